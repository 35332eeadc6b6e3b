import PyProof.Rows.All
import Wide.All
import OpenK.AllK
import Wide.FinOn
import PySem.Sre
import PyProof.TableTree
import PyProof.FactsTree
import Lean
import PySem.Challenge.RW_ik0022_01
set_option Elab.async false
set_option rowWalk.seconds 0
set_option compiler.extract_closed false
section
open PySem PySem.W PySem.W.X PyProof.Rows
set_option maxRecDepth 100000
set_option maxHeartbeats 8000000
namespace Mine
open_top hd for PySem.Challenge.rw_ik0022_01
end Mine
end
theorem Mine.topOffHead0 : True := by
  w_top off
  trivial

section
open PySem
namespace Mine
open PySem.StrLaws PySem.Builtin.Str

/-- a text from its signs -/
noncomputable def tx (l : List Nat) : PySem.Str := ⟨l.toArray⟩
@[simp] theorem tx_length (l : List Nat) : (tx l).length = l.length := by simp [tx, PySem.Str.length]
@[simp] theorem tx_cps (l : List Nat) : (tx l).cps.toList = l := by simp [tx]
theorem tx_of (x : PySem.Str) : tx x.cps.toList = x := rfl
theorem tx_inj {a b : List Nat} (h : tx a = tx b) : a = b := by
  have := congrArg (fun x : PySem.Str => x.cps.toList) h
  simpa using this
theorem tx_append (a b : List Nat) : tx a ++ tx b = tx (a ++ b) := by
  apply PySem.Str.ext'
  show a.toArray ++ b.toArray = (a ++ b).toArray
  simp

/-- replace, sign by sign from the left; k signs are still to be passed over -/
noncomputable def repl (y z : List Nat) : Nat → List Nat → List Nat
  | _, [] => []
  | k + 1, _ :: r => repl y z k r
  | 0, c :: r => if y.isPrefixOf (c :: r) then z ++ repl y z (y.length - 1) r else c :: repl y z 0 r

theorem repl_skip (y z : List Nat) : ∀ (k : Nat) (l : List Nat), repl y z k l = repl y z 0 (l.drop k)
  | 0, _ => rfl
  | k + 1, [] => by simp [repl]
  | k + 1, _ :: r => by rw [repl, repl_skip y z k r, List.drop_succ_cons]

theorem repl_hit {y z l : List Nat} (hy : y ≠ []) (h : y.isPrefixOf l = true) : repl y z 0 l = z ++ repl y z 0 (l.drop y.length) := by
  cases l with
  | nil => cases y with
    | nil => exact absurd rfl hy
    | cons a b => simp [List.isPrefixOf] at h
  | cons c r =>
    rw [repl, if_pos h, repl_skip]
    congr 1
    cases y with
    | nil => exact absurd rfl hy
    | cons a b => simp
theorem repl_miss {y z : List Nat} {c : Nat} {r : List Nat} (h : y.isPrefixOf (c :: r) = false) : repl y z 0 (c :: r) = c :: repl y z 0 r := by
  rw [repl, if_neg (by rw [h]; exact Bool.false_ne_true)]

theorem at_iff (l y : List Nat) (i : Nat) : At (tx l) (tx y) (tx l).length i ↔ y.isPrefixOf (l.drop i) = true ∧ (y = [] → i ≤ l.length) := by
  unfold At
  rw [StrLaws.subAt_eq]
  simp only [tx_length, tx_cps, beq_iff_eq]
  rw [List.isPrefixOf_iff_prefix]
  constructor
  · rintro ⟨h1, h2⟩
    refine ⟨?_, fun _ => by omega⟩
    rw [← h2]
    exact List.take_prefix _ _
  · rintro ⟨h1, h2⟩
    obtain ⟨t, ht⟩ := h1
    have hl : (l.drop i).length = y.length + t.length := by rw [← ht, List.length_append]
    rw [List.length_drop] at hl
    refine ⟨?_, ?_⟩
    · by_cases hy : y = []
      · have := h2 hy
        subst hy; simpa using this
      · have : 0 < y.length := List.length_pos_iff.mpr hy
        omega
    · rw [← ht]; simp

/-- no hit between a and c: the signs between stand as they are -/
theorem repl_run (y z l : List Nat) : ∀ (n a : Nat), a + n ≤ l.length → (∀ k, a ≤ k → k < a + n → y.isPrefixOf (l.drop k) = false) →
    repl y z 0 (l.drop a) = (l.drop a).take n ++ repl y z 0 (l.drop (a + n))
  | 0, a, _, _ => by simp
  | n + 1, a, hn, h => by
    have ha : a < l.length := by omega
    have h0 := h a (Nat.le_refl _) (by omega)
    have e : l.drop a = l[a] :: l.drop (a + 1) := List.drop_eq_getElem_cons ha
    rw [e] at h0 ⊢
    rw [repl_miss h0, repl_run y z l n (a + 1) (by omega) (fun k h1 h2 => h k (by omega) (by omega))]
    rw [List.take_succ_cons, List.cons_append, show a + 1 + n = a + (n + 1) by omega]

theorem join_parts (y z l : List Nat) (hy : y ≠ []) : ∀ (cuts : List Nat) (a f : Nat), a ≤ l.length → ChainG (tx l) (tx y) (tx l).length a cuts f → (∀ k, f ≤ k → ¬ At (tx l) (tx y) (tx l).length k) →
    (PySem.Str.join (tx z) (partsFrom (tx l) (tx y).length a cuts)).cps.toList = repl y z 0 (l.drop a)
  | [], a, f, ha, hc, hf => by
    have e : f = a := hc
    subst e
    show (strSub (tx l) f (tx l).length).cps.toList = _
    rw [StrLaws.strSub_toList, tx_cps, tx_length]
    have := repl_run y z l (l.length - f) f (by omega) (fun k h1 h2 => by
      cases hp : y.isPrefixOf (l.drop k) with
      | false => rfl
      | true => exact absurd ((at_iff l y k).mpr ⟨hp, fun e => absurd e hy⟩) (hf k h1))
    rw [this]
    have e2 : f + (l.length - f) = l.length := by omega
    rw [e2, List.drop_length]
    simp [repl]
  | c :: r, a, f, ha, hc, hf => by
    obtain ⟨h1, h2, h3, h4⟩ := hc
    obtain ⟨hp, _⟩ := (at_iff l y c).mp h2
    have hcl : c + y.length ≤ l.length := by have := h2.1; simpa using this
    have ih := join_parts y z l hy r (c + (tx y).length) f (by rw [tx_length]; exact hcl) h4 hf
    obtain ⟨p, q, hpq⟩ := partsFrom_ne (tx l) (tx y).length (c + (tx y).length) r
    have e : (PySem.Str.join (tx z) (partsFrom (tx l) (tx y).length a (c :: r))) = strSub (tx l) a c ++ tx z ++ PySem.Str.join (tx z) (partsFrom (tx l) (tx y).length (c + (tx y).length) r) := by
      show PySem.Str.join (tx z) (strSub (tx l) a c :: partsFrom (tx l) (tx y).length (c + (tx y).length) r) = _
      rw [hpq]; rfl
    rw [e, PySem.Str.cps_append, PySem.Str.cps_append, Array.toList_append, Array.toList_append, ih, StrLaws.strSub_toList, tx_cps, tx_cps, tx_length]
    have hrun := repl_run y z l (c - a) a (by omega) (fun k k1 k2 => by
      cases hq : y.isPrefixOf (l.drop k) with
      | false => rfl
      | true => exact absurd ((at_iff l y k).mpr ⟨hq, fun e => absurd e hy⟩) (h3 k k1 (by omega)))
    rw [hrun]
    have e3 : a + (c - a) = c := by omega
    rw [e3, repl_hit hy hp, List.drop_drop, List.append_assoc]

theorem txt_replace (l y z : List Nat) (hy : y ≠ []) : Txt.replace (tx l) (tx y) (tx z) = tx (repl y z 0 l) := by
  have hy1 : 1 ≤ (tx y).length := by rw [tx_length]; exact List.length_pos_iff.mpr hy
  obtain ⟨f, hc, hf⟩ := occ_tight (tx l) (tx y) hy1
  have key := join_parts y z l hy _ 0 f (Nat.zero_le _) hc hf
  rw [List.drop_zero] at key
  have hne : ((tx y).length == 0) = false := by
    rw [beq_eq_false_iff_ne]; omega
  unfold Txt.replace
  rw [hne, Bool.false_and, Bool.or_false]
  cases he : (occurrences (tx l) (tx y) 0 (tx l).length ((tx l).length + 1)).isEmpty
  · rw [if_neg Bool.false_ne_true, glued_eq_join, partsBetween_eq]
    apply PySem.Str.ext'
    rw [← Array.toList_inj, key, tx_cps]
  · rw [if_pos rfl]
    have e : occurrences (tx l) (tx y) 0 (tx l).length ((tx l).length + 1) = [] := List.isEmpty_iff.mp he
    rw [e] at key
    have : (strSub (tx l) 0 (tx l).length).cps.toList = repl y z 0 l := key
    rw [StrLaws.strSub_toList, tx_cps, tx_length] at this
    simp at this
    rw [← this]

/-- one sign replaced -/
noncomputable def one (k : Nat) (z : List Nat) (c : Nat) : List Nat := if c = k then z else [c]
theorem repl_one (k : Nat) (z : List Nat) : ∀ l, repl [k] z 0 l = l.flatMap (one k z)
  | [] => rfl
  | c :: r => by
    rw [List.flatMap_cons, ← repl_one k z r]
    unfold one
    by_cases h : c = k
    · subst h
      rw [if_pos rfl, repl_hit (by simp) (by simp [List.isPrefixOf])]
      simp
    · rw [if_neg h, repl_miss (by simp [List.isPrefixOf]; exact fun e => h e.symm)]
      rfl
theorem repl_len (y z : List Nat) (n : Nat) (hz : z.length ≤ n * y.length) (hn : 1 ≤ n) : ∀ (m : Nat) (l : List Nat), l.length ≤ m → (repl y z 0 l).length ≤ n * l.length
  | _, [], _ => by simp [repl]
  | 0, c :: r, h => by simp at h
  | m + 1, c :: r, h => by
    by_cases hy : y = []
    · subst hy
      have : z = [] := by simpa using hz
      subst this
      rw [repl, if_pos (by simp [List.isPrefixOf])]
      have := repl_len [] [] n hz hn m r (by simpa using h)
      simp only [List.nil_append, List.length_nil, Nat.zero_sub, List.length_cons]
      rw [Nat.mul_add]; omega
    · cases hp : y.isPrefixOf (c :: r) with
      | true =>
        rw [repl_hit hy hp, List.length_append]
        have hy1 : 1 ≤ y.length := List.length_pos_iff.mpr hy
        have hle : y.length ≤ (c :: r).length := by
          obtain ⟨t, ht⟩ := List.isPrefixOf_iff_prefix.mp hp
          rw [← ht, List.length_append]; omega
        have ih := repl_len y z n hz hn m ((c :: r).drop y.length) (by rw [List.length_drop]; simp at h ⊢; omega)
        rw [List.length_drop] at ih
        have e : n * (c :: r).length = n * y.length + n * ((c :: r).length - y.length) := by rw [← Nat.mul_add]; congr 1; omega
        omega
      | false =>
        rw [repl_miss hp]
        have ih := repl_len y z n hz hn m r (by simpa using h)
        simp only [List.length_cons, Nat.mul_add]; omega
theorem repl_le {y z l : List Nat} {n : Nat} (h : l.length ≤ n) (hz : z.length ≤ 6) (hy : y ≠ []) : (repl y z 0 l).length ≤ 6 * n := by
  have h1 : 1 ≤ y.length := List.length_pos_iff.mpr hy
  have := repl_len y z 6 (by omega) (by decide) l.length l (Nat.le_refl _)
  omega

/-- signs replaced by a table -/
noncomputable def esub (ps : List (Nat × List Nat)) (c : Nat) : List Nat := (ps.lookup c).getD [c]
theorem esub_nil (l : List Nat) : l.flatMap (esub []) = l := by
  induction l with
  | nil => rfl
  | cons c r ih => rw [List.flatMap_cons, ih]; rfl
theorem flatMap_free {k : Nat} {z : List Nat} : ∀ {l : List Nat}, k ∉ l → l.flatMap (one k z) = l
  | [], _ => rfl
  | c :: r, h => by
    rw [List.flatMap_cons, flatMap_free (fun q => h (List.mem_cons_of_mem _ q))]
    unfold one
    rw [if_neg (fun e => h (by rw [e]; exact List.mem_cons_self))]
    rfl
theorem esub_step {ps : List (Nat × List Nat)} {k : Nat} {z : List Nat} (h : (ps.all fun p => p.1 != k && !p.2.contains k) = true) (c : Nat) : (esub ps c).flatMap (one k z) = esub (ps ++ [(k, z)]) c := by
  induction ps with
  | nil =>
    show [c].flatMap (one k z) = _
    unfold esub one
    by_cases e : c = k
    · subst e; simp
    · have : (c == k) = false := by simpa using e
      simp [e, List.lookup, this]
  | cons p r ih =>
    rw [List.all_cons, Bool.and_eq_true] at h
    have ih := ih h.2
    have h1 := h.1
    rw [Bool.and_eq_true] at h1
    by_cases e : c = p.1
    · subst e
      have e1 : esub (p :: r) p.1 = p.2 := by simp [esub, List.lookup]
      have e2 : esub (p :: r ++ [(k, z)]) p.1 = p.2 := by simp [esub, List.lookup]
      rw [e1, e2]
      have hk : k ∉ p.2 := by have := h1.2; simpa using this
      exact flatMap_free hk
    · have he : (c == p.1) = false := by simpa using e
      have e1 : esub (p :: r) c = esub r c := by simp [esub, List.lookup, he]
      have e2 : esub (p :: r ++ [(k, z)]) c = esub (r ++ [(k, z)]) c := by simp [esub, List.lookup, he]
      rw [e1, e2]; exact ih
theorem repl_esub {ps : List (Nat × List Nat)} {k : Nat} {z l : List Nat} (h : (ps.all fun p => p.1 != k && !p.2.contains k) = true) : repl [k] z 0 (l.flatMap (esub ps)) = l.flatMap (esub (ps ++ [(k, z)])) := by
  rw [repl_one, List.flatMap_assoc]
  congr 1
  funext c
  exact esub_step h c
theorem repl_esub0 {k : Nat} {z l : List Nat} : repl [k] z 0 l = l.flatMap (esub [(k, z)]) := by
  have := repl_esub (ps := []) (k := k) (z := z) (l := l) rfl
  rwa [esub_nil] at this
theorem esub_len {ps : List (Nat × List Nat)} (h : (ps.all fun p => decide (p.2.length ≤ 6)) = true) (c : Nat) : (esub ps c).length ≤ 6 := by
  induction ps with
  | nil => simp [esub]
  | cons p r ih =>
    rw [List.all_cons, Bool.and_eq_true] at h
    by_cases e : c = p.1
    · subst e
      have e1 : esub (p :: r) p.1 = p.2 := by simp [esub, List.lookup]
      rw [e1]; simpa using h.1
    · have he : (c == p.1) = false := by simpa using e
      have e1 : esub (p :: r) c = esub r c := by simp [esub, List.lookup, he]
      rw [e1]; exact ih h.2
theorem flatMap_len {f : Nat → List Nat} {n : Nat} (h : ∀ c, (f c).length ≤ n) : ∀ l : List Nat, (l.flatMap f).length ≤ n * l.length
  | [] => by simp
  | c :: r => by
    rw [List.flatMap_cons, List.length_append, List.length_cons]
    have := flatMap_len h r
    have := h c
    rw [Nat.mul_add]; omega
/-- what escape writes -/
noncomputable abbrev EP : List (Nat × List Nat) := [(38, [38, 97, 109, 112, 59]), (62, [38, 103, 116, 59]), (60, [38, 108, 116, 59])]
/-- what quoteattr's own table adds -/
noncomputable abbrev QP : List (Nat × List Nat) := EP ++ [(10, [38, 35, 49, 48, 59]), (13, [38, 35, 49, 51, 59]), (9, [38, 35, 57, 59])]
theorem esc_is (l : List Nat) : repl [60] [38, 108, 116, 59] 0 (repl [62] [38, 103, 116, 59] 0 (repl [38] [38, 97, 109, 112, 59] 0 l)) = l.flatMap (esub EP) := by
  rw [repl_esub0 (k := 38), repl_esub (by decide), repl_esub (by decide)]; rfl
theorem quo_is (l : List Nat) : repl [9] [38, 35, 57, 59] 0 (repl [13] [38, 35, 49, 51, 59] 0 (repl [10] [38, 35, 49, 48, 59] 0 (l.flatMap (esub EP)))) = l.flatMap (esub QP) := by
  rw [repl_esub (by decide), repl_esub (by decide), repl_esub (by decide)]; rfl
end Mine
end
theorem Mine.topOffPl : True := by
  w_top off
  trivial

section
open PySem PySem.W PySem.W.X PyProof.Rows PySem.Calls
set_option maxRecDepth 100000
set_option maxHeartbeats 8000000
namespace Mine
noncomputable abbrev looseL : List PySem.Str := looseW hd.view_39 [Str.ofString "_twin_re_1", Str.ofString "_ver_stages", Str.ofString "escape", Str.ofString "unescape", Str.ofString "quoteattr"]

/-- the tokens forgotten, but that they are not 0 -/
theorem gen_toks {α : Type} {M : Model} {A : Around} {t : Sem α} {Q : α → Shared → Prop} {E : Value → Shared → Prop} {h : Heap} {g : Array GenState} {d : Drawn} {k : Nat} {o : OsState}
    (H : ∀ tk : Nat, 0 < tk → wpAny M A t Q E ⟨h, g, d, tk, o⟩) : wpAny M A t Q E ⟨h, g, d, k + 1, o⟩ := H (k + 1) (Nat.succ_pos k)

theorem gen_toks0 {α : Type} {M : Model} {A : Around} {t : Sem α} {Q : α → Shared → Prop} {E : Value → Shared → Prop} {h : Heap} {g : Array GenState} {d : Drawn} {k : Nat} {o : OsState} (hk : 0 < k)
    (H : ∀ tk : Nat, 0 < tk → wpAny M A t Q E ⟨h, g, d, tk, o⟩) : wpAny M A t Q E ⟨h, g, d, k, o⟩ := H k hk

/-- the news grow less -/
theorem news_sub {h₀ h : Heap} {L : Addr} {news news' : List (Addr × Obj)} (N : News h₀ L h news') (hs : ∀ p ∈ news, p ∈ news') : News h₀ L h news := fun p hp => N p (hs p hp)

/-- what a call of a def of the text tells: R says what comes back and what new objects stand behind it -/
noncomputable def Tells (w : World) (mean : ExcName → Option Value) (mg mb : Str → Option Value) (f : Addr) (lv : Nat) (news : List (Addr × Obj)) (vs : List Value) (R : Value → List (Addr × Obj) → Prop) : Prop :=
  ∀ (dp un : Nat) (gd : Option (List Code)) (cn : Str) (cs : Scope) (a : Addr) (ccd : Value) (cl : List (Str × Addr)) (outer : List Env) (A₀ : Around) (base h₀ : Heap) (L : Addr) (m : Str → Option Value) (s : Shared) (Q E : Value → Shared → Prop),
    Below A₀ base outer h₀ → Fr h₀ L s.heap m → (hd.heap_39 w.params).In h₀ → News h₀ L s.heap news → Top hd.view_39 looseL mean mg mb h₀ → cs.kind = .function → dp < 300 + lv → un < 10 * lv →
    (∀ r own h' tk', R r own → 0 < tk' → Fr h₀ L h' m → News h₀ L h' (own ++ news) → Q r { s with heap := h', toks := tk' }) →
    wpAny (model PySem.Challenge.rw_ik0022_01.row.prog w) (ktrTop dp un gd cn cs L a ccd cl outer) (call (.ref f) vs) Q E s
theorem Tells.use {w : World} {mean : ExcName → Option Value} {mg mb : Str → Option Value} {f : Addr} {lv : Nat} {news : List (Addr × Obj)} {vs : List Value} {R : Value → List (Addr × Obj) → Prop} (C : Tells w mean mg mb f lv news vs R)
    {dp un : Nat} {gd : Option (List Code)} {cn : Str} {cs : Scope} {a : Addr} {ccd : Value} {cl : List (Str × Addr)} {outer : List Env} {A₀ : Around} {base h₀ : Heap} {L : Addr} {m : Str → Option Value} {s : Shared} {Q E : Value → Shared → Prop}
    (B : Below A₀ base outer h₀) (F : Fr h₀ L s.heap m) (X : (hd.heap_39 w.params).In h₀) (N : News h₀ L s.heap news) (T : Top hd.view_39 looseL mean mg mb h₀) (hk : cs.kind = .function) (hdp : dp < 300 + lv) (hun : un < 10 * lv)
    (h : ∀ r own h' tk', R r own → 0 < tk' → Fr h₀ L h' m → News h₀ L h' (own ++ news) → Q r { s with heap := h', toks := tk' }) :
    wpAny (model PySem.Challenge.rw_ik0022_01.row.prog w) (ktrTop dp un gd cn cs L a ccd cl outer) (call (.ref f) vs) Q E s :=
  C dp un gd cn cs a ccd cl outer A₀ base h₀ L m s Q E B F X N T hk hdp hun h

theorem repl_call {prog : Program} {w : World} {A : Around} {E : Value → Shared → Prop} {s : Shared} {l y z : List Nat} {ys zs : PySem.Str} {t u v : Tok} {Q : Value → Shared → Prop}
    (ey : ys = tx y) (ez : zs = tx z) (hy : y ≠ []) (hu : u ≠ 0) (hv : v ≠ 0) (huv : u ≠ v) (hyz : (y == z) = false) (hl : l.length ≤ 400000) (hz : z.length ≤ 6)
    (hq : ∀ t' k, s.toks ≤ k → Q (.str (tx (repl y z 0 l)) t') { s with toks := k }) : wpAny (model prog w) A (call (.builtin "str.replace") [.str (tx l) t, .str ys u, .str zs v]) Q E s := by
  subst ey ez
  have hb : (tx l).length + ((tx l).length + 1) * (tx z).length ≤ 16777216 := by
    simp only [tx_length]
    have h1 : (l.length + 1) * z.length ≤ (l.length + 1) * 6 := Nat.mul_le_mul_left _ hz
    omega
  have hyz' : (tx y == tx z) = false := by
    rw [beq_eq_false_iff_ne] at hyz ⊢
    exact fun e => hyz (tx_inj e)
  have e : (2 : Nat) ^ 24 = 16777216 := by decide
  have hl : Builtin.Str.tooLong ((tx l).length + (Builtin.Str.occurrences (tx l) (tx y) 0 (tx l).length ((tx l).length + 1)).length * (tx z).length) = false := by
    have h1 := StrLaws.occ_length_le (tx l) (tx y) 0 (tx l).length ((tx l).length + 1)
    have h2 : (Builtin.Str.occurrences (tx l) (tx y) 0 (tx l).length ((tx l).length + 1)).length * (tx z).length ≤ ((tx l).length + 1) * (tx z).length := Nat.mul_le_mul_right _ h1
    unfold Builtin.Str.tooLong sizeLine
    exact decide_eq_false (by omega)
  refine call_gives F.slot_str_replace (typeIs_str _ _ _) F.entry_str_replace (F.args_str_replace_3 _ _ _)
    (gives_str_replace (tx l) (tx y) (tx z) t u v fun _ => ⟨by simp [hu, hv], by simp [huv], hyz', hl⟩) ?_
  have hq' := hq
  rw [← txt_replace l y z hy] at hq'
  unfold Txt.replace at hq'
  cases hc : ((Builtin.Str.occurrences (tx l) (tx y) 0 (tx l).length ((tx l).length + 1)).isEmpty || ((tx y).length == 0 && (tx z).length == 0))
  · rw [hc] at hq'
    simp only [Bool.false_eq_true, if_false] at hq' ⊢
    exact ⟨fits_replaced (tx y) hb, hq' _ _ (Nat.le_succ _)⟩
  · rw [hc] at hq'
    simp only [if_true] at hq' ⊢
    exact hq' t s.toks (Nat.le_refl _)

theorem repl_callB {prog : Program} {w : World} {A : Around} {E : Value → Shared → Prop} {s : Shared} {l y z : List Nat} {ys zs : PySem.Str} {t u v : Tok} {Q : Value → Shared → Prop}
    (h : ys = tx y ∧ zs = tx z ∧ y ≠ [] ∧ u ≠ 0 ∧ v ≠ 0 ∧ u ≠ v ∧ (y == z) = false ∧ l.length ≤ 400000 ∧ z.length ≤ 6)
    (hq : ∀ t' k, s.toks ≤ k → Q (.str (tx (repl y z 0 l)) t') { s with toks := k }) : wpAny (model prog w) A (call (.builtin "str.replace") [.str (tx l) t, .str ys u, .str zs v]) Q E s :=
  repl_call h.1 h.2.1 h.2.2.1 h.2.2.2.1 h.2.2.2.2.1 h.2.2.2.2.2.1 h.2.2.2.2.2.2.1 h.2.2.2.2.2.2.2.1 h.2.2.2.2.2.2.2.2 hq
/-- a written dict of the text that is empty -/
theorem truthy_K0 {prog : Program} {w : World} {A : Around} {E : Value → Shared → Prop} {s : Shared} {K : Frag} {h₀ : Heap} {L d : Addr} {m : Str → Option Value} {Q : Bool → Shared → Prop}
    (F : Fr h₀ L s.heap m) (X : K.In h₀) (e : K.lookup d = some (dictOf [] 0)) (hd : (d == sysModules) = false) (h : Q false { s with toks := s.toks + 1 + 1 }) : wpAny (model prog w) A (truthy (.ref d)) Q E s := by
  have ho : s.heap.get? d = some (dictOf [] 0) := F.keep _ _ (X _ _ e)
  have hi : (dictOf (kwEs w.params 0 []) 0).IsDictOf (strKind prog w) [] := kp_isDict 0 0 List.nodup_nil
  exact wpAny_truthy_dict hd (Heap.dictOf_iff.mpr ⟨_, ho, hi⟩) (by decide) h

/-- the end of a loop's turn: the frame's names stand by J, what is needed is there -/
noncomputable def TurnEnd (h₀ : Heap) (L : Addr) (s : Shared) (need : List (Addr × Obj)) (J : (PySem.Str → Option Value) → Prop) (f : Flow) (s₂ : Shared) : Prop :=
  f = .next ∧ ∃ h' tk' m₂, s₂ = { s with heap := h', toks := tk' } ∧ 0 < tk' ∧ Fr h₀ L h' m₂ ∧ News h₀ L h' need ∧ J m₂
theorem TurnEnd.intro {h₀ : Heap} {L : Addr} {s : Shared} {need news' : List (Addr × Obj)} {J : (PySem.Str → Option Value) → Prop} {h' : Heap} {tk' : Nat} {m₂ : PySem.Str → Option Value}
    (F : Fr h₀ L h' m₂) (N : News h₀ L h' news') (hs : ∀ p ∈ need, p ∈ news') (ht : 0 < tk') (hJ : J m₂) : TurnEnd h₀ L s need J .next { s with heap := h', toks := tk' } :=
  ⟨rfl, h', tk', m₂, rfl, ht, F, news_sub N hs, hJ⟩

theorem in_sign {prog : Program} {w : World} {A : Around} {E : Value → Shared → Prop} {s : Shared} {l : List Nat} {c : Nat} {ys : PySem.Str} {t u : Tok} {Q : Value → Shared → Prop} (ey : ys = tx [c]) (h : Q (.bool (decide (c ∈ l))) s) :
    wpAny (model prog w) A (compareOp .In (.str ys u) (.str (tx l) t)) Q E s := by
  subst ey
  refine in_str ?_
  have e := StrLaws.found_one (tx l) c
  rw [tx_cps] at e
  have e' : (!(Builtin.Str.occurrences (tx l) (tx [c]) 0 (tx l).length 1).isEmpty) = decide (c ∈ l) := e
  rw [e']; exact h

theorem notin_sign {prog : Program} {w : World} {A : Around} {E : Value → Shared → Prop} {s : Shared} {l : List Nat} {c : Nat} {ys : PySem.Str} {t u : Tok} {Q : Value → Shared → Prop} (ey : ys = tx [c]) (h : Q (.bool (!decide (c ∈ l))) s) :
    wpAny (model prog w) A (compareOp .NotIn (.str ys u) (.str (tx l) t)) Q E s := by
  subst ey
  refine notIn_str ?_
  have e := StrLaws.found_one (tx l) c
  rw [tx_cps] at e
  have e' : (!(Builtin.Str.occurrences (tx l) (tx [c]) 0 (tx l).length 1).isEmpty) = decide (c ∈ l) := e
  rw [e']; exact h

theorem add_tx {prog : Program} {w : World} {A : Around} {E : Value → Shared → Prop} {s : Shared} {a b : List Nat} {t u : Tok} {Q : Value → Shared → Prop} (ha : a.length ≤ 4000000) (hb : b.length ≤ 4000000) (h : ∀ t' k, Q (.str (tx (a ++ b)) t') { s with toks := k }) :
    wpAny (model prog w) A (binaryOp .Add (.str (tx a) t) (.str (tx b) u)) Q E s := by
  refine P.add_str ?_
  by_cases h1 : a = []
  · subst h1
    exact h u s.toks
  · by_cases h2 : b = []
    · subst h2
      have e1 : ((tx a).length == 0) = false := by rw [tx_length, beq_eq_false_iff_ne]; exact fun e => h1 (List.length_eq_zero_iff.mp e)
      rw [e1]
      have := h t s.toks
      rw [List.append_nil] at this
      exact this
    · have e1 : ((tx a).length == 0) = false := by rw [tx_length, beq_eq_false_iff_ne]; exact fun e => h1 (List.length_eq_zero_iff.mp e)
      have e2 : ((tx b).length == 0) = false := by rw [tx_length, beq_eq_false_iff_ne]; exact fun e => h2 (List.length_eq_zero_iff.mp e)
      rw [e1, e2]
      refine ⟨?_, ?_⟩
      · show (tx a ++ tx b).length ≤ sizeLine
        rw [tx_append, tx_length, List.length_append, sizeLine_eq]; omega
      · rw [tx_append]; exact h _ _

/-- the walk stops here -/
noncomputable def Stop (P : Prop) : Prop := P
theorem stop_here {P : Prop} (h : Stop P) : P := h

theorem fr_named {h₀ h : Heap} {L : Addr} {m : PySem.Str → Option Value} {f : (PySem.Str → Option Value) → PySem.Str → Option Value} {x : PySem.Str} {v : Value} (hx : m x = some v) (F : Fr h₀ L h (f m)) : Fr h₀ L h (f fun y => if y = x then some v else m y) := by
  have e : (fun y => if y = x then some v else m y) = m := by
    funext y
    by_cases hy : y = x
    · rw [if_pos hy, hy, hx]
    · rw [if_neg hy]
  rw [e]; exact F

/-- a text comes back -/
noncomputable def StrR (x : Str) (r : Value) (own : List (Addr × Obj)) : Prop := own = [] ∧ ∃ t, r = .str x t
theorem strR_end {x y : Str} {Q : Value → Shared → Prop} {s : Shared} {h₀ h' : Heap} {L : Addr} {m : Str → Option Value} {news news' : List (Addr × Obj)} {t : Tok} {tk' : Nat}
    (hret : ∀ r own h' tk', StrR x r own → 0 < tk' → Fr h₀ L h' m → News h₀ L h' (own ++ news) → Q r { s with heap := h', toks := tk' })
    (e : y = x) (F : Fr h₀ L h' m) (N : News h₀ L h' news') (hs : ∀ p ∈ news, p ∈ news') (ht : 0 < tk') : Q (.str y t) { s with heap := h', toks := tk' } := by
  subst e
  exact hret _ [] h' tk' ⟨rfl, t, rfl⟩ ht F (news_sub N hs)
theorem Tells.useStr {w : World} {mean : ExcName → Option Value} {mg mb : Str → Option Value} {f : Addr} {lv : Nat} {news : List (Addr × Obj)} {vs : List Value} {x : PySem.Str} (C : Tells w mean mg mb f lv news vs (StrR x))
    {dp un : Nat} {gd : Option (List Code)} {cn : Str} {cs : Scope} {a : Addr} {ccd : Value} {cl : List (Str × Addr)} {outer : List Env} {A₀ : Around} {base h₀ : Heap} {L : Addr} {m : Str → Option Value} {s : Shared} {Q E : Value → Shared → Prop}
    (B : Below A₀ base outer h₀) (F : Fr h₀ L s.heap m) (X : (hd.heap_39 w.params).In h₀) (N : News h₀ L s.heap news) (T : Top hd.view_39 looseL mean mg mb h₀) (hk : cs.kind = .function) (hdp : dp < 300 + lv) (hun : un < 10 * lv)
    (h : ∀ t h' tk', 0 < tk' → Fr h₀ L h' m → News h₀ L h' news → Q (.str x t) { s with heap := h', toks := tk' }) :
    wpAny (model PySem.Challenge.rw_ik0022_01.row.prog w) (ktrTop dp un gd cn cs L a ccd cl outer) (call (.ref f) vs) Q E s :=
  C.use B F X N T hk hdp hun fun r own h' tk' hR ht F' N' => by
    obtain ⟨rfl, t, rfl⟩ := hR
    exact h t h' tk' ht F' N'
/-- as Tells; nothing is said of the tokens -/
noncomputable def TellsW (w : World) (mean : ExcName → Option Value) (mg mb : Str → Option Value) (f : Addr) (lv : Nat) (news : List (Addr × Obj)) (vs : List Value) (R : Value → List (Addr × Obj) → Prop) : Prop :=
  ∀ (dp un : Nat) (gd : Option (List Code)) (cn : Str) (cs : Scope) (a : Addr) (ccd : Value) (cl : List (Str × Addr)) (outer : List Env) (A₀ : Around) (base h₀ : Heap) (L : Addr) (m : Str → Option Value) (s : Shared) (Q E : Value → Shared → Prop),
    Below A₀ base outer h₀ → Fr h₀ L s.heap m → (hd.heap_39 w.params).In h₀ → News h₀ L s.heap news → Top hd.view_39 looseL mean mg mb h₀ → cs.kind = .function → dp < 300 + lv → un < 10 * lv →
    (∀ r own h' tk', R r own → Fr h₀ L h' m → News h₀ L h' (own ++ news) → Q r { s with heap := h', toks := tk' }) →
    wpAny (model PySem.Challenge.rw_ik0022_01.row.prog w) (ktrTop dp un gd cn cs L a ccd cl outer) (call (.ref f) vs) Q E s
theorem Tells.weak {w : World} {mean : ExcName → Option Value} {mg mb : Str → Option Value} {f : Addr} {lv : Nat} {news : List (Addr × Obj)} {vs : List Value} {R : Value → List (Addr × Obj) → Prop} (C : Tells w mean mg mb f lv news vs R) : TellsW w mean mg mb f lv news vs R :=
  fun dp un gd cn cs a ccd cl outer A₀ base h₀ L m s Q E B F X N T hk hdp hun h => C dp un gd cn cs a ccd cl outer A₀ base h₀ L m s Q E B F X N T hk hdp hun fun r own h' tk' hR _ F' N' => h r own h' tk' hR F' N'
theorem TellsW.useStr {w : World} {mean : ExcName → Option Value} {mg mb : Str → Option Value} {f : Addr} {lv : Nat} {news : List (Addr × Obj)} {vs : List Value} {x : PySem.Str} (C : TellsW w mean mg mb f lv news vs (StrR x))
    {dp un : Nat} {gd : Option (List Code)} {cn : Str} {cs : Scope} {a : Addr} {ccd : Value} {cl : List (Str × Addr)} {outer : List Env} {A₀ : Around} {base h₀ : Heap} {L : Addr} {m : Str → Option Value} {s : Shared} {Q E : Value → Shared → Prop}
    (B : Below A₀ base outer h₀) (F : Fr h₀ L s.heap m) (X : (hd.heap_39 w.params).In h₀) (N : News h₀ L s.heap news) (T : Top hd.view_39 looseL mean mg mb h₀) (hk : cs.kind = .function) (hdp : dp < 300 + lv) (hun : un < 10 * lv)
    (h : ∀ t h' tk', Fr h₀ L h' m → News h₀ L h' news → Q (.str x t) { s with heap := h', toks := tk' }) :
    wpAny (model PySem.Challenge.rw_ik0022_01.row.prog w) (ktrTop dp un gd cn cs L a ccd cl outer) (call (.ref f) vs) Q E s :=
  C dp un gd cn cs a ccd cl outer A₀ base h₀ L m s Q E B F X N T hk hdp hun fun r own h' tk' hR F' N' => by
    obtain ⟨rfl, t, rfl⟩ := hR
    exact h t h' tk' F' N'
theorem strW_end {x y : Str} {Q : Value → Shared → Prop} {s : Shared} {h₀ h' : Heap} {L : Addr} {m : Str → Option Value} {news news' : List (Addr × Obj)} {t : Tok} {tk' : Nat}
    (hret : ∀ r own h' tk', StrR x r own → Fr h₀ L h' m → News h₀ L h' (own ++ news) → Q r { s with heap := h', toks := tk' })
    (e : y = x) (F : Fr h₀ L h' m) (N : News h₀ L h' news') (hs : ∀ p ∈ news, p ∈ news') : Q (.str y t) { s with heap := h', toks := tk' } := by
  subst e
  exact hret _ [] h' tk' ⟨rfl, t, rfl⟩ F (news_sub N hs)
end Mine
end
theorem Mine.topOffBase : True := by
  w_top off
  trivial

section
open PySem PySem.W PySem.W.X PyProof.Rows PySem.Calls
set_option maxRecDepth 100000
set_option maxHeartbeats 4000000
namespace Mine
section
variable {prog : Program} {w : World} {A : Around} {E : Value → Shared → Prop} {s : Shared}

/-- an entry under a text -/
noncomputable abbrev ent (w : World) (k : PySem.Str) (t : Tok) (v : Value) : DictEntry := ⟨hashStr w k, .str k t, v⟩
theorem ent_keys {es : List DictEntry} (h : ∀ e ∈ es, ∃ k t v, e = ent w k t v) : KeysOf (PySem.strKind prog w) es.toArray := by
  intro e he
  obtain ⟨k, t, v, rfl⟩ := h e (by simpa using he)
  exact ⟨k, PySem.strKind_is prog w k t, rfl⟩
theorem dictOf_push (es : List DictEntry) (n : Nat) (e : DictEntry) : Obj.mapDictKeys (·.push e) (dictOf es n) = dictOf (es ++ [e]) (n + 1) := by
  show ({ cls := .type "dict", data := .dict (es.toArray.push e) (n + 1) } : Obj) = _
  rw [List.push_toArray]

theorem put_exact {d : Addr} {es : List DictEntry} {n : Nat} {k : PySem.Str} {t : Tok} {v : Value} {Q : Unit → Shared → Prop} (ho : s.heap.get? d = some (dictOf es n)) (hk : ∀ e ∈ es, ∃ k t v, e = ent w k t v)
    (hf : (es.findIdx? fun e => Value.isStrOf k e.key) = none) (hz : es.length ≤ 1000)
    (hQ : ∀ h', h'.get? d = some (dictOf (es ++ [ent w k t v]) (n + 1)) → Heap.SameBut d s.heap h' → Q () { s with heap := h' }) :
    wpAny (model prog w) A (dictPut d (hashStr w k) (.str k t) v) Q E s := by
  unfold dictPut
  refine wpAny_bind (wpAny_dictFind_of (knd := PySem.strKind prog w) (k := k) (PySem.strKind_is prog w k t) ho rfl (ent_keys hk) ?_)
  have e : (es.toArray.findIdx? fun e => (PySem.strKind prog w).is k e.key) = none := by
    rw [List.findIdx?_toArray]; exact hf
  rw [e]
  refine wpAny_updateDictKeys (hz := by rw [List.size_toArray, sizeLine_eq]; omega) ho rfl (hQ _ ?_ (Heap.SameBut.update ..))
  rw [Heap.get?_update_self _ ho rfl]
  exact congrArg some (dictOf_push es n _)

theorem set_exact {d : Addr} {es : List DictEntry} {n : Nat} {k : PySem.Str} {t : Tok} {v : Value} {Q : Unit → Shared → Prop} (ho : s.heap.get? d = some (dictOf es n)) (hk : ∀ e ∈ es, ∃ k t v, e = ent w k t v)
    (hf : (es.findIdx? fun e => Value.isStrOf k e.key) = none) (hz : es.length ≤ 1000)
    (hQ : ∀ h', h'.get? d = some (dictOf (es ++ [ent w k t v]) (n + 1)) → Heap.SameBut d s.heap h' → Q () { s with heap := h', toks := s.toks + 1 }) :
    wpAny (model prog w) A (dictSet d (.str k t) v) Q E s := by
  unfold dictSet
  refine wpAny_holding ?_
  refine wpAny_bind ((PySem.strKind prog w).pyHash (PySem.strKind_is prog w k t) ?_)
  unfold dictSetHashed
  refine wpAny_holding ?_
  refine wpAny_bind (wpAny_dictFind_of (s := { s with toks := s.toks + 1 }) (knd := PySem.strKind prog w) (k := k) (PySem.strKind_is prog w k t) ho rfl (ent_keys hk) ?_)
  have e : (es.toArray.findIdx? fun e => (PySem.strKind prog w).is k e.key) = none := by
    rw [List.findIdx?_toArray]; exact hf
  rw [e]
  refine wpAny_bind (wpAny_rule ?_)
  refine wpAny_updateDictKeys (s := { s with toks := s.toks + 1 }) (hz := by rw [List.size_toArray, sizeLine_eq]; omega) ho rfl (hQ _ ?_ (Heap.SameBut.update ..))
  rw [Heap.get?_update_self _ ho rfl]
  exact congrArg some (dictOf_push es n _)

theorem dictIs_type {d : Addr} {es : List DictEntry} {n : Nat} (ho : s.heap.get? d = some (dictOf es n)) : s.TypeIs (.ref d) "dict" := ⟨_, ho, rfl⟩

theorem merge_exact0 {d o : Addr} {n n' : Nat} {Q : Unit → Shared → Prop} (hoS : (o == sysModules) = false)
    (hd : s.heap.get? d = some (dictOf [] n)) (ho : s.heap.get? o = some (dictOf [] n')) (hQ : Q () s) :
    wpAny (model prog w) A (mergeMapping d (.ref o) false) Q E s := by
  unfold mergeMapping
  refine wpAny_bind (wpAny_isInstance (dictIs_type ho) isSubtype_dict_dict ?_)
  simp only [if_true]
  refine wpAny_bind (wpAny_specialOf (dictIs_type ho) F.slot_dict_iter.lookup ?_)
  rw [show ((some (Value.builtin "dict.__iter__") : Option Value) == some (Value.builtin "dict.__iter__")) = true by decide]
  refine wpAny_bind (wpAny_pure ?_)
  simp only [hoS, Bool.false_eq_true, if_false]
  refine wpAny_bind (wpAny_dictEntries hd rfl ?_)
  simp only [show (([] : List DictEntry).toArray).isEmpty = true from rfl, if_true]
  refine wpAny_bind (wpAny_dictEntries ho rfl ?_)
  rw [← Array.forIn_toList]
  refine wpAny_bind (wpAny_pure ?_)
  refine wpAny_bind (wpAny_dictEntries ho rfl ?_)
  refine wpAny_bind (wpAny_dictEpoch ho rfl ?_)
  exact wpAny_bind (wpAny_pure (wpAny_pure hQ))

theorem merge_exact {d o : Addr} {n n' : Nat} {k1 k2 k3 : PySem.Str} {t1 t2 t3 : Tok} {v1 v2 v3 : Value} {Q : Unit → Shared → Prop} (hdo : d ≠ o) (hoS : (o == sysModules) = false) (h12 : k1 ≠ k2) (h13 : k1 ≠ k3) (h23 : k2 ≠ k3)
    (hd : s.heap.get? d = some (dictOf [] n)) (ho : s.heap.get? o = some (dictOf [ent w k1 t1 v1, ent w k2 t2 v2, ent w k3 t3 v3] n'))
    (hQ : ∀ h', h'.get? d = some (dictOf [ent w k1 t1 v1, ent w k2 t2 v2, ent w k3 t3 v3] (n + 3)) → Heap.SameBut d s.heap h' → Q () { s with heap := h' }) :
    wpAny (model prog w) A (mergeMapping d (.ref o) false) Q E s := by
  have hod : o ≠ d := Ne.symm hdo
  have ne : ∀ {a b : PySem.Str} {t : Tok}, b ≠ a → Value.isStrOf a (.str b t) = false := fun {a b t} h => by
    cases hq : Value.isStrOf a (.str b t) with
    | false => rfl
    | true =>
      obtain ⟨u, hu⟩ := Value.isStrOf_shape hq
      injection hu with hx
      exact absurd hx h
  unfold mergeMapping
  refine wpAny_bind (wpAny_isInstance (dictIs_type ho) isSubtype_dict_dict ?_)
  simp only [if_true]
  refine wpAny_bind (wpAny_specialOf (dictIs_type ho) F.slot_dict_iter.lookup ?_)
  rw [show ((some (Value.builtin "dict.__iter__") : Option Value) == some (Value.builtin "dict.__iter__")) = true by decide]
  refine wpAny_bind (wpAny_pure ?_)
  simp only [hoS, Bool.false_eq_true, if_false]
  refine wpAny_bind (wpAny_dictEntries hd rfl ?_)
  simp only [show (([] : List DictEntry).toArray).isEmpty = true from rfl, if_true]
  refine wpAny_bind (wpAny_dictEntries ho rfl ?_)
  rw [← Array.forIn_toList]
  refine wpAny_bind (wpAny_pure ?_)
  refine wpAny_bind (wpAny_dictEntries ho rfl ?_)
  refine wpAny_bind (wpAny_dictEpoch ho rfl ?_)
  refine wpAny_bind ?_
  show wpAny _ _ (forIn [0, 1, 2] PUnit.unit _) _ _ _
  rw [List.forIn_cons]
  refine wpAny_bind (wpAny_bind (wpAny_dictEntries ho rfl ?_))
  show wpAny _ _ (holding [.str k1 t1, v1] (dictPut d (hashStr w k1) (.str k1 t1) v1) >>= _) _ _ _
  refine wpAny_bind (wpAny_holding (put_exact hd (by simp) rfl (by decide) fun h1 hd1 hs1 => ?_))
  have ho1 := (hs1.2 o hod).trans ho
  refine wpAny_bind (wpAny_dictEpoch ho1 rfl ?_)
  rw [if_neg (by simp)]
  refine wpAny_pure ?_
  dsimp only
  rw [List.forIn_cons]
  refine wpAny_bind (wpAny_bind (wpAny_dictEntries ho1 rfl ?_))
  show wpAny _ _ (holding [.str k2 t2, v2] (dictPut d (hashStr w k2) (.str k2 t2) v2) >>= _) _ _ _
  refine wpAny_bind (wpAny_holding (put_exact hd1 (by intro e he; simp at he; exact ⟨_, _, _, he⟩) (by simp [List.findIdx?_cons, ne h12]) (by simp) fun h2 hd2 hs2 => ?_))
  have ho2 := (hs2.2 o hod).trans ho1
  refine wpAny_bind (wpAny_dictEpoch ho2 rfl ?_)
  rw [if_neg (by simp)]
  refine wpAny_pure ?_
  dsimp only
  rw [List.forIn_cons]
  refine wpAny_bind (wpAny_bind (wpAny_dictEntries ho2 rfl ?_))
  show wpAny _ _ (holding [.str k3 t3, v3] (dictPut d (hashStr w k3) (.str k3 t3) v3) >>= _) _ _ _
  refine wpAny_bind (wpAny_holding (put_exact hd2 (by intro e he; simp at he; rcases he with rfl | rfl <;> exact ⟨_, _, _, rfl⟩) (by simp [List.findIdx?_cons, ne h13, ne h23]) (by simp) fun h3 hd3 hs3 => ?_))
  have ho3 := (hs3.2 o hod).trans ho2
  refine wpAny_bind (wpAny_dictEpoch ho3 rfl ?_)
  rw [if_neg (by simp)]
  refine wpAny_pure ?_
  dsimp only
  exact wpAny_pure (wpAny_pure (hQ h3 hd3 ((hs1.trans hs2).trans hs3)))

theorem sub_exact {env : Env} {k1 k2 k3 w1 w2 w3 : PySem.Str} {q1 q2 q3 r1 r2 r3 pos : Pos} {Q : Addr → Shared → Prop} (h12 : k1 ≠ k2) (h13 : k1 ≠ k3) (h23 : k2 ≠ k3)
    (hQ : ∀ h', h'.get? s.heap.objs.size = some (dictOf [ent w k1 s.toks (.str w1 (s.toks + 1)), ent w k2 (s.toks + 2) (.str w2 (s.toks + 3)), ent w k3 (s.toks + 4) (.str w3 (s.toks + 5))] 3) →
      (∀ b o, s.heap.get? b = some o → h'.get? b = some o) → Q s.heap.objs.size { s with heap := h', toks := s.toks + 9 }) :
    wpAny (model prog w) A (subDict [(eval (.Constant (.str k1) 0 q1) env, do let x ← eval (.Constant (.str w1) 0 r1) env; standAt pos; pure x), (eval (.Constant (.str k2) 0 q2) env, do let x ← eval (.Constant (.str w2) 0 r2) env; standAt pos; pure x), (eval (.Constant (.str k3) 0 q3) env, do let x ← eval (.Constant (.str w3) 0 r3) env; standAt pos; pure x)]) Q E s := by
  have ne : ∀ {a b : PySem.Str} {t : Tok}, b ≠ a → Value.isStrOf a (.str b t) = false := fun {a b t} h => by
    cases hq : Value.isStrOf a (.str b t) with
    | false => rfl
    | true =>
      obtain ⟨u, hu⟩ := Value.isStrOf_shape hq
      injection hu with hx
      exact absurd hx h
  unfold subDict
  refine wpAny_bind (wpAny_alloc ?_)
  refine wpAny_bind (wpAny_holding ?_)
  rw [if_pos (by simp)]
  refine wpAny_bind ?_
  refine evalPairs_cons (Calls.Constant_str (wpAny_bind (Calls.Constant_str (wpAny_bind (wpAny_standAt (wpAny_pure ?_))))))
  refine evalPairs_cons (Calls.Constant_str (wpAny_bind (Calls.Constant_str (wpAny_bind (wpAny_standAt (wpAny_pure ?_))))))
  refine evalPairs_cons (Calls.Constant_str (wpAny_bind (Calls.Constant_str (wpAny_bind (wpAny_standAt (wpAny_pure ?_))))))
  refine evalPairs_nil ?_
  refine wpAny_holding ?_
  dsimp only
  have hd0 : (s.heap.push { cls := .type "dict", data := .dict #[] }).get? s.heap.objs.size = some (dictOf [] 0) := Heap.get?_push_size _ rfl
  rw [List.forIn_cons]
  refine wpAny_bind (wpAny_bind (wpAny_bind (set_exact hd0 (by simp) rfl (by simp) fun h1 hd1 hs1 => ?_)))
  refine wpAny_pure ?_
  dsimp only
  rw [List.forIn_cons]
  refine wpAny_bind (wpAny_bind (set_exact hd1 (by intro e he; simp at he; exact ⟨_, _, _, he⟩) (by simp [List.findIdx?_cons, ne h12]) (by simp) fun h2 hd2 hs2 => ?_))
  refine wpAny_pure ?_
  dsimp only
  rw [List.forIn_cons]
  refine wpAny_bind (wpAny_bind (set_exact hd2 (by intro e he; simp at he; rcases he with rfl | rfl <;> exact ⟨_, _, _, rfl⟩) (by simp [List.findIdx?_cons, ne h13, ne h23]) (by simp) fun h3 hd3 hs3 => ?_))
  refine wpAny_pure ?_
  dsimp only
  refine wpAny_pure (wpAny_pure (wpAny_pure (hQ h3 hd3 fun b o e => ?_)))
  have hb : b ≠ s.heap.objs.size := Nat.ne_of_lt (Heap.lt_size e)
  exact hs3.extBut b o hb (hs2.extBut b o hb (hs1.extBut b o hb (Heap.get?_push_of_some _ e)))

theorem display_star {v a1 b1 a2 b2 a3 b3 : Sem Value} {Q : Value → Shared → Prop}
    (h : wpAny (model prog w) A v (fun m s1 => wpAny (model prog w) A (mergeMapping s.heap.objs.size m false) (fun _ s2 => wpAny (model prog w) A (subDict [(a1, b1), (a2, b2), (a3, b3)]) (fun sub s3 =>
      wpAny (model prog w) A (mergeMapping s.heap.objs.size (.ref sub) false) (fun _ s4 => Q (.ref s.heap.objs.size) s4) (fun _ _ => False) s3) (fun _ _ => False) s2) (fun _ _ => False) s1) (fun _ _ => False)
      { s with heap := s.heap.push { cls := .type "dict", data := .dict #[] } }) :
    wpAny (model prog w) A (dictDisplay [(none, v), (some a1, b1), (some a2, b2), (some a3, b3)]) Q E s := by
  unfold dictDisplay
  dsimp only
  refine wpAny_bind ?_
  rw [List.forIn_cons]
  dsimp only
  refine wpAny_bind (wpAny_bind (wpAny_pure ?_))
  dsimp only
  refine wpAny_bind (wpAny_alloc ?_)
  refine wpAny_bind (wpAny_holding (wpAny_mono h (fun m s1 h1 => ?_) fun _ _ x => x.elim))
  refine wpAny_bind (wpAny_onRaise (wpAny_tryCatch (wpAny_onRaise (wpAny_holding (wpAny_mono h1 (fun _ s2 h2 => ?_) fun _ _ x => x.elim)))))
  refine wpAny_pure ?_
  dsimp only
  rw [List.forIn_cons]
  refine wpAny_bind (wpAny_pure ?_)
  dsimp only
  rw [List.forIn_cons]
  refine wpAny_bind (wpAny_pure ?_)
  dsimp only
  rw [List.forIn_cons]
  refine wpAny_bind (wpAny_pure ?_)
  dsimp only
  refine wpAny_pure ?_
  dsimp only
  refine wpAny_bind (wpAny_bind (wpAny_holding (wpAny_mono h2 (fun sub s3 h3 => ?_) fun _ _ x => x.elim)))
  refine wpAny_bind (wpAny_onRaise (wpAny_holding (wpAny_mono h3 (fun _ s4 h4 => ?_) fun _ _ x => x.elim)))
  exact wpAny_pure (wpAny_pure h4)

theorem Dict_star {name : PySem.Str} {scope : Scope} {L a o : Addr} {cd : Value} {h₀ : Heap} {m : PySem.Str → Option Value} {news : List (Addr × Obj)} {x : PySem.Str} {p0 : Pos} {k1 k2 k3 w1 w2 w3 : PySem.Str} {q1 q2 q3 r1 r2 r3 pos : Pos} {Q : Value → Shared → Prop} {n' : Nat}
    (F : Fr h₀ L s.heap m) (N : News h₀ L s.heap news) (hm : m x = some (.ref o)) (hoh : h₀.get? o = some (dictOf [] n')) (ho1 : 1 < o) (h12 : k1 ≠ k2) (h13 : k1 ≠ k3) (h23 : k2 ≠ k3)
    (hQ : ∀ d h', Fr h₀ L h' m → News h₀ L h' ((d, dictOf [ent w k1 s.toks (.str w1 (s.toks + 1)), ent w k2 (s.toks + 2) (.str w2 (s.toks + 3)), ent w k3 (s.toks + 4) (.str w3 (s.toks + 5))] 3) :: news) → (∀ p ∈ news, p.1 < d) → (d == sysModules) = false → Q (.ref d) { s with heap := h', toks := s.toks + 9 })
    (hk : scope.kind = .function) (hl : (envOf name scope L a cd).kindOf x = some .local) (hd : (x == ("__debug__" : PySem.Str)) = false) :
    wpAny (model prog w) A (eval (.Dict [none, some (.Constant (.str k1) 0 q1), some (.Constant (.str k2) 0 q2), some (.Constant (.str k3) 0 q3)] [.Name x p0, .Constant (.str w1) 0 r1, .Constant (.str w2) 0 r2, .Constant (.str w3) 0 r3] pos) (envOf name scope L a cd)) Q E s := by
  rw [arm_eval_Dict]
  refine wpAny_bind (wpAny_standAt ?_)
  refine display_star ?_
  have ho : s.heap.get? o = some (dictOf [] n') := F.keep _ _ hoh
  have hbig : @LT.lt Nat _ 1 s.heap.objs.size := Nat.lt_trans (Nat.lt_trans ho1 (Heap.lt_size hoh)) (Nat.lt_of_le_of_lt F.above F.ns.lt)
  have hoS : (o == sysModules) = false := by rw [beq_eq_false_iff_ne]; exact Nat.ne_of_gt ho1
  have hdS : (s.heap.objs.size == sysModules) = false := by rw [beq_eq_false_iff_ne]; exact Nat.ne_of_gt hbig
  have hdS2 : (s.heap.objs.size + 1 == sysModules) = false := by rw [beq_eq_false_iff_ne]; exact Nat.ne_of_gt (Nat.lt_succ_of_lt hbig)
  have hd0 : (s.heap.push { cls := .type "dict", data := .dict #[] }).get? s.heap.objs.size = some (dictOf [] 0) := Heap.get?_push_size _ rfl
  have ho0 : (s.heap.push { cls := .type "dict", data := .dict #[] }).get? o = some (dictOf [] n') := Heap.get?_push_of_some _ ho
  refine wpAny_bind (ld (F.push _) hm ?_ hk hl hd)
  refine wpAny_bind (wpAny_standAt (wpAny_pure ?_))
  refine merge_exact0 hoS hd0 ho0 ?_
  refine sub_exact h12 h13 h23 fun h1 hsub hk1 => ?_
  have hd1 := hk1 _ _ hd0
  have hne : s.heap.objs.size ≠ (s.heap.push { cls := .type "dict", data := .dict #[] }).objs.size := by rw [Heap.size_push]; omega
  refine merge_exact hne (by rw [Heap.size_push]; exact hdS2) h12 h13 h23 hd1 hsub fun h2 hd2 hs2 => ?_
  have old : ∀ b o, s.heap.get? b = some o → h2.get? b = some o := fun b o e => hs2.extBut b o (Nat.ne_of_lt (Heap.lt_size e)) (hk1 _ _ (Heap.get?_push_of_some _ e))
  have hLs : L < s.heap.objs.size := F.ns.lt
  refine hQ _ h2 (F.keeps old) (fun p hp => ?_) (fun p hp => Heap.lt_size (N p hp).1) hdS
  rcases List.mem_cons.mp hp with rfl | hp
  · exact ⟨hd2, Nat.ne_of_gt hLs, Heap.get?_none_of_le (Nat.le_trans F.above (Nat.le_of_lt hLs))⟩
  · exact ⟨old _ _ (N p hp).1, (N p hp).2⟩
end
end Mine
end
theorem Mine.topOffDm : True := by
  w_top off
  trivial

section
open PySem PySem.W PySem.W.X PyProof.Rows PySem.Calls
set_option maxRecDepth 100000
set_option maxHeartbeats 4000000
namespace Mine
section
variable {prog : Program} {w : World} {A : Around} {E : Value → Shared → Prop} {s : Shared}

/-- the next pair of a dict whose entries are known, its key with its token -/
theorem next_exact {it d : Addr} {i ep : Nat} {es : List DictEntry} {e : DictEntry} {ok ov : Value} {Q : Option Value → Shared → Prop} (hit : IsItemIter s.heap it d i es.length ep ok ov)
    (ho : s.heap.get? d = some (dictOf es ep)) (hx : es[i]? = some e)
    (hQ : ∀ h', IsItemIterOut h' it d (i + 1) es.length ep e.key e.val s.heap.objs.size → h'.get? s.heap.objs.size = some { cls := .type "tuple", data := .seq #[e.key, e.val] } → h'.objs.size = s.heap.objs.size + 1 →
      (∀ b o, b ≠ it → s.heap.get? b = some o → h'.get? b = some o) → Q (some (.ref s.heap.objs.size)) { s with heap := h' }) :
    wpAny (model prog w) A (pyNext (.ref it)) Q E s := by
  obtain ⟨hp, g, dr, tk, os⟩ := s
  have hT : Shared.TypeIs ⟨hp, g, dr, tk, os⟩ (.ref it) "dict_itemiterator" := ⟨_, hit, rfl⟩
  unfold pyNext
  refine wpAny_bind (wpAny_attempt (wpAny_callSpecial?_slot (name := Str.ofString "__next__") hT F.slot_dict_itemiterator_next
    (wpAny_call_entry F.slot_dict_itemiterator_next hT F.entry_dict_itemiterator_next ?_ (F.args_dict_itemiterator_next_1 _))))
  refine wpAny_bind (wpAny_pure (wpAny_bind (wpAny_bind ?_)))
  first | refine wpAny_bind (wpAny_typeNameOfWhole_itemiter hT (wpAny_pure ?_)) | refine wpAny_bind (wpAny_typeNameOf_itemiter hT (wpAny_pure ?_))
  refine wpAny_bind (wpAny_fieldsOf hit rfl ?_)
  simp only [show Builtin.Dict_items.ownsTuple "dict_itemiterator" = true by decide, if_true]
  show wpAny _ _ (if (Value.ref d == Value.none) = true then _ else _) _ _ _
  rw [if_neg (show ¬ ((Value.ref d == Value.none) = true) from Bool.false_ne_true)]
  refine wpAny_bind (wpAny_pure (wpAny_bind (wpAny_dictEntries ho rfl ?_)))
  rw [if_neg (by simp)]
  refine wpAny_bind (wpAny_pure (wpAny_bind (wpAny_dictEpoch ho rfl ?_)))
  rw [if_neg (by simp)]
  refine wpAny_pure ?_
  have hx' : es.toArray[i]? = some e := by simpa using hx
  simp only [show ¬ ((i : Int) < 0) from by omega, if_false, Int.toNat_natCast, hx']
  refine wpAny_bind ?_
  first | refine wpAny_bind (wpAny_typeNameOfWhole_itemiter hT (wpAny_pure ?_)) | refine wpAny_bind (wpAny_typeNameOf_itemiter hT (wpAny_pure ?_))
  refine wpAny_bind (wpAny_isOneOf_itemiter hT ?_)
  show wpAny _ _ (setField (.ref it) 3 (rawInt ((i : Int) + 1)) >>= _) _ _ ⟨hp, g, dr, tk, os⟩
  refine wpAny_bind (wpAny_setField_rec hit (by simp) fun h₁ he₁ hs₁ => ?_)
  replace hs₁ : Heap.SameBut it hp h₁ := hs₁
  replace he₁ : IsItemIter h₁ it d (i + 1) es.length ep ok ov := by
    have q : ((i + 1 : Nat) : Int) = (i : Int) + 1 := by omega
    unfold IsItemIter; rw [q]; simpa [rawInt] using he₁
  have hT₁ : Shared.TypeIs ⟨h₁, g, dr, tk, os⟩ (.ref it) "dict_itemiterator" := ⟨_, he₁, rfl⟩
  refine wpAny_bind (wpAny_holding (wpAny_bind (wpAny_isOneOf_itemiter hT₁ (wpAny_bind (wpAny_isOneOf_itemiter hT₁ ?_)))))
  show wpAny _ _ (Builtin.Dict_items.pairFromOwner (.ref it) 6 e.key e.val) _ _ ⟨h₁, g, dr, tk, os⟩
  unfold Builtin.Dict_items.pairFromOwner
  refine wpAny_bind (wpAny_newTuple ?_)
  have he₂ : IsItemIter (h₁.push { cls := .type "tuple", data := .seq #[e.key, e.val] }) it d (i + 1) es.length ep ok ov := Heap.get?_push_of_some _ he₁
  generalize hh₂ : h₁.push { cls := .type "tuple", data := .seq #[e.key, e.val] } = h₂ at he₂
  have hz₁ : h₁.objs.size = hp.objs.size := hs₁.1
  have hil : it < hp.objs.size := Heap.lt_size hit
  have ht₂ : h₂.get? hp.objs.size = some { cls := .type "tuple", data := .seq #[e.key, e.val] } := by rw [← hh₂, ← hz₁]; exact Heap.get?_push_size _ rfl
  have hz₂ : h₂.objs.size = hp.objs.size + 1 := by rw [← hh₂, Heap.size_push, hz₁]
  have hk₂ : ∀ b o, b ≠ it → hp.get? b = some o → h₂.get? b = some o := fun b o hb q => by rw [← hh₂]; exact Heap.get?_push_of_some _ (hs₁.extBut b o hb q)
  show wpAny _ _ (Builtin.Dict_items.ownedTupleIsFree (.ref it) >>= _) _ _ ⟨h₂, g, dr, tk, os⟩
  rw [hz₁]
  clear hh₂ he₁ hs₁ hT₁ hz₁ h₁
  refine wpAny_bind ?_
  unfold Builtin.Dict_items.ownedTupleIsFree
  refine wpAny_bind (wpAny_field he₂ rfl (x := .none) rfl (wpAny_pure ?_))
  simp only [if_true]
  refine wpAny_bind (wpAny_field he₂ rfl (x := ok) rfl (wpAny_bind (wpAny_field he₂ rfl (x := ov) rfl ?_)))
  refine wpAny_bind (wpAny_setField_rec he₂ (by simp) fun h₃ he₃ hs₃ => ?_)
  replace hs₃ : Heap.SameBut it h₂ h₃ := hs₃
  replace he₃ : IsItemIter h₃ it d (i + 1) es.length ep e.key ov := he₃
  refine wpAny_bind (wpAny_setField_rec he₃ (by simp) fun h₄ he₄ hs₄ => ?_)
  replace hs₄ : Heap.SameBut it h₃ h₄ := hs₄
  replace he₄ : IsItemIter h₄ it d (i + 1) es.length ep e.key e.val := he₄
  refine wpAny_bind (wpAny_setField_rec he₄ (by simp) fun h₅ he₅ hs₅ => ?_)
  replace hs₅ : Heap.SameBut it h₄ h₅ := hs₅
  replace he₅ : IsItemIterOut h₅ it d (i + 1) es.length ep e.key e.val hp.objs.size := he₅
  refine wpAny_bind (wpAny_setField_rec he₅ (by simp) fun h₆ he₆ hs₆ => ?_)
  replace hs₆ : Heap.SameBut it h₅ h₆ := hs₆
  replace he₆ : IsItemIterOut h₆ it d (i + 1) es.length ep e.key e.val hp.objs.size := he₆
  have up : ∀ b o, b ≠ it → h₂.get? b = some o → h₆.get? b = some o := fun b o hb q => hs₆.extBut _ _ hb (hs₅.extBut _ _ hb (hs₄.extBut _ _ hb (hs₃.extBut _ _ hb q)))
  exact wpAny_bind (wpAny_letGo (wpAny_pure (wpAny_pure ⟨_, rfl, wpAny_pure (hQ h₆ he₆ (up _ _ (Nat.ne_of_gt hil) ht₂) (by
    show h₆.objs.size = hp.objs.size + 1
    rw [hs₆.1, hs₅.1, hs₄.1, hs₃.1, hz₂]) fun b o hb q => up b o hb (hk₂ b o hb q))⟩)))

theorem dictAt_exact {h : Heap} {d : Addr} {n : Nat} {k1 k2 k3 : PySem.Str} {t1 t2 t3 : Tok} {v1 v2 v3 : Value} (h12 : k1 ≠ k2) (h13 : k1 ≠ k3) (h23 : k2 ≠ k3)
    (ho : h.get? d = some (dictOf [ent w k1 t1 v1, ent w k2 t2 v2, ent w k3 t3 v3] n)) : h.DictAt (PySem.strKind prog w) d [(k1, v1), (k2, v2), (k3, v3)] n := by
  refine ⟨_, _, ho, ⟨rfl, rfl, rfl⟩, rfl, ent_keys ?_, ?_, ?_⟩
  · intro e he; simp at he; rcases he with rfl | rfl | rfl <;> exact ⟨_, _, _, rfl⟩
  · exact .cons (PySem.strKind_is _ _ _ _) rfl (.cons (PySem.strKind_is _ _ _ _) rfl (.cons (PySem.strKind_is _ _ _ _) rfl .nil))
  · simp [h12, h13, h23]

/-- for k, v in d.items(): over a dict of three texts that the call has made; the body changes the frame's names alone -/
theorem For_items3 {env : Env} {h₀ : Heap} {m : PySem.Str → Option Value} {news : List (Addr × Obj)} {Q : Flow → Shared → Prop} {xk xv : PySem.Str} {pk pv pt pos apos cpos px : Pos} {x1} {xd : PySem.Str} {body : List Stmt} {d : Addr} {n : Nat}
    {k1 k2 k3 : PySem.Str} {t1 t2 t3 : Tok} {v1 v2 v3 : Value} (h12 : k1 ≠ k2) (h13 : k1 ≠ k3) (h23 : k2 ≠ k3)
    (hh : A.handled = none) (hxk : env.kindOf xk = some .local) (hxv : env.kindOf xv = some .local)
    (hp : (env.scope.kind == .class || (env.scope.kind == .module && env.locals != env.globals)) = false)
    (hdS : (d == sysModules) = false) (F : Fr h₀ env.locals s.heap m) (N : News h₀ env.locals s.heap ((d, dictOf [ent w k1 t1 v1, ent w k2 t2 v2, ent w k3 t3 v3] n) :: news))
    (hbase : attributeBase (.Name xd px) "items" env (eval (.Name xd px) env) = eval (.Name xd px) env) (hline : (apos.endLine == cpos.line) = true)
    (hd : ∀ Q', Q' (.ref d) s → wpAny (model prog w) A (eval (.Name xd px) env) Q' E s)
    (J : Nat → (PySem.Str → Option Value) → Prop) (h0 : J 0 m) (ht : 0 < s.toks)
    (step : ∀ i e m₁ it oI h tk, [ent w k1 t1 v1, ent w k2 t2 v2, ent w k3 t3 v3][i]? = some e → J i m₁ → 0 < tk →
      Fr h₀ env.locals h (fun y => if y = xv then some e.val else if y = xk then some e.key else m₁ y) → News h₀ env.locals h ((it, oI) :: (d, dictOf [ent w k1 t1 v1, ent w k2 t2 v2, ent w k3 t3 v3] n) :: news) →
      wpAny (model prog w) A (execs body env) (TurnEnd h₀ env.locals { s with heap := h, toks := tk } ((it, oI) :: (d, dictOf [ent w k1 t1 v1, ent w k2 t2 v2, ent w k3 t3 v3] n) :: news) (J (i + 1))) (fun _ _ => False) { s with heap := h, toks := tk })
    (hQ : ∀ h' tk m', 0 < tk → Fr h₀ env.locals h' m' → News h₀ env.locals h' ((d, dictOf [ent w k1 t1 v1, ent w k2 t2 v2, ent w k3 t3 v3] n) :: news) → J 3 m' → Q .next { s with heap := h', toks := tk })
    (hs : ∀ x, foldedSetIterable (.Call (.Attribute (.Name xd px) "items" apos) [] [] cpos) env x = pure x := by intro _; rfl) :
    wpAny (model prog w) A (exec (.For (.Tuple [.Name xk pk, .Name xv pv] x1 pt) (.Call (.Attribute (.Name xd px) "items" apos) [] [] cpos) body [] pos) env) Q E s := by
  have hdn := N (d, _) (.head _)
  have hdo : s.heap.get? d = some _ := hdn.1
  have hm := dictAt_exact (prog := prog) h12 h13 h23 hdo
  generalize hes : [ent w k1 t1 v1, ent w k2 t2 v2, ent w k3 t3 v3] = es at *
  have hlen : es.length = 3 := by rw [← hes]; rfl
  refine wpAny_For (wpAny_Call_items hdS hm.dictOf hbase hline hd ?_) hs
  refine wpAny_pyIter_items (knd := PySem.strKind prog w) (d := d) (kvs := [(k1, v1), (k2, v2), (k3, v3)]) (ep := n) ⟨_, Heap.get?_push_size _ rfl, rfl, rfl⟩ (hm.push _) ?_
  have hsz : (s.heap.push { cls := .type "dict_items", data := .fields #[.ref d] }).objs.size = s.heap.objs.size + 1 := Heap.size_push ..
  have hLs : @LT.lt Nat _ env.locals s.heap.objs.size := F.ns.lt
  generalize hI : (s.heap.push { cls := .type "dict_items", data := .fields #[.ref d] }).objs.size = I at *
  have hsz' : @Eq Nat I (s.heap.objs.size + 1) := hsz
  have hIL : I ≠ env.locals := Nat.ne_of_gt (by show @LT.lt Nat _ env.locals I; omega)
  have hI0 : h₀.get? I = none := Heap.get?_none_of_le (Nat.le_trans F.above (by show @LE.le Nat _ env.locals I; omega))
  have hdI : d ≠ I := Nat.ne_of_lt (by have q : @LT.lt Nat _ d s.heap.objs.size := Heap.lt_size hdo; show @LT.lt Nat _ d I; omega)
  refine codeAny_forLoop_any
    (fun c s' => ∃ h' tk m' i ok ov, s' = { s with heap := h', toks := tk } ∧ 0 < tk ∧ IsItemIter h' I d i es.length n ok ov ∧ Fr h₀ env.locals h' m' ∧ News h₀ env.locals h' ((d, dictOf es n) :: news) ∧ (∀ p ∈ news, p.1 ≠ I) ∧ J i m' ∧ i ≤ 3 ∧ c = 4 - i) ?_ 4
    ⟨_, s.toks, m, 0, .none, .none, rfl, ht, by rw [hlen]; exact hI ▸ Heap.get?_push_size _ rfl, (F.push _).push _, fun p hp => ⟨Heap.get?_push_of_some _ (Heap.get?_push_of_some _ (N p hp).1), (N p hp).2⟩, fun p hp => Nat.ne_of_lt (by have q : @LT.lt Nat _ p.1 s.heap.objs.size := Heap.lt_size (N p (.tail _ hp)).1; show @LT.lt Nat _ p.1 I; omega), h0, by decide, rfl⟩
  rintro c s' ⟨H, tk, m', i, ok, ov, rfl, htk, hit, F', N', hoff, hJ, hi, rfl⟩
  have hdo' : H.get? d = some (dictOf es n) := (N' (d, _) (.head _)).1
  have hLH : env.locals < H.objs.size := F'.ns.lt
  have hIH : I < H.objs.size := Heap.lt_size hit
  cases hv : es[i]? with
  | none =>
    have h3 : i = 3 := by have := List.getElem?_eq_none_iff.mp hv; omega
    subst h3
    have hm' := dictAt_exact (prog := prog) h12 h13 h23 (hes ▸ hdo')
    refine wpAny_pyNext_items_end hh (by rw [hlen] at hit; exact hit) hm' rfl fun h₁ he₁ => wpAny_execs_nil ?_
    refine hQ h₁ tk m' htk ⟨F'.ns.extBut he₁ (Ne.symm hIL), fun b o e => he₁ b o (fun q => by rw [q, hI0] at e; cases e) (F'.keep b o e), F'.above⟩ (fun p hp => ?_) hJ
    refine ⟨he₁ _ _ ?_ (N' p hp).1, (N' p hp).2⟩
    rcases List.mem_cons.mp hp with rfl | hp
    · exact hdI
    · exact hoff p hp
  | some e =>
    have hlt : i < 3 := by have := (List.getElem?_eq_some_iff.mp hv).1; omega
    refine next_exact hit hdo' hv fun h₁ heo ht₁ hz₁ hk₁ => ?_
    refine wpAny_letOwnedTupleGo_items heo fun h₂ he₂ hs₂ => ?_
    replace hs₂ : Heap.SameBut I h₁ h₂ := hs₂
    have ht₂ : h₂.IsTuple H.objs.size #[e.key, e.val] := ⟨_, (hs₂.2 _ (Nat.ne_of_gt hIH)).trans ht₁, rfl, _, rfl⟩
    have hz₂ : h₂.objs.size = H.objs.size + 1 := hs₂.1.trans hz₁
    refine wpAny_assign_Tuple hh ht₂ rfl rfl fun h₃ hx₃ => ?_
    replace hx₃ : Heap.ExtBut h₂.objs.size h₂ h₃ := hx₃
    have old₃ : ∀ b o, b < H.objs.size → h₂.get? b = some o → h₃.get? b = some o := fun b o hb x => hx₃ b o (by rw [hz₂]; exact Nat.ne_of_lt (Nat.lt_succ_of_lt hb)) x
    have up₃ : ∀ b o, b ≠ I → H.get? b = some o → h₃.get? b = some o := fun b o hb x => old₃ b o (Heap.lt_size x) (hs₂.extBut b o hb (hk₁ b o hb x))
    have he₃ : IsItemIter h₃ I d (i + 1) es.length n e.key e.val := old₃ _ _ hIH he₂
    have F₃ : Fr h₀ env.locals h₃ m' := ⟨F'.ns.at' fun o x => up₃ _ o (Ne.symm hIL) x, fun b o q => up₃ b o (fun q' => by rw [q', hI0] at q; cases q) (F'.keep b o q), F'.above⟩
    have N₃ : News h₀ env.locals h₃ ((I, _) :: (d, dictOf es n) :: news) := fun p hp => by
      rcases List.mem_cons.mp hp with rfl | hp
      · exact ⟨he₃, hIL, hI0⟩
      · refine ⟨up₃ _ _ ?_ (N' p hp).1, (N' p hp).2⟩
        rcases List.mem_cons.mp hp with rfl | hp
        · exact hdI
        · exact hoff p hp
    show wpAny _ _ (do holding [e.val] (assign (.Name xk pk) env e.key); do holding [] (assign (.Name xv pv) env e.val); pure ()) _ _ _
    refine wpAny_bind (wpAny_holding (wpAny_assign_Name (wpAny_storeName_local hxk F₃.ns (fun h₄ hn₄ hs₄ => ?_) hp)))
    refine wpAny_bind (wpAny_holding (wpAny_assign_Name (wpAny_storeName_local hxv hn₄ (fun h₅ hn₅ hs₅ => wpAny_pure ?_) hp)))
    have F₅ := (F₃.set hn₄ hs₄).set hn₅ hs₅
    have N₅ := (N₃.set hs₄).set hs₅
    refine wpAny_noRaise (wpAny_mono (step i e m' I _ h₅ _ hv hJ (by omega) F₅ N₅) (fun f s₃ h₆ => ?_) fun _ _ x => x)
    obtain ⟨rfl, h₆, tk₆, m₂, rfl, htk₆, F₆, N₆, hJ₆⟩ := h₆
    refine ⟨4 - (i + 1), by omega, h₆, tk₆, m₂, i + 1, e.key, e.val, rfl, htk₆, (N₆ (I, _) (.head _)).1, F₆, fun p hp => N₆ p (.tail _ hp), hoff, hJ₆, hlt, rfl⟩
theorem truthy_exact {d : Addr} {n : Nat} {k1 k2 k3 : PySem.Str} {t1 t2 t3 : Tok} {v1 v2 v3 : Value} {Q : Bool → Shared → Prop} (h12 : k1 ≠ k2) (h13 : k1 ≠ k3) (h23 : k2 ≠ k3) (hd : (d == sysModules) = false)
    (ho : s.heap.get? d = some (dictOf [ent w k1 t1 v1, ent w k2 t2 v2, ent w k3 t3 v3] n)) (h : Q true { s with toks := s.toks + 1 + 1 }) : wpAny (model prog w) A (truthy (.ref d)) Q E s :=
  wpAny_truthy_dict (knd := PySem.strKind prog w) hd (dictAt_exact h12 h13 h23 ho).dictOf (by simp) h
end
end Mine
end
theorem Mine.topOffIt : True := by
  w_top off
  trivial

section
open PySem PySem.W PySem.W.X PyProof.Rows PySem.Calls
set_option maxRecDepth 100000
set_option maxHeartbeats 8000000
namespace Mine
local macro_rules | `(tactic| walk_at "execs cons") => `(tactic| (k_here; (with_reducible refine gen_toks ?_); intro tk htk))
local macro_rules | `(tactic| walk_at "execs nil") => `(tactic| (k_here; (with_reducible refine gen_toks ?_); intro tk htk))
local macro_rules | `(tactic| walk_at "mine len") => `(tactic| first | exact Nat.le_trans (by assumption) (by decide) | exact Nat.le_trans (repl_le (by assumption) (by decide) (by decide)) (by decide) | exact Nat.le_trans (repl_le (repl_le (by assumption) (by decide) (by decide)) (by decide) (by decide)) (by decide))
local macro_rules | `(tactic| walk_at "mine ne") => `(tactic| first | omega | (show @Ne Nat _ _; omega))
local macro_rules | `(tactic| walk_at "mine rs") => `(tactic| exact ⟨by decide +kernel, by decide +kernel, by decide, by walk_at "mine ne", by walk_at "mine ne", by walk_at "mine ne", by decide, by walk_at "mine len", by decide⟩)
local macro_rules | `(tactic| walk_at "call builtin:str.replace") => `(tactic| (k_here; walk_at "mine rp"; intro t' k' hk'; (dsimp only at hk'); (refine gen_toks0 (by omega) ?_); intro tk htk; clear hk'))
local macro_rules | `(tactic| walk_at "mine rp") => `(tactic| first | refine repl_callB (y := [38]) (z := [38, 97, 109, 112, 59]) (by walk_at "mine rs") ?_ | refine repl_callB (y := [62]) (z := [38, 103, 116, 59]) (by walk_at "mine rs") ?_ | refine repl_callB (y := [60]) (z := [38, 108, 116, 59]) (by walk_at "mine rs") ?_)
local macro_rules | `(tactic| walk_at "truthy ref") => `(tactic| (k_here; k_dflt (refine' truthy_K0 ?k1 ?k2 ?k3 (by decide) ?_; (case k1 | k2 => k_asm); (case k3 => k_is))))
theorem esc1 : ∀ (w : World) (mean : ExcName → Option Value) (mg mb : Str → Option Value) (news : List (Addr × Obj)) (l : List Nat) (t : Tok), l.length ≤ 1000 → Tells w mean mg mb 60 13 news [.str (tx l) t] (StrR (tx (l.flatMap (esub EP)))) := by
  unfold Tells
  k_fill
  intro w mean mg mb news l t hx dp un gd cn cs a ccd cl outer A₀ base h₀ L m s Q E B F X N T hk hdp hun hret
  (refine wpAny_call ?_; k_dflt (refine' code_def ?k1 ?k2 ?k3 ?k4 ?k5 ?kA ?kF ?kK ?k6 ?k7 ?k8 ?k9 ?kB ?_ ?c2 ?c3 ?c4 ?c5; (case kA | kF => exact rfl); (case kK => assumption); (case k1 | k2 | k3 | k4 | k5 => k_asm); (case k6 | k7 => k_is); (case k8 => ((simp only [depth_deeper, recursionLimit] at *); omega)); (case k9 => first | exact BindsTo.of_eq rfl | exact binds_K (by k_in) rfl (by k_is) rfl rfl rfl); (case c5 => decide); (case kB => exact locs rfl); (case c2 | c3 | c4 => exact rfl); k_whole; intro g'_z L'_z h'_z FG'_z F'_z N'_z B'_z X'_z T'_z; (try dsimp only); (try k_lift B'_z); (try k_fold)); (refine gen_toks0 ?_ ?_; (focus (k_dflt (exact Nat.succ_pos _)))); intro tk_z htk_z)
  k_steps
  exact strR_end hret (congrArg tx (esc_is l)) (by k_asm) (by k_asm) (fun p hp => hp) (by omega)
end Mine
end
theorem Mine.topOffE1 : True := by
  w_top off
  trivial

section
open PySem PySem.W PySem.W.X PyProof.Rows PySem.Calls
set_option maxRecDepth 100000
set_option maxHeartbeats 8000000
namespace Mine
local macro_rules | `(tactic| walk_at "execs cons") => `(tactic| (k_here; (with_reducible refine gen_toks ?_); intro tk htk))
local macro_rules | `(tactic| walk_at "execs nil") => `(tactic| (k_here; (with_reducible refine gen_toks ?_); intro tk htk))
local macro_rules | `(tactic| walk_at "mine len") => `(tactic| first | exact Nat.le_trans (by assumption) (by decide) | exact Nat.le_trans (repl_le (by assumption) (by decide) (by decide)) (by decide) | exact Nat.le_trans (repl_le (repl_le (by assumption) (by decide) (by decide)) (by decide) (by decide)) (by decide))
local macro_rules | `(tactic| walk_at "mine ne") => `(tactic| first | omega | (show @Ne Nat _ _; omega))
local macro_rules | `(tactic| walk_at "mine rs") => `(tactic| exact ⟨by decide +kernel, by decide +kernel, by decide, by walk_at "mine ne", by walk_at "mine ne", by walk_at "mine ne", by decide, by walk_at "mine len", by decide⟩)
local macro_rules | `(tactic| walk_at "call builtin:str.replace") => `(tactic| (k_here; walk_at "mine rp"; intro t' k' hk'; (dsimp only at hk'); (refine gen_toks0 (by omega) ?_); intro tk htk; clear hk'))
local macro_rules | `(tactic| walk_at "mine rp") => `(tactic| first | refine repl_callB (y := [38]) (z := [38, 97, 109, 112, 59]) (by walk_at "mine rs") ?_ | refine repl_callB (y := [62]) (z := [38, 103, 116, 59]) (by walk_at "mine rs") ?_ | refine repl_callB (y := [60]) (z := [38, 108, 116, 59]) (by walk_at "mine rs") ?_)
local macro_rules | `(tactic| walk_at "truthy ref") => `(tactic| (k_here; k_dflt (refine' truthy_K0 ?k1 ?k2 ?k3 (by decide) ?_; (case k1 | k2 => k_asm); (case k3 => k_is))))
local macro_rules | `(tactic| walk_at "mine rp") => `(tactic| first | refine repl_callB (y := [10]) (z := [38, 35, 49, 48, 59]) (by walk_at "mine rs") ?_ | refine repl_callB (y := [13]) (z := [38, 35, 49, 51, 59]) (by walk_at "mine rs") ?_ | refine repl_callB (y := [9]) (z := [38, 35, 57, 59]) (by walk_at "mine rs") ?_)

noncomputable def pre (l : List Nat) : Nat → List Nat
  | 0 => l
  | 1 => repl [10] [38, 35, 49, 48, 59] 0 l
  | 2 => repl [13] [38, 35, 49, 51, 59] 0 (repl [10] [38, 35, 49, 48, 59] 0 l)
  | _ => repl [9] [38, 35, 57, 59] 0 (repl [13] [38, 35, 49, 51, 59] 0 (repl [10] [38, 35, 49, 48, 59] 0 l))
theorem drep : ∀ (w : World) (mean : ExcName → Option Value) (mg mb : Str → Option Value) (news : List (Addr × Obj)) (l : List Nat) (t : Tok) (d : Addr) (n : Nat) (t1 : Nat), l.length ≤ 2000 → 0 < t1 → (d == sysModules) = false →
    Tells w mean mg mb 51 14 ((d, dictOf [ent w (Str.ofString "\n") t1 (.str (Str.ofString "&#10;") (t1 + 1)), ent w (Str.ofString "\r") (t1 + 2) (.str (Str.ofString "&#13;") (t1 + 3)), ent w (Str.ofString "\t") (t1 + 4) (.str (Str.ofString "&#9;") (t1 + 5))] n) :: news) [.str (tx l) t, .ref d]
      (StrR (tx (repl [9] [38, 35, 57, 59] 0 (repl [13] [38, 35, 49, 51, 59] 0 (repl [10] [38, 35, 49, 48, 59] 0 l))))) := by
  unfold Tells
  k_fill
  intro w mean mg mb news l t d n t1 hx ht1 hds dp un gd cn cs a ccd cl outer A₀ base h₀ L m s Q E B F X N T hk hdp hun hret
  (refine wpAny_call ?_; k_dflt (refine' code_def ?k1 ?k2 ?k3 ?k4 ?k5 ?kA ?kF ?kK ?k6 ?k7 ?k8 ?k9 ?kB ?_ ?c2 ?c3 ?c4 ?c5; (case kA | kF => exact rfl); (case kK => assumption); (case k1 | k2 | k3 | k4 | k5 => k_asm); (case k6 | k7 => k_is); (case k8 => ((simp only [depth_deeper, recursionLimit] at *); omega)); (case k9 => first | exact BindsTo.of_eq rfl | exact binds_K (by k_in) rfl (by k_is) rfl rfl rfl); (case c5 => decide); (case kB => exact locs rfl); (case c2 | c3 | c4 => exact rfl); k_whole; intro g'_z L'_z h'_z FG'_z F'_z N'_z B'_z X'_z T'_z; (try dsimp only); (try k_lift B'_z); (try k_fold)); (refine gen_toks0 ?_ ?_; (focus (k_dflt (exact Nat.succ_pos _)))); intro tk_z htk_z)
  k_steps
  rename Fr _ _ _ _ => F9
  rename News _ _ _ _ => N9
  rename 0 < _ => T9
  refine For_items3 (by decide +kernel) (by decide +kernel) (by decide +kernel) rfl rfl rfl rfl hds F9 N9 rfl rfl (fun Q' q => ld F9 rfl q) (fun i m => ∃ t, m (Str.ofString "s") = some (.str (tx (pre l i)) t)) ⟨t, rfl⟩ T9 ?step ?done
  case step =>
    rintro i e m₁ it oI h tk he ⟨t', hs⟩ htk F N
    replace F := fr_named (f := fun m y => if y = Str.ofString "value" then some e.val else if y = Str.ofString "key" then some e.key else m y) hs F
    clear hs
    match i, he with
    | 0, he =>
      obtain rfl : _ = e := Option.some.inj he
      dsimp only [ent] at F
      have hx1 : (pre l 0).length ≤ 2000 := hx
      k_steps
      exact TurnEnd.intro (by k_asm) (by k_asm) (fun p hp => hp) (by omega) ⟨_, rfl⟩
    | 1, he =>
      obtain rfl : _ = e := Option.some.inj he
      dsimp only [ent] at F
      have hx1 : (pre l 1).length ≤ 12000 := repl_le hx (by decide) (by decide)
      k_steps
      exact TurnEnd.intro (by k_asm) (by k_asm) (fun p hp => hp) (by omega) ⟨_, rfl⟩
    | 2, he =>
      obtain rfl : _ = e := Option.some.inj he
      dsimp only [ent] at F
      have hx1 : (pre l 2).length ≤ 72000 := repl_le (repl_le hx (by decide) (by decide)) (by decide) (by decide)
      k_steps
      exact TurnEnd.intro (by k_asm) (by k_asm) (fun p hp => hp) (by omega) ⟨_, rfl⟩
  case done =>
    rintro h' tk m' htk F N ⟨t', hs⟩
    clear F9 N9 T9
    replace F := fr_named (f := fun m y => m y) hs F
    clear hs
    k_steps
    exact strR_end hret rfl (by k_asm) (by k_asm) (fun p hp => hp) (by omega)
end Mine
end
theorem Mine.topOffE3 : True := by
  w_top off
  trivial

section
open PySem PySem.W PySem.W.X PyProof.Rows PySem.Calls
set_option maxRecDepth 100000
set_option maxHeartbeats 8000000
namespace Mine
local macro_rules | `(tactic| walk_at "execs cons") => `(tactic| (k_here; (with_reducible refine gen_toks ?_); intro tk htk))
local macro_rules | `(tactic| walk_at "execs nil") => `(tactic| (k_here; (with_reducible refine gen_toks ?_); intro tk htk))
local macro_rules | `(tactic| walk_at "mine len") => `(tactic| first | exact Nat.le_trans (by assumption) (by decide) | exact Nat.le_trans (repl_le (by assumption) (by decide) (by decide)) (by decide) | exact Nat.le_trans (repl_le (repl_le (by assumption) (by decide) (by decide)) (by decide) (by decide)) (by decide))
local macro_rules | `(tactic| walk_at "mine ne") => `(tactic| first | omega | (show @Ne Nat _ _; omega))
local macro_rules | `(tactic| walk_at "mine rs") => `(tactic| exact ⟨by decide +kernel, by decide +kernel, by decide, by walk_at "mine ne", by walk_at "mine ne", by walk_at "mine ne", by decide, by walk_at "mine len", by decide⟩)
local macro_rules | `(tactic| walk_at "call builtin:str.replace") => `(tactic| (k_here; walk_at "mine rp"; intro t' k' hk'; (dsimp only at hk'); (refine gen_toks0 (by omega) ?_); intro tk htk; clear hk'))
local macro_rules | `(tactic| walk_at "mine rp") => `(tactic| first | refine repl_callB (y := [38]) (z := [38, 97, 109, 112, 59]) (by walk_at "mine rs") ?_ | refine repl_callB (y := [62]) (z := [38, 103, 116, 59]) (by walk_at "mine rs") ?_ | refine repl_callB (y := [60]) (z := [38, 108, 116, 59]) (by walk_at "mine rs") ?_)
local macro_rules | `(tactic| walk_at "mine pad") => `(tactic| skip)
local macro_rules | `(tactic| walk_at "truthy ref") => `(tactic| (k_here; k_dflt (refine' truthy_exact ?h1 ?h2 ?h3 ?h4 ?k1 ?_; (case k1 => exact News.get (by k_asm) (List.Mem.head _)); (case h1 | h2 | h3 => decide +kernel); (case h4 => assumption))))
local macro_rules | `(tactic| walk_at "call ref") => `(tactic| (k_here; k_dflt (refine' Tells.useStr (drep _ _ _ _ _ _ _ _ _ _ ?a ?b ?c) ?B ?F ?X ?N ?T ?hk ?hdp ?hun ?h; (case B | F | X | N | T => k_asm); (case a => (rw [esc_is]; exact Nat.le_trans (flatMap_len (esub_len (by decide)) _) (by omega))); (case b | c => assumption); (case hk => exact rfl); (case hdp | hun => (dsimp only [ktrTop]; omega))); intro t' h' tk' htk F' N'))
theorem esc2 : ∀ (w : World) (mean : ExcName → Option Value) (mg mb : Str → Option Value) (news : List (Addr × Obj)) (l : List Nat) (t : Tok) (d : Addr) (n : Nat) (t1 : Nat), l.length ≤ 300 → 0 < t1 → (d == sysModules) = false →
    Tells w mean mg mb 60 13 ((d, dictOf [ent w (Str.ofString "\n") t1 (.str (Str.ofString "&#10;") (t1 + 1)), ent w (Str.ofString "\r") (t1 + 2) (.str (Str.ofString "&#13;") (t1 + 3)), ent w (Str.ofString "\t") (t1 + 4) (.str (Str.ofString "&#9;") (t1 + 5))] n) :: news) [.str (tx l) t, .ref d]
      (StrR (tx (l.flatMap (esub QP)))) := by
  unfold Tells
  k_fill
  intro w mean mg mb news l t d n t1 hx ht1 hds dp un gd cn cs a ccd cl outer A₀ base h₀ L m s Q E B F X N T hk hdp hun hret
  (refine wpAny_call ?_; k_dflt (refine' code_def ?k1 ?k2 ?k3 ?k4 ?k5 ?kA ?kF ?kK ?k6 ?k7 ?k8 ?k9 ?kB ?_ ?c2 ?c3 ?c4 ?c5; (case kA | kF => exact rfl); (case kK => assumption); (case k1 | k2 | k3 | k4 | k5 => k_asm); (case k6 | k7 => k_is); (case k8 => ((simp only [depth_deeper, recursionLimit] at *); omega)); (case k9 => first | exact BindsTo.of_eq rfl | exact binds_K (by k_in) rfl (by k_is) rfl rfl rfl); (case c5 => decide); (case kB => exact locs rfl); (case c2 | c3 | c4 => exact rfl); k_whole; intro g'_z L'_z h'_z FG'_z F'_z N'_z B'_z X'_z T'_z; (try dsimp only); (try k_lift B'_z); (try k_fold)); (refine gen_toks0 ?_ ?_; (focus (k_dflt (exact Nat.succ_pos _)))); intro tk_z htk_z)
  k_steps
  exact strR_end hret (congrArg tx ((congrArg (fun z => repl [9] [38, 35, 57, 59] 0 (repl [13] [38, 35, 49, 51, 59] 0 (repl [10] [38, 35, 49, 48, 59] 0 z))) (esc_is l)).trans (quo_is l))) (by k_asm) (by k_asm) (fun p hp => hp) (by omega)
end Mine
end
theorem Mine.topOffE4 : True := by
  w_top off
  trivial

section
open PySem PySem.W PySem.W.X PyProof.Rows PySem.Calls
set_option maxRecDepth 100000
set_option maxHeartbeats 4000000
namespace Mine
theorem quoted_cat (c : Nat) (l : List Nat) : tx [c] ++ tx l ++ tx [c] = tx (c :: l ++ [c]) := by
  rw [tx_append, tx_append]; rfl
section
variable {prog : Program} {w : World} {A : Around} {E : Value → Shared → Prop} {s : Shared}
theorem mod_dq {l : List Nat} {t u : Tok} {Q : Value → Shared → Prop} (hl : l.length ≤ 1000000) (h : ∀ t' k, Q (.str (tx (34 :: l ++ [34])) t') { s with toks := k }) :
    wpAny (model prog w) A (binaryOp .Mod (.str (Str.ofString "\"%s\"") t) (.str (tx l) u)) Q E s := by
  refine' KPc.mod_str ?kpcF ?kpcl ?kpcm ?kh
  case kpcF => kpc_eq
  case kpcl => rw [tx_length]; exact hl
  case kpcm => k_dflt kpc_run_s
  case kh =>
    have e : Str.ofString "\"" ++ tx l ++ Str.ofString "\"" = tx (34 :: l ++ [34]) := quoted_cat 34 l
    intro t' k
    have := h t' k
    rw [← e] at this
    exact this
theorem mod_sq {l : List Nat} {t u : Tok} {Q : Value → Shared → Prop} (hl : l.length ≤ 1000000) (h : ∀ t' k, Q (.str (tx (39 :: l ++ [39])) t') { s with toks := k }) :
    wpAny (model prog w) A (binaryOp .Mod (.str (Str.ofString "'%s'") t) (.str (tx l) u)) Q E s := by
  refine' KPc.mod_str ?kpcF ?kpcl ?kpcm ?kh
  case kpcF => kpc_eq
  case kpcl => rw [tx_length]; exact hl
  case kpcm => k_dflt kpc_run_s
  case kh =>
    have e : Str.ofString "'" ++ tx l ++ Str.ofString "'" = tx (39 :: l ++ [39]) := quoted_cat 39 l
    intro t' k
    have := h t' k
    rw [← e] at this
    exact this
end
end Mine
end
theorem Mine.topOffMd : True := by
  w_top off
  trivial

section
open PySem PySem.W PySem.W.X PyProof.Rows PySem.Calls
set_option maxRecDepth 100000
set_option maxHeartbeats 8000000
namespace Mine
local macro_rules | `(tactic| walk_at "execs cons") => `(tactic| (k_here; (with_reducible refine gen_toks ?_); intro tk htk))
local macro_rules | `(tactic| walk_at "execs nil") => `(tactic| (k_here; (with_reducible refine gen_toks ?_); intro tk htk))
local macro_rules | `(tactic| walk_at "mine len") => `(tactic| first | exact Nat.le_trans (by assumption) (by decide) | exact Nat.le_trans (repl_le (by assumption) (by decide) (by decide)) (by decide) | exact Nat.le_trans (repl_le (repl_le (by assumption) (by decide) (by decide)) (by decide) (by decide)) (by decide))
local macro_rules | `(tactic| walk_at "mine ne") => `(tactic| first | omega | (show @Ne Nat _ _; omega))
local macro_rules | `(tactic| walk_at "mine rs") => `(tactic| exact ⟨by decide +kernel, by decide +kernel, by decide, by walk_at "mine ne", by walk_at "mine ne", by walk_at "mine ne", by decide, by walk_at "mine len", by decide⟩)
local macro_rules | `(tactic| walk_at "call builtin:str.replace") => `(tactic| (k_here; walk_at "mine rp"; intro t' k' hk'; (dsimp only at hk'); (refine gen_toks0 (by omega) ?_); intro tk htk; clear hk'))
local macro_rules | `(tactic| walk_at "mine len") => `(tactic| exact Nat.le_trans (flatMap_len (esub_len (by decide)) _) (by omega))
local macro_rules | `(tactic| walk_at "mine rp") => `(tactic| refine repl_callB (y := [34]) (z := [38, 113, 117, 111, 116, 59]) (by walk_at "mine rs") ?_)
local macro_rules | `(tactic| walk_at "eval Dict") => `(tactic| (k_here; (with_reducible rename Fr _ _ _ _ => F9); (with_reducible rename News _ _ _ _ => N9); (with_reducible rename Frag.In _ _ => X9); k_dflt (refine' Dict_star F9 N9 ?k1 ?k2 ?k3 ?k5 ?k6 ?k7 ?_ ?k8 ?k9 ?k10; (case k1 => exact rfl); (case k2 => (refine X9 _ _ ?_; k_is)); (case k3 => decide); (case k5 | k6 | k7 => decide +kernel); (case k8 | k9 => exact rfl); (case k10 => decide)); intro d' h' F' N' l1 hds'))
local macro_rules | `(tactic| walk_at "call ref") => `(tactic| (k_here; k_dflt (refine' Tells.useStr (esc2 _ _ _ _ _ _ _ _ _ _ ?a ?b ?c) ?B ?F ?X ?N ?T ?hk ?hdp ?hun ?h; (case B | F | X | N | T => k_asm); (case a | b | c => assumption); (case hk => exact rfl); (case hdp | hun => (dsimp only [ktrTop]; omega))); intro t' h' tk' htk F' N'))
local macro_rules | `(tactic| walk_at "compareOp In str str") => `(tactic| (k_here; (first | refine in_sign (c := 34) (by decide +kernel) ?_ | refine in_sign (c := 39) (by decide +kernel) ?_)))
local macro_rules | `(tactic| walk_at "binaryOp Mod str str") => `(tactic| (k_here; (first | refine mod_dq ?_ ?_ | refine mod_sq ?_ ?_); (focus (first | exact Nat.le_trans (flatMap_len (esub_len (by decide)) _) (by omega) | exact Nat.le_trans (repl_le (Nat.le_trans (flatMap_len (esub_len (by decide)) _) (Nat.mul_le_mul_left 6 (by assumption))) (by decide) (by decide)) (by decide))); intro t' k'))
noncomputable def quoL (l : List Nat) : List Nat :=
  if 34 ∈ l.flatMap (esub QP) then
    if 39 ∈ l.flatMap (esub QP) then 34 :: repl [34] [38, 113, 117, 111, 116, 59] 0 (l.flatMap (esub QP)) ++ [34] else 39 :: l.flatMap (esub QP) ++ [39]
  else 34 :: l.flatMap (esub QP) ++ [34]
theorem quo : ∀ (w : World) (mean : ExcName → Option Value) (mg mb : Str → Option Value) (news : List (Addr × Obj)) (l : List Nat) (t : Tok), l.length ≤ 300 → Tells w mean mg mb 78 12 news [.str (tx l) t] (StrR (tx (quoL l))) := by
  unfold Tells
  k_fill
  intro w mean mg mb news l t hx dp un gd cn cs a ccd cl outer A₀ base h₀ L m s Q E B F X N T hk hdp hun hret
  (refine wpAny_call ?_; k_dflt (refine' code_def ?k1 ?k2 ?k3 ?k4 ?k5 ?kA ?kF ?kK ?k6 ?k7 ?k8 ?k9 ?kB ?_ ?c2 ?c3 ?c4 ?c5; (case kA | kF => exact rfl); (case kK => assumption); (case k1 | k2 | k3 | k4 | k5 => k_asm); (case k6 | k7 => k_is); (case k8 => ((simp only [depth_deeper, recursionLimit] at *); omega)); (case k9 => first | exact BindsTo.of_eq rfl | exact binds_K (by k_in) rfl (by k_is) rfl rfl rfl); (case c5 => decide); (case kB => exact locs rfl); (case c2 | c3 | c4 => exact rfl); k_whole; intro g'_z L'_z h'_z FG'_z F'_z N'_z B'_z X'_z T'_z; (try dsimp only); (try k_lift B'_z); (try k_fold)); (refine gen_toks0 ?_ ?_; (focus (k_dflt (exact Nat.succ_pos _)))); intro tk_z htk_z)
  k_steps
  all_goals exact strR_end hret (congrArg tx (by unfold quoL; first | (rw [if_pos (by assumption), if_pos (by assumption)]; done) | (rw [if_pos (by assumption), if_pos (by assumption)]; rfl) | (rw [if_pos (by assumption), if_neg (by assumption)]; done) | (rw [if_neg (by assumption)]; done))) (by k_asm) (by k_asm) (fun p hp => List.mem_cons_of_mem _ hp) (by omega)
end Mine
end
theorem Mine.topOffE5 : True := by
  w_top off
  trivial

section
open PySem PySem.W PySem.W.X PyProof.Rows PySem.Calls
set_option maxRecDepth 100000
set_option maxHeartbeats 8000000
namespace Mine
local macro_rules | `(tactic| walk_at "execs cons") => `(tactic| (k_here; (with_reducible refine gen_toks ?_); intro tk htk))
local macro_rules | `(tactic| walk_at "execs nil") => `(tactic| (k_here; (with_reducible refine gen_toks ?_); intro tk htk))
local macro_rules | `(tactic| walk_at "mine len") => `(tactic| first | exact Nat.le_trans (by assumption) (by decide) | exact Nat.le_trans (repl_le (by assumption) (by decide) (by decide)) (by decide) | exact Nat.le_trans (repl_le (repl_le (by assumption) (by decide) (by decide)) (by decide) (by decide)) (by decide))
local macro_rules | `(tactic| walk_at "mine ne") => `(tactic| first | omega | (show @Ne Nat _ _; omega))
local macro_rules | `(tactic| walk_at "mine rs") => `(tactic| exact ⟨by decide +kernel, by decide +kernel, by decide, by walk_at "mine ne", by walk_at "mine ne", by walk_at "mine ne", by decide, by walk_at "mine len", by decide⟩)
local macro_rules | `(tactic| walk_at "call builtin:str.replace") => `(tactic| (k_here; walk_at "mine rp"; intro t' k' hk'; (dsimp only at hk'); (have htk : 0 < k' := by omega); clear hk'))
local macro_rules | `(tactic| walk_at "mine rp") => `(tactic| first | refine repl_callB (y := [38, 108, 116, 59]) (z := [60]) (by walk_at "mine rs") ?_ | refine repl_callB (y := [38, 103, 116, 59]) (z := [62]) (by walk_at "mine rs") ?_ | refine repl_callB (y := [38, 97, 109, 112, 59]) (z := [38]) (by walk_at "mine rs") ?_)
local macro_rules | `(tactic| walk_at "truthy ref") => `(tactic| (k_here; k_dflt (refine' truthy_K0 ?k1 ?k2 ?k3 (by decide) ?_; (case k1 | k2 => k_asm); (case k3 => k_is))))
noncomputable def unesc (l : List Nat) : List Nat := repl [38, 97, 109, 112, 59] [38] 0 (repl [38, 103, 116, 59] [62] 0 (repl [38, 108, 116, 59] [60] 0 l))
theorem une : ∀ (w : World) (mean : ExcName → Option Value) (mg mb : Str → Option Value) (news : List (Addr × Obj)) (l : List Nat) (t : Tok), l.length ≤ 1000 → Tells w mean mg mb 69 13 news [.str (tx l) t] (StrR (tx (unesc l))) := by
  unfold Tells
  k_fill
  intro w mean mg mb news l t hx dp un gd cn cs a ccd cl outer A₀ base h₀ L m s Q E B F X N T hk hdp hun hret
  (refine wpAny_call ?_; k_dflt (refine' code_def ?k1 ?k2 ?k3 ?k4 ?k5 ?kA ?kF ?kK ?k6 ?k7 ?k8 ?k9 ?kB ?_ ?c2 ?c3 ?c4 ?c5; (case kA | kF => exact rfl); (case kK => assumption); (case k1 | k2 | k3 | k4 | k5 => k_asm); (case k6 | k7 => k_is); (case k8 => ((simp only [depth_deeper, recursionLimit] at *); omega)); (case k9 => first | exact BindsTo.of_eq rfl | exact binds_K (by k_in) rfl (by k_is) rfl rfl rfl); (case c5 => decide); (case kB => exact locs rfl); (case c2 | c3 | c4 => exact rfl); k_whole; intro g'_z L'_z h'_z FG'_z F'_z N'_z B'_z X'_z T'_z; (try dsimp only); (try k_lift B'_z); (try k_fold)); (refine gen_toks0 ?_ ?_; (focus (k_dflt (exact Nat.succ_pos _)))); intro tk_z htk_z)
  k_steps
  trace_state
  exact strR_end hret rfl (by k_asm) (by k_asm) (fun p hp => hp) (by omega)
end Mine
end
theorem Mine.topOffE6 : True := by
  w_top off
  trivial

section
open PySem PySem.W PySem.W.X PyProof.Rows PySem.Calls
set_option maxRecDepth 100000
set_option maxHeartbeats 4000000
namespace Mine
open LCg

/-- two lists side by side -/
inductive All2 {α β : Type} (R : α → β → Prop) : List α → List β → Prop
  | nil : All2 R [] []
  | cons {a : α} {b : β} {as : List α} {bs : List β} : R a b → All2 R as bs → All2 R (a :: as) (b :: bs)
theorem All2.length {α β : Type} {R : α → β → Prop} : ∀ {as : List α} {bs : List β}, All2 R as bs → as.length = bs.length
  | _, _, .nil => rfl
  | _, _, .cons _ r => by rw [List.length_cons, List.length_cons, r.length]
theorem All2.append {α β : Type} {R : α → β → Prop} : ∀ {as : List α} {bs : List β} {cs : List α} {ds : List β}, All2 R as bs → All2 R cs ds → All2 R (as ++ cs) (bs ++ ds)
  | _, _, _, _, .nil, k => k
  | _, _, _, _, .cons h r, k => .cons h (r.append k)
theorem All2.get {α β : Type} {R : α → β → Prop} : ∀ {as : List α} {bs : List β}, All2 R as bs → ∀ {i : Nat} {b : β}, bs[i]? = some b → ∃ a, as[i]? = some a ∧ R a b
  | _, _, .nil, i, b, h => by simp at h
  | _, _, .cons h r, 0, b, e => by simp at e; subst e; exact ⟨_, rfl, h⟩
  | _, _, .cons h r, i + 1, b, e => by simp at e; obtain ⟨a, h1, h2⟩ := r.get e; exact ⟨a, by simpa using h1, h2⟩
/-- texts, one by one -/
theorem strs_of {α : Type} {g : α → List Nat} : ∀ {as : List α} {ys : List Value}, All2 (fun a y => ∃ t, y = .str (tx (g a)) t) as ys → StrsAre ys (as.map fun a => tx (g a))
  | _, _, .nil => .nil
  | _, _, .cons h r => by
    obtain ⟨t, rfl⟩ := h
    exact .cons _ t (strs_of r)
theorem join_empty : ∀ ls : List (List Nat), PySem.Txt.join (Str.ofString "") (ls.map tx) = tx ls.flatten := by
  intro ls
  show Builtin.Str.glued (Str.ofString "") (ls.map tx) = _
  rw [StrLaws.glued_eq_join]
  have e0 : Str.ofString "" = tx [] := by decide +kernel
  rw [e0]
  induction ls with
  | nil => rfl
  | cons a r ih =>
    cases r with
    | nil => simp [PySem.Str.join]
    | cons b r =>
      have : PySem.Str.join (tx []) ((a :: b :: r).map tx) = tx a ++ tx [] ++ PySem.Str.join (tx []) ((b :: r).map tx) := rfl
      rw [this, ih, tx_append, tx_append]
      simp
section
variable {prog : Program} {w : World} {A : Around} {E : Value → Shared → Prop} {s : Shared}
theorem join_call {α : Type} {g : α → List Nat} {as : List α} {ys : List Value} {D : Addr} {t : Tok} {Q : Value → Shared → Prop} (hl : s.heap.IsList D ys.toArray) (hs : All2 (fun a y => ∃ t, y = .str (tx (g a)) t) as ys)
    (hB : ∀ a ∈ as, (g a).length ≤ 10) (hn : as.length ≤ 1048576) (h : ∀ t' k, Q (.str (tx (as.flatMap g)) t') { s with toks := k }) : wpAny (model prog w) A (call (.builtin "str.join") [.str (Str.ofString "") t, .ref D]) Q E s := by
  have hc := (strs_of hs).carried
  rw [List.map_map] at hc
  refine KT.join_B (l := as) (g := fun a => tx (g a)) 10 hl hc (fun a ha => by rw [tx_length]; exact hB a ha) hn (by decide) fun t' k => ?_
  have e : PySem.Txt.join (Str.ofString "") (as.map fun a => tx (g a)) = tx (as.flatMap g) := by
    have := join_empty (as.map g)
    rw [List.map_map] at this
    rw [List.flatMap_def]
    exact this
  rw [e]
  exact h t' k
end

section
variable {prog : Program} {w : World} {A : Around} {E : Value → Shared → Prop} {s : Shared} {h₀ : Heap} {L : Addr} {m : PySem.Str → Option Value} {env : Env}

/-- a comprehension's source that is a text -/
noncomputable def CompSrcX (prog : Program) (w : World) (A : Around) (h₀ : Heap) (L : Addr) (m : PySem.Str → Option Value) (env : Env) (elt : Expr) (x : PySem.Str) (scope : Scope) (cl : List (PySem.Str × Addr)) (Fin : Shared → List Value → List (Addr × Obj) → Prop) (xv : Value) (s₁ : Shared) : Prop :=
  ∃ l t news, xv = .str (tx l) t ∧ A.handled = none ∧ Fr h₀ L s₁.heap m ∧ News h₀ L s₁.heap news ∧ l.length ≤ sizeLine ∧
    ∀ s₂ : Shared, (∃ h, s₂ = { s₁ with heap := h }) → CompRest prog w A h₀ L m env elt x scope cl s₂ (fun _ => True) (fun i v => ∃ c u, l[i]? = some c ∧ v = .str (tx [c]) u) (Fin s₂) l.length 0 [] news
theorem CompSrcX.intro {elt : Expr} {x : PySem.Str} {scope : Scope} {cl : List (PySem.Str × Addr)} {Fin : Shared → List Value → List (Addr × Obj) → Prop} {l : List Nat} {t : Tok} {news : List (Addr × Obj)} {s₁ : Shared}
    (hh : A.handled = none) (F : Fr h₀ L s₁.heap m) (N : News h₀ L s₁.heap news) (hsz : l.length ≤ sizeLine)
    (h : ∀ g, CompRest prog w A h₀ L m env elt x scope cl { s₁ with heap := g } (fun _ => True) (fun i v => ∃ c u, l[i]? = some c ∧ v = .str (tx [c]) u) (Fin { s₁ with heap := g }) l.length 0 [] news) :
    CompSrcX prog w A h₀ L m env elt x scope cl Fin (.str (tx l) t) s₁ := ⟨l, t, news, rfl, hh, F, N, hsz, fun _ ⟨g, e⟩ => e ▸ h g⟩

theorem sign_walk {I : Addr} {l : List Nat} {A' : Around} {St : Nat → Heap → Prop} (W : Walks prog w A' I [I] [I] (tx l).cps.size (SignAt (tx l)) St) : Walks prog w A' I [I] [I] l.length (fun i v => ∃ c u, l[i]? = some c ∧ v = .str (tx [c]) u) St := by
  have e : (tx l).cps.size = l.length := by simp [tx]
  rw [e] at W
  refine W.weaken ?_
  rintro i v ⟨c, u, h, rfl⟩
  exact ⟨c, u, by simpa [tx] using h, rfl⟩

theorem iter_text {l : List Nat} {t : Tok} {Q : Value → Shared → Prop}
    (hQ : ∀ (o : Obj) (St : Nat → Heap → Prop), (∀ A' : Around, A'.handled = none → Walks prog w A' s.heap.objs.size [s.heap.objs.size] [s.heap.objs.size] l.length (fun i v => ∃ c u, l[i]? = some c ∧ v = .str (tx [c]) u) St) →
      (∀ i h, St i h → ∃ o, h.get? s.heap.objs.size = some o) → St 0 (s.heap.push o) → Q (.ref s.heap.objs.size) { s with heap := s.heap.push o }) : wpAny (model prog w) A (pyIter (.str (tx l) t)) Q E s := by
  cases ha : (tx l).cps.all (· < 128)
  · exact wpAny_pyIter_wide ha (hQ _ _ (fun A' hA => sign_walk (Walks.strWide hA _ (tx l) t)) (fun i h st => let ⟨o, e, _⟩ := st; ⟨o, e⟩) ⟨_, Heap.get?_push_size _ rfl, rfl, rfl⟩)
  · exact wpAny_pyIter_ascii ha (hQ _ _ (fun A' hA => sign_walk (Walks.strAscii hA _ (tx l) t)) (fun i h st => let ⟨o, e, _⟩ := st; ⟨o, e⟩) ⟨_, Heap.get?_push_size _ rfl, rfl, rfl⟩)

theorem ListComp_X {elt iter : Expr} {x : PySem.Str} {px : Pos} {scope : Scope} {cl : List (PySem.Str × Addr)} {pos : Pos} {Q : Value → Shared → Prop} (F₀ : Fr h₀ L s.heap m)
    (hclos : closureFor scope env = pure cl) (hcell : ∀ y ∈ scope.names, y.2 ≠ .cell) (hkind : scope.kind = .function)
    (hnames : ∀ y ∈ scope.names, y.2 = .local → scope.names.lookup y.1 = some .local) (hx : scope.names.lookup x = some .local)
    (h : wpAny (model prog w) A (eval iter env) (CompSrcX prog w A h₀ L m env elt x scope cl (fun s₂ => FinE h₀ L m s₂ Q)) E s)
    (hs : ∀ x, foldedSetIterable iter env x = pure x := by intro _; rfl) :
    wpAny (model prog w) A (eval (.ListComp elt [⟨.Name x px, iter, [], 0⟩] scope pos) env) Q E s := by
  rw [eval_ListComp]
  refine wpAny_comprehension_free (use := none) rfl hs hclos hkind hnames (wpAny_mono h (fun xv s₁ h₁ => ?_) fun _ _ e => e)
  obtain ⟨l, t, news, rfl, hh, F, N, hsz, R⟩ := h₁
  refine iter_text fun o St hW hIo hst => ?_
  have W := hW A hh
  have hfr : ∀ i (h h' : Heap) (o : Obj) (nw : List (Addr × Obj)), St i h → h.get? s₁.heap.objs.size = some o → h'.get? s₁.heap.objs.size = some o → (∀ b o, h₀.get? b = some o → h'.get? b = some o) → News h₀ L h' nw → True → St i h' :=
    fun i h h' o nw st e e' _ _ _ => W.frame i h h' st fun b hb o' q => by rw [List.mem_singleton.mp hb] at q ⊢; rw [e] at q; cases q; exact e'
  refine block_U (S := fun _ => True) W hsz hIo hfr hcell hkind hx hst (fun b hb => ?_)
    (F.keeps fun _ _ e => Heap.get?_push_of_some _ e) (N.grown fun _ _ e => Heap.get?_push_of_some _ e) (Nat.ne_of_lt F.ns.lt) (next_is_new F) (fun p hp => Nat.ne_of_lt (Heap.lt_size (N p hp).1)) trivial (R _ ⟨_, rfl⟩) ?_
  · rw [List.mem_singleton.mp hb]
    show s₁.heap.objs.size < (s₁.heap.push _).objs.size
    rw [Heap.size_push]; exact Nat.lt_succ_self _
  · intro D C h tk m' ys news' F' N' o1 hn hC₀ hD₀ hCL hDL hCD offC fin
    refine ⟨m', hn, fun h'' hs'' => fin D h'' tk (F'.change hs'' hCL hC₀) (fun p hp => ?_) o1⟩
    refine ⟨hs''.extBut _ _ ?_ (N' p hp).1, (N' p hp).2⟩
    rcases List.mem_cons.mp hp with rfl | hp
    · exact Ne.symm hCD
    · exact offC p hp

theorem Assign_ListComp_X {elt iter : Expr} {x y : PySem.Str} {px py : Pos} {scope : Scope} {cl : List (PySem.Str × Addr)} {pos spos : Pos} {Q : Flow → Shared → Prop} (_F₀ : Fr h₀ L s.heap m) (hLe : env.locals = L)
    (hsw : swapsWith (.ListComp elt [⟨.Name x px, iter, [], 0⟩] scope pos) (some (.Name y py)) spos.line env = pure true)
    (hclos : closureFor scope env = pure cl) (hcell : ∀ z ∈ scope.names, z.2 ≠ .cell) (hkind : scope.kind = .function)
    (hnames : ∀ z ∈ scope.names, z.2 = .local → scope.names.lookup z.1 = some .local) (hx : scope.names.lookup x = some .local)
    (hy : env.kindOf y = some .local) (hp : (env.scope.kind == .class || (env.scope.kind == .module && env.locals != env.globals)) = false)
    (h : wpAny (model prog w) A (eval iter env) (CompSrcX prog w A h₀ L m env elt x scope cl (fun s₂ => FinA h₀ L m s₂ y Q)) E s)
    (hs : ∀ x, foldedSetIterable iter env x = pure x := by intro _; rfl) :
    wpAny (model prog w) A (exec (.Assign [.Name y py] (.ListComp elt [⟨.Name x px, iter, [], 0⟩] scope pos) spos) env) Q E s := by
  subst hLe
  rw [exec_Assign_Name_used _ _ _ _ hsw]
  refine wpAny_bind (wpAny_standAt (wpAny_bind ?_))
  show wpAny _ A (do let _ ← comprehension (.ListComp elt [⟨.Name x px, iter, [], 0⟩] scope pos) scope env _ (newList []) false (eval iter env) (some (assign (.Name y py) env))) _ _ s
  refine wpAny_bind (wpAny_mono (wpAny_comprehension_free (use := some (assign (.Name y py) env)) (Q := fun _ s' => Q .next s') rfl hs hclos hkind hnames
    (wpAny_mono h (fun xv s₁ h₁ => ?_) fun _ _ e => e)) (fun _ s' hq => wpAny_pure (wpAny_pure hq)) fun _ _ e => e)
  obtain ⟨l, t, news, rfl, hh, F, N, hsz, R⟩ := h₁
  refine iter_text fun o St hW hIo hst => ?_
  have W := hW A hh
  have hfr : ∀ i (h h' : Heap) (o : Obj) (nw : List (Addr × Obj)), St i h → h.get? s₁.heap.objs.size = some o → h'.get? s₁.heap.objs.size = some o → (∀ b o, h₀.get? b = some o → h'.get? b = some o) → News h₀ env.locals h' nw → True → St i h' :=
    fun i h h' o nw st e e' _ _ _ => W.frame i h h' st fun b hb o' q => by rw [List.mem_singleton.mp hb] at q ⊢; rw [e] at q; cases q; exact e'
  refine block_U (S := fun _ => True) W hsz hIo hfr hcell hkind hx hst (fun b hb => ?_)
    (F.keeps fun _ _ e => Heap.get?_push_of_some _ e) (N.grown fun _ _ e => Heap.get?_push_of_some _ e) (Nat.ne_of_lt F.ns.lt) (next_is_new F) (fun p hp => Nat.ne_of_lt (Heap.lt_size (N p hp).1)) trivial (R _ ⟨_, rfl⟩) ?_
  · rw [List.mem_singleton.mp hb]
    show s₁.heap.objs.size < (s₁.heap.push _).objs.size
    rw [Heap.size_push]; exact Nat.lt_succ_self _
  · intro D C h' tk m' ys news' F' N' o1 hn hC₀ hD₀ hCL hDL hCD offC fin
    show wpAny _ A (assign (.Name y py) env (.ref D)) _ _ _
    refine wpAny_assign_Name (wpAny_storeName_local hy F'.ns (fun h₂ hn₂ hs₂ => ?_) hp)
    have F₂ := F'.set hn₂ hs₂
    refine ⟨m', hn.sameBut hs₂ hCL, fun h'' hs'' => fin D h'' _ (F₂.change hs'' hCL hC₀) (fun p hp => ?_) o1⟩
    have z : h₂.get? p.1 = some p.2 := hs₂.extBut _ _ (N' p hp).2.1 (N' p hp).1
    refine ⟨hs''.extBut _ _ ?_ z, (N' p hp).2⟩
    rcases List.mem_cons.mp hp with rfl | hp
    · exact Ne.symm hCD
    · exact offC p hp

/-- what an element of a comprehension must be: no new object stands behind it -/
noncomputable def ElIs (news : List (Addr × Obj)) (R : Value → Prop) (y : Value) (news' : List (Addr × Obj)) : Prop := news' = news ∧ R y
theorem ElIs.intro {news : List (Addr × Obj)} {R : Value → Prop} {y : Value} (h : R y) : ElIs news R y news := ⟨rfl, h⟩
theorem rest_rel {α : Type} {elt : Expr} {x : PySem.Str} {scope : Scope} {cl : List (PySem.Str × Addr)} {S : List (Addr × Obj) → Prop} {P : Nat → Value → Prop} {Fin : List Value → List (Addr × Obj) → Prop} {news : List (Addr × Obj)} {n : Nat} {as : List α} (Src El : α → Value → Prop)
    (hn : as.length = n) (hP : ∀ i v, P i v → ∃ a, as[i]? = some a ∧ Src a v)
    (turn : ∀ a v I oI C oC D m₂ ys h tk (E' : Value → Shared → Prop), a ∈ as → Src a v → LCg.NsObj oC m₂ → m₂ x = some v → Fr h₀ L h m → News h₀ L h ((I, oI) :: (C, oC) :: (D, LCg.lst ys) :: news) → LCg.Off3 I C D news → ((@Ne Nat I C) ∧ (@Ne Nat I D) ∧ (@Ne Nat C D)) → S news →
      wpAny (model prog w) A (eval elt (compEnvC scope cl C env)) (LCg.CompEnd h₀ L m { s with heap := h, toks := tk } I oI C oC D (LCg.lst ys) S (ElIs news (El a))) E' { s with heap := h, toks := tk })
    (hS : S news) (fin : ∀ ys, All2 El as ys → Fin ys news) : LCg.CompRest prog w A h₀ L m env elt x scope cl s S P Fin n 0 [] news := by
  have key : ∀ (j i : Nat) (ys : List Value), i + j = n → All2 El (as.take i) ys → LCg.CompRest prog w A h₀ L m env elt x scope cl s S P Fin j i ys news := by
    intro j
    induction j with
    | zero =>
      intro i ys hi hy
      have e : i = as.length := by omega
      subst e
      rw [List.take_length] at hy
      exact LCg.CompRest.zero (fin ys hy)
    | succ j ih =>
      intro i ys hi hy
      refine LCg.CompRest.succ ?_
      intro v I oI C oC D m₂ h tk E' hv hC hx F N off ne
      obtain ⟨a, ha, hsrc⟩ := hP i v hv
      refine wpAny_mono (turn a v I oI C oC D m₂ ys h tk E' (List.mem_of_getElem? ha) hsrc hC hx F N off ne hS) (fun y s₂ hq => ?_) fun _ _ e => e
      obtain ⟨h', tk', nw, e, F', N', off', hS', hnw, hel⟩ := hq
      subst hnw
      refine ⟨h', tk', _, e, F', N', off', hS', ?_⟩
      refine ih (i + 1) _ (by omega) ?_
      rw [List.take_add_one, ha]
      exact hy.append (.cons hel .nil)
  exact key n 0 [] (by omega) (by rw [List.take_zero]; exact .nil)
end
end Mine
end
theorem Mine.topOffCm : True := by
  w_top off
  trivial

section
open PySem PySem.W PySem.W.X PyProof.Rows PySem.Calls
set_option maxRecDepth 100000
set_option maxHeartbeats 8000000
namespace Mine
local macro_rules | `(tactic| walk_at "execs cons") => `(tactic| (k_here; (with_reducible refine gen_toks ?_); intro tk htk))
local macro_rules | `(tactic| walk_at "execs nil") => `(tactic| (k_here; (with_reducible refine gen_toks ?_); intro tk htk))
local macro_rules | `(tactic| walk_at "eval ListComp") => `(tactic| (k_here; k_dflt (refine ListComp_X (F₀ := by k_asm) (by with_unfolding_all rfl) (by decide) (by rfl) (by decide) (by rfl) ?_)))
theorem tx_one {c k : Nat} : (tx [k] = tx [c]) ↔ k = c := ⟨fun h => by have := tx_inj h; simpa using this, fun h => by rw [h]⟩
theorem esc_look (t1 u1 t2 u2 t3 u3 : Tok) (c : Nat) : (PySem.Spec.lookup (PyData.str (tx [c])) (strData [(Value.str (Str.ofString "&") t1, Value.str (Str.ofString "&amp;") u1), (Value.str (Str.ofString "<") t2, Value.str (Str.ofString "&lt;") u2), (Value.str (Str.ofString ">") t3, Value.str (Str.ofString "&gt;") u3)])).getD (PyData.str (tx [c])) = PyData.str (tx (esub EP c)) := by
  have e1 : Str.ofString "&" = tx [38] := by decide +kernel
  have e2 : Str.ofString "<" = tx [60] := by decide +kernel
  have e3 : Str.ofString ">" = tx [62] := by decide +kernel
  have f1 : Str.ofString "&amp;" = tx [38, 97, 109, 112, 59] := by decide +kernel
  have f2 : Str.ofString "&lt;" = tx [38, 108, 116, 59] := by decide +kernel
  have f3 : Str.ofString "&gt;" = tx [38, 103, 116, 59] := by decide +kernel
  rw [e1, e2, e3, f1, f2, f3]
  show ((if PySem.Spec.same (PyData.str (tx [38])) (PyData.str (tx [c])) = true then some (PyData.str (tx [38, 97, 109, 112, 59])) else if PySem.Spec.same (PyData.str (tx [60])) (PyData.str (tx [c])) = true then some (PyData.str (tx [38, 108, 116, 59])) else if PySem.Spec.same (PyData.str (tx [62])) (PyData.str (tx [c])) = true then some (PyData.str (tx [38, 103, 116, 59])) else none).getD (PyData.str (tx [c]))) = _
  simp only [PyProof.V.same_str, tx_one, decide_eq_true_eq]
  by_cases h1 : c = 38
  · subst h1; simp [esub, List.lookup]
  · by_cases h2 : c = 60
    · subst h2; simp [esub, List.lookup]
    · by_cases h3 : c = 62
      · subst h3; simp [esub, List.lookup]
      · have a1 : (c == 38) = false := by simpa using h1
        have a2 : (c == 60) = false := by simpa using h2
        have a3 : (c == 62) = false := by simpa using h3
        rw [if_neg (Ne.symm h1), if_neg (Ne.symm h2), if_neg (Ne.symm h3)]
        simp [esub, List.lookup, a1, a2, a3]
theorem flat_str {v : Value} {d : PyData} {x : PySem.Str} (h : PyProof.V.Flat v d) (e : d = PyData.str x) : ∃ t, v = .str x t := by
  subst e
  exact PyProof.V.Flat.str_inv h
theorem off_cons {I C D : Addr} {l : List (Addr × Obj)} (h : LCg.Off3 I C D l) : LCg.Off3 I C D l := h
theorem lesc : ∀ (w : World) (mean : ExcName → Option Value) (mg mb : Str → Option Value) (news : List (Addr × Obj)) (l : List Nat) (t : Tok), l.length ≤ 2000 → TellsW w mean mg mb 93 12 news [.str (tx l) t] (StrR (tx (l.flatMap (esub EP)))) := by
  unfold TellsW
  k_fill
  intro w mean mg mb news l t hx dp un gd cn cs a ccd cl outer A₀ base h₀ L m s Q E B F X N T hk hdp hun hret
  (refine wpAny_call ?_; k_dflt (refine' code_def ?k1 ?k2 ?k3 ?k4 ?k5 ?kA ?kF ?kK ?k6 ?k7 ?k8 ?k9 ?kB ?_ ?c2 ?c3 ?c4 ?c5; (case kA | kF => exact rfl); (case kK => assumption); (case k1 | k2 | k3 | k4 | k5 => k_asm); (case k6 | k7 => k_is); (case k8 => ((simp only [depth_deeper, recursionLimit] at *); omega)); (case k9 => first | exact BindsTo.of_eq rfl | exact binds_K (by k_in) rfl (by k_is) rfl rfl rfl); (case c5 => decide); (case kB => exact locs rfl); (case c2 | c3 | c4 => exact rfl); k_whole; intro g'_z L'_z h'_z FG'_z F'_z N'_z B'_z X'_z T'_z; (try dsimp only); (try k_lift B'_z); (try k_fold)); (refine gen_toks0 ?_ ?_; (focus (k_dflt (exact Nat.succ_pos _)))); intro tk_z htk_z)
  k_steps
  (k_dflt (refine CompSrcX.intro (by rfl) (by k_asm) (by k_asm) (by rw [sizeLine_eq]; omega) ?_))
  intro g9
  refine rest_rel (as := l) (fun c v => ∃ u, v = .str (tx [c]) u) (fun c y => ∃ t, y = .str (tx (esub EP c)) t) rfl (fun i v h => by obtain ⟨c, u, h1, h2⟩ := h; exact ⟨c, h1, u, h2⟩) ?turn trivial ?fin
  case turn =>
    rintro c v I oI C oC D m₂ ys h tk E' hc ⟨u, rfl⟩ hC hx' F' N' off ne -
    (try dsimp only)
    k_fold
    k_steps
    rename PyProof.V.Flat _ _ => hv
    exact LCg.CompEnd.intro (by k_asm) (by k_asm) news (fun p hp => List.mem_cons_of_mem _ hp) off trivial (ElIs.intro (flat_str hv (esc_look _ _ _ _ _ _ c)))
  case fin =>
    intro ys hys
    k_steps
    refine join_call (g := esub EP) (News.isList (by k_asm) (List.Mem.head _)) hys (fun a _ => Nat.le_trans (esub_len (by decide) a) (by decide)) (by omega) fun t' k => ?_
    k_steps
    exact strW_end hret rfl (by k_asm) (by k_asm) (fun p hp => List.mem_cons_of_mem _ hp)
end Mine
end
theorem Mine.topOffE7 : True := by
  w_top off
  trivial

section
open PySem PySem.W PySem.W.X PyProof.Rows PySem.Calls
set_option maxRecDepth 100000
set_option maxHeartbeats 8000000
namespace Mine
local macro_rules | `(tactic| walk_at "execs cons") => `(tactic| (k_here; (with_reducible refine gen_toks ?_); intro tk htk))
local macro_rules | `(tactic| walk_at "execs nil") => `(tactic| (k_here; (with_reducible refine gen_toks ?_); intro tk htk))
local macro_rules | `(tactic| walk_at "exec Assign cons ListComp") => `(tactic| (k_here; k_dflt (refine Assign_ListComp_X (_F₀ := by k_asm) (by rfl) (by with_unfolding_all rfl) (by with_unfolding_all rfl) (by decide) (by rfl) (by decide) (by rfl) (by rfl) (by rfl) ?_)))
theorem all_ne {news : List (Addr × Obj)} {b d : Addr} (h : ∀ p ∈ news, p.1 < b) (hb : @LE.le Nat _ b d) : ∀ p ∈ news, p.1 ≠ d := fun p hp => Nat.ne_of_lt (Nat.lt_of_lt_of_le (h p hp) hb)
local macro_rules | `(tactic| k_all) => `(tactic| exact all_ne (by assumption) (by omega))
local macro_rules | `(tactic| walk_at "compareOp In str str") => `(tactic| (k_here; (first | refine in_sign (c := 34) (by decide +kernel) ?_ | refine in_sign (c := 39) (by decide +kernel) ?_)))
local macro_rules | `(tactic| walk_at "compareOp NotIn str str") => `(tactic| (k_here; (first | refine notin_sign (c := 34) (by decide +kernel) ?_ | refine notin_sign (c := 39) (by decide +kernel) ?_)))
noncomputable def markL (l : List Nat) : Nat := if 34 ∈ l then if 39 ∈ l then 34 else 39 else 34
noncomputable def attF (k c : Nat) : List Nat := if c = 38 ∨ c = 60 ∨ c = 62 ∨ c = 10 then esub QP c else if c = k then [38, 113, 117, 111, 116, 59] else [c]
noncomputable def attL (l : List Nat) : List Nat := markL l :: l.flatMap (attF (markL l)) ++ [markL l]
noncomputable abbrev wr4 (t1 u1 t2 u2 t3 u3 t4 u4 : Tok) : List (PyData × PyData) := strData [(Value.str (Str.ofString "&") t1, Value.str (Str.ofString "&amp;") u1), (Value.str (Str.ofString "<") t2, Value.str (Str.ofString "&lt;") u2), (Value.str (Str.ofString ">") t3, Value.str (Str.ofString "&gt;") u3), (Value.str (Str.ofString "\n") t4, Value.str (Str.ofString "&#10;") u4)]
theorem of_amp : Str.ofString "&" = tx [38] := by decide +kernel
theorem of_lt : Str.ofString "<" = tx [60] := by decide +kernel
theorem of_gt : Str.ofString ">" = tx [62] := by decide +kernel
theorem of_nl : Str.ofString "\n" = tx [10] := by decide +kernel
theorem wr_some (t1 u1 t2 u2 t3 u3 t4 u4 : Tok) (c : Nat) : (PySem.Spec.lookup (PyData.str (tx [c])) (wr4 t1 u1 t2 u2 t3 u3 t4 u4)).isSome = decide (c = 38 ∨ c = 60 ∨ c = 62 ∨ c = 10) := by
  show (if PySem.Spec.same (PyData.str (Str.ofString "&")) (PyData.str (tx [c])) = true then some _ else if PySem.Spec.same (PyData.str (Str.ofString "<")) (PyData.str (tx [c])) = true then some _ else if PySem.Spec.same (PyData.str (Str.ofString ">")) (PyData.str (tx [c])) = true then some _ else if PySem.Spec.same (PyData.str (Str.ofString "\n")) (PyData.str (tx [c])) = true then some _ else none).isSome = _
  rw [of_amp, of_lt, of_gt, of_nl]
  simp only [PyProof.V.same_str, tx_one, decide_eq_true_eq]
  by_cases h1 : c = 38
  · subst h1; simp
  · by_cases h2 : c = 60
    · subst h2; simp
    · by_cases h3 : c = 62
      · subst h3; simp
      · by_cases h4 : c = 10
        · subst h4; simp
        · rw [if_neg (Ne.symm h1), if_neg (Ne.symm h2), if_neg (Ne.symm h3), if_neg (Ne.symm h4)]
          simp [h1, h2, h3, h4]
theorem att_amp {c k : Nat} (h : tx [c] = Str.ofString "&") : Str.ofString "&amp;" = tx (attF k c) := by
  rw [of_amp] at h; obtain rfl := tx_one.mp h; unfold attF; rw [if_pos (by decide)]; decide +kernel
theorem att_lt {c k : Nat} (h : tx [c] = Str.ofString "<") : Str.ofString "&lt;" = tx (attF k c) := by
  rw [of_lt] at h; obtain rfl := tx_one.mp h; unfold attF; rw [if_pos (by decide)]; decide +kernel
theorem att_gt {c k : Nat} (h : tx [c] = Str.ofString ">") : Str.ofString "&gt;" = tx (attF k c) := by
  rw [of_gt] at h; obtain rfl := tx_one.mp h; unfold attF; rw [if_pos (by decide)]; decide +kernel
theorem att_nl {c k : Nat} (h : tx [c] = Str.ofString "\n") : Str.ofString "&#10;" = tx (attF k c) := by
  rw [of_nl] at h; obtain rfl := tx_one.mp h; unfold attF; rw [if_pos (by decide)]; decide +kernel
theorem att_no {t1 u1 t2 u2 t3 u3 t4 u4 : Tok} {c : Nat} (h : (PySem.Spec.lookup (PyData.str (tx [c])) (wr4 t1 u1 t2 u2 t3 u3 t4 u4)).isSome = true) (h1 : ¬ tx [c] = Str.ofString "&") (h2 : ¬ tx [c] = Str.ofString "<") (h3 : ¬ tx [c] = Str.ofString ">") (h4 : ¬ tx [c] = Str.ofString "\n") : False := by
  rw [wr_some, decide_eq_true_eq] at h
  rcases h with rfl | rfl | rfl | rfl
  · exact h1 of_amp.symm
  · exact h2 of_lt.symm
  · exact h3 of_gt.symm
  · exact h4 of_nl.symm
theorem att_mark {t1 u1 t2 u2 t3 u3 t4 u4 : Tok} {c k : Nat} (h : (PySem.Spec.lookup (PyData.str (tx [c])) (wr4 t1 u1 t2 u2 t3 u3 t4 u4)).isSome = false) (h1 : (tx [c] == tx [k]) = true) : Str.ofString "&quot;" = tx (attF k c) := by
  rw [wr_some, decide_eq_false_iff_not] at h
  obtain rfl := tx_one.mp (eq_of_beq h1)
  unfold attF
  rw [if_neg h, if_pos rfl]; decide +kernel
theorem att_sign {t1 u1 t2 u2 t3 u3 t4 u4 : Tok} {c k : Nat} (h : (PySem.Spec.lookup (PyData.str (tx [c])) (wr4 t1 u1 t2 u2 t3 u3 t4 u4)).isSome = false) (h1 : (tx [c] == tx [k]) = false) : tx [c] = tx (attF k c) := by
  rw [wr_some, decide_eq_false_iff_not] at h
  have : c ≠ k := fun e => by rw [e] at h1; simp at h1
  unfold attF
  rw [if_neg h, if_neg this]
theorem str_is {x y : PySem.Str} {t : Tok} (e : x = y) : ∃ u, Value.str x t = .str y u := ⟨t, by rw [e]⟩
theorem attF_len {k c : Nat} : (attF k c).length ≤ 6 := by
  unfold attF
  split
  · exact esub_len (by decide) c
  · split
    · decide
    · exact Nat.le_add_left 1 5
theorem markL_or (l : List Nat) : markL l = 34 ∨ markL l = 39 := by
  unfold markL
  split
  · split
    · exact .inl rfl
    · exact .inr rfl
  · exact .inl rfl
noncomputable def MarkIs (l : List Nat) (s : Shared) (v : Value) (s' : Shared) : Prop := ∃ u k, v = .str (tx [markL l]) u ∧ s' = { s with toks := k }
theorem cut_mark {l : List Nat} (_ : l.length ≤ 300) {M : Model} {A : Around} {E : Value → Shared → Prop} {s : Shared} {t : Sem Value} {Q : Value → Shared → Prop} (h : wpAny M A t (MarkIs l s) (fun _ _ => False) s)
    (hq : ∀ u k, Q (.str (tx [markL l]) u) { s with toks := k }) : wpAny M A t Q E s :=
  wpAny_mono h (fun v s' x => by obtain ⟨u, k, rfl, rfl⟩ := x; exact hq u k) fun _ _ x => x.elim
theorem mark_end {l : List Nat} {s : Shared} {x : PySem.Str} {u : Tok} {k : Nat} (e : x = tx [markL l]) : MarkIs l s (.str x u) { s with toks := k } := ⟨u, k, by rw [e], rfl⟩
local macro_rules | `(tactic| walk_at "eval IfExp") => `(tactic| (k_here; (with_reducible show wpAny _ _ (eval (Expr.IfExp (Expr.BoolOp _ _ _) _ _ _) _) _ _ _); (fail_if_success (with_reducible show wpAny _ _ _ (MarkIs _ _) _ _)); (refine cut_mark (by assumption) ?_ ?_); rotate_left; (intro u' k'; dsimp only); rotate_left))
local macro_rules | `(tactic| walk_at "MarkIs") => `(tactic| (refine mark_end (by unfold markL; first | (rw [if_pos (by assumption), if_pos (by assumption)]; decide +kernel) | (rw [if_pos (by assumption), if_neg (by assumption)]; decide +kernel) | (rw [if_neg (by assumption)]; decide +kernel))))
local macro_rules | `(tactic| walk_at "execs cons") => `(tactic| (k_here; (with_reducible refine gen_toks ?_); intro tk htk; (try dsimp only at *)))
local macro_rules | `(tactic| walk_at "binaryOp Add str str") => `(tactic| (k_here; (refine add_tx ?_ ?_ ?_); (focus walk_at "mine alen"); (focus walk_at "mine alen"); intro t' k'; dsimp only))
local macro_rules | `(tactic| walk_at "mine alen") => `(tactic| first | exact Nat.le_of_ble_eq_true rfl | exact Nat.le_trans (flatMap_len (fun c => attF_len) _) (by omega) | ((simp only [List.length_append, List.length_cons, List.length_nil]); exact Nat.le_trans (Nat.add_le_add_left (flatMap_len (fun c => attF_len) _) _) (by omega)))
theorem latt : ∀ (w : World) (mean : ExcName → Option Value) (mg mb : Str → Option Value) (news : List (Addr × Obj)) (l : List Nat) (t : Tok), l.length ≤ 300 → TellsW w mean mg mb 88 12 news [.str (tx l) t] (StrR (tx (attL l))) := by
  unfold TellsW
  k_fill
  intro w mean mg mb news l t hx dp un gd cn cs a ccd cl outer A₀ base h₀ L m s Q E B F X N T hk hdp hun hret
  (refine wpAny_call ?_; k_dflt (refine' code_defC ?k1 ?k2 ?k3 ?k4 ?k5 ?kA ?kF ?kK ?k6 ?k7 ?k8 ?k9 ?kB ?kD ?_ ?c2 ?c3 ?c4; (case kA | kF => exact rfl); (case kK => assumption); (case k1 | k2 | k3 | k4 | k5 => k_asm); (case k6 | k7 => k_is); (case k8 => ((simp only [depth_deeper, recursionLimit] at *); omega)); (case k9 => first | exact BindsTo.of_eq rfl | exact binds_K (by k_in) rfl (by k_is) rfl rfl rfl); (case kB => exact rfl); (case kD => decide +kernel); (case c2 | c3 | c4 => exact rfl); k_whole; intro g'_z L'_z h'_z tk'_z cells'_z FG'_z F'_z N'_z Y'_z B'_z X'_z T'_z l1_z; (try k_lt l1_z); k_cells Y'_z; (try simp only [List.cons_append, List.nil_append] at N'_z); (try dsimp only); (try k_lift B'_z); (try k_fold)))
  k_steps
  (k_dflt (refine CompSrcX.intro (by rfl) (by k_asm) (by k_asm) (by rw [sizeLine_eq]; omega) ?_))
  intro g9
  dsimp only at *
  refine rest_rel (as := l) (fun c v => ∃ u, v = .str (tx [c]) u) (fun c y => ∃ t, y = .str (tx (attF (markL l) c)) t) rfl (fun i v h => by obtain ⟨c, u, h1, h2⟩ := h; exact ⟨c, h1, u, h2⟩) ?turn trivial ?fin
  case turn =>
    rintro c v I oI C oC D m₂ ys h tk E' hc ⟨u, rfl⟩ hC hx' F' N' off ne -
    (try dsimp only)
    k_fold
    k_steps
    all_goals first
      | (exfalso; exact att_no (by assumption) (by assumption) (by assumption) (by assumption) (by assumption))
      | exact LCg.CompEnd.intro (by k_asm) (by k_asm) _ (fun p hp => hp) off trivial (ElIs.intro (str_is (by first | exact att_amp (by assumption) | exact att_lt (by assumption) | exact att_gt (by assumption) | exact att_nl (by assumption) | exact att_mark (by assumption) (by assumption) | exact att_sign (by assumption) (by assumption))))
  case fin =>
    intro ys hys
    k_steps
    refine join_call (g := attF (markL l)) (News.isList (by k_asm) (List.Mem.head _)) hys (fun a _ => Nat.le_trans attF_len (by decide)) (by omega) fun t' k => ?_
    dsimp only
    k_steps
    exact strW_end hret (by unfold attL; rfl) (by k_asm) (by k_asm) (fun p hp => List.mem_cons_of_mem _ (List.mem_cons_of_mem _ (List.mem_cons_of_mem _ (List.mem_cons_of_mem _ hp))))
end Mine
end
theorem Mine.topOffE8 : True := by
  w_top off
  trivial

section
open PySem PySem.W PySem.W.X PyProof.Rows PySem.Calls
set_option maxRecDepth 100000
set_option maxHeartbeats 4000000
namespace Mine
open LCg
section
variable {prog : Program} {w : World} {A : Around} {E : Value → Shared → Prop} {s : Shared}

/-- a list of two is unpacked -/
theorem unpack_two {t : Addr} {v₁ v₂ : Value} {Q : List Value → Shared → Prop} (hh : A.handled = none) (hl : s.heap.IsList t #[v₁, v₂])
    (hQ : ∀ h', Heap.ExtBut s.heap.objs.size s.heap h' → Q [v₁, v₂] { s with heap := h' }) : wpAny (model prog w) A (unpackItems (.ref t) 2 none) Q E s := by
  have hlt : t ≠ s.heap.objs.size := by obtain ⟨o, ho, _⟩ := hl; exact Nat.ne_of_lt (Heap.lt_size ho)
  unfold unpackItems
  refine wpAny_bind ?_
  unfold notIterableAtAll
  refine wpAny_bind (wpAny_specialOf hl.typeIs PySem.slot_list_iter.lookup (wpAny_pure ?_))
  simp only [Bool.false_eq_true, if_false]
  refine wpAny_bind (wpAny_holding (wpAny_pyIter_list hl ?_))
  refine wpAny_bind (wpAny_holding ?_)
  show wpAny _ _ (pyNext (.ref s.heap.objs.size) >>= _) _ _ _
  refine wpAny_bind (wpAny_pyNext_list_item (x := v₁) ⟨_, Heap.get?_push_size _ rfl, rfl, rfl⟩ (hl.push _) rfl fun h₁ hit₁ hs₁ => ?_)
  have hl₁ := (hl.push { cls := .type "list_iterator", data := .fields #[.ref t, .int 0 0] }).extBut hs₁.extBut hlt
  refine wpAny_bind (wpAny_holding ?_)
  show wpAny _ _ (pyNext (.ref s.heap.objs.size) >>= _) _ _ _
  refine wpAny_bind (wpAny_pyNext_list_item (x := v₂) hit₁ hl₁ rfl fun h₂ hit₂ hs₂ => ?_)
  have hl₂ := hl₁.extBut hs₂.extBut hlt
  refine wpAny_bind (wpAny_holding (wpAny_pure (wpAny_pure (wpAny_pure ?_))))
  rw [if_neg (by simp)]
  refine wpAny_bind (wpAny_holding (wpAny_pyNext_list_end hh hit₂ hl₂ rfl fun h₃ he₃ => ?_))
  simp only [Option.isSome_none, Bool.false_eq_true, if_false]
  exact wpAny_pure (hQ h₃ fun b o hb e => he₃ b o hb (hs₂.extBut b o hb (hs₁.extBut b o hb (Heap.get?_push_of_some _ e))))
theorem assign_two {env : Env} {x₁ x₂ : PySem.Str} {p₁ p₂ pos : Pos} {x1} {t : Addr} {v₁ v₂ : Value} {Q : Unit → Shared → Prop} (hh : A.handled = none) (hl : s.heap.IsList t #[v₁, v₂])
    (h : ∀ h', Heap.ExtBut s.heap.objs.size s.heap h' → wpAny (model prog w) A (assignInOrder ((assignEach [.Name x₁ p₁, .Name x₂ p₂] env).map (·.2)) [v₁, v₂]) Q E { s with heap := h' }) :
    wpAny (model prog w) A (assign (.Tuple [.Name x₁ p₁, .Name x₂ p₂] x1 pos) env (.ref t)) Q E s := by
  rw [arm_assign_Tuple]
  refine wpAny_bind (wpAny_standAt ?_)
  unfold unpack
  exact wpAny_bind (wpAny_holding (unpack_two hh hl h))

theorem compLoop_pairT {elt iter ct : Expr} {elts : List Expr} {x1} {tp : Pos} {scope : Scope} {pos : Pos} {it acc : Value} {env : Env} {R : Result → Shared → Prop} (I : Nat → Shared → Prop)
    (turn : ∀ n s, I n s → wpAny (model prog w) A (pyNext it) (fun r s₁ => match r with
      | none => R (.ok .next) s₁
      | some v => wpAny (model prog w) A (letOwnedTupleGo (.Tuple elts x1 tp) it v) (fun _ s₁' => wpAny (model prog w) A (assign (.Tuple elts x1 tp) env v) (fun _ s₂ =>
          wpAny (model prog w) A (isTrue ct env (eval ct env)) (fun ok s₃ => if ok = true then
            wpAny (model prog w) A (eval elt env) (fun x s₄ =>
              wpAny (model prog w) A (call (.builtin "list.append") [acc, x]) (fun _ s₅ => ∃ m, m < n ∧ I m s₅) (notedBy (model prog w) A env fun e s' => R (.error e) s') s₄) (notedBy (model prog w) A env fun e s' => R (.error e) s') s₃
            else ∃ m, m < n ∧ I m s₃) (notedBy (model prog w) A env fun e s' => R (.error e) s') s₂)
          (notedBy (model prog w) A env fun e s' => R (.error e) s') s₁') (notedBy (model prog w) A env fun e s' => R (.error e) s') s₁) (notedBy (model prog w) A env fun e s' => R (.error e) s') s)
    (n : Nat) (h : I n s) : codeAny (model prog w) A (.compLoop (.ListComp elt [⟨.Tuple elts x1 tp, iter, [ct], 0⟩] scope pos) 0 it acc env) R s := by
  refine codeAny_loop rfl I (fun n s hI => ?_) n h
  show wpAny _ A ((compTurn (.ListComp elt [⟨.Tuple elts x1 tp, iter, [ct], 0⟩] scope pos) 0 it acc env).onRaise (fun x => do noteFrame x env; theTreesLotGoes x)) _ _ s
  refine wpAny_noted ?_
  rw [compTurn_list]
  refine wpAny_bind (wpAny_standAt (wpAny_bind (wpAny_mono (turn n s hI) (fun r s₁ h₁ => ?_) fun _ _ h' => h')))
  cases r with
  | none => exact wpAny_pure h₁
  | some v =>
    refine wpAny_bind (wpAny_mono h₁ (fun _ s₁' h₁' => ?_) fun _ _ h' => h')
    refine wpAny_bind (wpAny_mono h₁' (fun _ s₂ h₂ => wpAny_bind (wpAny_tests_one (wpAny_mono h₂ (fun ok s₃ h₃ => ?_) fun _ _ h' => h'))) fun _ _ h' => h')
    cases ok with
    | false => exact wpAny_pure ⟨rfl, h₃⟩
    | true =>
      simp only [if_true] at h₃ ⊢
      exact wpAny_bind (wpAny_bind (wpAny_mono h₃ (fun x s₄ h₄ => wpAny_bind (wpAny_mono h₄ (fun _ s₅ h₅ => wpAny_pure (wpAny_pure ⟨rfl, h₅⟩)) fun _ _ h' => h')) fun _ _ h' => h'))
end

noncomputable def CompRestPT (prog : Program) (w : World) (A : Around) (h₀ : Heap) (L : Addr) (m : PySem.Str → Option Value) (env : Env) (ct elt : Expr) (x x₂ : PySem.Str) (scope : Scope) (cl : List (PySem.Str × Addr)) (s : Shared) (S : List (Addr × Obj) → Prop) (P : Nat → Value → Prop)
    (Fin : List Value → List (Addr × Obj) → Prop) : Nat → Nat → List Value → List (Addr × Obj) → Prop
  | 0, _, ys, news => Fin ys news
  | k + 1, i, ys, news => ∀ v, P i v → ∃ (t : Addr) (ot : Obj) (v₁ v₂ : Value) (nt : Nat), v = .ref t ∧ (t, ot) ∈ news ∧ ot.cls = .type "list" ∧ ot.data = .seq #[v₁, v₂] nt ∧
      ∀ I oI C oC D m₂ h tk (E' : Value → Shared → Prop), NsObj oC m₂ → m₂ x = some v₁ → m₂ x₂ = some v₂ → Fr h₀ L h m → News h₀ L h ((I, oI) :: (C, oC) :: (D, lst ys) :: news) → Off3 I C D news → ((@Ne Nat I C) ∧ (@Ne Nat I D) ∧ (@Ne Nat C D)) →
      wpAny (model prog w) A (isTrue ct (compEnvC scope cl C env) (eval ct (compEnvC scope cl C env))) (fun ok s' => if ok = true then
        wpAny (model prog w) A (eval elt (compEnvC scope cl C env)) (CompEnd h₀ L m { s with heap := h, toks := tk } I oI C oC D (lst ys) S (fun y news' => CompRestPT prog w A h₀ L m env ct elt x x₂ scope cl s S P Fin k (i + 1) (ys ++ [y]) news')) E' s'
        else CompEnd h₀ L m { s with heap := h, toks := tk } I oI C oC D (lst ys) S (fun _ news' => CompRestPT prog w A h₀ L m env ct elt x x₂ scope cl s S P Fin k (i + 1) ys news') Value.none s') E' { s with heap := h, toks := tk }
section
variable {prog : Program} {w : World} {A : Around} {E : Value → Shared → Prop} {s : Shared} {h₀ : Heap} {L : Addr} {m : PySem.Str → Option Value} {env : Env}
theorem block_PT {elt iter ct : Expr} {x x₂ : PySem.Str} {px px₂ tp : Pos} {tk} {scope : Scope} {cl : List (PySem.Str × Addr)} {pos : Pos} {s₂ : Shared} {I : Addr} {fp : List Addr} {n : Nat} {P : Nat → Value → Prop} {St : Nat → Heap → Prop} {S : List (Addr × Obj) → Prop} {news : List (Addr × Obj)}
    {Fin : List Value → List (Addr × Obj) → Prop} {RR : Value → Addr → Result → Shared → Prop}
    (W : Walks prog w A I fp [I] n P St) (hsz : n ≤ sizeLine) (hIo : ∀ i h, St i h → ∃ o, h.get? I = some o)
    (hSt : ∀ i h h' o nw, St i h → h.get? I = some o → h'.get? I = some o → (∀ b o, h₀.get? b = some o → h'.get? b = some o) → News h₀ L h' nw → S nw → St i h')
    (hcell : ∀ y ∈ scope.names, y.2 ≠ .cell) (hkind : scope.kind = .function) (hx : scope.names.lookup x = some .local) (hx₂ : scope.names.lookup x₂ = some .local) (hxx : x ≠ x₂) (hh : A.handled = none) (hLI : ∀ i h, St i h → ∃ l j, h.IsListIter I l j) (hst : St 0 s₂.heap) (hfp : ∀ b ∈ fp, b < s₂.heap.objs.size)
    (F : Fr h₀ L s₂.heap m) (N : News h₀ L s₂.heap news) (hIL : L ≠ I) (hI₀ : h₀.get? I = none) (off : ∀ p ∈ news, p.1 ≠ I) (hS : S news)
    (R : CompRestPT prog w A h₀ L m env ct elt x x₂ scope cl s₂ S P Fin n 0 [] news)
    (hRR : ∀ D C h tk m' ys news', Fr h₀ L h m → News h₀ L h ((D, lst ys) :: news') → Off1 D news' → h.Ns C m' → h₀.get? C = none → h₀.get? D = none → C ≠ L → D ≠ L → C ≠ D → (∀ p ∈ news', p.1 ≠ C) → Fin ys news' → RR (.ref D) C (.ok .next) { s₂ with heap := h, toks := tk }) :
    wpAny (model prog w) A (newList []) (fun acc s₃ => wpAny (model prog w) A (newFunctionEnv scope env.globals cl [] env.qual none .none (some env)) (fun cenv s₄ =>
      codeAny (model prog w) A (.compStart (.ListComp elt [⟨.Tuple [.Name x px, .Name x₂ px₂] tk tp, iter, [ct], 0⟩] scope pos) 0 (.ref I) acc { cenv with scope := relabel scope env }) (RR acc cenv.locals) s₄) E s₃) E s₂ := by
  refine wpAny_newObj_type (wpAny_newFunctionEnv hcell (by intro y hy; simp at hy) (fun h₁ hns₁ hsb₁ => ?_) hkind)
  dsimp only at hns₁ hsb₁ ⊢
  generalize hH2 : s₂.heap.push { cls := .type "list", dict := none, data := .seq ([] : List Value).toArray } = H2 at hns₁ hsb₁ ⊢
  have hC : H2.objs.size = s₂.heap.objs.size + 1 := by rw [← hH2, Heap.size_push]
  have hDC : s₂.heap.objs.size ≠ H2.objs.size := by rw [hC]; exact Nat.ne_of_lt (Nat.lt_succ_self _)
  have below : ∀ b, b < s₂.heap.objs.size → b ≠ H2.objs.size ∧ b ≠ s₂.heap.objs.size := fun b hb => ⟨by rw [hC]; exact Nat.ne_of_lt (Nat.lt_succ_of_lt hb), Nat.ne_of_lt hb⟩
  have hDf : s₂.heap.objs.size ∉ fp := fun hm => Nat.lt_irrefl _ (hfp _ hm)
  have hCf : H2.objs.size ∉ fp := fun hm => by have := hfp _ hm; rw [hC] at this; exact Nat.lt_irrefl _ (Nat.lt_of_succ_lt this)
  have hIlt : I < s₂.heap.objs.size := hfp I (W.sub I (List.mem_singleton.mpr rfl))
  have old : ∀ b o, s₂.heap.get? b = some o → h₁.get? b = some o := fun b o e => hsb₁.extBut b o (below b (Heap.lt_size e)).1 (Heap.get?_push_of_some _ (hH2 ▸ Heap.get?_push_of_some _ e))
  have hacc : h₁.get? s₂.heap.objs.size = some (lst []) := hsb₁.extBut _ _ hDC (Heap.get?_push_of_some _ (hH2 ▸ Heap.get?_push_size _ rfl))
  have hst₁ : St 0 h₁ := W.frame _ _ _ hst fun b _ o e => old b o e
  have fresh₀ : ∀ a, s₂.heap.objs.size ≤ a → h₀.get? a = none := fun a ha => Heap.get?_none_of_le (Nat.le_trans (Nat.le_trans F.above (Nat.le_of_lt F.ns.lt)) ha)
  have hD₀ : h₀.get? s₂.heap.objs.size = none := fresh₀ _ (Nat.le_refl _)
  have hC₀ : h₀.get? H2.objs.size = none := fresh₀ _ (by rw [hC]; exact Nat.le_succ _)
  have hDL : s₂.heap.objs.size ≠ L := Ne.symm (below L F.ns.lt).2
  have hCL : H2.objs.size ≠ L := Ne.symm (below L F.ns.lt).1
  have hCI : I ≠ H2.objs.size := (below I hIlt).1
  have hDI : I ≠ s₂.heap.objs.size := (below I hIlt).2
  have off₀ : Off3 I H2.objs.size s₂.heap.objs.size news := Off3.of fun p hp => ⟨off p hp, (below _ (Heap.lt_size (N p hp).1)).1, (below _ (Heap.lt_size (N p hp).1)).2⟩
  have loop : ∀ s₃ : Shared, s₃ = { s₂ with heap := h₁, toks := s₂.toks + ([] : List (PySem.Str × Value)).length } →
      codeAny (model prog w) A (.compLoop (.ListComp elt [⟨.Tuple [.Name x px, .Name x₂ px₂] tk tp, iter, [ct], 0⟩] scope pos) 0 (.ref I) (.ref s₂.heap.objs.size) (compEnvC scope cl H2.objs.size env))
        (RR (.ref s₂.heap.objs.size) H2.objs.size) s₃ := by
    rintro s₃ rfl
    refine compLoop_pairT
      (fun k s' => ∃ h' tk i ys m' news', s' = { s₂ with heap := h', toks := tk } ∧ i ≤ n ∧ k = n + 1 - i ∧ ys.length ≤ i ∧ St i h' ∧ Fr h₀ L h' m ∧ h'.Ns H2.objs.size m' ∧ News h₀ L h' ((s₂.heap.objs.size, lst ys) :: news') ∧
        Off3 I H2.objs.size s₂.heap.objs.size news' ∧ S news' ∧ CompRestPT prog w A h₀ L m env ct elt x x₂ scope cl s₂ S P Fin (n - i) i ys news') ?_ (n + 1)
      ⟨h₁, _, 0, [], _, news, rfl, Nat.zero_le _, rfl, Nat.le_refl _, hst₁, F.keeps old, hns₁, fun p hp => ?_, off₀, hS, R⟩
    · rintro k s' ⟨h', tk, i, ys, m', news', rfl, hi, rfl, hyl, hst', F', hn', N', off', hS', R'⟩
      have off3 := off'.mem
      by_cases hlt : i < n
      · obtain ⟨j, hj⟩ : ∃ j, n - i = j + 1 := ⟨n - i - 1, by omega⟩
        rw [hj] at R'
        refine W.item i _ _ _ hlt hst' fun v h₂ tk₂ hPv hst₂ hk₂ => ?_
        obtain ⟨t, ot, v₁, v₂, nt, rfl, hmt, hct, hdt, R''⟩ := R' v hPv
        have N₂ : News h₀ L h₂ ((s₂.heap.objs.size, lst ys) :: news') := news_but N' hk₂ fun p hp => by
          rcases List.mem_cons.mp hp with rfl | hp
          · exact Ne.symm hDI
          · exact (off3 p hp).1
        have ht : h₂.IsList t #[v₁, v₂] := ⟨ot, (N₂ _ (List.mem_cons_of_mem _ hmt)).1, hct, nt, hdt⟩
        obtain ⟨lI, jI, hLi⟩ := hLI _ _ hst₂
        refine wpAny_letOwnedTupleGo_listiter hLi ?_
        refine assign_two hh ht fun h₅ he => ?_
        have he' : ∀ b o, h₂.get? b = some o → h₅.get? b = some o := fun b o e => he b o (Nat.ne_of_lt (Heap.lt_size e)) e
        refine assignInOrder_cons (wpAny_assign_Name (wpAny_storeName_local (lookup_relabel_local hx) ((hn'.at' fun o e => hk₂ _ o (by simpa using Ne.symm hCI) e).at' fun o e => he' _ o e) (fun h₆ hn₆ hs₆ => ?_) (by simp [compEnvC, relabel, hkind])))
        refine assignInOrder_cons (wpAny_assign_Name (wpAny_storeName_local (lookup_relabel_local hx₂) hn₆ (fun h₃ hn₃ hs₃ => ?_) (by simp [compEnvC, relabel, hkind])))
        refine assignInOrder_nil ?_
        have old3 : ∀ b o, b ≠ H2.objs.size → h₂.get? b = some o → h₃.get? b = some o := fun b o hb e => hs₃.extBut b o hb (hs₆.extBut b o hb (he' b o e))
        have hst₃ : St (i + 1) h₃ := W.frame _ _ _ hst₂ fun b hb o e => old3 b o (fun q => hCf (by rw [← q]; exact hb)) e
        obtain ⟨oI, heI⟩ := hIo _ _ hst₃
        obtain ⟨oC, heC, hoC⟩ := ns_obj hn₃
        have F₃ : Fr h₀ L h₃ m := (((fr_but F' hk₂ hIL hI₀).keeps he').change hs₆ hCL hC₀).change hs₃ hCL hC₀
        have N₃ : News h₀ L h₃ ((I, oI) :: (H2.objs.size, oC) :: (s₂.heap.objs.size, lst ys) :: news') := fun p hp => by
          rcases List.mem_cons.mp hp with rfl | hp
          · exact ⟨heI, Ne.symm hIL, hI₀⟩
          · rcases List.mem_cons.mp hp with rfl | hp
            · exact ⟨heC, hCL, hC₀⟩
            · have z := N₂ p hp
              refine ⟨old3 _ _ ?_ z.1, z.2⟩
              rcases List.mem_cons.mp hp with rfl | hp
              · exact hDC
              · exact (off3 p hp).2.1
        refine wpAny_mono (R'' I oI H2.objs.size oC s₂.heap.objs.size _ h₃ _ _ hoC (by simp [hxx]) (by simp) F₃ N₃ off' ⟨hCI, hDI, Ne.symm hDC⟩) (fun ok s₄ h₄ => ?_) fun _ _ e => e
        cases ok with
        | true =>
          simp only [if_true] at h₄ ⊢
          refine wpAny_mono h₄ (fun y s₅ h₅ => ?_) fun _ _ e => e
          obtain ⟨h₄, tk₄, news₄, rfl, F₄, N₄, off₄, hS₄, R₄⟩ := h₅
          have zI := (N₄ (I, oI) List.mem_cons_self).1
          have zC := (N₄ (H2.objs.size, oC) (List.mem_cons_of_mem _ List.mem_cons_self)).1
          have zD := (N₄ (s₂.heap.objs.size, lst ys) (List.mem_cons_of_mem _ (List.mem_cons_of_mem _ List.mem_cons_self))).1
          have N₄' : News h₀ L h₄ news₄ := fun p hp => N₄ p (List.mem_cons_of_mem _ (List.mem_cons_of_mem _ (List.mem_cons_of_mem _ hp)))
          have hst₄ : St (i + 1) h₄ := hSt _ _ _ _ _ hst₃ heI zI F₄.keep N₄' hS₄
          refine append_at (hsz := by show ys.toArray.size ≤ sizeLine; rw [List.size_toArray]; exact Nat.le_trans (Nat.le_trans hyl hi) hsz) zD fun h₅ hs₅ hD₅ => ?_
          have off4 := off₄.mem
          refine ⟨n + 1 - (i + 1), by omega, h₅, tk₄, i + 1, ys ++ [y], _, news₄, rfl, hlt, rfl, by rw [List.length_append, List.length_singleton]; exact Nat.succ_le_succ hyl, W.frame _ _ _ hst₄ fun b hb o e => hs₅.extBut b o (fun q => hDf (q ▸ hb)) e, F₄.change hs₅ hDL hD₀,
            (hoC.ns zC).sameBut hs₅ (Ne.symm hDC), fun p hp => ?_, off₄, hS₄, ?_⟩
          · rcases List.mem_cons.mp hp with rfl | hp
            · exact ⟨hD₅.trans (congrArg some (lst_snoc ys y)), hDL, hD₀⟩
            · exact ⟨hs₅.extBut _ _ (off4 p hp).2.2 (N₄' p hp).1, (N₄' p hp).2⟩
          · rw [show n - (i + 1) = j by omega]
            exact R₄
        | false =>
          simp only [Bool.false_eq_true, if_false] at h₄ ⊢
          obtain ⟨h₅, tk₄, news₄, rfl, F₄, N₄, off₄, hS₄, R₄⟩ := h₄
          have zI := (N₄ (I, oI) List.mem_cons_self).1
          have zC := (N₄ (H2.objs.size, oC) (List.mem_cons_of_mem _ List.mem_cons_self)).1
          have N₄' : News h₀ L h₅ news₄ := fun p hp => N₄ p (List.mem_cons_of_mem _ (List.mem_cons_of_mem _ (List.mem_cons_of_mem _ hp)))
          have hst₄ : St (i + 1) h₅ := hSt _ _ _ _ _ hst₃ heI zI F₄.keep N₄' hS₄
          refine ⟨n + 1 - (i + 1), by omega, h₅, tk₄, i + 1, ys, _, news₄, rfl, hlt, rfl, Nat.le_succ_of_le hyl, hst₄, F₄, hoC.ns zC, fun p hp => ?_, off₄, hS₄, ?_⟩
          · rcases List.mem_cons.mp hp with rfl | hp
            · exact N₄ _ (List.mem_cons_of_mem _ (List.mem_cons_of_mem _ List.mem_cons_self))
            · exact N₄' p hp
          · rw [show n - (i + 1) = j by omega]
            exact R₄
      · obtain rfl : i = n := Nat.le_antisymm hi (Nat.not_lt.mp hlt)
        rw [Nat.sub_self] at R'
        refine W.done _ _ _ hst' fun h₂ tk₂ hk₂ => ?_
        exact hRR _ _ h₂ tk₂ _ ys news' (fr_but F' hk₂ hIL hI₀) (news_but N' hk₂ fun p hp => by
          rcases List.mem_cons.mp hp with rfl | hp
          · exact Ne.symm hDI
          · exact (off3 p hp).1) off'.one (hn'.at' fun o e => hk₂ _ o (by simpa using Ne.symm hCI) e) hC₀ hD₀ hCL hDL (Ne.symm hDC) (fun p hp => (off3 p hp).2.1) R'
    · rcases List.mem_cons.mp hp with rfl | hp
      · exact ⟨hacc, hDL, hD₀⟩
      · exact ⟨old _ _ (N p hp).1, (N p hp).2⟩
  exact codeAny_compStart_list (loop _ rfl) (W.self 0 _ _ _ hst₁ (loop _ rfl))

noncomputable def SrcPT (prog : Program) (w : World) (A : Around) (h₀ : Heap) (L : Addr) (m : PySem.Str → Option Value) (env : Env) (ct elt : Expr) (x x₂ : PySem.Str) (scope : Scope) (cl : List (PySem.Str × Addr)) (Fin : Shared → List Value → List (Addr × Obj) → Prop) (xv : Value) (s₁ : Shared) : Prop :=
  ∃ ax its news, xv = .ref ax ∧ A.handled = none ∧ Fr h₀ L s₁.heap m ∧ News h₀ L s₁.heap news ∧ SrcAt h₀ ax its news ∧ its.size ≤ sizeLine ∧
    ∀ s₂ : Shared, (∃ h, s₂ = { s₁ with heap := h }) → CompRestPT prog w A h₀ L m env ct elt x x₂ scope cl s₂ (SrcAt h₀ ax its) (fun i v => its[i]? = some v) (Fin s₂) its.size 0 [] news
theorem SrcPT.ledger {ct elt : Expr} {x x₂ : PySem.Str} {scope : Scope} {cl : List (PySem.Str × Addr)} {Fin : Shared → List Value → List (Addr × Obj) → Prop} {ax : Addr} {its : Array Value} {k : Nat} {news : List (Addr × Obj)} {s₁ : Shared}
    (hh : A.handled = none) (F : Fr h₀ L s₁.heap m) (N : News h₀ L s₁.heap news) (hm : (ax, ({ cls := .type "list", data := .seq its k } : Obj)) ∈ news) (hsz : its.size ≤ sizeLine)
    (h : ∀ g, CompRestPT prog w A h₀ L m env ct elt x x₂ scope cl { s₁ with heap := g } (SrcAt h₀ ax its) (fun i v => its[i]? = some v) (Fin { s₁ with heap := g }) its.size 0 [] news) :
    SrcPT prog w A h₀ L m env ct elt x x₂ scope cl Fin (.ref ax) s₁ := ⟨ax, its, news, rfl, hh, F, N, .inr ⟨_, hm, rfl, _, rfl⟩, hsz, fun _ ⟨g, e⟩ => e ▸ h g⟩
theorem Assign_ListComp_PT {ct elt iter : Expr} {x x₂ y : PySem.Str} {px px₂ tp py : Pos} {tk} {scope : Scope} {cl : List (PySem.Str × Addr)} {pos spos : Pos} {Q : Flow → Shared → Prop} (_F₀ : Fr h₀ L s.heap m) (hLe : env.locals = L)
    (hsw : swapsWith (.ListComp elt [⟨.Tuple [.Name x px, .Name x₂ px₂] tk tp, iter, [ct], 0⟩] scope pos) (some (.Name y py)) spos.line env = pure true)
    (hclos : closureFor scope env = pure cl) (hcell : ∀ z ∈ scope.names, z.2 ≠ .cell) (hkind : scope.kind = .function)
    (hnames : ∀ z ∈ scope.names, z.2 = .local → scope.names.lookup z.1 = some .local) (hx : scope.names.lookup x = some .local) (hx₂ : scope.names.lookup x₂ = some .local) (hxx : x ≠ x₂)
    (hy : env.kindOf y = some .local) (hp : (env.scope.kind == .class || (env.scope.kind == .module && env.locals != env.globals)) = false)
    (h : wpAny (model prog w) A (eval iter env) (SrcPT prog w A h₀ L m env ct elt x x₂ scope cl (fun s₂ => FinA h₀ L m s₂ y Q)) E s)
    (hs : ∀ x, foldedSetIterable iter env x = pure x := by intro _; rfl) :
    wpAny (model prog w) A (exec (.Assign [.Name y py] (.ListComp elt [⟨.Tuple [.Name x px, .Name x₂ px₂] tk tp, iter, [ct], 0⟩] scope pos) spos) env) Q E s := by
  subst hLe
  rw [exec_Assign_Name_used _ _ _ _ hsw]
  refine wpAny_bind (wpAny_standAt (wpAny_bind ?_))
  show wpAny _ A (do let _ ← comprehension (.ListComp elt [⟨.Tuple [.Name x px, .Name x₂ px₂] tk tp, iter, [ct], 0⟩] scope pos) scope env _ (newList []) false (eval iter env) (some (assign (.Name y py) env))) _ _ s
  refine wpAny_bind (wpAny_mono (wpAny_comprehension_free (use := some (assign (.Name y py) env)) (Q := fun _ s' => Q .next s') rfl hs hclos hkind hnames
    (wpAny_mono h (fun xv s₁ h₁ => ?_) fun _ _ e => e)) (fun _ s' hq => wpAny_pure (wpAny_pure hq)) fun _ _ e => e)
  obtain ⟨ax, its, news, rfl, hh, F, N, S, hsz, R⟩ := h₁
  have hl := S.list F.keep N
  have hlt : ax < s₁.heap.objs.size := by obtain ⟨_, e, _⟩ := hl; exact Heap.lt_size e
  refine wpAny_pyIter_list hl ?_
  have up : ∀ b o, s₁.heap.get? b = some o → (s₁.heap.push { cls := .type "list_iterator", data := .fields #[.ref ax, .int 0 0] }).get? b = some o := fun b o e => Heap.get?_push_of_some _ e
  refine block_PT (Walks.list hh s₁.heap.objs.size ax (Nat.ne_of_lt hlt) its) hsz (fun i h st => by obtain ⟨o, e, _⟩ := st.1; exact ⟨o, e⟩) list_st hcell hkind hx hx₂ hxx hh (fun i h st => ⟨_, _, st.1⟩) ⟨⟨_, Heap.get?_push_size _ rfl, rfl, rfl⟩, hl.push _⟩ (fun b hb => ?_)
    (F.keeps up) (N.grown up) (Nat.ne_of_lt F.ns.lt) (next_is_new F) (fun p hp => Nat.ne_of_lt (Heap.lt_size (N p hp).1)) S (R _ ⟨_, rfl⟩) ?_
  · show b < (s₁.heap.push _).objs.size
    rw [Heap.size_push]
    rcases List.mem_cons.mp hb with rfl | hb
    · exact Nat.lt_succ_self _
    · rw [List.mem_singleton.mp hb]; exact Nat.lt_succ_of_lt hlt
  · intro D C h' tk m' ys news' F' N' o1 hn hC₀ hD₀ hCL hDL hCD offC fin
    show wpAny _ A (assign (.Name y py) env (.ref D)) _ _ _
    refine wpAny_assign_Name (wpAny_storeName_local hy F'.ns (fun h₂ hn₂ hs₂ => ?_) hp)
    have F₂ := F'.set hn₂ hs₂
    refine ⟨m', hn.sameBut hs₂ hCL, fun h'' hs'' => fin D h'' _ (F₂.change hs'' hCL hC₀) (fun p hp => ?_) o1⟩
    have z : h₂.get? p.1 = some p.2 := hs₂.extBut _ _ (N' p hp).2.1 (N' p hp).1
    refine ⟨hs''.extBut _ _ ?_ z, (N' p hp).2⟩
    rcases List.mem_cons.mp hp with rfl | hp
    · exact Ne.symm hCD
    · exact offC p hp
end
end Mine
end
theorem Mine.topOffPt : True := by
  w_top off
  trivial

section
open PySem PySem.W PySem.W.X PyProof.Rows PySem.Calls
set_option maxRecDepth 100000
namespace Mine
theorem indices_to (n : Nat) (j : Int) (h : 0 ≤ j) : PySem.Builtin.Str.strSliceIndices none (some j) 1 n = PySem.Builtin.Str.strSliceIndices none (some (min j n)) 1 n := by
  unfold PySem.Builtin.Str.strSliceIndices
  simp only [show (1 : Int) > 0 by decide, if_true]
  rw [if_neg (by omega), if_neg (by omega)]
  congr 1
  omega
theorem indices_from (n : Nat) (j : Int) (h : 0 ≤ j) : PySem.Builtin.Str.strSliceIndices (some j) none 1 n = PySem.Builtin.Str.strSliceIndices (some (min j n)) none 1 n := by
  unfold PySem.Builtin.Str.strSliceIndices
  simp only [show (1 : Int) > 0 by decide, if_true]
  rw [if_neg (by omega), if_neg (by omega)]
  congr 1
  omega
theorem slice_to (l : List Nat) (j : Int) (h : 0 ≤ j) : Txt.slice (tx l) none (some j) = tx (l.take j.toNat) := by
  have e : Txt.slice (tx l) none (some j) = Txt.slice (tx l) none (some (min j (tx l).length)) := by
    unfold Txt.slice
    rw [indices_to _ j h]
  rw [e]
  have := StrLaws.sliceText_to (x := tx l) (j := min j (tx l).length) ⟨by omega, by simp only [tx_cps, tx_length]; omega⟩
  refine this.trans ?_
  simp only [tx_cps, tx_length, List.drop_zero, Int.sub_zero]
  unfold tx
  congr 2
  by_cases hj : j ≤ l.length
  · rw [Int.min_eq_left hj]
  · rw [Int.min_eq_right (by omega), List.take_of_length_le (by omega), List.take_of_length_le (by omega)]
theorem slice_from (l : List Nat) (j : Int) (h : 0 ≤ j) : Txt.slice (tx l) (some j) none = tx (l.drop j.toNat) := by
  have e : Txt.slice (tx l) (some j) none = Txt.slice (tx l) (some (min j (tx l).length)) none := by
    unfold Txt.slice
    rw [indices_from _ j h]
  rw [e]
  have := StrLaws.sliceText_from (x := tx l) (i := min j (tx l).length) ⟨by omega, by simp only [tx_cps, tx_length]; omega⟩
  refine this.trans ?_
  simp only [tx_cps, tx_length]
  unfold tx
  congr 1
  rw [List.take_of_length_le (by rw [List.length_drop]; omega)]
  by_cases hj : j ≤ l.length
  · rw [Int.min_eq_left hj]
  · rw [Int.min_eq_right (by omega), List.drop_of_length_le (by omega), List.drop_of_length_le (by omega)]
section
variable {prog : Program} {w : World} {A : Around} {E : Value → Shared → Prop} {s : Shared} {value slice : Expr} {l : List Nat} {t : Tok} {h₀ : Heap} {L : Addr} {m : Str → Option Value} {news : List (Addr × Obj)} {Q : Value → Shared → Prop}
theorem sl_take {j : Int} {uj : Tok} (hF : Fr h₀ L s.heap m) (hN : News h₀ L s.heap news) (hj : 0 ≤ j) (hl : l.length ≤ sizeLine) (h : ∀ h' t' k, Fr h₀ L h' m → News h₀ L h' news → Q (.str (tx (l.take j.toNat)) t') { s with heap := h', toks := k })
    (hs : subscripted slice false (.str (tx l) t) (.ref s.heap.objs.size) = operate [.ref s.heap.objs.size, .str (tx l) t] (getItem (.str (tx l) t) (.ref s.heap.objs.size)) := by with_unfolding_all rfl)
    (ht : ∀ r, letTemporaryGo value (.str (tx l) t) r = pure () := by intro _; with_unfolding_all rfl) :
    wpAny (model prog w) A (subscriptTail value slice (.str (tx l) t) (.ref s.heap.objs.size)) Q E { s with heap := s.heap.push { cls := .type "slice", data := .fields #[.none, .int j uj, .none] } } :=
  slice_strN_ns hF hN (fun h' t' k F N => by rw [slice_to l j hj]; exact h h' t' k F N) hs ht (by rw [tx_length]; exact hl)
theorem sl_drop {j : Int} {uj : Tok} (hF : Fr h₀ L s.heap m) (hN : News h₀ L s.heap news) (hj : 0 ≤ j) (hl : l.length ≤ sizeLine) (h : ∀ h' t' k, Fr h₀ L h' m → News h₀ L h' news → Q (.str (tx (l.drop j.toNat)) t') { s with heap := h', toks := k })
    (hs : subscripted slice false (.str (tx l) t) (.ref s.heap.objs.size) = operate [.ref s.heap.objs.size, .str (tx l) t] (getItem (.str (tx l) t) (.ref s.heap.objs.size)) := by with_unfolding_all rfl)
    (ht : ∀ r, letTemporaryGo value (.str (tx l) t) r = pure () := by intro _; with_unfolding_all rfl) :
    wpAny (model prog w) A (subscriptTail value slice (.str (tx l) t) (.ref s.heap.objs.size)) Q E { s with heap := s.heap.push { cls := .type "slice", data := .fields #[.int j uj, .none, .none] } } :=
  slice_strN_sn hF hN (fun h' t' k F N => by rw [slice_from l j hj]; exact h h' t' k F N) hs ht (by rw [tx_length]; exact hl)
end
theorem line_le {n : Nat} (h : n ≤ 1000) : n ≤ sizeLine := Nat.le_trans h (by rw [sizeLine_eq]; decide)
end Mine
end
theorem Mine.topOffSl : True := by
  w_top off
  trivial

section
open PySem PySem.W PySem.W.X PyProof.Rows PySem.Calls
set_option maxRecDepth 100000
set_option maxHeartbeats 8000000
namespace Mine
local macro_rules | `(tactic| walk_at "execs cons") => `(tactic| (k_here; (with_reducible refine gen_toks ?_); intro tk htk))
local macro_rules | `(tactic| walk_at "execs nil") => `(tactic| (k_here; (with_reducible refine gen_toks ?_); intro tk htk))
local macro_rules | `(tactic| k_all) => `(tactic| exact all_ne (by assumption) (by omega))
local macro_rules | `(tactic| walk_at "execs cons") => `(tactic| (k_here; (with_reducible refine gen_toks ?_); intro tk htk; (try dsimp only at *)))
local macro_rules | `(tactic| walk_at "exec Assign cons ListComp") => `(tactic| (k_here; (refine stop_here ?_)))
local macro_rules | `(tactic| walk_at "subscriptTail Name Slice str ref") => `(tactic| ((try dsimp only); (with_reducible rename Fr _ _ _ _ => F'); (with_reducible rename News _ _ _ _ => N'); (first | refine sl_take (s := ⟨_, _, _, _, _⟩) F' N' ?c ?d ?_ | refine sl_drop (s := ⟨_, _, _, _, _⟩) F' N' ?c ?d ?_); (case c => decide); (case d => exact line_le (by omega)); intro h' t' k' F' N'))
local macro_rules | `(tactic| walk_at "mine item") => `(tactic| (k_here; (with_reducible show wpAny _ _ (subscriptTail _ _ (Value.ref _) (Value.int _ _)) _ _ _); (with_unfolding_all refine' item_litK ?k1 ?k2 ?k3 ?k4 ?_ ?k6; (case k1 => is_list); (case k2 | k3 => decide); (case k4 => rfl); (case k6 => with_unfolding_all rfl); k_whole)))
local macro_rules | `(tactic| walk_at "subscriptTail") => `(tactic| walk_at "mine item")
local macro_rules | `(tactic| walk_at "compareOp NotEq ref ref") => `(tactic| (k_here; (with_reducible show wpAny _ _ (compareOp CmpOp.NotEq (Value.ref _) (Value.ref _)) _ _ _); (k_dflt (refine ne_dataH (by ke_read) (by ke_read) (by ke_shaped) (by ke_shaped) (by ke_room) ?_)); ke_norm))
local macro_rules | `(tactic| walk_at "subscriptTail Name Constant ref int") => `(tactic| walk_at "mine item")
local macro_rules | `(tactic| walk_at "call builtin:len") => `(tactic| (k_here; (with_reducible show wpAny _ _ (call (Value.builtin "len") [Value.str _ _]) _ _ _); (refine P.len_str (by first | decide | kt_fact) ?_)))
local macro_rules | `(tactic| walk_at "exec While") => `(tactic| (k_here; (with_reducible show wpAny _ _ (exec (Stmt.While _ _ _ _) _) _ _ _); (refine stop_here ?_)))
/-- read sign by sign from the left; k signs are still to be passed over -/
noncomputable def openK : Nat → List Nat → List Nat
  | _, [] => []
  | k + 1, _ :: r => openK k r
  | 0, c :: r => if [38, 97, 109, 112, 59].isPrefixOf (c :: r) then 38 :: openK 4 r else if [38, 108, 116, 59].isPrefixOf (c :: r) then 60 :: openK 3 r else if [38, 103, 116, 59].isPrefixOf (c :: r) then 62 :: openK 3 r else c :: openK 0 r
theorem openK_skip : ∀ (k : Nat) (l : List Nat), openK k l = openK 0 (l.drop k)
  | 0, _ => rfl
  | k + 1, [] => by simp [openK]
  | k + 1, _ :: r => by rw [openK, openK_skip k r, List.drop_succ_cons]
theorem add_str {prog : Program} {w : World} {A : Around} {E : Value → Shared → Prop} {s : Shared} {a : List Nat} {y : PySem.Str} {t u : Tok} {Q : Value → Shared → Prop} (ha : a.length ≤ 4000000) (hb : y.length ≤ 4000000) (h : ∀ t' k, Q (.str (tx (a ++ y.cps.toList)) t') { s with toks := k }) :
    wpAny (model prog w) A (binaryOp Operator.Add (.str (tx a) t) (.str y u)) Q E s := add_tx (b := y.cps.toList) ha (by simpa [PySem.Str.length] using hb) h
local macro_rules | `(tactic| walk_at "binaryOp Add str str") => `(tactic| (k_here; (refine add_str ?_ ?_ ?_); (focus omega); (focus (first | decide | exact (show 1 ≤ 4000000 by decide))); intro t' k'; (try dsimp only)))
theorem st_run {prog : Program} {w : World} {A : Around} {E : Value → Shared → Prop} {s : Shared} {name : Str} {scope : Scope} {L a : Addr} {cd : Value} {x : Str} {h₀ : Heap} {m : Str → Option Value} {o : Obj} {v₀ : Option Value} {v : Value} {all news : List (Addr × Obj)} {Q : Unit → Shared → Prop}
    (F : Fr h₀ L s.heap m) (N : News h₀ L s.heap all) (hd : o.data = .cell v₀) (hlt : ∀ p ∈ news, p.1 < L) (hsub : ∀ p ∈ (L + 1, o) :: news, p ∈ all) (hc : (cellsFrom (L + 1) scope.names []).lookup x = some (L + 1)) 
    (hk : scope.kind = .function) (hl : (envOfC name scope L a cd).kindOf x = some .cell)
    (h : ∀ h' o', Fr h₀ L h' m → News h₀ L h' ((L + 1, o') :: news) → o'.data = .cell (some v) → Q () { s with heap := h' }) :
    wpAny (model prog w) A (storeName (envOfC name scope L a cd) x v) Q E s :=
  stCN (own := []) (rest := news) F (fun p hp => N p (hsub p hp)) hc hd (fun _ hp => nomatch hp) (fun p hp => Nat.ne_of_lt (Nat.lt_succ_of_lt (hlt p hp))) h hk hl
theorem beq_pre (p r : List Nat) : (tx (r.take p.length) == tx p) = p.isPrefixOf r := by
  rw [Bool.eq_iff_iff, beq_iff_eq, List.isPrefixOf_iff_prefix, List.prefix_iff_eq_take]
  constructor
  · intro h; exact (tx_inj h).symm
  · intro h; rw [← h]
theorem opA {r : List Nat} {b : Bool} (h : (tx (List.take (↑5 : Int).toNat r) == Str.ofString "&amp;") = b) : [38, 97, 109, 112, 59].isPrefixOf r = b := (beq_pre [38, 97, 109, 112, 59] r).symm.trans h
theorem opL {r : List Nat} {b : Bool} (h : (tx (List.take (↑4 : Int).toNat r) == Str.ofString "&lt;") = b) : [38, 108, 116, 59].isPrefixOf r = b := (beq_pre [38, 108, 116, 59] r).symm.trans h
theorem opG {r : List Nat} {b : Bool} (h : (tx (List.take (↑4 : Int).toNat r) == Str.ofString "&gt;") = b) : [38, 103, 116, 59].isPrefixOf r = b := (beq_pre [38, 103, 116, 59] r).symm.trans h
theorem notAL {r : List Nat} (h : [38, 97, 109, 112, 59].isPrefixOf r = true) (h' : [38, 108, 116, 59].isPrefixOf r = true) : False := by
  match r with
  | [] => simp [List.isPrefixOf] at h
  | [_] => simp [List.isPrefixOf] at h
  | _ :: _ :: _ => simp [List.isPrefixOf] at h h'; omega
theorem notAG {r : List Nat} (h : [38, 97, 109, 112, 59].isPrefixOf r = true) (h' : [38, 103, 116, 59].isPrefixOf r = true) : False := by
  match r with
  | [] => simp [List.isPrefixOf] at h
  | [_] => simp [List.isPrefixOf] at h
  | _ :: _ :: _ => simp [List.isPrefixOf] at h h'; omega
theorem notLG {r : List Nat} (h : [38, 108, 116, 59].isPrefixOf r = true) (h' : [38, 103, 116, 59].isPrefixOf r = true) : False := by
  match r with
  | [] => simp [List.isPrefixOf] at h
  | [_] => simp [List.isPrefixOf] at h
  | _ :: _ :: _ => simp [List.isPrefixOf] at h h'; omega
theorem opened_amp {r : List Nat} (h : [38, 97, 109, 112, 59].isPrefixOf r = true) : openK 0 r = 38 :: openK 0 (r.drop 5) := by
  cases r with
  | nil => simp [List.isPrefixOf] at h
  | cons c r => rw [openK, if_pos h, openK_skip 4 r, List.drop_succ_cons]
theorem opened_lt {r : List Nat} (h : [38, 97, 109, 112, 59].isPrefixOf r = false) (h' : [38, 108, 116, 59].isPrefixOf r = true) : openK 0 r = 60 :: openK 0 (r.drop 4) := by
  cases r with
  | nil => simp [List.isPrefixOf] at h'
  | cons c r => rw [openK, if_neg (by rw [h]; decide), if_pos h', openK_skip 3 r, List.drop_succ_cons]
theorem opened_gt {r : List Nat} (h : [38, 97, 109, 112, 59].isPrefixOf r = false) (h' : [38, 108, 116, 59].isPrefixOf r = false) (h'' : [38, 103, 116, 59].isPrefixOf r = true) : openK 0 r = 62 :: openK 0 (r.drop 4) := by
  cases r with
  | nil => simp [List.isPrefixOf] at h''
  | cons c r => rw [openK, if_neg (by rw [h]; decide), if_neg (by rw [h']; decide), if_pos h'', openK_skip 3 r, List.drop_succ_cons]
theorem opened_one {c : Nat} {r : List Nat} (h : [38, 97, 109, 112, 59].isPrefixOf (c :: r) = false) (h' : [38, 108, 116, 59].isPrefixOf (c :: r) = false) (h'' : [38, 103, 116, 59].isPrefixOf (c :: r) = false) : openK 0 (c :: r) = c :: openK 0 r := by
  rw [openK, if_neg (by rw [h]; decide), if_neg (by rw [h']; decide), if_neg (by rw [h'']; decide)]
theorem end_one {R : Prop} {h₀ : Heap} {L I C D : Addr} {m : PySem.Str → Option Value} {s₁ : Shared} {oI oC oD oN : Obj} {S : List (Addr × Obj) → Prop} {rest : Value → List (Addr × Obj) → Prop} {h' : Heap} {tk : Nat} {ln : Addr} {news : List (Addr × Obj)}
    (F : Fr h₀ L h' m) (N : News h₀ L h' ((ln, oN) :: (I, oI) :: (C, oC) :: (D, oD) :: news)) (off : LCg.Off3 I C D news) (lt : I < ln ∧ C < ln ∧ D < ln ∧ R) (hS : S ((ln, oN) :: news)) (r : rest (.ref ln) ((ln, oN) :: news)) :
    LCg.CompEnd h₀ L m s₁ I oI C oC D oD S rest (.ref ln) { s₁ with heap := h', toks := tk } := by
  obtain ⟨l1, l2, l3, _⟩ := lt
  refine LCg.CompEnd.intro F N ((ln, oN) :: news) (fun p hp => ?_) (LCg.Off3.of fun p hp => ?_) hS r
  · simp only [List.mem_cons] at hp ⊢
    rcases hp with rfl | rfl | rfl | rfl | hp
    · exact .inr (.inl rfl)
    · exact .inr (.inr (.inl rfl))
    · exact .inr (.inr (.inr (.inl rfl)))
    · exact .inl rfl
    · exact .inr (.inr (.inr (.inr hp)))
  · rcases List.mem_cons.mp hp with rfl | hp
    · exact ⟨Ne.symm (Nat.ne_of_lt l1), Ne.symm (Nat.ne_of_lt l2), Ne.symm (Nat.ne_of_lt l3)⟩
    · exact off.mem p hp
theorem end_none {h₀ : Heap} {L I C D : Addr} {m : PySem.Str → Option Value} {s₁ : Shared} {oI oC oD : Obj} {S : List (Addr × Obj) → Prop} {rest : Value → List (Addr × Obj) → Prop} {h' : Heap} {tk : Nat} {y : Value} {news : List (Addr × Obj)}
    (F : Fr h₀ L h' m) (N : News h₀ L h' ((I, oI) :: (C, oC) :: (D, oD) :: news)) (off : LCg.Off3 I C D news) (hS : S news) (r : rest y news) :
    LCg.CompEnd h₀ L m s₁ I oI C oC D oD S rest y { s₁ with heap := h', toks := tk } := LCg.CompEnd.intro F N news (fun _ hp => hp) off hS r
/-- the loop's state: what is written and what is still to be read -/
noncomputable def OpJ (l : List Nat) (c : Addr) (news : List (Addr × Obj)) (n : Nat) (m : PySem.Str → Option Value) (nx : List (Addr × Obj)) : Prop :=
  ∃ o r t u oc, m (Str.ofString "opened") = some (.str (tx o) t) ∧ oc.data = .cell (some (.str (tx r) u)) ∧ nx = (c, oc) :: news ∧ openK 0 l = o ++ openK 0 r ∧ n = r.length ∧ o.length + r.length ≤ l.length
theorem op_step {h₀ h' : Heap} {L c : Addr} {s : Shared} {l o r y : List Nat} {k tk : Nat} {x : PySem.Str} {t u : Tok} {oc : Obj} {m₂ : PySem.Str → Option Value} {news : List (Addr × Obj)}
    (F : Fr h₀ L h' m₂) (N : News h₀ L h' ((c, oc) :: news)) (hm : m₂ (Str.ofString "opened") = some (.str x t)) (hx : x = tx (o ++ y)) (hd : oc.data = .cell (some (.str (tx (r.drop k)) u))) (hk : 0 < k) (hr : 0 < r.length)
    (he : openK 0 r = y ++ openK 0 (r.drop k)) (hy : y.length = 1) (hop : openK 0 l = o ++ openK 0 r) (hlen : o.length + r.length ≤ l.length) : WhileStep h₀ L s (OpJ l c news) r.length .next { s with heap := h', toks := tk } := by
  have hl : (r.drop k).length < r.length := by rw [List.length_drop]; omega
  refine WhileStep.intro F N hl ⟨o ++ y, r.drop k, t, u, oc, ?_, hd, rfl, ?_, rfl, ?_⟩
  · rw [hm, hx]
  · rw [hop, he, List.append_assoc]
  · rw [List.length_append]; omega
theorem pre_pos {p : Nat} {q r : List Nat} (h : (p :: q).isPrefixOf r = true) : 0 < r.length := by
  cases r with
  | nil => simp [List.isPrefixOf] at h
  | cons c r => exact Nat.succ_pos _
theorem item_head {r : List Nat} (h : 0 < r.length) : Txt.item (tx r) 0 = tx [r.headD 0] := by
  cases r with
  | nil => cases h
  | cons c r => exact (eq_of_beq (item_closes ⟨by decide, by simp only [tx_length, List.length_cons]; omega⟩)).trans rfl
theorem opened_here {r : List Nat} (h0 : 0 < r.length) (h : [38, 97, 109, 112, 59].isPrefixOf r = false) (h' : [38, 108, 116, 59].isPrefixOf r = false) (h'' : [38, 103, 116, 59].isPrefixOf r = false) : openK 0 r = [r.headD 0] ++ openK 0 (r.drop 1) := by
  cases r with
  | nil => cases h0
  | cons c r => exact opened_one h h' h''
theorem ne_empty {r : List Nat} (h : (tx r != Str.ofString "") = true) : 0 < r.length := by
  cases r with
  | nil => exact absurd h (by decide)
  | cons c r => exact Nat.succ_pos _
theorem is_empty {r : List Nat} (h : (tx r != Str.ofString "") = false) : r = [] := by
  cases r with
  | nil => rfl
  | cons c r =>
    rw [bne_eq_false_iff_eq] at h
    have h2 : c :: r = [] := tx_inj (h.trans rfl)
    cases h2
theorem lop : ∀ (w : World) (mean : ExcName → Option Value) (mg mb : Str → Option Value) (news : List (Addr × Obj)) (l : List Nat) (t : Tok), l.length ≤ 1000 → TellsW w mean mg mb 98 12 news [.str (tx l) t] (StrR (tx (openK 0 l))) := by
  unfold TellsW
  k_fill
  intro w mean mg mb news l t hx dp un gd cn cs a ccd cl outer A₀ base h₀ L m s Q E B F X N T hk hdp hun hret
  (refine wpAny_call ?_; k_dflt (refine' code_defC ?k1 ?k2 ?k3 ?k4 ?k5 ?kA ?kF ?kK ?k6 ?k7 ?k8 ?k9 ?kB ?kD ?_ ?c2 ?c3 ?c4; (case kA | kF => exact rfl); (case kK => assumption); (case k1 | k2 | k3 | k4 | k5 => k_asm); (case k6 | k7 => k_is); (case k8 => ((simp only [depth_deeper, recursionLimit] at *); omega)); (case k9 => first | exact BindsTo.of_eq rfl | exact binds_K (by k_in) rfl (by k_is) rfl rfl rfl); (case kB => exact rfl); (case kD => decide +kernel); (case c2 | c3 | c4 => exact rfl); k_whole; intro g'_z L'_z h'_z tk'_z cells'_z FG'_z F'_z N'_z Y'_z B'_z X'_z T'_z l1_z; (try k_lt l1_z); k_cells Y'_z; (try simp only [List.cons_append, List.nil_append] at N'_z); (try dsimp only); (try k_lift B'_z); (try k_fold)))
  k_steps
  unfold Stop
  rename Fr _ _ _ _ => F9
  rename News _ _ _ _ => N9
  rename Obj => oc9
  rename oc9.data = _ => D9
  refine wpAny_noRaise (While_inv (OpJ l _ news) (n₀ := l.length) F9 N9 ⟨[], l, _, _, oc9, rfl, D9, rfl, rfl, rfl, by simp⟩ ?turn PassesOwn.never)
  case turn =>
    clear F9 N9 D9 oc9
    rintro n m₁ news₁ h₁ tk₁ F₁ N₁ ⟨o, r, t, u, oc, hm, hoc, rfl, hop, rfl, hlen⟩
    replace F₁ := fr_named (f := fun m y => m y) hm F₁
    clear hm
    (try dsimp only)
    (try k_fold)
    k_steps
    · (unfold Stop; (refine' Assign_ListComp_PT (_F₀ := ?a0) ?a1 ?a2 ?a3 ?a4 ?a5 ?a6 ?a7 ?a8 ?a9 ?a10 ?a11 ?a12 ?a13; (case a0 => k_asm); (case a13 => (intro _; rfl)); (case a1 => rfl); (case a2 | a3 => with_unfolding_all rfl); (case a4 => decide); (case a5 => rfl); (case a6 => decide); (case a7 | a8 => rfl); (case a9 => decide +kernel); (case a10 | a11 => rfl)))
      k_steps
      refine SrcPT.ledger (by rfl) (by k_asm) (by k_asm) (by k_mem) (by rw [sizeLine_eq]; exact Nat.le_of_ble_eq_true rfl) ?_
      intro g9
      dsimp only at *
      (intro v_z hv_z; have e_z := Option.some.inj hv_z; subst e_z; refine ⟨_, _, _, _, _, rfl, by k_mem, rfl, rfl, ?_⟩; intro I_z oI_z C_z oC_z D_z m₂_z h_z tk_z E'_z hC_z hx1_z hx2_z F_z N_z off_z ne_z; (try k_fold); k_steps)
      · rename (_ == _) = _ => hb
        have hA := opA hb
        clear hb
        (refine end_one (by k_asm) (by k_asm) (by assumption) (by assumption) (.inr ⟨_, by k_mem, rfl, _, rfl⟩) ?_; (try dsimp only at *))
        (intro v_z hv_z; have e_z := Option.some.inj hv_z; subst e_z; refine ⟨_, _, _, _, _, rfl, by k_mem, rfl, rfl, ?_⟩; intro I_z oI_z C_z oC_z D_z m₂_z h_z tk_z E'_z hC_z hx1_z hx2_z F_z N_z off_z ne_z; (try k_fold); k_steps)
        · rename (_ == _) = _ => hb
          exact (notAL hA (opL hb)).elim
        · rename (_ == _) = _ => hb
          clear hb
          (refine end_none (by k_asm) (by k_asm) (by assumption) (.inr ⟨_, by k_mem, rfl, _, rfl⟩) ?_; (try dsimp only at *))
          (intro v_z hv_z; have e_z := Option.some.inj hv_z; subst e_z; refine ⟨_, _, _, _, _, rfl, by k_mem, rfl, rfl, ?_⟩; intro I_z oI_z C_z oC_z D_z m₂_z h_z tk_z E'_z hC_z hx1_z hx2_z F_z N_z off_z ne_z; (try k_fold); k_steps)
          · rename (_ == _) = _ => hb
            exact (notAG hA (opG hb)).elim
          · rename (_ == _) = _ => hb
            clear hb
            (refine end_none (by k_asm) (by k_asm) (by assumption) (.inr ⟨_, by k_mem, rfl, _, rfl⟩) ?_; (try dsimp only at *))
            intro D9 h9 tk9 F9 N9 off9
            ((try dsimp only at *); (try k_fold); k_steps)
            ((refine st_run (by k_asm) (by k_asm) (by assumption) (by assumption) ?sub rfl rfl rfl ?_); (case sub => intro p_z hp_z; simp only [List.mem_cons] at hp_z ⊢; rcases hp_z with hp_z | hp_z <;> simp [hp_z]); (try dsimp only at *))
            intro h10 o10 F10 N10 D10
            k_steps
            exact op_step (k := 5) (y := [38]) F10 N10 (if_pos rfl) rfl D10 (by decide) (pre_pos hA) (opened_amp hA) rfl hop hlen
      · rename (_ == _) = _ => hb
        have hA := opA hb
        clear hb
        (refine end_none (by k_asm) (by k_asm) (by assumption) (.inr ⟨_, by k_mem, rfl, _, rfl⟩) ?_; (try dsimp only at *))
        (intro v_z hv_z; have e_z := Option.some.inj hv_z; subst e_z; refine ⟨_, _, _, _, _, rfl, by k_mem, rfl, rfl, ?_⟩; intro I_z oI_z C_z oC_z D_z m₂_z h_z tk_z E'_z hC_z hx1_z hx2_z F_z N_z off_z ne_z; (try k_fold); k_steps)
        · rename (_ == _) = _ => hb
          have hL := opL hb
          clear hb
          (refine end_one (by k_asm) (by k_asm) (by assumption) (by assumption) (.inr ⟨_, by k_mem, rfl, _, rfl⟩) ?_; (try dsimp only at *))
          (intro v_z hv_z; have e_z := Option.some.inj hv_z; subst e_z; refine ⟨_, _, _, _, _, rfl, by k_mem, rfl, rfl, ?_⟩; intro I_z oI_z C_z oC_z D_z m₂_z h_z tk_z E'_z hC_z hx1_z hx2_z F_z N_z off_z ne_z; (try k_fold); k_steps)
          · rename (_ == _) = _ => hb
            exact (notLG hL (opG hb)).elim
          · rename (_ == _) = _ => hb
            clear hb
            (refine end_none (by k_asm) (by k_asm) (by assumption) (.inr ⟨_, by k_mem, rfl, _, rfl⟩) ?_; (try dsimp only at *))
            intro D9 h9 tk9 F9 N9 off9
            ((try dsimp only at *); (try k_fold); k_steps)
            ((refine st_run (by k_asm) (by k_asm) (by assumption) (by assumption) ?sub rfl rfl rfl ?_); (case sub => intro p_z hp_z; simp only [List.mem_cons] at hp_z ⊢; rcases hp_z with hp_z | hp_z <;> simp [hp_z]); (try dsimp only at *))
            intro h10 o10 F10 N10 D10
            k_steps
            exact op_step (k := 4) (y := [60]) F10 N10 (if_pos rfl) rfl D10 (by decide) (pre_pos hL) (opened_lt hA hL) rfl hop hlen
        · rename (_ == _) = _ => hb
          have hL := opL hb
          clear hb
          (refine end_none (by k_asm) (by k_asm) (by assumption) (.inr ⟨_, by k_mem, rfl, _, rfl⟩) ?_; (try dsimp only at *))
          (intro v_z hv_z; have e_z := Option.some.inj hv_z; subst e_z; refine ⟨_, _, _, _, _, rfl, by k_mem, rfl, rfl, ?_⟩; intro I_z oI_z C_z oC_z D_z m₂_z h_z tk_z E'_z hC_z hx1_z hx2_z F_z N_z off_z ne_z; (try k_fold); k_steps)
          · rename (_ == _) = _ => hb
            have hG := opG hb
            clear hb
            (refine end_one (by k_asm) (by k_asm) (by assumption) (by assumption) (.inr ⟨_, by k_mem, rfl, _, rfl⟩) ?_; (try dsimp only at *))
            intro D9 h9 tk9 F9 N9 off9
            ((try dsimp only at *); (try k_fold); k_steps)
            ((refine st_run (by k_asm) (by k_asm) (by assumption) (by assumption) ?sub rfl rfl rfl ?_); (case sub => intro p_z hp_z; simp only [List.mem_cons] at hp_z ⊢; rcases hp_z with hp_z | hp_z <;> simp [hp_z]); (try dsimp only at *))
            intro h10 o10 F10 N10 D10
            k_steps
            exact op_step (k := 4) (y := [62]) F10 N10 (if_pos rfl) rfl D10 (by decide) (pre_pos hG) (opened_gt hA hL hG) rfl hop hlen
          · rename (_ == _) = _ => hb
            have hG := opG hb
            clear hb
            (refine end_none (by k_asm) (by k_asm) (by assumption) (.inr ⟨_, by k_mem, rfl, _, rfl⟩) ?_; (try dsimp only at *))
            intro D9 h9 tk9 F9 N9 off9
            ((try dsimp only at *); (try k_fold); k_steps)
            ((refine st_run (by k_asm) (by k_asm) (by assumption) (by assumption) ?sub rfl rfl rfl ?_); (case sub => intro p_z hp_z; simp only [List.mem_cons] at hp_z ⊢; rcases hp_z with hp_z | hp_z <;> simp [hp_z]); (try dsimp only at *))
            intro h10 o10 F10 N10 D10
            k_steps
            exact op_step (k := 1) (y := [r.headD 0]) F10 N10 (if_pos rfl) (by rw [item_head (ne_empty (by assumption))]; rfl) D10 (by decide) (ne_empty (by assumption)) (opened_here (ne_empty (by assumption)) hA hL hG) rfl hop hlen
    · rename (tx r != Str.ofString "") = false => he
      have he' := is_empty he
      subst he'
      refine strW_end hret ?_ (by k_asm) (by k_asm) (fun p hp => List.mem_cons_of_mem _ hp)
      rw [hop]
      simp [openK]
end Mine
end
theorem Mine.topOffE9 : True := by
  w_top off
  trivial

section
set_option maxRecDepth 100000
namespace Mine
open PySem.Sre
noncomputable def reC : Array Nat := #[14, 4, 0, 1, 4294967295, 17, 0, 7, 14, 24, 10, 1, 4294967295, 13, 5, 22, 48, 57, 0, 1, 15, 17, 15, 13, 11, 9, 0, 26624, 2147483648, 0, 0, 0, 0, 0, 0, 15, 2, 0, 17, 1, 1]
noncomputable def mst (T : Array Nat) (start pc pos handed : Nat) (b : Bool) (mk : Array (Option Nat)) (lm li : Int) (fr : List Frame) (wt : Nat) (ans : Option Bool) (se : Seen) (out : Option Outcome) : M :=
  { code := reC, text := T, lim := T.size, start, lastStart := T.size, pc, pos, handed, outermost := b, marks := mk, lastmark := lm, lastindex := li, frames := fr, weight := wt, answer := ans, seen := se, outcome := out }
noncomputable def frF (b : Bool) (s : Nat) : Frame := { wait := .nextStart, pc := 5, pos := s, outermost := b }
noncomputable def frK : Kept := { lastmark := 0, lastindex := -1, whole := false, marks := #[] }
noncomputable def frB (j : Nat) (b : Bool) (s : Nat) : Frame := { wait := .nextBranch, pc := j, pos := s, outermost := b, kept := frK }
noncomputable def frG (b : Bool) (p n : Nat) : Frame := { wait := .giveBack, pc := 9, pos := p, outermost := b, count := n, kept := frK }
variable {T : Array Nat} {s p h n : Nat} {b : Bool} {mk : Array (Option Nat)} {fr : List Frame} {se : Seen} {lm li : Int}
theorem st_mark0 : ∃ se', (mst T s 5 p h b mk (-1) (-1) fr 1 none se none).step = mst T s 7 p h b (mk.setIfInBounds 0 (some p)) 0 (-1) fr 1 none se' none := ⟨_, rfl⟩
theorem st_branch : ∃ se', (mst T s 7 p h b mk 0 (-1) fr 1 none se none).step = mst T s 9 p p b mk 0 (-1) (frB 8 b p :: fr) 2 none se' none := ⟨_, rfl⟩
theorem st_jump1 : ∃ se', (mst T s 20 p h b mk 0 (-1) fr n none se none).step = mst T s 38 p h b mk 0 (-1) fr n none se' none := ⟨_, rfl⟩
theorem st_jump2 : ∃ se', (mst T s 35 p h b mk 0 (-1) fr n none se none).step = mst T s 38 p h b mk 0 (-1) fr n none se' none := ⟨_, rfl⟩
theorem st_mark1 : (mst T s 38 p h b mk 0 (-1) fr n none se none).step = mst T s 40 p h b (mk.setIfInBounds 1 (some p)) 1 1 fr n none (se.add 17) none := by
  have e : (mst T s 38 p h b mk 0 (-1) fr n none se none).step = (mst T s 38 p h b mk 0 (-1) fr n none (se.add 17) none).mark 1 := rfl
  rw [e]
  rfl
theorem st_done : (mst T s 40 p h b mk 1 1 fr n none se none).step = mst T s 40 p p b mk 1 1 fr n (some true) (se.add 1) none := by
  cases b <;> rfl
theorem st_yes_G {b' : Bool} {q r : Nat} : (mst T s r q h b mk lm li (frG b' p n :: fr) 3 (some true) se none).step = mst T s 9 p h b' mk lm li fr 2 (some true) se none := rfl
theorem st_yes_B {b' : Bool} {q r : Nat} : (mst T s p q h b mk lm li (frB r b' n :: fr) 2 (some true) se none).step = mst T s r n h b' mk lm li fr 1 (some true) se none := rfl
theorem st_yes_F {b' : Bool} {q : Nat} : (mst T s p q h b mk lm li (frF b' n :: fr) 1 (some true) se none).step = mst T s 5 n h b' mk lm li fr 0 (some true) se none := rfl
theorem st_end {q : Nat} {a : Bool} : (mst T s p q h b mk lm li [] n (some a) se none).step = mst T s p q h b mk lm li [] n (some a) se (some (if a then .matched else .failed)) := rfl
theorem st_no_B8 {b' : Bool} {q : Nat} : (mst T s p q h b mk lm li (frB 8 b' n :: fr) 2 (some false) se none).step = mst T s 23 n n b' mk 0 (-1) (frB 22 b' n :: fr) 2 none se none := rfl
theorem st_no_B22 {b' : Bool} {q : Nat} : (mst T s p q h b mk lm li (frB 22 b' n :: fr) 2 (some false) se none).step = mst T s 22 n h b' mk 0 (-1) fr 1 (some false) se none := rfl
theorem st_no_F_more {b' : Bool} {q : Nat} (hn : n < T.size) : (mst T s p q h b mk lm li [frF b' n] 1 (some false) se none).step = mst T (n + 1) 5 (n + 1) (n + 1) false mk (-1) (-1) [frF false (n + 1)] 1 none se none := by
  have e : (mst T s p q h b mk lm li [frF b' n] 1 (some false) se none).step = if n < T.size then mst T (n + 1) 5 (n + 1) (n + 1) false mk (-1) (-1) [frF false (n + 1)] 1 none se none else mst T s 5 n h b' mk lm li [] 0 (some false) se none := rfl
  rw [e, if_pos hn]
theorem st_no_F_end {b' : Bool} {q : Nat} (hn : ¬ n < T.size) : (mst T s p q h b mk lm li [frF b' n] 1 (some false) se none).step = mst T s 5 n h b' mk lm li [] 0 (some false) se none := by
  have e : (mst T s p q h b mk lm li [frF b' n] 1 (some false) se none).step = if n < T.size then mst T (n + 1) 5 (n + 1) (n + 1) false mk (-1) (-1) [frF false (n + 1)] 1 none se none else mst T s 5 n h b' mk lm li [] 0 (some false) se none := rfl
  rw [e, if_neg hn]
noncomputable def dig (c : Nat) : Bool := 48 ≤ c && c ≤ 57
noncomputable def sep (c : Nat) : Bool := c == 43 || c == 45 || c == 46 || c == 95
theorem acc13 (c : Nat) (se : Seen) : ∃ se', accepts reC 13 c se = .ok (dig c, se') := by
  have e : accepts reC 13 c se = if dig c then .ok (true, se.add 22) else .ok (false, (se.add 22).add 0) := rfl
  rw [e]
  cases dig c
  · exact ⟨_, rfl⟩
  · exact ⟨_, rfl⟩
theorem acc23 (c : Nat) (se : Seen) : ∃ se', accepts reC 23 c se = .ok (sep c, se') := by
  have e : accepts reC 23 c se = if (c < 256 && (reC.getD (25 + (1 + c / 32)) 0).testBit (c % 32)) = true then .ok (true, se.add 9) else .ok (false, (se.add 9).add 0) := rfl
  have e2 : (c < 256 && (reC.getD (25 + (1 + c / 32)) 0).testBit (c % 32)) = sep c := by
    by_cases hc : c < 256
    · exact (by decide +kernel : ∀ c : Fin 256, ((c.1 < 256 : Bool) && (reC.getD (25 + (1 + c.1 / 32)) 0).testBit (c.1 % 32)) = sep c.1) ⟨c, hc⟩
    · have h1 : sep c = false := by
        unfold sep
        simp only [Bool.or_eq_false_iff, beq_eq_false_iff_ne]
        omega
      simp [hc, h1]
  rw [e, e2]
  cases sep c
  · exact ⟨_, rfl⟩
  · exact ⟨_, rfl⟩
noncomputable def digits (l : List Nat) : Nat := (l.takeWhile dig).length
theorem digits_no {c : Nat} {r : List Nat} (h : dig c = false) : digits (c :: r) = 0 := by simp [digits, h]
theorem digits_yes {c : Nat} {r : List Nat} (h : dig c = true) : digits (c :: r) = 1 + digits r := by simp [digits, h]; omega
theorem run13 (l : List Nat) : ∀ (n p found : Nat) (se : Seen), n = l.length - p → ∃ se', run reC l.toArray 13 n p found se = .ok (found + digits (l.drop p), se')
  | 0, p, found, se, hn => by
    have : l.drop p = [] := List.drop_of_length_le (by omega)
    exact ⟨se, by rw [run, this]; rfl⟩
  | n + 1, p, found, se, hn => by
    have hp : p < l.length := by omega
    have hd : l.drop p = l[p] :: l.drop (p + 1) := List.drop_eq_getElem_cons hp
    have hg : l.toArray.getD p 0 = l[p] := by simp [Array.getD, hp]
    obtain ⟨se', he⟩ := acc13 l[p] se
    cases hc : dig l[p] with
    | false =>
      refine ⟨se', ?_⟩
      rw [run, hg, he, hc, hd]
      rw [digits_no hc]
      rfl
    | true =>
      obtain ⟨se'', h2⟩ := run13 l n (p + 1) (found + 1) se' (by omega)
      refine ⟨se'', ?_⟩
      rw [run, hg, he, hc, hd]
      rw [digits_yes hc, ← Nat.add_assoc]
      exact h2
/-- the run of figures: none here -/
theorem st_rep_no (l : List Nat) (hl : l.length ≤ 4294967295) (hd : digits (l.drop p) = 0) : ∃ se', (mst l.toArray s 9 p h b mk 0 (-1) fr n none se none).step = mst l.toArray s 9 p h b mk 0 (-1) fr n (some false) se' none := by
  have e : (mst l.toArray s 9 p h b mk 0 (-1) fr n none se none).step =
      if ((1 : Nat) : Int) > ((l.toArray.size : Nat) : Int) - (p : Nat) then mst l.toArray s 9 p h b mk 0 (-1) fr n (some false) (se.add 24) none else
      match run reC l.toArray 13 (min 4294967295 (((l.toArray.size : Nat) : Int) - (p : Nat)).toNat) p 0 ((se.add 24).add 13) with
      | .error why => (mst l.toArray s 9 p h b mk 0 (-1) fr n none (se.add 24) none).stick why
      | .ok (k, se2) => if k < 1 then mst l.toArray s 9 p h b mk 0 (-1) fr n (some false) se2 none else (mst l.toArray s 9 (p + k) h b mk 0 (-1) fr n none se2 none).afterRun .giveBack k frK := rfl
  rw [e]
  split
  · exact ⟨_, rfl⟩
  · have hm : min 4294967295 (((l.toArray.size : Nat) : Int) - (p : Nat)).toNat = l.length - p := by simp only [List.size_toArray]; omega
    obtain ⟨se2, h2⟩ := run13 l _ p 0 ((se.add 24).add 13) rfl
    rw [hm, h2, hd]
    exact ⟨se2, rfl⟩
theorem st_rep_yes (l : List Nat) (hl : l.length ≤ 4294967295) (hp : p < l.length) (hd : digits (l.drop p) = n + 1) : ∃ se', (mst l.toArray s 9 p h b mk 0 (-1) fr 2 none se none).step = mst l.toArray s 20 (p + (n + 1)) (p + (n + 1)) b mk 0 (-1) (frG b (p + (n + 1)) (n + 1) :: fr) 3 none se' none := by
  have e : (mst l.toArray s 9 p h b mk 0 (-1) fr 2 none se none).step =
      if ((1 : Nat) : Int) > ((l.toArray.size : Nat) : Int) - (p : Nat) then mst l.toArray s 9 p h b mk 0 (-1) fr 2 (some false) (se.add 24) none else
      match run reC l.toArray 13 (min 4294967295 (((l.toArray.size : Nat) : Int) - (p : Nat)).toNat) p 0 ((se.add 24).add 13) with
      | .error why => (mst l.toArray s 9 p h b mk 0 (-1) fr 2 none (se.add 24) none).stick why
      | .ok (k, se2) => if k < 1 then mst l.toArray s 9 p h b mk 0 (-1) fr 2 (some false) se2 none else (mst l.toArray s 9 (p + k) h b mk 0 (-1) fr 2 none se2 none).afterRun .giveBack k frK := rfl
  rw [e, if_neg (by simp only [List.size_toArray]; omega)]
  have hm : min 4294967295 (((l.toArray.size : Nat) : Int) - (p : Nat)).toNat = l.length - p := by simp only [List.size_toArray]; omega
  obtain ⟨se2, h2⟩ := run13 l _ p 0 ((se.add 24).add 13) rfl
  rw [hm, h2, hd, Nat.zero_add]
  refine ⟨se2, ?_⟩
  show (if n + 1 < 1 then _ else _) = _
  rw [if_neg (by omega)]
  rfl
theorem st_in (l : List Nat) : ∃ se', (mst l.toArray s 23 p h b mk 0 (-1) fr n none se none).step = if p < l.length ∧ sep (l.getD p 0) = true then mst l.toArray s 35 (p + 1) h b mk 0 (-1) fr n none se' none else mst l.toArray s 23 p h b mk 0 (-1) fr n (some false) se' none := by
  have e : (mst l.toArray s 23 p h b mk 0 (-1) fr n none se none).step = if p ≥ l.toArray.size then mst l.toArray s 23 p h b mk 0 (-1) fr n (some false) (se.add 13) none else
      match accepts reC 23 (l.toArray.getD p 0) (se.add 13) with
      | .error why => (mst l.toArray s 23 p h b mk 0 (-1) fr n none (se.add 13) none).stick why
      | .ok (false, se2) => mst l.toArray s 23 p h b mk 0 (-1) fr n (some false) se2 none
      | .ok (true, se2) => mst l.toArray s 35 (p + 1) h b mk 0 (-1) fr n none se2 none := rfl
  rw [e]
  by_cases hp : p < l.length
  · rw [if_neg (by simp only [List.size_toArray]; omega)]
    have hg : l.toArray.getD p 0 = l.getD p 0 := by simp [Array.getD, hp]
    obtain ⟨se2, h2⟩ := acc23 (l.getD p 0) (se.add 13)
    rw [hg, h2]
    refine ⟨se2, ?_⟩
    cases hs : sep (l.getD p 0)
    · rw [if_neg (by simp)]
    · rw [if_pos ⟨hp, rfl⟩]
  · rw [if_pos (by simp only [List.size_toArray]; omega)]
    refine ⟨se.add 13, ?_⟩
    rw [if_neg (fun x => hp x.1)]
theorem step_stop {m : M} (h : m.outcome.isSome = true) : m.step = m := by
  unfold M.step
  rw [if_pos h]
theorem runFor_stop {m : M} (h : m.outcome.isSome = true) : ∀ n, M.runFor n m = m
  | 0 => rfl
  | n + 1 => by rw [M.runFor, if_pos h]
theorem runFor_succ (n : Nat) (m : M) : M.runFor (n + 1) m = M.runFor n m.step := by
  rw [M.runFor]
  split
  · rename_i h
    rw [step_stop h, runFor_stop h]
  · rfl
theorem runFor_add (a : Nat) : ∀ (k : Nat) (m : M), M.runFor (k + a) m = M.runFor a (M.runFor k m)
  | 0, m => by rw [Nat.zero_add]; rfl
  | k + 1, m => by rw [Nat.succ_add, runFor_succ, runFor_succ, runFor_add a k]
/-- the next figures or mark: how many signs ahead of it, how long it is -/
noncomputable def next : List Nat → Option (Nat × Nat)
  | [] => none
  | c :: r => if dig c then some (0, digits (c :: r)) else if sep c then some (0, 1) else (next r).map fun x => (x.1 + 1, x.2)
noncomputable def Found (l : List Nat) (s : Nat) (m : M) : Prop :=
  match next (l.drop s) with
  | none => m.outcome = some .failed
  | some (o, k) => m.outcome = some .matched ∧ m.start = s + o ∧ m.handed = s + o + k ∧ m.lastmark = 1 ∧ m.marks.getD 0 none = some (s + o) ∧ m.marks.getD 1 none = some (s + o + k)
theorem found_at {l : List Nat} {s k : Nat} {p : Nat} {mk : Array (Option Nat)} (hm : mk.size = 2) (hn : next (l.drop s) = some (0, k)) :
    Found l s (mst l.toArray s p s (s + k) b ((mk.setIfInBounds 0 (some s)).setIfInBounds 1 (some (s + k))) 1 1 [] 0 (some true) se (some .matched)) := by
  unfold Found
  rw [hn]
  refine ⟨rfl, rfl, rfl, rfl, ?_, ?_⟩
  · show ((mk.setIfInBounds 0 (some s)).setIfInBounds 1 (some (s + k))).getD 0 none = _
    simp [Array.getD, hm]
  · show ((mk.setIfInBounds 0 (some s)).setIfInBounds 1 (some (s + k))).getD 1 none = _
    simp [Array.getD, hm]
theorem search_from (l : List Nat) (hl : l.length ≤ 4294967295) : ∀ (k s : Nat) (b : Bool) (mk : Array (Option Nat)) (se : Seen), k + s = l.length → mk.size = 2 →
    ∃ n, n ≤ 12 * (k + 1) ∧ Found l s (M.runFor n (mst l.toArray s 5 s s b mk (-1) (-1) [frF b s] 1 none se none))
  | 0, s, b, mk, se, hk, hm => by
    have hd : l.drop s = [] := List.drop_of_length_le (by omega)
    obtain ⟨se1, h1⟩ := st_mark0 (T := l.toArray) (s := s) (p := s) (h := s) (b := b) (mk := mk) (fr := [frF b s]) (se := se)
    obtain ⟨se2, h2⟩ := st_branch (T := l.toArray) (s := s) (p := s) (h := s) (b := b) (mk := mk.setIfInBounds 0 (some s)) (fr := [frF b s]) (se := se1)
    obtain ⟨se3, h3⟩ := st_rep_no (s := s) (p := s) (h := s) (b := b) (mk := mk.setIfInBounds 0 (some s)) (fr := frB 8 b s :: [frF b s]) (n := 2) (se := se2) l hl (by rw [hd]; rfl)
    obtain ⟨se5, h5⟩ := st_in (s := s) (p := s) (h := s) (b := b) (mk := mk.setIfInBounds 0 (some s)) (fr := frB 22 b s :: [frF b s]) (n := 2) (se := se3) l
    rw [if_neg (by omega)] at h5
    refine ⟨8, by omega, ?_⟩
    rw [runFor_succ, h1, runFor_succ, h2, runFor_succ, h3, runFor_succ, st_no_B8, runFor_succ, h5, runFor_succ, st_no_B22, runFor_succ, st_no_F_end (by simp only [List.size_toArray]; omega), runFor_succ, st_end]
    unfold Found
    rw [hd]
    rfl
  | k + 1, s, b, mk, se, hk, hm => by
    have hs : s < l.length := by omega
    have hd : l.drop s = l[s] :: l.drop (s + 1) := List.drop_eq_getElem_cons hs
    have hg : l.getD s 0 = l[s] := by simp [hs]
    obtain ⟨se1, h1⟩ := st_mark0 (T := l.toArray) (s := s) (p := s) (h := s) (b := b) (mk := mk) (fr := [frF b s]) (se := se)
    obtain ⟨se2, h2⟩ := st_branch (T := l.toArray) (s := s) (p := s) (h := s) (b := b) (mk := mk.setIfInBounds 0 (some s)) (fr := [frF b s]) (se := se1)
    cases hc : dig l[s] with
    | true =>
      obtain ⟨j, hj⟩ : ∃ j, digits (l.drop s) = j + 1 := ⟨digits (l.drop (s + 1)), by rw [hd, digits_yes hc]; omega⟩
      obtain ⟨se3, h3⟩ := st_rep_yes (s := s) (p := s) (h := s) (b := b) (mk := mk.setIfInBounds 0 (some s)) (fr := frB 8 b s :: [frF b s]) (se := se2) l hl hs hj
      obtain ⟨se4, h4⟩ := st_jump1 (T := l.toArray) (s := s) (p := s + (j + 1)) (h := s + (j + 1)) (b := b) (mk := mk.setIfInBounds 0 (some s)) (fr := frG b (s + (j + 1)) (j + 1) :: frB 8 b s :: [frF b s]) (n := 3) (se := se3)
      refine ⟨10, by omega, ?_⟩
      rw [runFor_succ, h1, runFor_succ, h2, runFor_succ, h3, runFor_succ, h4, runFor_succ, st_mark1, runFor_succ, st_done, runFor_succ, st_yes_G, runFor_succ, st_yes_B, runFor_succ, st_yes_F, runFor_succ, st_end]
      refine found_at hm ?_
      rw [hd, next, if_pos hc, ← hd, hj]
    | false =>
      obtain ⟨se3, h3⟩ := st_rep_no (s := s) (p := s) (h := s) (b := b) (mk := mk.setIfInBounds 0 (some s)) (fr := frB 8 b s :: [frF b s]) (n := 2) (se := se2) l hl (by rw [hd]; exact digits_no hc)
      obtain ⟨se5, h5⟩ := st_in (s := s) (p := s) (h := s) (b := b) (mk := mk.setIfInBounds 0 (some s)) (fr := frB 22 b s :: [frF b s]) (n := 2) (se := se3) l
      cases hp : sep l[s] with
      | true =>
        rw [hg, if_pos ⟨hs, hp⟩] at h5
        obtain ⟨se6, h6⟩ := st_jump2 (T := l.toArray) (s := s) (p := s + 1) (h := s) (b := b) (mk := mk.setIfInBounds 0 (some s)) (fr := frB 22 b s :: [frF b s]) (n := 2) (se := se5)
        refine ⟨11, by omega, ?_⟩
        rw [runFor_succ, h1, runFor_succ, h2, runFor_succ, h3, runFor_succ, st_no_B8, runFor_succ, h5, runFor_succ, h6, runFor_succ, st_mark1, runFor_succ, st_done, runFor_succ, st_yes_B, runFor_succ, st_yes_F, runFor_succ, st_end]
        refine found_at hm ?_
        rw [hd, next, if_neg (by rw [hc]; decide), if_pos hp]
      | false =>
        rw [hg, if_neg (by rw [hp]; rintro ⟨_, h⟩; cases h)] at h5
        obtain ⟨n, hn, hF⟩ := search_from l hl k (s + 1) false (mk.setIfInBounds 0 (some s)) se5 (by omega) (by simpa using hm)
        refine ⟨7 + n, by omega, ?_⟩
        rw [runFor_add, runFor_succ, h1, runFor_succ, h2, runFor_succ, h3, runFor_succ, st_no_B8, runFor_succ, h5, runFor_succ, st_no_B22, runFor_succ, st_no_F_more (by simpa using hs), M.runFor]
        unfold Found at hF ⊢
        rw [hd, next, if_neg (by rw [hc]; decide), if_neg (by rw [hp]; decide)]
        cases hx : next (l.drop (s + 1)) with
        | none => rw [hx] at hF; exact hF
        | some x =>
          rw [hx] at hF
          obtain ⟨a1, a2, a3, a4, a5, a6⟩ := hF
          exact ⟨a1, a2.trans (by omega), a3.trans (by omega), a4, a5.trans (by congr 1; omega), a6.trans (by congr 1; omega)⟩
theorem for_search_eq (l : List Nat) (s : Nat) : forSearch reC l.toArray 1 s l.length false = if (decide (s > l.length) || decide (l.length - s < 1)) = true then
        ({ code := reC, text := l.toArray, lim := l.length, start := s, pc := 5, pos := s, handed := s, marks := Array.replicate 2 none, seen := ({} : Seen).add 14 } : M).say false else
        mst l.toArray s 5 s s true (Array.replicate 2 none) (-1) (-1) [frF true s] 1 none (({} : Seen).add 14) none := rfl
theorem for_search (l : List Nat) (hl : l.length ≤ 4294967295) (s : Nat) (hs : s ≤ l.length) : ∃ n, n ≤ 12 * (l.length + 1) ∧ Found l s (M.runFor n (forSearch reC l.toArray 1 s l.length false)) := by
  by_cases h : s < l.length
  · rw [for_search_eq, if_neg (by simp; omega)]
    obtain ⟨n, hn, hF⟩ := search_from l hl (l.length - s) s true (Array.replicate 2 none) (({} : Seen).add 14) (by omega) (by simp)
    exact ⟨n, by omega, hF⟩
  · refine ⟨1, by omega, ?_⟩
    have hd : l.drop s = [] := List.drop_of_length_le (by omega)
    rw [for_search_eq, if_pos (by simp; omega)]
    unfold Found
    rw [hd]
    rfl
end Mine
end
theorem Mine.topOffRx : True := by
  w_top off
  trivial

section
open PySem PySem.W PySem.W.X PyProof.Rows PySem.Calls
set_option maxRecDepth 100000
namespace Mine
theorem plainAttrs_rp : PlainAttrs "re.Pattern" :=
  ⟨⟨"object.__getattribute__", by rw [typeLookup_type, builtinLookup_eq_fast]; kernel_rfl, by decide +kernel⟩, by rw [typeLookup_type, builtinLookup_eq_fast]; kernel_rfl⟩
theorem slot_rp_split : Slot "re.Pattern" "split" "re.Pattern.split" :=
  .of (owner := "re.Pattern") (n := "split") (by rw [typeLookup_type, builtinLookup_eq_fast]; kernel_rfl) (by decide +kernel) (by decide +kernel) (by decide +kernel)
    (by first | exact .inl (by decide +kernel) | exact .inr (by decide +kernel)) (by rw [isSubtype_type]; kernel_rfl)
theorem type_rp_split : typeOf (.builtin "re.Pattern.split") = pure (.type "method_descriptor") := by show builtinType _ = _; rw [builtinType_eq_fast]; kernel_rfl
theorem entry_rp_split : entryFor table "re.Pattern.split" = some Builtin.«re.Pattern.split» := entryFor_of_tree (by kernel_rfl)
end Mine
end
theorem Mine.topOffRp : True := by
  w_top off
  trivial

section
open PySem PySem.W PySem.W.X PyProof.Rows PySem.Calls
set_option maxRecDepth 100000
namespace Mine
open PySem.Sre PySem.Builtin.Re
theorem runFor_same {m : M} {a n : Nat} (ha : (M.runFor a m).outcome.isSome = true) (hn : (M.runFor n m).outcome.isSome = true) : M.runFor a m = M.runFor n m := by
  rcases Nat.le_total a n with h | h
  · obtain ⟨d, rfl⟩ := Nat.le.dest h
    rw [runFor_add, runFor_stop ha]
  · obtain ⟨d, rfl⟩ := Nat.le.dest h
    rw [runFor_add, runFor_stop hn]
section
variable {Md : Model} {A : Around} {E : Value → Shared → Prop} {s : Shared}
theorem wpAny_reDrive : ∀ (turns n : Nat) (m : M) {Q : M → Shared → Prop}, n ≤ 4 * turns → 0 < turns → (M.runFor n m).outcome.isSome = true → Q (M.runFor n m) s → wpAny Md A (reDrive turns m) Q E s
  | 0, n, m, Q, hn, ht, ho, hq => absurd ht (Nat.lt_irrefl _)
  | turns + 1, n, m, Q, hn, ht, ho, hq => by
    show wpAny Md A (if (M.runFor 4 m).outcome.isSome then pure (M.runFor 4 m) else do rule "sre.turn"; reDrive turns (M.runFor 4 m)) Q E s
    by_cases h : (M.runFor 4 m).outcome.isSome = true
    · rw [if_pos h, runFor_same h ho]
      exact wpAny_pure hq
    · rw [if_neg h]
      have h4 : 4 < n := by
        apply Nat.lt_of_not_le
        intro hle
        obtain ⟨d, hd⟩ := Nat.le.dest hle
        apply h
        rw [← hd, runFor_add, runFor_stop ho]
        exact ho
      obtain ⟨d, hd⟩ := Nat.le.dest (Nat.le_of_lt h4)
      subst hd
      rw [runFor_add] at ho hq
      exact wpAny_bind (wpAny_rule (wpAny_reDrive turns d _ (by omega) (by omega) ho hq))
theorem wpAny_reRun {m : M} {n : Nat} {Q : Option M → Shared → Prop} (hn : n ≤ 4 * 2 ^ 64)
    (h : ((M.runFor n m).outcome = some .matched ∧ Q (some (M.runFor n m)) s) ∨ ((M.runFor n m).outcome = some .failed ∧ Q none s)) : wpAny Md A (reRunToEnd m) Q E s := by
  have ho : (M.runFor n m).outcome.isSome = true := by rcases h with ⟨h, _⟩ | ⟨h, _⟩ <;> rw [h] <;> rfl
  unfold reRunToEnd
  refine wpAny_bind (wpAny_reDrive (2 ^ 64) n m hn (Nat.pos_of_ne_zero (by decide)) ho ?_)
  refine wpAny_bind (wpAny_forIn_list (I := fun _ _ s' => s' = s) _ _ ?_ ?_ _ _ (Eq.refl s))
  · rintro i rest b s' rfl
    split
    · exact wpAny_bind (wpAny_rule (wpAny_pure rfl))
    · exact wpAny_pure rfl
  · rintro b s' rfl
    rcases h with ⟨e, hq⟩ | ⟨e, hq⟩
    · rw [e]; exact wpAny_pure hq
    · rw [e]; exact wpAny_pure hq
theorem wpAny_next {t : ReTarget} {l : List Nat} {st : Nat} {Q : Option M → Shared → Prop} (hc : t.code = reC) (ht : t.text = l.toArray) (hg : t.groups = 1) (hl : t.lim = l.length) (hlen : l.length ≤ 4294967295) (hs : st ≤ l.length)
    (h : match next (l.drop st) with
      | none => Q none s
      | some (o, k) => ∀ m : M, m.start = st + o → m.handed = st + o + k → m.lastmark = 1 → m.marks.getD 0 none = some (st + o) → m.marks.getD 1 none = some (st + o + k) → Q (some m) s) :
    wpAny Md A (reNextFound t st false) Q E s := by
  unfold reNextFound
  rw [hc, ht, hg, hl]
  obtain ⟨n, hn, hF⟩ := for_search l hlen st hs
  refine wpAny_reRun (n := n) (by omega) ?_
  unfold Found at hF
  cases hx : next (l.drop st) with
  | none =>
    rw [hx] at hF h
    exact .inr ⟨hF, h⟩
  | some x =>
    obtain ⟨o, k⟩ := x
    rw [hx] at hF h
    exact .inl ⟨hF.1, h _ hF.2.1 hF.2.2.1 hF.2.2.2.1 hF.2.2.2.2.1 hF.2.2.2.2.2⟩
theorem takeWhile_le (r : List Nat) : digits r ≤ r.length := by
  unfold digits
  exact (List.takeWhile_sublist _).length_le
theorem next_le : ∀ {d : List Nat} {o k : Nat}, next d = some (o, k) → o + k ≤ d.length ∧ 0 < k
  | [], o, k, h => by cases h
  | c :: r, o, k, h => by
    rw [next] at h
    split at h
    · rename_i hc
      obtain ⟨rfl, rfl⟩ := Prod.mk.inj (Option.some.inj h)
      rw [digits_yes hc]
      have : digits r ≤ r.length := takeWhile_le r
      simp only [List.length_cons]
      omega
    · split at h
      · obtain ⟨rfl, rfl⟩ := Prod.mk.inj (Option.some.inj h)
        simp only [List.length_cons]
        omega
      · cases hx : next r with
        | none => rw [hx] at h; cases h
        | some x =>
          obtain ⟨o', k'⟩ := x
          rw [hx] at h
          obtain ⟨rfl, rfl⟩ := Prod.mk.inj (Option.some.inj h)
          have := next_le hx
          simp only [List.length_cons]
          omega
/-- what the pattern cuts a text into -/
noncomputable def cutsF : Nat → List Nat → List (List Nat)
  | 0, d => [d]
  | f + 1, d => match next d with
    | none => [d]
    | some (o, k) => d.take o :: (d.drop o).take k :: cutsF f (d.drop (o + k))
noncomputable def cuts (d : List Nat) : List (List Nat) := cutsF (d.length + 1) d
theorem cutsF_more : ∀ (f : Nat) (d : List Nat), d.length < f → cutsF f d = cutsF (d.length + 1) d
  | 0, d, h => absurd h (Nat.not_lt_zero _)
  | f + 1, d, h => by
    rw [cutsF, cutsF]
    cases hx : next d with
    | none => rfl
    | some x =>
      obtain ⟨o, k⟩ := x
      have hl := next_le hx
      have h1 : (d.drop (o + k)).length < d.length := by rw [List.length_drop]; omega
      simp only
      rw [cutsF_more f _ (by omega)]
      by_cases hd : d.length = f
      · rw [hd]
        rw [cutsF_more f _ (by omega)]
      · have h2 : (d.drop (o + k)).length + 1 ≤ d.length := h1
        rw [cutsF_more d.length _ (by omega)]
  termination_by f => f
theorem cuts_eq (d : List Nat) : cuts d = match next d with
    | none => [d]
    | some (o, k) => d.take o :: (d.drop o).take k :: cuts (d.drop (o + k)) := by
  unfold cuts
  rw [cutsF]
  cases hx : next d with
  | none => rfl
  | some x =>
    obtain ⟨o, k⟩ := x
    have hl := next_le hx
    have h1 : (d.drop (o + k)).length < d.length := by rw [List.length_drop]; omega
    simp only
    rw [cutsF_more d.length _ h1]
theorem re_named (v : Value) : reNamed "re.Pattern.split" "split" ["string", "maxsplit"] 1 [v] [] = pure [some v, none] := by
  with_unfolding_all rfl
theorem whole_target {p q : Addr} {o op : Obj} {fs xs : Array Value} {k : Nat} {l : List Nat} {t : Tok} {Q : ReTarget → Shared → Prop} (ho : s.heap.get? p = some o) (hd : o.data = .fields fs) (h2 : reRawNat (fs.getD 2 .none) = 1) (h5 : fs.getD 5 .none = .ref q) (h6 : reRawNat (fs.getD 6 .none) = 0)
    (hq : s.heap.get? q = some op) (hdq : op.data = .seq xs k) (hcode : (xs.map reRawOf).map (·.toNat) = reC)
    (h : Q { pattern := .ref p, string := .str (tx l) t, code := reC, text := l.toArray, kind := 0, groups := 1, pos := 0, lim := l.length } s) : wpAny Md A (reWholeTarget (.ref p) (.str (tx l) t)) Q E s := by
  unfold reWholeTarget
  refine wpAny_bind (wpAny_fieldsOf ho hd ?_)
  refine wpAny_bind (wpAny_pure ?_)
  simp only [h6, h5, h2]
  refine wpAny_bind (wpAny_pure ?_)
  unfold reRawItems seqItems?
  refine wpAny_bind (wpAny_bind (wpAny_bind (wpAny_load hq ?_)))
  rw [hdq]
  refine wpAny_pure (wpAny_pure (wpAny_pure ?_))
  have e : ((some xs).getD #[]).map reRawOf = xs.map reRawOf := rfl
  rw [e, hcode]
  exact h
noncomputable abbrev IsT (v : Value) (l : List Nat) : Prop := ∃ t, v = .str (tx l) t
theorem slice_text {l : List Nat} {b e : Nat} {Q : Value → Shared → Prop} (hl : l.length ≤ 1000) (h : ∀ t k, Q (.str (tx ((l.drop b).take (e - b))) t) { s with toks := k }) : wpAny Md A (reSlice l.toArray 0 b e) Q E s := by
  have ex : (⟨l.toArray.extract b e⟩ : Str) = tx ((l.drop b).take (e - b)) := by
    unfold tx
    congr 1
    simp [List.extract_toArray]
  show wpAny Md A (mkStr ⟨l.toArray.extract b e⟩) Q E s
  rw [ex]
  refine wpAny_mkStr (h _ _) ?_
  rw [tx_length, List.length_take, List.length_drop]
  exact Nat.le_trans (Nat.min_le_right _ _) (Nat.le_trans (Nat.sub_le _ _) (Nat.le_trans hl (by unfold sizeLine; decide)))
theorem split_body {p q : Addr} {o op : Obj} {fs xs : Array Value} {k : Nat} {l : List Nat} {t : Tok} {Q : PySem.Fin → Shared → Prop} (ho : s.heap.get? p = some o) (hd : o.data = .fields fs) (h2 : reRawNat (fs.getD 2 .none) = 1) (h5 : fs.getD 5 .none = .ref q) (h6 : reRawNat (fs.getD 6 .none) = 0)
    (hq : s.heap.get? q = some op) (hdq : op.data = .seq xs k) (hcode : (xs.map reRawOf).map (·.toNat) = reC) (hlen : l.length ≤ 1000)
    (h : ∀ vs k', All2 (fun l v => IsT v l) (cuts l) vs → Q (.done (.ret (.ref s.heap.objs.size))) { s with heap := s.heap.push { cls := .type "list", data := .seq (vs : List Value).toArray }, toks := k' }) :
    wpAny Md A (Builtin.«re.Pattern.split» ⟨[.ref p, .str (tx l) t], []⟩) Q E s := by
  unfold Builtin.«re.Pattern.split»
  simp only [re_named, pure_bind]
  refine wpAny_bind (whole_target ho hd h2 h5 h6 hq hdq hcode ?_)
  refine wpAny_bind (wpAny_forIn_list (I := fun rest (b : Array Value × Nat × Nat × Bool × Int × Bool) s' => ∃ k' done, s' = { s with toks := k' } ∧ b.2.2.2.1 = false ∧ b.2.1 = b.2.2.1 ∧ (b.2.1 ≤ l.length ∧ done.length ≤ 2 * b.2.1) ∧ All2 (fun l v => IsT v l) done b.1.toList ∧
    (b.2.2.2.2.2 = false → l.length - b.2.1 + 1 ≤ rest.length ∧ cuts l = done ++ cuts (l.drop b.2.1)) ∧ (b.2.2.2.2.2 = true → cuts l = done ++ [l.drop b.2.1])) _ _ ?turn ?fin _ _ ?init)
  case init =>
    refine ⟨s.toks, [], rfl, rfl, rfl, ⟨Nat.zero_le _, Nat.zero_le _⟩, .nil, fun _ => ⟨?_, rfl⟩, fun e => by cases e⟩
    simp [reMostMatches]
    omega
  case turn =>
    rintro x rest ⟨out, start, last, must, n, over⟩ s' ⟨k', done, rfl, hm, hsl, hle, hA, h1, h2⟩
    simp only at hm hsl hle hA h1 h2 ⊢
    subst hm hsl
    cases over with
    | true =>
      exact wpAny_pure ⟨k', done, rfl, rfl, rfl, hle, hA, (fun e => by cases e), h2⟩
    | false =>
      obtain ⟨hr, hc⟩ := h1 rfl
      simp only [Bool.not_false, if_true, bne_self_eq_false, Bool.false_and, Bool.false_eq_true, if_false]
      refine wpAny_bind (wpAny_next (l := l) rfl rfl rfl rfl (by omega) hle.1 ?_)
      cases hx : next (l.drop start) with
      | none =>
        refine wpAny_pure ⟨k', done, rfl, rfl, rfl, hle, hA, (fun e => by cases e), fun _ => ?_⟩
        rw [hc, cuts_eq, hx]
      | some y =>
        obtain ⟨o, j⟩ := y
        have hb := next_le hx
        rw [List.length_drop] at hb
        intro m m1 m2 m3 m4 m5
        simp only [m1, m2]
        refine wpAny_bind (slice_text hlen fun t1 k1 => ?_)
        rw [show List.range 1 = [0] from rfl, List.forIn_cons, bind_assoc]
        have hg : ∀ (T0 : ReTarget) {A : Around} {E : Value → Shared → Prop} {s : Shared} {Q : Value → Shared → Prop}, T0.text = l.toArray → T0.kind = 0 → (∀ t k, Q (.str (tx ((l.drop (start + o)).take j)) t) { s with toks := k }) → wpAny Md A (reMachineGroup T0 m (0 + 1) (pure Value.none)) Q E s := by
          intro T0 A E s Q ht hk hQ
          unfold reMachineGroup
          rw [if_neg (by rw [m3]; decide)]
          rw [show 2 * (0 + 1 - 1) = 0 from rfl, show 0 + 1 = 1 from rfl, m4, m5]
          simp only
          rw [if_neg (by omega), ht, hk]
          refine slice_text hlen fun t k => ?_
          rw [show start + o + j - (start + o) = j by omega]
          exact hQ t k
        refine wpAny_bind (wpAny_bind (hg _ rfl rfl fun t2 k2 => ?_))
        refine wpAny_pure ?_
        simp only [List.forIn_nil, pure_bind]
        refine wpAny_pure ?_
        refine ⟨k2, done ++ [(l.drop start).take o, (l.drop (start + o)).take j], rfl, ?_, rfl, ⟨?_, ?_⟩, ?_, fun _ => ⟨?_, ?_⟩, fun e => by cases e⟩
        · simp only [beq_eq_false_iff_ne]; omega
        · simp only; omega
        · simp only [List.length_append, List.length_cons, List.length_nil]; omega
        · simp only [Array.toList_push, List.append_assoc]
          refine hA.append (.cons ⟨t1, ?_⟩ (.cons ⟨t2, rfl⟩ .nil))
          rw [show start + o - start = o by omega]
        · simp only [List.length_cons] at hr ⊢; omega
        · rw [hc, cuts_eq, hx]
          simp [List.drop_drop, Nat.add_assoc]
  case fin =>
    rintro ⟨out, start, last, must, n, over⟩ s' ⟨k', done, rfl, hm, hsl, hle, hA, h1, h2⟩
    simp only at hm hsl hle hA h1 h2 ⊢
    subst hm hsl
    cases over with
    | false =>
      have := (h1 rfl).1
      simp only [List.length_nil] at this
      omega
    | true =>
      simp only [Bool.not_true, Bool.false_eq_true, if_false]
      refine wpAny_bind (slice_text hlen fun t1 k1 => ?_)
      refine wpAny_bind (wpAny_newList (hsz := by
        have := hA.length
        simp only [Array.toList_push, List.length_append, List.length_cons, List.length_nil]
        rw [sizeLine_eq]; omega) ?_)
      refine wpAny_pure ?_
      have e : (out.push (.str (tx (List.take (l.length - start) (List.drop start l))) t1)).toList = out.toList ++ [.str (tx (List.take (l.length - start) (List.drop start l))) t1] := by simp
      rw [e]
      refine h _ _ ?_
      rw [h2 rfl]
      refine hA.append (.cons ⟨t1, ?_⟩ .nil)
      rw [List.take_of_length_le (by rw [List.length_drop]; exact Nat.le_refl _)]
end
theorem owner_rp : Manifest.owners.lookup (String.ofList ['n', 'r', 'e', 't', 't', 'a', 'P', '.', 'e', 'r'].reverse) = some Manifest.sig_re_Pattern := by kernel_rfl
theorem args_rp_split (a b : Value) : argsOk "re.Pattern.split" ⟨[a, b], []⟩ := by
  unfold argsOk; rw [signature?_of (id := "re.Pattern.split") (n := ['t', 'i', 'l', 'p', 's']) (o := ['n', 'r', 'e', 't', 't', 'a', 'P', '.', 'e', 'r']) (by kernel_rfl) owner_rp]; kernel_rfl
section
variable {prog : Program} {w : World} {A : Around} {E : Value → Shared → Prop} {s : Shared} {h₀ : Heap} {L : Addr} {m : PySem.Str → Option Value} {news : List (Addr × Obj)}
/-- the pattern object and its code, as they lie in the heap -/
structure PatAt (h : Heap) (p : Addr) : Prop where
  ex : ∃ (q : Addr) (o op : Obj) (fs xs : Array Value) (k : Nat), h.get? p = some o ∧ o.cls = .type "re.Pattern" ∧ o.dict = none ∧ o.data = .fields fs ∧ reRawNat (fs.getD 2 .none) = 1 ∧ fs.getD 5 .none = .ref q ∧ reRawNat (fs.getD 6 .none) = 0 ∧ h.get? q = some op ∧ op.data = .seq xs k ∧ (xs.map reRawOf).map (·.toNat) = reC
theorem PatAt.keeps {h h' : Heap} {p : Addr} (P : PatAt h p) (hk : ∀ b o, h.get? b = some o → h'.get? b = some o) : PatAt h' p := by
  obtain ⟨q, o, op, fs, xs, k, a1, a2, a3, a4, a5, a6, a7, a8, a9, a10⟩ := P.ex
  exact ⟨q, o, op, fs, xs, k, hk _ _ a1, a2, a3, a4, a5, a6, a7, hk _ _ a8, a9, a10⟩
theorem split_method {p : Addr} {pl : Sem Bool} {Q : Value × List Value → Shared → Prop} (P : PatAt s.heap p) (h : Q (.builtin "re.Pattern.split", [.ref p]) s) : wpAny (model prog w) A (getMethod (.ref p) (Str.ofString "split") pl) Q E s := by
  obtain ⟨q, o, op, fs, xs, k, a1, a2, a3, a4, a5, a6, a7, a8, a9, a10⟩ := P.ex
  exact getMethod_builtin ⟨o, a1, a2⟩ plainAttrs_rp slot_rp_split type_rp_split (fun a e => by cases e; exact ⟨o, a1, a3⟩) h
theorem split_call {p : Addr} {l : List Nat} {t : Tok} {Q : Value → Shared → Prop} (P : PatAt s.heap p) (hl : l.length ≤ 1000) (F : Fr h₀ L s.heap m) (N : News h₀ L s.heap news)
    (h : ∀ a vs h' k', All2 (fun l v => IsT v l) (cuts l) vs → Fr h₀ L h' m → News h₀ L h' ((a, ({ cls := .type "list", data := .seq vs.toArray } : Obj)) :: news) → (∀ p ∈ news, @LT.lt Nat _ p.1 a) → @LT.lt Nat _ L a → Q (.ref a) { s with heap := h', toks := k' }) :
    wpAny (model prog w) A (call (.builtin "re.Pattern.split") [.ref p, .str (tx l) t]) Q E s := by
  obtain ⟨q, o, op, fs, xs, k, a1, a2, a3, a4, a5, a6, a7, a8, a9, a10⟩ := P.ex
  refine wpAny_call (codeAny_call_builtin slot_rp_split.plain entry_rp_split (slot_rp_split.check _ _ _ _ _ _ _ _ ⟨o, a1, a2⟩ (args_rp_split _ _) ?_))
  refine split_body a1 a4 a5 a6 a7 a8 a9 a10 hl fun vs k' hA => ?_
  refine h _ vs _ k' hA (F.pushS _) ?_ (fun p hp => Heap.lt_size (N p hp).1) F.ns.lt
  exact News.push F N _
end
end Mine
end
theorem Mine.topOffRs : True := by
  w_top off
  trivial

section
open PySem PySem.W PySem.W.X PyProof.Rows PySem.Calls
set_option maxRecDepth 100000
namespace Mine
/-- a list as it lies in the ledger -/
noncomputable abbrev lstK (its : Array Value) (k : Nat) : Obj := { cls := .type "list", data := .seq its k }
end Mine
end
theorem Mine.topOffFl : True := by
  w_top off
  trivial

section
open PySem PySem.W PySem.W.X PyProof.Rows PySem.Calls
set_option maxRecDepth 100000
namespace Mine
/-- the claim's caller lies on the stack -/
noncomputable def isCallerCode (c : Code) : Bool := match c with | .builtin "claim.caller" _ => true | _ => false
noncomputable def Called (Γ : Ctx) : Prop := isCallerCode Γ.code = true ∨ (Γ.below.any fun x => isCallerCode x.1) = true
noncomputable def CalledB (Γ : Ctx) : Prop := (Γ.below.any fun x => isCallerCode x.1) = true
noncomputable def wpC {α : Type} (M : Model) (A : Around) (t : Sem α) (Q : α → Shared → Prop) (E : Value → Shared → Prop) (s : Shared) : Prop :=
  ∀ Γ p, Γ.In A → Called Γ → Sem.wp M Γ t (fun a _ s' => Q a s') (fun e _ s' => E e s') p s
noncomputable def codeC (M : Model) (A : Around) (c : Code) (R : Result → Shared → Prop) (s : Shared) : Prop :=
  ∀ Γ p, Γ.code = c → Γ.Below A → CalledB Γ → wpCode M Γ R p s
section
variable {α β : Type} {M : Model} {A : Around} {E : Value → Shared → Prop} {s : Shared}
theorem wpC_of {t : Sem α} {Q : α → Shared → Prop} (h : wpAny M A t Q E s) : wpC M A t Q E s := fun Γ p hi _ => h Γ p hi
theorem codeC_of {c : Code} {R : Result → Shared → Prop} (h : codeAny M A c R s) : codeC M A c R s := fun Γ p hc hi _ => h Γ p hc hi
theorem wpC_mono {t : Sem α} {Q Q' : α → Shared → Prop} {E' : Value → Shared → Prop} (h : wpC M A t Q E s)
    (hQ : ∀ a s, Q a s → Q' a s) (hE : ∀ e s, E e s → E' e s) : wpC M A t Q' E' s :=
  fun Γ p hΓ hc => Sem.wp_mono M Γ t (fun a _ s => hQ a s) (fun e _ s => hE e s) p s (h Γ p hΓ hc)
theorem wpC_bind {m : Sem α} {f : α → Sem β} {Q : β → Shared → Prop} (h : wpC M A m (fun a s' => wpC M A (f a) Q E s') E s) : wpC M A (m >>= f) Q E s := fun Γ p hΓ hc => by
  rw [Sem.wp_bind']
  exact Sem.wp_mono M Γ m (fun a p' s' h' => h' Γ p' hΓ hc) (fun _ _ _ h' => h') p s (h Γ p hΓ hc)
/-- a first step that does not refuse -/
theorem wpC_step {m : Sem α} {f : α → Sem β} {Q : β → Shared → Prop} (h : wpAny M A m (fun a s' => wpC M A (f a) Q E s') E s) : wpC M A (m >>= f) Q E s := wpC_bind (wpC_of h)
theorem wpC_pure {a : α} {Q : α → Shared → Prop} (h : Q a s) : wpC M A (pure a) Q E s := wpC_of (wpAny_pure h)
theorem wpC_holding {vs : List Value} {m : Sem α} {Q : α → Shared → Prop} (h : wpC M A m Q E s) : wpC M A (holding vs m) Q E s :=
  fun Γ p hΓ hc => by rw [Sem.wp_holding]; exact h Γ p hΓ hc
theorem wpC_tryCatch {m : Sem α} {k : Value → Sem α} {Q : α → Shared → Prop} (h : wpC M A m Q (fun e s' => wpC M A (k e) Q E s') s) : wpC M A (tryCatch m k) Q E s := fun Γ p hΓ hc => by
  rw [Sem.wp_tryCatch']
  exact Sem.wp_mono M Γ m (fun _ _ _ h' => h') (fun e p' s' h' => h' Γ p' hΓ hc) p s (h Γ p hΓ hc)
theorem wpC_onRaise {m : Sem α} {k : Value → Sem Unit} {Q : α → Shared → Prop} (h : wpC M A m Q (fun e s' => wpC M A (k e) (fun _ s'' => E e s'') E s') s) : wpC M A (m.onRaise k) Q E s := fun Γ p hΓ hc => by
  rw [Sem.wp_onRaise]
  exact Sem.wp_mono M Γ m (fun _ _ _ h' => h') (fun e p' s' h' => h' Γ p' hΓ hc) p s (h Γ p hΓ hc)
theorem wpC_attempt {m : Sem α} {Q : Except Value α → Shared → Prop} (h : wpC M A m (fun a => Q (.ok a)) (fun e => Q (.error e)) s) : wpC M A m.attempt Q E s := fun Γ p hΓ hc => by
  rw [Sem.wp_attempt]; exact h Γ p hΓ hc
theorem called_enter {Γ : Ctx} (h : Called Γ) (c : Code) (hd : Option Value) (p : Pos) : CalledB (Γ.enter c hd p) := by
  show (((Γ.code, p) :: Γ.below).any fun x => isCallerCode x.1) = true
  rw [List.any_cons]
  rcases h with h | h
  · rw [h]; rfl
  · rw [h]; simp
theorem wpC_run {c : Code} {h : Option Value} {Q : Flow → Shared → Prop} (hc : codeC M (A.mark h) c (fun r s' => match r with | .ok f => Q f s' | .error e => E e s') s) (hnb : h ≠ some byPass := by intro x; cases x) : wpC M A (run c h) Q E s :=
  fun Γ p hΓ hk => by rw [Sem.wp_run]; exact hc _ p rfl (hΓ.enter c h p hnb) (called_enter hk c h p)
theorem wpC_runValue {c : Code} {Q : Value → Shared → Prop} (hc : codeC M A c (fun r s' => match r with | .ok (.ret v) => Q v s' | .ok _ => False | .error e => E e s') s) : wpC M A (runValue c) Q E s :=
  fun Γ p hΓ hk => by rw [Sem.wp_runValue]; exact hc _ p rfl (hΓ.enter c none p (by intro x; cases x)) (called_enter hk c none p)
theorem wpC_call {f : Value} {pos : List Value} {kw : List (Str × Value)} {Q : Value → Shared → Prop} (hc : codeC M A (.call f ⟨pos, kw⟩) (fun r s' => match r with | .ok (.ret v) => Q v s' | .ok _ => False | .error e => E e s') s) : wpC M A (call f pos kw) Q E s := wpC_runValue hc
theorem codeC_of_tree {c : Code} {R : Result → Shared → Prop}
    (h : wpC M (A.under c) (M.den c) (fun fin s' => match fin with | .done f => R (.ok f) s' | .again c' => c'.quiet = true ∧ codeC M A c' R s') (fun e s' => R (.error e) s') s) : codeC M A c R s := fun Γ p hc hΓ hk => by
  rw [wpCode_iff_wp, hc]
  refine Sem.wp_mono M Γ _ (fun fin p' s' h' => ?_) (fun _ _ _ h' => h') p s (h Γ p (hc ▸ hΓ.in) (.inr hk))
  cases fin with
  | done f => exact h'
  | again c' => exact ⟨h'.1, h'.2 (Γ.goto c') p' rfl (hΓ.goto c') hk⟩
theorem codeC_mono {c : Code} {R R' : Result → Shared → Prop} (h : codeC M A c R s) (hR : ∀ r s, R r s → R' r s) : codeC M A c R' s :=
  fun Γ p hc hΓ hk => wpCode_mono hR (h Γ p hc hΓ hk)
/-- where the claim's caller lies on the stack a refusal leaves no mark -/
theorem wpC_mark {own : List String} {e : Value} {Q : Unit → Shared → Prop} (h : Q () s) : wpC M A (markTheRefusal own e) Q E s := fun Γ p hΓ hk => by
  unfold markTheRefusal
  rw [Sem.wp_bind']
  show Sem.wp M Γ (if pythonCodeMadeTheCall own (((Γ.code, p) :: Γ.below).map (·.1)) = true then _ else _) _ _ p s
  have hf : pythonCodeMadeTheCall own (((Γ.code, p) :: Γ.below).map (·.1)) = false := by
    have ha : ((((Γ.code, p) :: Γ.below).map (·.1)).any isCallerCode) = true := by
      rw [List.any_map, List.any_cons]
      rcases hk with h | h
      · show (isCallerCode Γ.code || _) = true
        rw [h]; rfl
      · show (_ || Γ.below.any fun x => isCallerCode x.1) = true
        rw [h]; simp
    unfold pythonCodeMadeTheCall
    show ((!((((Γ.code, p) :: Γ.below).map (·.1)).any isCallerCode) && _) && _) = false
    rw [ha]; rfl
  rw [hf]
  exact h
end
end Mine
end
theorem Mine.topOffWc : True := by
  w_top off
  trivial

section
open PySem PySem.W PySem.W.X PyProof.Rows PySem.Calls
set_option maxRecDepth 100000
namespace Mine
/-- the tree where the claim's caller lies on the stack; else another -/
noncomputable def fakeOr {α : Type} (t fake : Sem α) : Sem α := do
  let acts ← stack
  if (acts.any fun x => isCallerCode x.1) = true then t else fake
section
variable {α : Type} {M : Model} {A : Around} {E : Value → Shared → Prop} {s : Shared}
theorem wp_fakeOr {Γ : Ctx} {p : Pos} {t fake : Sem α} {Q : α → Pos → Shared → Prop} {E' : Value → Pos → Shared → Prop} :
    Sem.wp M Γ (fakeOr t fake) Q E' p s = if (isCallerCode Γ.code || Γ.below.any fun x => isCallerCode x.1) = true then Sem.wp M Γ t Q E' p s else Sem.wp M Γ fake Q E' p s := by
  unfold fakeOr
  rw [Sem.wp_bind']
  show Sem.wp M Γ (if (isCallerCode Γ.code || Γ.below.any fun x => isCallerCode x.1) = true then t else fake) Q E' p s = _
  split <;> rfl
theorem wpAny_fakeOr {t fake : Sem α} {Q : α → Shared → Prop} (h : wpC M A t Q E s) (hf : wpAny M A fake Q E s) : wpAny M A (fakeOr t fake) Q E s := fun Γ p hΓ => by
  rw [wp_fakeOr]
  by_cases hc : (isCallerCode Γ.code || Γ.below.any fun x => isCallerCode x.1) = true
  · rw [if_pos hc]
    exact h Γ p hΓ (Bool.or_eq_true_iff.mp hc)
  · rw [if_neg hc]
    exact hf Γ p hΓ
theorem wpC_of_fakeOr {t fake : Sem α} {Q : α → Shared → Prop} (h : wpAny M A (fakeOr t fake) Q E s) : wpC M A t Q E s := fun Γ p hΓ hk => by
  have := h Γ p hΓ
  rw [wp_fakeOr, if_pos (Bool.or_eq_true_iff.mpr hk)] at this
  exact this
end
theorem step_fakeOr {prog : Program} {w : World} {s : Shared} {t fake : Sem PySem.Fin} :
    step (denote table) prog w s ⟨fakeOr t fake, .builtin "claim.caller" {}, default, []⟩ = .go s ⟨t, .builtin "claim.caller" {}, default, []⟩ := by
  obtain ⟨hp, g, d, tk, os⟩ := s
  rfl
theorem sched_fakeOr {prog : Program} {w : World} {n : Nat} {s : Shared} {t fake : Sem PySem.Fin} {o : Outcome} {s' : Shared} (hz : s.asleep) (h : schedN (denote table) prog w n (.single s ⟨fakeOr t fake, .builtin "claim.caller" {}, default, []⟩) = .halted o s') :
    ∃ m, schedN (denote table) prog w m (.single s ⟨t, .builtin "claim.caller" {}, default, []⟩) = .halted o s' := by
  cases n with
  | zero => cases h
  | succ n =>
    have e := (sstep_single (denote table) prog w s ⟨fakeOr t fake, .builtin "claim.caller" {}, default, []⟩ (by rfl) hz).resolve_right (by rw [step_fakeOr]; nofun)
    rw [step_fakeOr] at e
    simp only [schedN, e, Step.lift] at h
    exact ⟨n, h⟩
end Mine
end
theorem Mine.topOffWd : True := by
  w_top off
  trivial

section
open PySem PySem.W PySem.W.X PyProof.Rows PySem.Calls
set_option maxRecDepth 100000
namespace Mine
theorem callFrom_real {c : ClaimW} {w : World} {free : Addr → Prop} {gens : Prop} {kept : Heap → Prop} {s : Shared} {tree fake : List Value → Sem PySem.Fin} (hz : s.asleep)
    (h : c.CallFrom (fun vs => ⟨fakeOr (tree vs) (fake vs), .builtin "claim.caller" {}, default, []⟩) w free gens kept s) : c.CallFrom (fun vs => ⟨tree vs, .builtin "claim.caller" {}, default, []⟩) w free gens kept s := by
  intro args h1 h2 ord h3
  obtain ⟨vs, s₁, hl, n, o, s', hs, rest⟩ := h args h1 h2 ord h3
  obtain ⟨m, hm⟩ := sched_fakeOr (Shared.asleep_of_life (layAllW_rest _ _ _ hl).2.2.2 hz) hs
  exact ⟨vs, s₁, hl, m, o, s', hm, rest⟩
theorem holdsOpen_real {c : ClaimW} {tree fake : List Value → Sem PySem.Fin} {defs keeps : List Str} {writes : Bool}
    (h : c.HoldsOpenBy (fun vs => ⟨fakeOr (tree vs) (fake vs), .builtin "claim.caller" {}, default, []⟩) defs keeps writes) : c.HoldsOpenBy (fun vs => ⟨tree vs, .builtin "claim.caller" {}, default, []⟩) defs keeps writes := by
  obtain ⟨a, b, d⟩ := h
  refine ⟨a, b, fun w => ⟨(d w).1, fun s hs => ?_⟩⟩
  obtain ⟨s₀, hf, hg, s₁, hT, h1, h2, h3, hC⟩ := (d w).2 s hs
  refine ⟨s₀, hf, hg, s₁, hT, h1, h2, h3, callFrom_real ?_ hC⟩
  have hlife := hT.2.1
  exact Shared.asleep_of_life (hlife.trans (fence_lifeW hf)) (AfterImport.life (show AfterImport (opening c.prog) w s from hs))
end Mine
end
theorem Mine.topOffWe : True := by
  w_top off
  trivial

section
open PySem PySem.W PySem.W.X PyProof.Rows PySem.Calls
set_option maxRecDepth 100000
namespace Mine
/-- what is to be walked, where the claim's caller lies on the stack -/
noncomputable abbrev WalkC (q : Program) (loose : List Str) (XP : (Str → Option Value) → Heap → Prop) (YP : World → Heap → Prop) (r : RowW) (d : DefRec) (kwd : List (Str × Expr)) : Prop :=
  ∀ (w : World) (s₀ s₁ : Shared) (mg mb : Str → Option Value), Ground q loose r.records XP w s₀ mg mb s₁.heap → YP w s₁.heap → ∀ (a : Addr) (o : Obj) (pm cd doc dV kV : Value), s₁.heap.get? a = some o →
    o.data = .func { docDef d.name d.params d.body d.scope pm cd doc with defaults := dV, kwdefaults := kV } → s₁.heap.CodeRec cd d.name → Dflts mg s₁.heap d.params kwd dV kV → mg d.name = some (.ref a) → s₁.gens = #[] →
    ∀ (args : List WData) (vals : List Value) (as : List Addr), r.claim.pre args = true → WData.layableAll args = true → ReadsAllW r.records (classAt s₀.heap) s₁.heap vals args as → WellAll w.params s₁.heap vals args → (∀ a ∈ as, (a == sysModules) = false) →
      GoodWG r.claim (classAt s₀.heap) (ExcName.means s₀.heap) args s₁ (.ok (.ret (.bool true))) s₁ ∧
      wpC (model r.prog w) callerA (PySem.call (.ref a) vals) (fun v s' => GoodWG r.claim (classAt s₀.heap) (ExcName.means s₀.heap) args s₁ (.ok (.ret v)) s')
        (fun e s' => GoodWG r.claim (classAt s₀.heap) (ExcName.means s₀.heap) args s₁ (.error e) s') s₁
theorem holds_C {r : OpenRow} {q : Program} {loose : List Str} {Xt : Shared → Bool} {XP : (Str → Option Value) → Heap → Prop} {α : Type} {Yf : Shared → α} {Ya : World → α} {YP : World → Heap → Prop} {d : DefRec} {kwd : List (Str × Expr)} {N : Nat}
    (left : LeftO r.prog q loose Xt Yf Ya N) (hY : ∀ w s, Yf s = Ya w → YP w s.heap) (hYk : ∀ w h h', YP w h → (∀ b o, h.get? b = some o → h'.get? b = some o) → YP w h')
    (hX : ∀ s, Xt s = true → XP (s.heap.nsMap mainGlobals) s.heap) (hXk : ∀ mg h h', XP mg h → (∀ b o, h.get? b = some o → h'.get? b = some o) → XP mg h')
    (hdef : defOf q r.name = some (d, kwd)) (hp : r.prog.theDef r.name = some (d.params, d.body, d.scope)) (hk : kwWritten? d.params.kwonlyargs d.params.kw_defaults = some kwd) (hRf : ∀ s, Xt s = true → RecFacts r.records s.heap) (hwr : (!r.writes || r.records.isEmpty) = true)
    (k1 : r.wellSaid = true) (ok : (chainsOk q && opensWell r.prog && (frees r.toRowW && r.within.isEmpty)) = true) (hb : r.prog.bare) (hw : r.toRowW.promised)
    (call : WalkC q loose XP YP r.toRowW d kwd) : r.Holds := by
  refine ⟨k1, hw, holdsOpen_real (fake := fun _ => ret (.bool true)) (open_anyG (r := r.toRowW) (run := fun f vs => fakeOr (PySem.call f vs) (pure (.bool true))) (tree := fun vs => fakeOr (do match ← nsGet mainNs r.name with
      | some f => do ret (← PySem.call f vs)
      | none => unsupported "claim.caller:no-such-global") (ret (.bool true))) left hY hYk hX hXk hRf hwr ok hb hw ?_ ?_ ?_)⟩
  · intro vs w s mg f Q E hg hf h Γ p hΓ
    rw [wp_fakeOr]
    by_cases hc : (isCallerCode Γ.code || Γ.below.any fun x => isCallerCode x.1) = true
    · rw [if_pos hc]
      have hC : wpC (model r.toRowW.prog w) callerA (PySem.call f vs) (fun v s' => Q (.done (.ret v)) s') E s := wpC_of_fakeOr h
      exact wpC_step (wpAny_nsGet hg (by rw [hf]; exact wpC_bind (wpC_mono hC (fun _ _ x => wpC_pure x) fun _ _ x => x))) Γ p hΓ (Bool.or_eq_true_iff.mp hc)
    · rw [if_neg hc]
      have := h Γ p hΓ
      rw [wp_fakeOr, if_neg hc] at this
      exact this
  · intro w s hg G n hn
    obtain rfl : n = r.name := by split at hn <;> simp_all
    exact pinned_of_view hg G hdef hp hk
  · intro w s₀ s₁ mg mb G Y args vs as hpre hlay L low
    obtain ⟨a, o, pm, cd, doc, dV, kV, h1, h2, h3, h4, h5⟩ := G.fn hdef
    obtain ⟨hT, hC⟩ := call w s₀ s₁ mg mb G Y a o pm cd doc dV kV h2 h3 h4 h5 (defOf_name hdef ▸ h1) L.gens args vs as hpre hlay L.reads L.well (L.low low)
    exact ⟨.ref a, h1, wpAny_fakeOr hC (wpAny_pure hT)⟩
end Mine
end
theorem Mine.topOffWf : True := by
  w_top off
  trivial

section
open PySem PySem.W PySem.W.X PyProof.Rows PySem.Calls
set_option maxRecDepth 100000
set_option maxHeartbeats 8000000
namespace Mine
theorem top_C (walk : ∀ (H : Hook) (d : DefRec), (∀ w h, H.says w h → (hd.heap_39 w.params).In h) → defOf hd.view_39 PySem.Challenge.rw_ik0022_01.row.name = some (d, []) → WalkC hd.view_39 [Str.ofString "_twin_re_1", Str.ofString "_ver_stages", Str.ofString "escape", Str.ofString "unescape", Str.ofString "quoteattr"] (XL hd.view_39 []) H.says PySem.Challenge.rw_ik0022_01.row.toRowW
    d []) : PySem.Challenge.rw_ik0022_01.Holds := by
  w_on
  o_law
  refine holds_C (XP := XL hd.view_39 []) (YP := Hook.says (kHook hd.heap_39 _ _)) (LeftO.of_split "special-get-raises" hd._proof_42) (Hook.of (kHook hd.heap_39 _ _)) (Hook.keeps (kHook hd.heap_39 _ _)) (fun s e => xl_of s (Bool.and_eq_true_iff.mp e).1) XL.keeps (by rfl) (by rfl) (by rfl) (fun s e => recFacts_of (Bool.and_eq_true_iff.mp e).2) (by rfl) (by first | assumption | decide +kernel) (by decide +kernel) ⟨rfl, rfl, rfl, rfl, rfl, by decide +kernel⟩ ?hw ?hc
  case hw => w_witness2
  case hc => exact walk _ _ (fun w h Y => kIn_of Y) (by rfl)
end Mine
end
theorem Mine.topOffWg : True := by
  w_top off
  trivial

section
open PySem PySem.W PySem.W.X PyProof.Rows PySem.Calls
set_option maxRecDepth 100000
namespace Mine
section
variable {prog : Program} {w : World} {M : Model} {A : Around} {E : Value → Shared → Prop} {s : Shared} {env : Env}
theorem wpC_execs_cons {st : Stmt} {rest : List Stmt} {Q : Flow → Shared → Prop} (h : wpC M A (exec st env) (fun f s' => match f with | .next => wpC M A (execs rest env) Q E s' | f => Q f s') E s) : wpC M A (execs (st :: rest) env) Q E s := fun Γ p hΓ hc => by
  rw [execs_cons, Sem.wp_bind']
  refine Sem.wp_mono M Γ _ (fun f p' s' h' => ?_) (fun _ _ _ h' => h') _ _ (h Γ p hΓ hc)
  cases f <;> first | exact h' Γ p' hΓ hc | exact h'
/-- a first statement that does not refuse -/
theorem wpC_execs_step {st : Stmt} {rest : List Stmt} {Q : Flow → Shared → Prop} (h : wpAny M A (exec st env) (fun f s' => match f with | .next => wpC M A (execs rest env) Q E s' | f => Q f s') E s) : wpC M A (execs (st :: rest) env) Q E s := wpC_execs_cons (wpC_of h)
theorem codeC_func {body : List Stmt} {R : Result → Shared → Prop} (h : wpC (model prog w) (A.deeper env) (execs body env) (fun f s' => R (.ok (.ret (match f with | .ret v => v | _ => .none))) s')
      (fun e s' => wpC (model prog w) (A.deeper env) (leaving env e) (fun _ s'' => R (.error e) s'') (fun e' s'' => R (.error e') s'') s') s) : codeC (model prog w) A (.func body env) R s := by
  refine codeC_of_tree ?_
  show wpC _ (A.deeper env) (do point; match ← (execs body env).onRaise (leaving env) with | .ret v => ret v | _ => ret .none) _ _ s
  refine wpC_step (wpAny_point (wpC_bind (wpC_onRaise (wpC_mono h (fun f s' h' => ?_) fun _ _ h' => h'))))
  cases f <;> exact wpC_pure h'
theorem codeC_function {a : Addr} {args : Args} {o : Obj} {fd : FuncData} {body : List Stmt} {R : Result → Shared → Prop} (hroom : A.depth < recursionLimit) (ho : s.heap.get? a = some o)
    (hd' : o.data = .func fd) (hco : fd.scope.isCoroutine = false) (hgen : fd.scope.isGenerator = false) (hbody : fd.body = .stmts body) (hcd : s.heap.CodeRec fd.code fd.qualname)
    (h : wpAny (model prog w) A.in1 (bindArgs fd args) (fun binds s₁ =>
      wpAny (model prog w) A.in1 (newFunctionEnv fd.scope fd.globals fd.closure binds (fd.qualname ++ ".<locals>.") (some a) fd.code none fd.builtins)
        (fun env s₂ => s₂.heap.NoLimit ∧ codeC (model prog w) A (.func body env) R s₂) (fun e s' => R (.error e) s') s₁) (fun e s' => R (.error e) s') s) : codeC (model prog w) A (.call (.ref a) args) R s := by
  obtain ⟨c, oc, vs, tq, hc, hoc, hdc, hq⟩ := hcd
  rw [hc] at h
  refine codeC_of_tree (wpC_of ?_)
  show wpAny _ A.in1 (callAny (.ref a) args) _ _ s
  simp only [callAny]
  refine wpAny_bind (wpAny_load ho ?_)
  simp only [hd', callFunction, hco, hgen, hbody, hc]
  refine wpAny_bind (m := field (.ref c) 1) (wpAny_field hoc hdc hq (wpAny_bind (wpAny_pure (wpAny_bind (wpAny_mono h (fun binds s₁ h₁ => ?_) fun _ _ x => x)))))
  refine wpAny_bind (wpAny_mono h₁ (fun env s₂ h₂ => ?_) fun _ _ x => x)
  exact wpAny_bind (wpAny_enterFrame h₂.1 hroom (wpAny_pure ⟨rfl, h₂.2⟩))
end
end Mine
end
theorem Mine.topOffWh : True := by
  w_top off
  trivial

section
open PySem PySem.W PySem.W.X PyProof.Rows PySem.Calls
set_option maxRecDepth 100000
namespace Mine
end Mine
end
theorem Mine.topOffWi : True := by
  w_top off
  trivial

section
open PySem PySem.W PySem.W.X PyProof.Rows PySem.Calls
set_option maxRecDepth 100000
namespace Mine
open PySem.NumText
theorem typeCall_int2 (a b : Value) : checkTypeCall "int" ⟨[a, b], []⟩ = pure () := by kernel_rfl
theorem newCall_int2 (a b : Value) : checkBuiltinCall "int.__new__" ⟨[.type "int", a, b], []⟩ = pure () := by kernel_rfl
set_option maxHeartbeats 4000000 in
theorem gives_ten {x : PySem.Str} {u v : Tok} {n : Int} (hl : x.length ≤ 640) (hn : PySem.intText? x = some n) : Gives (Builtin.«int.__new__» ⟨[.type "int", .str x u, .int 10 v], []⟩) (.int n) :=
  .of_wp fun M A E s Q h => by
    obtain ⟨hp, g, d, tk, os⟩ := s
    have f1 := F.conv_sub_int
    have f2 := F.madeHere_int
    have hs : (numSeenOf x).length ≤ 640 := Nat.le_trans (seen_length x) hl
    have hr : (int_private% "readNumeral") 0 10 (numSeenOf x) = (int_private% "Numeral.value") n ∧ ((numSeenOf x).length == (numTextOf x).length) = true := by
      rcases read0 x hs with ⟨m, h1, h2, h3⟩ | ⟨h1, _⟩
      · rw [hn] at h1
        injection h1 with h1
        subst h1
        exact ⟨h3, h2⟩
      · rw [hn] at h1
        cases h1
    have hk := KIN.Hid.mk (And.intro hs hr)
    clear hs hr hl hn
    repeat (any_goals (first
      | assumption
      | ((with_reducible show wpAny _ _ ((int_private% "intFromText") _ _ _) _ _ _); refine KIN.wp_text hk.out.1 hk.out.2.1 hk.out.2.2 ?_)
      | wp_step))
    all_goals first | exact ⟨_, rfl, h⟩ | skip
theorem args_init3 (a b c : Value) : argsOk "object.__init__" ⟨[a, b, c], []⟩ := by
  have := F.args_object_init_2
  unfold argsOk at this ⊢
  first | exact F.args_object_init_3 a b c | kernel_rfl
/-- int(text, 10) of a number's text -/
theorem call_ten {prog : Program} {w : World} {A : Around} {E : Value → Shared → Prop} {s : Shared} {Q : Value → Shared → Prop} {x : PySem.Str} {t u : Tok} {n : Int} (hn : PySem.intText? x = some n) (hl : x.length ≤ 640)
    (h : Q (.int n s.toks) { s with toks := s.toks + 1 }) : wpAny (model prog w) A (call (.type "int") [.str x t, .int 10 u]) Q E s :=
  callType_new F.called_int F.newNe_int (typeCall_int2 _ _) (newCall_int2 _ _) (fun obj => args_init3 obj _ _) F.entry_int_new (gives_ten hl hn).meets (show (Made.int n).post _ s from ⟨rfl, h⟩)
end Mine
end
theorem Mine.topOffWj : True := by
  w_top off
  trivial

section
open PySem PySem.W PySem.W.X PyProof.Rows PySem.Calls
set_option maxRecDepth 100000
namespace Mine
section
variable {M : Model} {A : Around} {E : Value → Shared → Prop} {s : Shared} {env : Env}
/-- what never raises passes every mark on the way out -/
theorem wpC_calm {α : Type} {m : Sem α} {k : Value → Sem Unit} {Q : α → Shared → Prop} (h : wpC M A m Q (fun _ _ => False) s) : wpC M A (m.onRaise k) Q E s :=
  wpC_onRaise (wpC_mono h (fun _ _ x => x) fun _ _ x => x.elim)
theorem wpC_never {α : Type} {m : Sem α} {Q : α → Shared → Prop} (h : wpC M A m Q (fun _ _ => False) s) : wpC M A m Q E s := wpC_mono h (fun _ _ x => x) fun _ _ x => x.elim
theorem codeC_loop {c : Code} {R : Result → Shared → Prop} (hq : c.quiet = true) (I : Nat → Shared → Prop)
    (turn : ∀ n s, I n s → wpC M (A.under c) (M.den c)
      (fun fin s' => match fin with
        | .done f => R (.ok f) s'
        | .again c' => (c' = c ∧ ∃ m, m < n ∧ I m s') ∨ (c'.quiet = true ∧ codeC M A c' R s')) (fun e s' => R (.error e) s') s)
    (n : Nat) (h : I n s) : codeC M A c R s := by
  induction n using Nat.strongRecOn generalizing s with
  | ind n ih =>
    refine codeC_of_tree (wpC_mono (turn n s h) (fun fin s' hf => ?_) fun _ _ h' => h')
    cases fin with
    | done f => exact hf
    | again c' =>
      rcases hf with ⟨rfl, m, hm, hI⟩ | hf
      · exact ⟨hq, ih m hm hI⟩
      · exact hf
theorem wpC_runOwn {c : Code} {Q : Flow → Shared → Prop} (hc : codeC M (A.mark none) c (fun r s' => match r with | .ok f => Q f s' | .error _ => False) s) : wpC M A (runOwn c env) Q E s := by
  unfold runOwn
  refine wpC_calm (wpC_run (codeC_mono hc fun r s' h => ?_))
  cases r <;> exact h
theorem wpC_If {test body orelse pos} {Q : Flow → Shared → Prop} (h : wpAny M A (isTrue test env (eval test env)) (fun b s₁ => if b = true then wpC M A (execs body env) Q E s₁ else wpC M A (execs orelse env) Q E s₁) E s) :
    wpC M A (exec (.If test body orelse pos) env) Q E s := by
  rw [exec_If]
  refine wpC_step (wpAny_standAt (wpC_step (wpAny_mono h (fun b s₁ h₁ => ?_) fun _ _ x => x)))
  cases b <;> exact h₁
theorem wpC_Assign_Name {x pos' value pos} {Q : Flow → Shared → Prop}
    (h : wpC M A (eval value env) (fun v s₁ => wpAny M A (storeName env x v) (fun _ => Q .next) E s₁) E s)
    (hs : swapsWith value (some (.Name x pos')) pos.line env = pure false := by rfl) :
    wpC M A (exec (.Assign [.Name x pos'] value pos) env) Q E s := by
  rw [exec_Assign_Name env x pos' value pos hs]
  refine wpC_step (wpAny_standAt (wpC_bind (wpC_mono h (fun v s₁ h₁ => wpC_of ?_) fun _ _ x => x)))
  intro Γ p hΓ
  simp only [Sem.wp_bind', Sem.wp_cmd_standAt, Sem.wp_bindName, Sem.wp_pure']
  exact h₁ Γ _ hΓ
theorem wpC_Call {func : Expr} {args : List Expr} {pos : Pos} {Q : Value → Shared → Prop}
    (h : wpAny M A (eval func env) (fun f s₁ => wpC M A (callWith pos f [] (backTo pos (starEach args env)) []) Q E s₁) E s)
    (he : eval (.Call func args [] pos) env = (do callWith pos (← eval func env) [] (backTo pos (starEach args env)) (backToKw pos (keywordEach [] env))) := by rfl) :
    wpC M A (eval (.Call func args [] pos) env) Q E s := by
  rw [he]; exact wpC_step h
theorem wpC_callWith_type {e : Expr} {rest : List Expr} {pos : Pos} {T : String} {Q : Value → Shared → Prop}
    (h : wpAny M A (spliced (backTo pos (starEach (e :: rest) env))) (fun vs s₁ => wpC M A (call (.type T) vs) Q E s₁) E s)
    (he : starEach (e :: rest) env = (false, eval e env) :: starEach rest env := by rfl)
    (hplain : (backTo pos (starEach rest env)).any (·.1) = false := by rfl) :
    wpC M A (callWith pos (.type T) [] (backTo pos (starEach (e :: rest) env)) []) Q E s := by
  rw [he] at h ⊢
  have hp : ((false, eval e env) :: backTo pos (starEach rest env)).any (·.1) = false := by show (false || (backTo pos (starEach rest env)).any (·.1)) = false; rw [hplain]; rfl
  unfold callWith
  refine wpC_bind (wpC_holding (wpC_of (evalArgs_plain (wpAny_mono h (fun a s₁ h₁ => wpC_step (wpAny_standAt ?_)) fun _ _ x => x))))
  have hp' : (backTo pos ((false, eval e env) :: starEach rest env)).any (·.1) = false := hp
  simp only [hp', List.any_nil, Bool.or_false]
  refine wpC_step (wpAny_pure ?_)
  exact wpC_bind (wpC_mono h₁ (fun r s₂ hr => wpC_of (wpAny_bind (wpAny_holding (wpAny_point (wpAny_pure hr))))) fun _ _ x => x)
theorem wpC_callWith_def {e : Expr} {rest : List Expr} {pos : Pos} {f : Addr} {o : Obj} {fd : FuncData} {Q : Value → Shared → Prop} (hdat : o.data = .func fd)
    (h : wpAny M A (spliced (backTo pos (starEach (e :: rest) env))) (fun vs s₁ => s₁.heap.get? f = some o ∧ wpC M A (call (.ref f) vs) Q E s₁) E s)
    (he : starEach (e :: rest) env = (false, eval e env) :: starEach rest env := by rfl) :
    wpC M A (callWith pos (.ref f) [] (backTo pos (starEach (e :: rest) env)) []) Q E s := by
  rw [he] at h ⊢
  have tail : ∀ {t : Sem Value} {s₁ : Shared}, wpC M A t Q E s₁ → wpC M A (t >>= fun r => holding [r] point >>= fun _ => pure r) Q E s₁ :=
    fun ht => wpC_bind (wpC_mono ht (fun r s₂ hr => wpC_of (wpAny_bind (wpAny_holding (wpAny_point (wpAny_pure hr))))) fun _ _ x => x)
  have kp : ∀ {vs : List Value} {t : Sem Value} {s₁ : Shared}, wpC M A t Q E s₁ → wpC M A (t.keep vs) Q E s₁ := fun ht Γ p hΓ hk => by rw [Sem.wp_keep]; exact ht Γ p hΓ hk
  unfold callWith
  refine wpC_bind (wpC_holding (wpC_of (evalArgs_plain (wpAny_mono h (fun a s₁ h₁ => wpC_step (wpAny_standAt ?_)) fun _ _ x => x))))
  dsimp only [List.nil_append]
  cases hs : (backTo pos ((false, eval e env) :: starEach rest env)).any (·.1) <;> simp only [List.any_nil, Bool.or_false] <;>
    refine wpC_step (m := keeperOf (.ref f)) ?_ <;> unfold keeperOf <;>
    refine wpAny_bind (wpAny_load h₁.1 ?_) <;> rw [hdat] <;> refine wpAny_pure ?_
  · have cm : ∀ mk, wpC M A (callMarked mk (.ref f) a []) Q E s₁ := fun mk => kp h₁.2
    dsimp only
    split <;> first
      | exact tail h₁.2
      | exact tail (cm _)
  · have cm : ∀ mk, wpC M A (callMarked mk (.ref f) a []) Q E s₁ := fun mk => kp h₁.2
    dsimp only
    first
      | exact tail h₁.2
      | exact tail (cm _)
end
end Mine
end
theorem Mine.topOffWk : True := by
  w_top off
  trivial

section
open PySem PySem.W PySem.W.X PyProof.Rows PySem.Calls
set_option maxRecDepth 100000
namespace Mine
open LCg
section
variable {prog : Program} {w : World} {A : Around} {s : Shared} {env : Env}
/-- the end of a turn; the ground may have moved -/
noncomputable def TurnC (Gd : Heap → Prop) (L it : Addr) (oI : Obj) (ax : Addr) (oL : Obj) (J : (PySem.Str → Option Value) → List (Addr × Obj) → Prop) (s : Shared) (f : Flow) (s₂ : Shared) : Prop :=
  f = .next ∧ ∃ g h' tk m₂ news₂, s₂ = { s with heap := h', toks := tk } ∧ Gd g ∧ Fr g L h' m₂ ∧ News g L h' ((it, oI) :: (ax, oL) :: news₂) ∧ (∀ p ∈ news₂, p.1 ≠ it) ∧ J m₂ news₂
theorem TurnC.intro {Gd : Heap → Prop} {L it ax : Addr} {oI oL : Obj} {J : (PySem.Str → Option Value) → List (Addr × Obj) → Prop} {s : Shared} {g h' : Heap} {tk : Nat} {m₂ : PySem.Str → Option Value} {all : List (Addr × Obj)} (news₂ : List (Addr × Obj))
    (G : Gd g) (F : Fr g L h' m₂) (N : News g L h' all) (hs : ∀ p ∈ (it, oI) :: (ax, oL) :: news₂, p ∈ all) (hn : ∀ p ∈ news₂, p.1 ≠ it) (hJ : J m₂ news₂) : TurnC Gd L it oI ax oL J s .next { s with heap := h', toks := tk } :=
  ⟨rfl, g, h', tk, m₂, news₂, rfl, G, F, news_sub N hs, hn, hJ⟩
noncomputable def ForSrcC (prog : Program) (w : World) (A : Around) (Gd : Heap → Prop) (env : Env) (x : PySem.Str) (body : List Stmt) (Q : Flow → Shared → Prop) (xv : Value) (s₁ : Shared) : Prop :=
  ∃ (ax : Addr) (its : Array Value) (k : Nat) (g₀ : Heap) (m : PySem.Str → Option Value) (news : List (Addr × Obj)) (J : Nat → (PySem.Str → Option Value) → List (Addr × Obj) → Prop),
      xv = .ref ax ∧ Gd g₀ ∧ Fr g₀ env.locals s₁.heap m ∧ News g₀ env.locals s₁.heap ((ax, lstK its k) :: news) ∧ J 0 m news ∧
      (∀ i v g m₁ news₁ h tk it oI, its[i]? = some v → Gd g → J i m₁ news₁ → Fr g env.locals h (fun y => if y = x then some v else m₁ y) → News g env.locals h ((it, oI) :: (ax, lstK its k) :: news₁) → (∀ p ∈ news₁, p.1 ≠ it) →
        wpC (model prog w) A (execs body env) (TurnC Gd env.locals it oI ax (lstK its k) (J (i + 1)) { s₁ with heap := h, toks := tk }) (fun _ _ => False) { s₁ with heap := h, toks := tk }) ∧
      (∀ g h' tk m' news', Gd g → Fr g env.locals h' m' → News g env.locals h' ((ax, lstK its k) :: news') → J its.size m' news' → Q .next { s₁ with heap := h', toks := tk })
theorem ForSrcC.intro {Gd : Heap → Prop} {x : PySem.Str} {body : List Stmt} {Q : Flow → Shared → Prop} {s₁ : Shared} {ax : Addr} {its : Array Value} {k : Nat} {g₀ : Heap} {m : PySem.Str → Option Value} {news all : List (Addr × Obj)} (J : Nat → (PySem.Str → Option Value) → List (Addr × Obj) → Prop)
    (G : Gd g₀) (F : Fr g₀ env.locals s₁.heap m) (N : News g₀ env.locals s₁.heap all) (hs : ∀ p ∈ (ax, lstK its k) :: news, p ∈ all) (h0 : J 0 m news)
    (turn : ∀ i v g m₁ news₁ h tk it oI, its[i]? = some v → Gd g → J i m₁ news₁ → Fr g env.locals h (fun y => if y = x then some v else m₁ y) → News g env.locals h ((it, oI) :: (ax, lstK its k) :: news₁) → (∀ p ∈ news₁, p.1 ≠ it) →
        wpC (model prog w) A (execs body env) (TurnC Gd env.locals it oI ax (lstK its k) (J (i + 1)) { s₁ with heap := h, toks := tk }) (fun _ _ => False) { s₁ with heap := h, toks := tk })
    (fin : ∀ g h' tk m' news', Gd g → Fr g env.locals h' m' → News g env.locals h' ((ax, lstK its k) :: news') → J its.size m' news' → Q .next { s₁ with heap := h', toks := tk }) : ForSrcC prog w A Gd env x body Q (.ref ax) s₁ :=
  ⟨ax, its, k, g₀, m, news, J, rfl, G, F, news_sub N hs, h0, turn, fin⟩
theorem wpC_For_list {E : Value → Shared → Prop} {Q : Flow → Shared → Prop} {x : PySem.Str} {px pos : Pos} {iter : Expr} {body : List Stmt} {Gd : Heap → Prop} (hh : A.handled = none) (hx : env.kindOf x = some .local)
    (hp : (env.scope.kind == .class || (env.scope.kind == .module && env.locals != env.globals)) = false)
    (h : wpAny (model prog w) A (eval iter env) (ForSrcC prog w A Gd env x body Q) E s)
    (hs : ∀ x, foldedSetIterable iter env x = pure x) :
    wpC (model prog w) A (exec (.For (.Name x px) iter body [] pos) env) Q E s := by
  rw [exec_For]
  refine wpC_step (wpAny_standAt (wpC_step (wpAny_mono h (fun xv s₁ h₁ => ?_) fun _ _ e => e)))
  obtain ⟨ax, its, k, g₀, m, news, J, rfl, G, F, N, h0, step, fin⟩ := h₁
  refine wpC_step (wpAny_of_eq (hs _) (wpC_step (wpAny_standAt ?_)))
  have hax := N (ax, lstK its k) (.head _)
  have hl : s₁.heap.IsList ax its := ⟨_, hax.1, rfl, k, rfl⟩
  have hlt : ax < s₁.heap.objs.size := Heap.lt_size hax.1
  refine wpC_step (wpAny_holding (wpAny_pyIter_list hl ?_))
  have up : ∀ b o, s₁.heap.get? b = some o → (s₁.heap.push { cls := .type "list_iterator", data := .fields #[.ref ax, .int 0 0] }).get? b = some o := fun b o e => Heap.get?_push_of_some _ e
  have hI₀ : g₀.get? s₁.heap.objs.size = none := next_is_new F
  have hLI : s₁.heap.objs.size ≠ env.locals := Nat.ne_of_gt F.ns.lt
  have hIx : ax ≠ s₁.heap.objs.size := Nat.ne_of_lt hlt
  have W := Walks.list (prog := prog) (w := w) hh s₁.heap.objs.size ax hIx its
  have hnx : ∀ p ∈ news, p.1 ≠ s₁.heap.objs.size := fun p hp => Nat.ne_of_lt (Heap.lt_size (N p (.tail _ hp)).1)
  have hIget : (s₁.heap.push { cls := .type "list_iterator", data := .fields #[.ref ax, .int 0 0] }).get? s₁.heap.objs.size = some { cls := .type "list_iterator", data := .fields #[.ref ax, .int 0 0] } := Heap.get?_push_size _ rfl
  refine wpC_runOwn (codeC_loop rfl
    (fun n s' => ∃ g h' tk m' news' i oI, s' = { s₁ with heap := h', toks := tk } ∧ i ≤ its.size ∧ n = its.size + 1 - i ∧ h'.IsListIter s₁.heap.objs.size ax i ∧ Gd g ∧ Fr g env.locals h' m' ∧ News g env.locals h' ((s₁.heap.objs.size, oI) :: (ax, lstK its k) :: news') ∧ (∀ p ∈ news', p.1 ≠ s₁.heap.objs.size) ∧ J i m' news')
    ?_ (its.size + 1)
    ⟨g₀, _, _, m, news, 0, { cls := .type "list_iterator", data := .fields #[.ref ax, .int 0 0] }, rfl, Nat.zero_le _, rfl, ⟨_, hIget, rfl, rfl⟩, G, F.keeps up, ?_, hnx, h0⟩)
  · rintro n s' ⟨g, h', tk, m', news', i, oI, rfl, hi, rfl, hit, hG, F', N', hn', hJ⟩
    show wpC _ _ ((forTurn (.Name x px) (.ref s₁.heap.objs.size) body [] env).onRaise (fun x => do noteFrame x env; theTreesLotGoes x)) _ _ _
    refine wpC_calm ?_
    simp only [forTurn]
    have hxN := N' (ax, lstK its k) (.tail _ (.head _))
    have hIN := N' (s₁.heap.objs.size, oI) (.head _)
    have hl' : h'.IsList ax its := ⟨_, hxN.1, rfl, k, rfl⟩
    have next : ∀ h₁ : Heap, (∀ b o, b ∉ [s₁.heap.objs.size] → h'.get? b = some o → h₁.get? b = some o) → Fr g env.locals h₁ m' ∧ News g env.locals h₁ ((ax, lstK its k) :: news') := fun h₁ hk₁ =>
      ⟨fr_but F' hk₁ (Ne.symm hLI) hIN.2.2, news_but (fun p hp => N' p (.tail _ hp)) hk₁ fun p hp => by
        rcases List.mem_cons.mp hp with rfl | hp
        · exact hIx
        · exact hn' p hp⟩
    by_cases hlt' : i < its.size
    · refine wpC_step (wpAny_standAt (wpC_step (wpAny_onRaise (W.item i _ _ _ hlt' ⟨hit, hl'⟩ fun v h₁ tk₁ hP hst₁ hk₁ => ?_))))
      obtain ⟨F₁, N₁⟩ := next h₁ hk₁
      obtain ⟨l, hIo, hIr⟩ := hst₁.1
      refine wpC_step (wpAny_of_eq (by rfl) ?_)
      refine wpC_step (wpAny_assign_Name (wpAny_storeName_local hx F₁.ns (fun h₂ hn₂ hs₂ => ?_) hp))
      have F₂ := F₁.set hn₂ hs₂
      have N₂ : News g env.locals h₂ ((s₁.heap.objs.size, l) :: (ax, lstK its k) :: news') := News.set (fun p hp => by
        rcases List.mem_cons.mp hp with rfl | hp
        · exact ⟨hIo, hIN.2⟩
        · exact N₁ p hp) hs₂
      refine wpC_bind (wpC_mono (step i v g m' news' h₂ _ s₁.heap.objs.size l hP hG hJ F₂ N₂ hn') (fun f s₃ h₃ => ?_) fun _ _ e => e)
      obtain ⟨rfl, g₃, h₃, tk₃, m₃, news₃, rfl, G₃, F₃, N₃, hn₃, hJ₃⟩ := h₃
      refine wpC_pure (.inl ⟨rfl, its.size + 1 - (i + 1), by omega, g₃, h₃, tk₃, m₃, news₃, i + 1, l, rfl, hlt', rfl, ⟨l, (N₃ (s₁.heap.objs.size, l) (.head _)).1, hIr⟩, G₃, F₃, N₃, hn₃, hJ₃⟩)
    · have hin : i = its.size := by omega
      subst hin
      refine wpC_step (wpAny_standAt (wpC_step (wpAny_onRaise (W.done _ _ _ ⟨hit, hl'⟩ fun h₁ tk₁ hk₁ => ?_))))
      obtain ⟨F₁, N₁⟩ := next h₁ hk₁
      exact wpC_pure (.inr ⟨rfl, codeC_of (codeAny_block (wpAny_execs_nil (fin g h₁ tk₁ m' news' hG F₁ N₁ hJ)))⟩)
  · intro p hp
    rcases List.mem_cons.mp hp with rfl | hp
    · exact ⟨hIget, hLI, hI₀⟩
    · exact ⟨up _ _ (N p hp).1, (N p hp).2⟩
end
end Mine
end
theorem Mine.topOffWl : True := by
  w_top off
  trivial

section
open PySem PySem.W PySem.W.X PyProof.Rows PySem.Calls
set_option maxRecDepth 100000
namespace Mine
open LCg
theorem nat_facts {I D C L : Nat} (dI : D = I + 1) (cI : C = I + 2) (h : L < I) : I ≠ L ∧ D ≠ L ∧ C ≠ L ∧ I ≠ D ∧ I ≠ C ∧ D ≠ C := by omega
theorem nat_off {b I D C : Nat} (dI : D = I + 1) (cI : C = I + 2) (h : b < I) : b ≠ I ∧ b ≠ C ∧ b ≠ D := by omega
section
variable {M : Model} {A : Around} {E : Value → Shared → Prop} {s : Shared} {env : Env}
theorem wpC_standIf {α : Type} {c : Prop} [Decidable c] {pos : Pos} {k : PUnit → Sem α} {Q : α → Shared → Prop} (h : wpC M A (k ()) Q E s) :
    wpC M A (if c then (standAt pos >>= k) else k ()) Q E s := by
  split
  · exact wpC_step (wpAny_standAt h)
  · exact h
theorem wpC_comprehension {e : Expr} {scope : Scope} {pos : Pos} {newAcc first : Sem Value} {g : Comprehension} {gs : List Comprehension} {cl : List (PySem.Str × Addr)} {use : Option (Value → Sem Unit)}
    {Q : Value → Shared → Prop}
    (hcl : clausesOf e = g :: gs) (hs : ∀ x, foldedSetIterable g.iter env x = pure x) (hclos : closureFor scope env = pure cl)
    (hkind : scope.kind = .function) (hnames : ∀ x ∈ scope.names, x.2 = .local → scope.names.lookup x.1 = some .local)
    (h : wpAny M A first (fun x s₁ => wpAny M A (pyIter x) (fun it s₂ => wpAny M A newAcc (fun acc s₃ =>
      wpAny M A (newFunctionEnv scope env.globals cl [] env.qual none .none (some env)) (fun cenv s₄ =>
        codeC M A (.compStart e 0 it acc { cenv with scope := relabel scope env }) (compPost M A E use Q acc cenv.locals) s₄) E s₃) E s₂) E s₁) E s) :
    wpC M A (comprehension e scope env pos newAcc false first use) Q E s := by
  unfold comprehension
  rw [hclos, hcl]
  refine wpC_step (wpAny_mono h (fun x s₁ h₁ => wpC_step (wpAny_standAt (wpC_step (wpAny_of_eq (hs x) (wpC_step (wpAny_holding (wpAny_mono h₁ (fun it s₂ h₂ => ?_)
      fun _ _ h' => h'))))))) fun _ _ h' => h')
  refine wpC_standIf ?_
  refine wpC_step (wpAny_mono h₂ (fun acc s₃ h₃ => wpC_step (wpAny_pure (wpC_step (wpAny_mono h₃ (fun cenv s₄ h₄ => ?_) fun _ _ h' => h')))) fun _ _ h' => h')
  dsimp only
  have hv : ∀ x ∈ (scope.names.filter fun x => (x.2 == .local || x.2 == .cell) && x.1 != (".0" : PySem.Str)).reverse, x.2 = .local →
      Env.kindOf { cenv with scope := relabel scope env } x.1 = some .local := fun x hx hl => lookup_relabel_local (hnames x (List.mem_filter.mp (List.mem_reverse.mp hx)).1 hl)
  have hv' : ∀ x ∈ (scope.names.filter fun x => (x.2 == .local || x.2 == .cell) && x.1 != (".0" : PySem.Str)).reverse.drop 1 ++ (scope.names.filter fun x => (x.2 == .local || x.2 == .cell) && x.1 != (".0" : PySem.Str)).reverse.take 1,
      x.2 = .local → Env.kindOf { cenv with scope := relabel scope env } x.1 = some .local := fun x hx hl => by
    rcases List.mem_append.mp hx with h1 | h1
    · exact hv x (List.mem_of_mem_drop h1) hl
    · exact hv x (List.mem_of_mem_take h1) hl
  refine wpC_holding (wpC_bind (wpC_attempt (wpC_holding (wpC_run (codeC_mono h₄ fun r s' hr => ?_)))))
  cases r with
  | ok f =>
    cases use with
    | none =>
      obtain ⟨m, hn, hr⟩ := hr
      exact wpC_of (wpAny_bind (wpAny_holding (wpAny_comp_letGo (cenv := { cenv with scope := relabel scope env }) hkind _ s' m hv hn fun h' m' _ hs' => wpAny_pure (hr h' hs'))))
    | some u =>
      refine wpC_of (wpAny_bind (wpAny_rule (wpAny_bind (wpAny_holding (wpAny_mono hr (fun _ s'' hr' => ?_) fun _ _ h' => h')))))
      obtain ⟨m, hn, hr'⟩ := hr'
      exact wpAny_bind (wpAny_comp_letGo (cenv := { cenv with scope := relabel scope env }) hkind _ s'' m hv' hn fun h' m' _ hs' => wpAny_pure (hr' h' hs'))
  | error x =>
    have hr' : ∃ m, s'.heap.Ns cenv.locals m ∧ ∀ h', Heap.SameBut cenv.locals s'.heap h' → ∀ cenv' : Env, cenv'.locals = cenv.locals → wpAny M A (passOn "comprehension.variables-let-go" x cenv' : Sem Value) (fun _ _ => False) E { s' with heap := h' } := by cases use <;> exact hr
    obtain ⟨m, hn, hr⟩ := hr'
    exact wpC_of (wpAny_bind (wpAny_holding (wpAny_comp_letGo (cenv := { cenv with scope := relabel scope env }) hkind _ s' m hv hn fun h' m' _ hs' => wpAny_mono (hr h' hs' _ rfl) (fun _ _ f => f.elim) fun _ _ y => y)))
end
section
variable {prog : Program} {w : World} {A : Around} {E : Value → Shared → Prop} {R : Result → Shared → Prop} {s : Shared}
theorem codeC_compStart {elt target iter ifs rest scope pos it acc env}
    (h0 : codeC (model prog w) A (.compLoop (.ListComp elt (⟨target, iter, ifs, 0⟩ :: rest) scope pos) 0 it acc env) R s)
    (h : wpAny (model prog w) A (pyIter it) (fun it' s' => codeC (model prog w) A (.compLoop (.ListComp elt (⟨target, iter, ifs, 0⟩ :: rest) scope pos) 0 it' acc env) R s')
      (notedBy (model prog w) A env fun x s' => R (.error x) s') s) :
    codeC (model prog w) A (.compStart (.ListComp elt (⟨target, iter, ifs, 0⟩ :: rest) scope pos) 0 it acc env) R s := by
  refine codeC_of_tree (wpC_of ?_)
  show wpAny _ _ ((compStart (.ListComp elt (⟨target, iter, ifs, 0⟩ :: rest) scope pos) 0 it acc env).onRaise (fun x => do noteFrame x env; standAt theWindowsPlace)) _ _ s
  refine wpAny_notedAt ?_
  unfold compStart
  show wpAny _ _ (ask >>= _) _ _ s
  refine wpAny_bind (wpAny_askSetting (wpAny_ite ?_))
  split
  · first
      | exact wpAny_bind (wpAny_pure (wpAny_pure (And.intro rfl h0)))
      | exact wpAny_pure (And.intro rfl h0)
  · first
      | exact wpAny_bind (wpAny_rule (wpAny_bind (wpAny_standAt (wpAny_bind (wpAny_mono h (fun it' s' h' => wpAny_pure (And.intro rfl h')) fun _ _ x => x)))))
      | (refine wpAny_bind (wpAny_rule ?_); show wpAny _ _ (standAt iter.pos >>= _) _ _ s; exact wpAny_bind (wpAny_standAt (wpAny_bind (wpAny_mono h (fun it' s' h' => wpAny_pure (And.intro rfl h')) fun _ _ x => x))))
/-- the tests of a comprehension's turn -/
noncomputable abbrev testsOf (ifs : List Expr) (env : Env) : Sem Bool := forIn ifs true fun c r => if r = true then do let ok ← isTrue c env (eval c env); pure (ForInStep.yield ok) else pure (ForInStep.yield r)
theorem wpC_tests_nil {env : Env} {Q : Bool → Shared → Prop} (h : Q true s) : wpC (model prog w) A (testsOf [] env) Q E s := wpC_pure h
theorem wpC_tests_one {env : Env} {c : Expr} {Q : Bool → Shared → Prop} (h : wpC (model prog w) A (isTrue c env (eval c env)) Q E s) : wpC (model prog w) A (testsOf [c] env) Q E s := by
  unfold testsOf
  simp only [List.forIn_cons, List.forIn_nil, if_true]
  exact wpC_bind (wpC_bind (wpC_mono h (fun b s' hb => wpC_pure (wpC_pure hb)) fun _ _ x => x))
theorem codeC_compLoop {elt target iter : Expr} {ifs : List Expr} {scope : Scope} {pos : Pos} {it acc : Value} {env : Env} (I : Nat → Shared → Prop)
    (turn : ∀ n s, I n s → wpAny (model prog w) A (pyNext it) (fun r s₁ => match r with
      | none => R (.ok .next) s₁
      | some v => wpAny (model prog w) A (assign target env v) (fun _ s₂ =>
          wpC (model prog w) A (testsOf ifs env) (fun ok s₃ =>
            if ok = true then wpC (model prog w) A (eval elt env) (fun x s₄ =>
              wpAny (model prog w) A (call (.builtin "list.append") [acc, x]) (fun _ s₅ => ∃ m, m < n ∧ I m s₅) (fun _ _ => False) s₄) (fun _ _ => False) s₃
            else ∃ m, m < n ∧ I m s₃) (fun _ _ => False) s₂) (fun _ _ => False) s₁) (fun _ _ => False) s)
    (n : Nat) (h : I n s) (ht : ∀ v, letOwnedTupleGo target it v = pure () := by intro _; rfl) :
    codeC (model prog w) A (.compLoop (.ListComp elt [⟨target, iter, ifs, 0⟩] scope pos) 0 it acc env) R s := by
  refine codeC_loop rfl I (fun n s hI => ?_) n h
  show wpC _ A ((compTurn (.ListComp elt [⟨target, iter, ifs, 0⟩] scope pos) 0 it acc env).onRaise (fun x => do noteFrame x env; theTreesLotGoes x)) _ _ s
  refine wpC_calm ?_
  rw [compTurn_list]
  refine wpC_step (wpAny_standAt (wpC_step (wpAny_mono (turn n s hI) (fun r s₁ h₁ => ?_) fun _ _ h' => h'.elim)))
  cases r with
  | none => exact wpC_pure h₁
  | some v =>
    refine wpC_step (wpAny_of_eq (ht v) ?_)
    refine wpC_step (wpAny_mono h₁ (fun _ s₂ h₂ => wpC_bind (wpC_mono h₂ (fun ok s₃ h₃ => ?_) fun _ _ h' => h'.elim)) fun _ _ h' => h'.elim)
    cases ok with
    | false => exact wpC_pure (.inl ⟨rfl, h₃⟩)
    | true =>
      exact wpC_bind (wpC_bind (wpC_mono h₃ (fun x s₄ h₄ => wpC_step (wpAny_mono h₄ (fun _ s₅ h₅ => wpC_pure (wpC_pure (.inl ⟨rfl, h₅⟩))) fun _ _ h' => h'.elim)) fun _ _ h' => h'.elim))
end
section
variable {prog : Program} {w : World} {A : Around} {E : Value → Shared → Prop} {s : Shared} {L : Addr} {m : PySem.Str → Option Value} {env : Env} {Gd : Heap → Prop}
noncomputable def CEndC (Gd : Heap → Prop) (L : Addr) (m : PySem.Str → Option Value) (s : Shared) (I : Addr) (oI : Obj) (C : Addr) (oC : Obj) (D : Addr) (oD : Obj) (ax : Addr) (oX : Obj) (J : List (Addr × Obj) → Prop) (s₂ : Shared) : Prop :=
  ∃ g h' tk news', s₂ = { s with heap := h', toks := tk } ∧ Gd g ∧ Fr g L h' m ∧ News g L h' ((I, oI) :: (C, oC) :: (D, oD) :: (ax, oX) :: news') ∧ Off3 I C D ((ax, oX) :: news') ∧ J news'
theorem CEndC.intro {s : Shared} {I C D ax : Addr} {oI oC oD oX : Obj} {J : List (Addr × Obj) → Prop} {g h' : Heap} {tk : Nat} {all : List (Addr × Obj)} (news' : List (Addr × Obj)) (G : Gd g) (F : Fr g L h' m) (N : News g L h' all)
    (sub : ∀ p ∈ (I, oI) :: (C, oC) :: (D, oD) :: (ax, oX) :: news', p ∈ all) (off : Off3 I C D ((ax, oX) :: news')) (hJ : J news') : CEndC Gd L m s I oI C oC D oD ax oX J { s with heap := h', toks := tk } :=
  ⟨g, h', tk, news', rfl, G, F, news_sub N sub, off, hJ⟩
/-- a turn of a comprehension over a list of the ledger -/
noncomputable def CTurnC (prog : Program) (w : World) (A : Around) (Gd : Heap → Prop) (L : Addr) (m : PySem.Str → Option Value) (env : Env) (elt : Expr) (ifs : List Expr) (x : PySem.Str) (scope : Scope) (cl : List (PySem.Str × Addr)) (s₁ : Shared) (ax : Addr) (its : Array Value) (k : Nat)
    (J : Nat → List Value → List (Addr × Obj) → Prop) : Prop :=
  ∀ i v ys g news₁ I oI C oC D m₂ h tk, its[i]? = some v → Gd g → J i ys news₁ → NsObj oC m₂ → m₂ x = some v → Fr g L h m → News g L h ((I, oI) :: (C, oC) :: (D, lst ys) :: (ax, lstK its k) :: news₁) →
    Off3 I C D ((ax, lstK its k) :: news₁) → ((@Ne Nat I C) ∧ (@Ne Nat I D) ∧ (@Ne Nat C D)) →
    wpC (model prog w) A (testsOf ifs (compEnvC scope cl C env)) (fun ok s₃ => if ok = true then
        wpC (model prog w) A (eval elt (compEnvC scope cl C env)) (fun y => CEndC Gd L m { s₁ with heap := h, toks := tk } I oI C oC D (lst ys) ax (lstK its k) (J (i + 1) (ys ++ [y]))) (fun _ _ => False) s₃
      else CEndC Gd L m { s₁ with heap := h, toks := tk } I oI C oC D (lst ys) ax (lstK its k) (J (i + 1) ys) s₃) (fun _ _ => False) { s₁ with heap := h, toks := tk }
noncomputable def CSrcC (prog : Program) (w : World) (A : Around) (Gd : Heap → Prop) (L : Addr) (m : PySem.Str → Option Value) (env : Env) (elt : Expr) (ifs : List Expr) (x : PySem.Str) (scope : Scope) (cl : List (PySem.Str × Addr)) (mf : Addr → PySem.Str → Option Value) (Q : Addr → Shared → Prop)
    (xv : Value) (s₁ : Shared) : Prop :=
  ∃ (ax : Addr) (its : Array Value) (k : Nat) (g : Heap) (news : List (Addr × Obj)) (J : Nat → List Value → List (Addr × Obj) → Prop), xv = .ref ax ∧ A.handled = none ∧ Gd g ∧ Fr g L s₁.heap m ∧ News g L s₁.heap ((ax, lstK its k) :: news) ∧ its.size ≤ sizeLine ∧ J 0 [] news ∧
    CTurnC prog w A Gd L m env elt ifs x scope cl s₁ ax its k J ∧
    (∀ g h' tk D ys news', Gd g → Fr g L h' (mf D) → News g L h' ((D, lst ys) :: (ax, lstK its k) :: news') → Off1 D ((ax, lstK its k) :: news') → J its.size ys news' → Q D { s₁ with heap := h', toks := tk })
theorem CSrcC.intro {elt : Expr} {ifs : List Expr} {x : PySem.Str} {scope : Scope} {cl : List (PySem.Str × Addr)} {mf : Addr → PySem.Str → Option Value} {Q : Addr → Shared → Prop} {s₁ : Shared} {ax : Addr} {its : Array Value} {k : Nat} {g : Heap} {news all : List (Addr × Obj)} (J : Nat → List Value → List (Addr × Obj) → Prop)
    (hh : A.handled = none) (G : Gd g) (F : Fr g L s₁.heap m) (N : News g L s₁.heap all) (hs : ∀ p ∈ (ax, lstK its k) :: news, p ∈ all) (hsz : its.size ≤ sizeLine) (h0 : J 0 [] news)
    (turn : CTurnC prog w A Gd L m env elt ifs x scope cl s₁ ax its k J)
    (fin : ∀ g h' tk D ys news', Gd g → Fr g L h' (mf D) → News g L h' ((D, lst ys) :: (ax, lstK its k) :: news') → Off1 D ((ax, lstK its k) :: news') → J its.size ys news' → Q D { s₁ with heap := h', toks := tk }) :
    CSrcC prog w A Gd L m env elt ifs x scope cl mf Q (.ref ax) s₁ := ⟨ax, its, k, g, news, J, rfl, hh, G, F, news_sub N hs, hsz, h0, turn, fin⟩
theorem block_C {elt iter : Expr} {ifs : List Expr} {x : PySem.Str} {px : Pos} {scope : Scope} {cl : List (PySem.Str × Addr)} {pos : Pos} {s₁ : Shared} {ax : Addr} {its : Array Value} {k : Nat} {g : Heap} {news : List (Addr × Obj)} {J : Nat → List Value → List (Addr × Obj) → Prop}
    {RR : Value → Addr → Result → Shared → Prop}
    (hh : A.handled = none) (G : Gd g) (F : Fr g L s₁.heap m) (N : News g L s₁.heap ((ax, lstK its k) :: news)) (hsz : its.size ≤ sizeLine) (h0 : J 0 [] news)
    (turn : CTurnC prog w A Gd L m env elt ifs x scope cl s₁ ax its k J)
    (hcell : ∀ y ∈ scope.names, y.2 ≠ .cell) (hkind : scope.kind = .function) (hx : scope.names.lookup x = some .local)
    (hRR : ∀ D C g h tk m' ys news', Gd g → Fr g L h m → News g L h ((D, lst ys) :: (ax, lstK its k) :: news') → Off1 D ((ax, lstK its k) :: news') → h.Ns C m' → g.get? C = none → C ≠ L → D ≠ L → C ≠ D → (∀ p ∈ (ax, lstK its k) :: news', p.1 ≠ C) → J its.size ys news' → RR (.ref D) C (.ok .next) { s₁ with heap := h, toks := tk }) :
    wpAny (model prog w) A (pyIter (.ref ax)) (fun it s₂ => wpAny (model prog w) A (newList []) (fun acc s₃ => wpAny (model prog w) A (newFunctionEnv scope env.globals cl [] env.qual none .none (some env)) (fun cenv s₄ =>
      codeC (model prog w) A (.compStart (.ListComp elt [⟨.Name x px, iter, ifs, 0⟩] scope pos) 0 it acc { cenv with scope := relabel scope env }) (RR acc cenv.locals) s₄) E s₃) E s₂) E s₁ := by
  have hax := N (ax, lstK its k) (.head _)
  have hl : s₁.heap.IsList ax its := ⟨_, hax.1, rfl, k, rfl⟩
  have hlt : ax < s₁.heap.objs.size := Heap.lt_size hax.1
  refine wpAny_pyIter_list hl ?_
  have up1 : ∀ b o, s₁.heap.get? b = some o → (s₁.heap.push { cls := .type "list_iterator", data := .fields #[.ref ax, .int 0 0] }).get? b = some o := fun b o e => Heap.get?_push_of_some _ e
  have hIget1 : (s₁.heap.push { cls := .type "list_iterator", data := .fields #[.ref ax, .int 0 0] }).get? s₁.heap.objs.size = some { cls := .type "list_iterator", data := .fields #[.ref ax, .int 0 0] } := Heap.get?_push_size _ rfl
  have hS1 : (s₁.heap.push { cls := .type "list_iterator", data := .fields #[.ref ax, .int 0 0] }).objs.size = s₁.heap.objs.size + 1 := Heap.size_push ..
  generalize (s₁.heap.push { cls := .type "list_iterator", data := .fields #[.ref ax, .int 0 0] }) = H1 at up1 hIget1 hS1 ⊢
  generalize hI : s₁.heap.objs.size = I at hIget1 hS1 ⊢
  refine wpAny_newObj_type (wpAny_newFunctionEnv hcell (by intro y hy; simp at hy) (fun h₁ hns₁ hsb₁ => ?_) hkind)
  dsimp only at hns₁ hsb₁ ⊢
  have hDget : (H1.push { cls := .type "list", dict := none, data := .seq ([] : List Value).toArray }).get? H1.objs.size = some (lst []) := Heap.get?_push_size _ rfl
  have hS2 : (H1.push { cls := .type "list", dict := none, data := .seq ([] : List Value).toArray }).objs.size = H1.objs.size + 1 := Heap.size_push ..
  have up2 : ∀ b o, H1.get? b = some o → (H1.push { cls := .type "list", dict := none, data := .seq ([] : List Value).toArray }).get? b = some o := fun b o e => Heap.get?_push_of_some _ e
  generalize (H1.push { cls := .type "list", dict := none, data := .seq ([] : List Value).toArray }) = H2 at hns₁ hsb₁ hDget hS2 up2 ⊢
  generalize hD : H1.objs.size = D at hDget hS2 ⊢
  generalize hC : H2.objs.size = C at hns₁ hsb₁ ⊢
  have dI : D = I + 1 := by rw [← hD, hS1]
  have cI : C = I + 2 := by rw [← hC, hS2, dI]
  have lt2 : ∀ b o, H2.get? b = some o → b < I + 2 := fun b o e => by have := Heap.lt_size e; rw [hC, cI] at this; exact this
  have low : ∀ b o, s₁.heap.get? b = some o → b < I := fun b o e => by have := Heap.lt_size e; rw [hI] at this; exact this
  have old2 : ∀ b o, H2.get? b = some o → h₁.get? b = some o := fun b o e => hsb₁.extBut b o (fun q => by have := lt2 b o e; rw [q, cI] at this; exact Nat.lt_irrefl _ this) (Heap.get?_push_of_some _ e)
  have old : ∀ b o, s₁.heap.get? b = some o → h₁.get? b = some o := fun b o e => old2 b o (up2 b o (up1 b o e))
  have hacc : h₁.get? D = some (lst []) := old2 _ _ hDget
  have hIh : h₁.get? I = some { cls := .type "list_iterator", data := .fields #[.ref ax, .int 0 0] } := old2 _ _ (up2 _ _ hIget1)
  have fresh₀ : ∀ a, I ≤ a → g.get? a = none := fun a ha => by
    cases e : g.get? a with
    | none => rfl
    | some o' => exact absurd (low a o' (F.keep a o' e)) (Nat.not_lt.mpr ha)
  have hLlt : L < I := by have := F.ns.lt; rw [hI] at this; exact this
  obtain ⟨hIL, hDL, hCL, hID, hIC, hDC⟩ := nat_facts dI cI hLlt
  have off₀ : Off3 I C D ((ax, lstK its k) :: news) := Off3.of fun p hp => by
    exact nat_off dI cI (low _ _ (N p hp).1)
  have loop : ∀ s₃ : Shared, s₃ = { s₁ with heap := h₁, toks := s₁.toks + ([] : List (PySem.Str × Value)).length } →
      codeC (model prog w) A (.compLoop (.ListComp elt [⟨.Name x px, iter, ifs, 0⟩] scope pos) 0 (.ref I) (.ref D) (compEnvC scope cl C env))
        (RR (.ref D) C) s₃ := by
    rintro s₃ rfl
    refine codeC_compLoop
      (fun n s' => ∃ g h' tk i ys m' oI news', s' = { s₁ with heap := h', toks := tk } ∧ i ≤ its.size ∧ n = its.size + 1 - i ∧ ys.length ≤ i ∧ h'.IsListIter I ax i ∧ Gd g ∧ Fr g L h' m ∧ h'.Ns C m' ∧ g.get? C = none ∧ News g L h' ((I, oI) :: (D, lst ys) :: (ax, lstK its k) :: news') ∧
        Off3 I C D ((ax, lstK its k) :: news') ∧ J i ys news') ?_ (its.size + 1)
      ⟨g, h₁, _, 0, [], _, { cls := .type "list_iterator", data := .fields #[.ref ax, .int 0 0] }, news, rfl, Nat.zero_le _, rfl, Nat.le_refl _, ⟨_, hIh, rfl, rfl⟩, G, F.keeps old, hns₁, fresh₀ C (by rw [cI]; exact Nat.le_add_right _ _), fun p hp => ?_, off₀, h0⟩
    · rintro n s' ⟨g', h', tk, i, ys, m', oI, news', rfl, hi, rfl, hyl, hit', G', F', hn', hC₀, N', off', hJ'⟩
      have zI := N' (I, oI) (.head _)
      have zD := N' (D, lst ys) (.tail _ (.head _))
      have zX := N' (ax, lstK its k) (.tail _ (.tail _ (.head _)))
      have off3 := off'.mem
      have hl' : h'.IsList ax its := ⟨_, zX.1, rfl, k, rfl⟩
      have hXI : ax ≠ I := (off3 (ax, lstK its k) (.head _)).1
      have W := Walks.list (prog := prog) (w := w) hh I ax hXI its
      have N₀ : News g' L h' ((D, lst ys) :: (ax, lstK its k) :: news') := fun p hp => N' p (.tail _ hp)
      have nI : ∀ p ∈ (D, lst ys) :: (ax, lstK its k) :: news', p.1 ≠ I := fun p hp => by
        rcases List.mem_cons.mp hp with rfl | hp
        · exact Ne.symm hID
        · exact (off3 p hp).1
      by_cases hlt' : i < its.size
      · refine W.item i _ _ _ hlt' ⟨hit', hl'⟩ fun v h₂ tk₂ hPv hst₂ hk₂ => ?_
        obtain ⟨l, hIo, hIr⟩ := hst₂.1
        have F₂ := fr_but F' hk₂ (Ne.symm hIL) zI.2.2
        have N₂ := news_but N₀ hk₂ nI
        refine wpAny_assign_Name (wpAny_storeName_local (lookup_relabel_local hx) (hn'.at' fun o e => hk₂ _ o (by simpa using Ne.symm hIC) e) (fun h₃ hn₃ hs₃ => ?_) (by simp [compEnvC, relabel, hkind]))
        obtain ⟨oC, heC, hoC⟩ := ns_obj hn₃
        have F₃ : Fr g' L h₃ m := F₂.change hs₃ hCL hC₀
        have N₃ : News g' L h₃ ((I, l) :: (C, oC) :: (D, lst ys) :: (ax, lstK its k) :: news') := fun p hp => by
          rcases List.mem_cons.mp hp with rfl | hp
          · exact ⟨hs₃.extBut _ _ hIC hIo, zI.2⟩
          · rcases List.mem_cons.mp hp with rfl | hp
            · exact ⟨heC, hCL, hC₀⟩
            · have z := N₂ p hp
              refine ⟨hs₃.extBut _ _ ?_ z.1, z.2⟩
              rcases List.mem_cons.mp hp with rfl | hp
              · exact hDC
              · exact (off3 p hp).2.1
        have more : ∀ (tkk : Nat) (s₄ : Shared) (ys₄ : List Value) (J₄ : List (Addr × Obj) → Prop), CEndC Gd L m { s₁ with heap := h₃, toks := tkk } I l C oC D (lst ys₄) ax (lstK its k) J₄ s₄ →
            ∃ g₄ h₄ tk₄ news₄, s₄ = { s₁ with heap := h₄, toks := tk₄ } ∧ Gd g₄ ∧ Fr g₄ L h₄ m ∧ News g₄ L h₄ ((I, l) :: (C, oC) :: (D, lst ys₄) :: (ax, lstK its k) :: news₄) ∧ Off3 I C D ((ax, lstK its k) :: news₄) ∧ J₄ news₄ := by
          rintro tkk s₄ ys₄ J₄ ⟨g₄, h₄, tk₄, news₄, rfl, x1, x2, x3, x4, x5⟩
          exact ⟨g₄, h₄, tk₄, news₄, rfl, x1, x2, x3, x4, x5⟩
        refine wpC_mono (turn i v ys g' news' I l C oC D _ h₃ _ hPv G' hJ' hoC (by simp) F₃ N₃ off' ⟨hIC, hID, Ne.symm hDC⟩) (fun okb s₄ h₄ => ?_) fun _ _ e => e
        cases okb with
        | false =>
          obtain ⟨g₄, hp₄, tk₄, news₄, rfl, G₄, F₄, N₄, off₄, hJ₄⟩ := more _ _ _ _ h₄
          simp only [Bool.false_eq_true, if_false]
          exact ⟨its.size + 1 - (i + 1), by omega, g₄, hp₄, tk₄, i + 1, ys, _, l, news₄, rfl, hlt', rfl, Nat.le_succ_of_le hyl, ⟨l, (N₄ (I, l) (.head _)).1, hIr⟩, G₄, F₄, hoC.ns (N₄ (C, oC) (.tail _ (.head _))).1, (N₄ (C, oC) (.tail _ (.head _))).2.2, fun p hp => by
            rcases List.mem_cons.mp hp with rfl | hp
            · exact N₄ _ (.head _)
            · exact N₄ _ (.tail _ (.tail _ hp)), off₄, hJ₄⟩
        | true =>
          simp only [if_true] at h₄ ⊢
          refine wpC_mono h₄ (fun y s₅ h₅ => ?_) fun _ _ e => e
          obtain ⟨g₄, h₄, tk₄, news₄, rfl, G₄, F₄, N₄, off₄, hJ₄⟩ := more _ _ _ _ h₅
          have yD := N₄ (D, lst ys) (.tail _ (.tail _ (.head _)))
          have yC := N₄ (C, oC) (.tail _ (.head _))
          have yI := N₄ (I, l) (.head _)
          have off4 := off₄.mem
          refine append_at (hsz := by show ys.toArray.size ≤ sizeLine; rw [List.size_toArray]; exact Nat.le_trans hyl (Nat.le_trans hi hsz)) yD.1 fun h₅ hs₅ hD₅ => ?_
          refine ⟨its.size + 1 - (i + 1), by omega, g₄, h₅, tk₄, i + 1, ys ++ [y], _, l, news₄, rfl, hlt', rfl, by rw [List.length_append, List.length_singleton]; exact Nat.succ_le_succ hyl, ⟨l, hs₅.extBut _ _ hID yI.1, hIr⟩, G₄, F₄.change hs₅ hDL yD.2.2, (hoC.ns yC.1).sameBut hs₅ (Ne.symm hDC), yC.2.2, fun p hp => ?_, off₄, hJ₄⟩
          rcases List.mem_cons.mp hp with rfl | hp
          · exact ⟨hs₅.extBut _ _ hID yI.1, yI.2⟩
          · rcases List.mem_cons.mp hp with rfl | hp
            · exact ⟨hD₅.trans (congrArg some (lst_snoc ys y)), yD.2⟩
            · have z := N₄ p (.tail _ (.tail _ (.tail _ hp)))
              exact ⟨hs₅.extBut _ _ (off4 p hp).2.2 z.1, z.2⟩
      · obtain rfl : i = its.size := Nat.le_antisymm hi (Nat.not_lt.mp hlt')
        refine W.done _ _ _ ⟨hit', hl'⟩ fun h₂ tk₂ hk₂ => ?_
        exact hRR D C g' h₂ tk₂ m' ys news' G' (fr_but F' hk₂ (Ne.symm hIL) zI.2.2) (news_but N₀ hk₂ nI) off'.one (hn'.at' fun o e => hk₂ _ o (by simpa using Ne.symm hIC) e) hC₀ hCL hDL (Ne.symm hDC) (fun p hp => (off3 p hp).2.1) hJ'
    · rcases List.mem_cons.mp hp with rfl | hp
      · exact ⟨hIh, hIL, fresh₀ I (Nat.le_refl _)⟩
      · rcases List.mem_cons.mp hp with rfl | hp
        · exact ⟨hacc, hDL, fresh₀ D (by rw [dI]; exact Nat.le_add_right _ _)⟩
        · exact ⟨old _ _ (N p hp).1, (N p hp).2⟩
  exact codeC_compStart (loop _ rfl) (wpAny_pyIter_listiter ⟨_, hIh, rfl, rfl⟩ (loop _ rfl))
theorem wpC_ListComp {elt iter : Expr} {ifs : List Expr} {x : PySem.Str} {px : Pos} {scope : Scope} {cl : List (PySem.Str × Addr)} {pos : Pos} {Q : Value → Shared → Prop} {h₀ : Heap} (_F₀ : Fr h₀ L s.heap m)
    (hclos : closureFor scope env = pure cl) (hcell : ∀ y ∈ scope.names, y.2 ≠ .cell) (hkind : scope.kind = .function)
    (hnames : ∀ y ∈ scope.names, y.2 = .local → scope.names.lookup y.1 = some .local) (hx : scope.names.lookup x = some .local)
    (h : wpAny (model prog w) A (eval iter env) (CSrcC prog w A Gd L m env elt ifs x scope cl (fun _ => m) (fun D => Q (.ref D))) E s)
    (hs : ∀ x, foldedSetIterable iter env x = pure x := by intro _; rfl) :
    wpC (model prog w) A (eval (.ListComp elt [⟨.Name x px, iter, ifs, 0⟩] scope pos) env) Q E s := by
  rw [eval_ListComp]
  refine wpC_comprehension (use := none) rfl hs hclos hkind hnames (wpAny_mono h (fun xv s₁ h₁ => ?_) fun _ _ e => e)
  obtain ⟨ax, its, k, g, news, J, rfl, hh, G, F, N, hsz, h0, turn, fin⟩ := h₁
  refine block_C hh G F N hsz h0 turn hcell hkind hx ?_
  intro D C g h tk m' ys news' G' F' N' o1 hn hC₀ hCL hDL hCD offC hJ
  refine ⟨m', hn, fun h'' hs'' => fin g h'' tk D ys news' G' (F'.change hs'' hCL hC₀) (fun p hp => ?_) o1 hJ⟩
  refine ⟨hs''.extBut _ _ ?_ (N' p hp).1, (N' p hp).2⟩
  rcases List.mem_cons.mp hp with rfl | hp
  · exact Ne.symm hCD
  · exact offC p hp
theorem wpC_Assign_ListComp {elt iter : Expr} {ifs : List Expr} {x y : PySem.Str} {px py : Pos} {scope : Scope} {cl : List (PySem.Str × Addr)} {pos spos : Pos} {Q : Flow → Shared → Prop} {h₀ : Heap} (_F₀ : Fr h₀ L s.heap m) (hLe : env.locals = L)
    (hsw : swapsWith (.ListComp elt [⟨.Name x px, iter, ifs, 0⟩] scope pos) (some (.Name y py)) spos.line env = pure true)
    (hclos : closureFor scope env = pure cl) (hcell : ∀ z ∈ scope.names, z.2 ≠ .cell) (hkind : scope.kind = .function)
    (hnames : ∀ z ∈ scope.names, z.2 = .local → scope.names.lookup z.1 = some .local) (hx : scope.names.lookup x = some .local)
    (hy : env.kindOf y = some .local) (hp : (env.scope.kind == .class || (env.scope.kind == .module && env.locals != env.globals)) = false)
    (h : wpAny (model prog w) A (eval iter env) (CSrcC prog w A Gd L m env elt ifs x scope cl (fun D z => if z = y then some (.ref D) else m z) (fun _ => Q .next)) E s)
    (hs : ∀ x, foldedSetIterable iter env x = pure x := by intro _; rfl) :
    wpC (model prog w) A (exec (.Assign [.Name y py] (.ListComp elt [⟨.Name x px, iter, ifs, 0⟩] scope pos) spos) env) Q E s := by
  subst hLe
  rw [exec_Assign_Name_used _ _ _ _ hsw]
  refine wpC_step (wpAny_standAt (wpC_bind ?_))
  show wpC _ A (do let _ ← comprehension (.ListComp elt [⟨.Name x px, iter, ifs, 0⟩] scope pos) scope env _ (newList []) false (eval iter env) (some (assign (.Name y py) env))) _ _ s
  refine wpC_bind (wpC_mono (wpC_comprehension (use := some (assign (.Name y py) env)) (Q := fun _ s' => Q .next s') rfl hs hclos hkind hnames
    (wpAny_mono h (fun xv s₁ h₁ => ?_) fun _ _ e => e)) (fun _ s' hq => wpC_pure (wpC_pure hq)) fun _ _ e => e)
  obtain ⟨ax, its, k, g, news, J, rfl, hh, G, F, N, hsz, h0, turn, fin⟩ := h₁
  refine block_C hh G F N hsz h0 turn hcell hkind hx ?_
  intro D C g h' tk m' ys news' G' F' N' o1 hn hC₀ hCL hDL hCD offC hJ
  show wpAny _ A (assign (.Name y py) env (.ref D)) _ _ _
  refine wpAny_assign_Name (wpAny_storeName_local hy F'.ns (fun h₂ hn₂ hs₂ => ?_) hp)
  have F₂ := F'.set hn₂ hs₂
  refine ⟨m', hn.sameBut hs₂ hCL, fun h'' hs'' => fin g h'' _ D ys news' G' (F₂.change hs'' hCL hC₀) (fun p hp => ?_) o1 hJ⟩
  have z : h₂.get? p.1 = some p.2 := hs₂.extBut _ _ (N' p hp).2.1 (N' p hp).1
  refine ⟨hs''.extBut _ _ ?_ z, (N' p hp).2⟩
  rcases List.mem_cons.mp hp with rfl | hp
  · exact Ne.symm hCD
  · exact offC p hp
end
end Mine
end
theorem Mine.topOffWm : True := by
  w_top off
  trivial

section
open PySem PySem.W PySem.W.X PyProof.Rows PySem.Calls
set_option maxRecDepth 100000
namespace Mine
/-- a ground that may have turned: the frames below have other slots, all else stands -/
structure Gnd (w : World) (mean : ExcName → Option Value) (mg mb : PySem.Str → Option Value) (A₀ : Around) (base : Heap) (outer : List Env) (h₀ g : Heap) : Prop where
  turn : KtsTurn (outer.filterMap (·.frame)) h₀ g
  below : Below A₀ base outer g
  kin : (hd.heap_39 w.params).In g
  top : Top hd.view_39 looseL mean mg mb g
  dicts : KtsDicts (outer.filterMap (·.frame)) g
theorem Gnd.refl {w : World} {mean : ExcName → Option Value} {mg mb : PySem.Str → Option Value} {A₀ : Around} {base : Heap} {outer : List Env} {h₀ g : Heap} (G : Gnd w mean mg mb A₀ base outer h₀ g) : Gnd w mean mg mb A₀ base outer g g := ⟨.refl, G.below, G.kin, G.top, G.dicts⟩
theorem Gnd.trans {w : World} {mean : ExcName → Option Value} {mg mb : PySem.Str → Option Value} {A₀ : Around} {base : Heap} {outer : List Env} {h₀ g g' : Heap} (G : Gnd w mean mg mb A₀ base outer h₀ g) (G' : Gnd w mean mg mb A₀ base outer g g') : Gnd w mean mg mb A₀ base outer h₀ g' := ⟨G.turn.trans G'.turn, G'.below, G'.kin, G'.top, G'.dicts⟩
noncomputable def LeaveG (w : World) (mean : ExcName → Option Value) (mg mb : PySem.Str → Option Value) (A₀ : Around) (base : Heap) (outer : List Env) (fs : List Addr) (h₀ : Heap) (L : Addr) (m : PySem.Str → Option Value) (g : Heap) (R : Result → Shared → Prop) (v : Value) (s' : Shared) : Prop :=
  ∃ g' L' m' news', KtsTurn fs g g' ∧ Fr g' L' s'.heap m' ∧ News g' L' s'.heap news' ∧ (∀ h₀', Gnd w mean mg mb A₀ base outer h₀ h₀' → Fr h₀' L s'.heap m → News h₀' L s'.heap news' → R (.ok (.ret v)) s')
theorem LeaveG.intro {w : World} {mean : ExcName → Option Value} {mg mb : PySem.Str → Option Value} {A₀ A : Around} {base : Heap} {outer : List Env} {env : Env} {h₀ : Heap} {L : Addr} {m : PySem.Str → Option Value} {g : Heap} {R : Result → Shared → Prop} {v : Value} {s' : Shared}
    {g' : Heap} {L' : Addr} {m' : PySem.Str → Option Value} {news' : List (Addr × Obj)} (G : Gnd w mean mg mb A base (env :: outer) g g') (F : Fr g' L' s'.heap m') (N : News g' L' s'.heap news') (k : ∀ h₀', Gnd w mean mg mb A₀ base outer h₀ h₀' → Fr h₀' L s'.heap m → News h₀' L s'.heap news' → R (.ok (.ret v)) s') :
    LeaveG w mean mg mb A₀ base outer ((env :: outer).filterMap (·.frame)) h₀ L m g R v s' := ⟨g', L', m', news', G.turn, F, N, k⟩
theorem mem_frames {env : Env} {outer : List Env} {L b : Addr} (hf : env.frame = some L) (h : b ∈ (env :: outer).filterMap (·.frame)) : b = L ∨ b ∈ outer.filterMap (·.frame) := by
  simp only [List.filterMap_cons, hf] at h
  rcases List.mem_cons.mp h with e | h
  · exact .inl e
  · exact .inr h
section
variable {prog : Program} {w : World} {A A₀ : Around} {s : Shared} {base h₀ : Heap} {L : Addr} {m : PySem.Str → Option Value} {news : List (Addr × Obj)} {mean : ExcName → Option Value} {mg mb : PySem.Str → Option Value}
set_option maxHeartbeats 1000000 in
/-- a def is entered; frames below may turn while it runs -/
theorem code_defG {env : Env} {outer : List Env} {R : Result → Shared → Prop} {name qual : PySem.Str} {params : Arguments} {body : List Stmt} {scope : Scope} {dV kV doc pm cdv ct oc : Value} {an od : Option Addr} {osl : Array (Option Value)} {f : Addr} {args : Args} {binds : List (PySem.Str × Value)}
    (G : Gnd w mean mg mb A₀ base outer h₀ h₀) (XB : (hd.heap_39 w.params).In base) (TB : Top hd.view_39 looseL mean mg mb base) (F : Fr h₀ L s.heap m) (N : News h₀ L s.heap news) (hA : A.frames = some (env :: outer)) (hf : env.frame = some L) (hke : env.scope.kind = .function)
    (ho : (hd.heap_39 w.params).lookup f = some ⟨oc, od, .func (fnOf name qual params body scope dV kV doc pm an cdv ct), osl⟩) (hcd : codeIn (hd.heap_39 w.params) cdv qual = true) (hroom : A.depth < recursionLimit)
    (hbind : BindsTo s (fnOf name qual params body scope dV kV doc pm an cdv ct) args binds) (hloc : ∀ y ∈ binds, scope.names.lookup y.1 = some .local)
    (h : ∀ g L' h₁, Fr g L' h₁ (fun y => binds.reverse.lookup y) → News g L' h₁ news → Gnd w mean mg mb A base (env :: outer) g g →
      wpC (model prog w) (A.deeper (envOf qual scope L' f cdv)) (execs body (envOf qual scope L' f cdv))
        (fun fl s' => LeaveG w mean mg mb A₀ base outer ((env :: outer).filterMap (·.frame)) h₀ L m g R (match fl with | .ret v => v | _ => .none) s')
        (fun _ _ => False)
        { s with heap := h₁, toks := s.toks + binds.length })
    (hco : scope.isCoroutine = false) (hgen : scope.isGenerator = false) (hk : scope.kind = .function)
    (hcell : ∀ x ∈ scope.names, x.2 ≠ .cell) : codeC (model prog w) A (.call (.ref f) args) R s := by
  have B := G.below
  have X₀ := G.kin
  have T := G.top
  have D := G.dicts
  obtain ⟨FG, BG, st, _⟩ := groundX (R := R) B F N hA hf hke
  refine codeC_function hroom ((X₀.keeps F.keep) _ _ ho) rfl hco hgen rfl (codeRec_of (X₀.keeps F.keep) hcd) (hbind _ _ _ _ ?_)
  refine wpAny_newFunctionEnv hcell hloc (fun h₁ hns hsb => ?_) hk
  have old : ∀ b o, s.heap.get? b = some o → h₁.get? b = some o := fun b o e => hsb.extBut b o (Nat.ne_of_lt (Heap.lt_size e)) (Heap.get?_push_of_some _ e)
  refine ⟨(T.nolimit.keeps F.keep).fresh _ hsb, codeC_func ?_⟩
  have nL₀ : h₀.get? L = none := kts_self F
  obtain ⟨oL, es, ep, hL, hLd, hLk, hLf⟩ := F.ns
  have nL : L ∉ news.map (·.1) := fun q => by
    obtain ⟨p, hp, e⟩ := List.mem_map.mp q
    exact (N p hp).2.1 e
  have hLg := hideAll_get (news.map (·.1)) hL nL
  have hNs : ∀ (sl : Array (Option Value)) h', h'.get? L = some { oL with slots := sl } → Heap.Ns h' L m := fun sl h' e => ⟨_, es, ep, e, hLd, hLk, hLf⟩
  have X₁ : (hd.heap_39 w.params).In (hideAll s.heap (news.map (·.1))) := X₀.keeps st
  have T₁ : Top hd.view_39 looseL mean mg mb (hideAll s.heap (news.map (·.1))) := T.keeps st
  refine wpC_mono (h (hideAll s.heap (news.map (·.1))) s.heap.objs.size h₁ ⟨hns, fun b o e => old b o (of_hideAll _ e), Nat.le_of_eq (hideAll_size _ _)⟩ ?_ ⟨.refl, BG, X₁, T₁, fun b hb => ?_⟩) (fun fl s' hl => ?_) fun _ _ y => y.elim
  · exact fun p hp => ⟨old _ _ (N p hp).1, Nat.ne_of_lt (Heap.lt_size (N p hp).1), hideAll_none _ (List.mem_map_of_mem hp)⟩
  · rcases mem_frames hf hb with rfl | hb
    · exact ⟨oL, es, ep, hLg, hLd⟩
    · obtain ⟨o, es', n', ho', hd'⟩ := D b hb
      exact ⟨o, es', n', st b o ho', hd'⟩
  obtain ⟨g', L', m', news', T', F', N', k⟩ := hl
  obtain ⟨sl, hs⟩ := T'.up hLg
  obtain ⟨T₁, S₁⟩ := kts_turn_at (h := s'.heap) (fs := outer.filterMap (·.frame)) (g := h₀)
    (fun b hb => by
      obtain ⟨_, o, ho', _⟩ := B.frames.mem hb
      exact ⟨o, ho'⟩)
    (fun b o e nmem => F'.keep b o (T'.other b o (st b o e) (fun q => by
      rcases mem_frames hf q with z | z
      · rw [z, nL₀] at e
        cases e
      · exact nmem z)))
    (fun b o e hm => by
      obtain ⟨sl', hs'⟩ := T'.up (st b o e)
      exact ⟨sl', F'.keep _ _ hs'⟩)
  have B₃ : Below A₀ base outer (ktsHeap s'.heap (outer.filterMap (·.frame)) h₀) := ⟨B.stack, fun b o e => T₁.other b o (B.stays b o e) (fun hm => by
    rw [(B.frames.mem hm).1] at e
    cases e), B.frames.of_keeps fun b o e _ => by
    obtain ⟨sl', hs'⟩ := T₁.up e
    exact ⟨_, hs', rfl⟩⟩
  refine k _ ⟨T₁, B₃, XB.keeps B₃.stays, TB.keeps B₃.stays, D.turn T₁⟩ ⟨hNs sl _ (F'.keep _ _ hs), S₁, by rw [T₁.size]; exact F.above⟩ (fun p hp => ⟨(N' p hp).1, fun q => ?_, ?_⟩)
  · have := (N' p hp).2.2; rw [q, hs] at this; cases this
  · refine T₁.none_ _ ?_
    cases q : h₀.get? p.1 with
    | none => rfl
    | some o =>
      obtain ⟨sl', hs'⟩ := T'.up (st _ _ q)
      have := (N' p hp).2.2
      rw [hs'] at this
      cases this
end
section
variable {prog : Program} {w : World} {A₀ : Around} {s' : Shared} {base g₀ g h : Heap} {outer : List Env} {L a e : Addr} {m : PySem.Str → Option Value} {name : PySem.Str} {scope : Scope} {cd : Value}
  {b₀ : Stmt} {suite : List Stmt} {pos np : Pos} {rest : List ExceptHandler} {Q : Flow → Shared → Prop} {news : List (Addr × Obj)}
  {mean : ExcName → Option Value} {mg mb : PySem.Str → Option Value} {x : PySem.Str} {X T' : String}
set_option maxHeartbeats 1000000 in
/-- an exception that is raised in the frame itself is caught there -/
theorem caught_here (G : Gnd w mean mg mb A₀ base outer g₀ g) (XB : (hd.heap_39 w.params).In base) (TB : Top hd.view_39 looseL mean mg mb base) (hx : Heap.NewExc h s'.heap e X) (F : Fr g L h m) (N : News g L h news)
    (ex : nsIn (hd.heap_39 w.params) mainGlobals x = some none) (hv : bootBuiltins x = some (.type T')) (hn' : x ≠ "__name__")
    (hexc : isSubtype (.type T') (.type "BaseException") = pure true) (hnt : isSubtype (.type ((Manifest.find? T').elim "type" fun y => y.metatype)) (.type "tuple") = pure false) (hsub : isSubtype (.type X) (.type T') = pure true)
    (k : ∀ h' g', Gnd w mean mg mb A₀ base outer g₀ g' → Fr g' L h' m → News g' L h' news →
      wpAny (model prog w) ((A₀.deeper (envOf name scope L a cd)).mark (some (.ref e))) (execs (b₀ :: suite) (envOf name scope L a cd)) Q (fun _ _ => False) { s' with heap := h' })
    (hk : scope.kind = .function) (hkx : (envOf name scope L a cd).kindOf x = some .globalImplicit) (hdb : (x == ("__debug__" : PySem.Str)) = false) :
    wpAny (model prog w) (A₀.deeper (envOf name scope L a cd)) (noteFrame (.ref e) (envOf name scope L a cd))
      (fun _ s₂ => wpAny (model prog w) (A₀.deeper (envOf name scope L a cd)) (setFlight (.ref e) none) (fun _ s₃ =>
        wpAny (model prog w) (A₀.deeper (envOf name scope L a cd)) (handleBy (.ref e) (envOf name scope L a cd) (.ExceptHandler (some (.Name x np)) none (b₀ :: suite) pos :: rest)) Q (fun _ _ => False) s₃) (fun _ _ => False) s₂) (fun _ _ => False) s' := by
  have K := G.below
  have D := G.dicts
  have T0 := G.turn
  have hf : (envOf name scope L a cd).frame = some L := rfl
  have K' := K.push (name := name) (a := a) (cd := cd) F hk
  have hin : ∀ env ∈ (envOf name scope L a cd :: outer), ∀ b, env.frame = some b → b ∈ (envOf name scope L a cd :: outer).filterMap (·.frame) := fun env he b hb => List.mem_filterMap.mpr ⟨env, he, hb⟩
  -- the heap without the frames
  generalize hB : hideAll h ((envOf name scope L a cd :: outer).filterMap (·.frame)) = B
  have fromB : ∀ b o, B.get? b = some o → s'.heap.get? b = some o := fun b o q => hx.keeps b o (by rw [← hB] at q; exact of_hideAll _ q)
  have hBG : ∀ b o, h.get? b = some o → b ∉ (envOf name scope L a cd :: outer).filterMap (·.frame) → B.get? b = some o := fun b o q nm => by rw [← hB]; exact hideAll_get _ q nm
  have hff : s'.heap.FunFrames B (envOf name scope L a cd :: outer) := by
    rw [← hB]
    exact (funFrames_hide K'.frames hin).of_keeps fun b o q _ => ⟨o, hx.keeps b o q, rfl⟩
  have hen : B.get? e = none := by
    cases q : B.get? e with
    | none => rfl
    | some o => have := hx.new; rw [← hB] at q; rw [of_hideAll _ q] at this; cases this
  have hl : ∀ q ∈ news, B.get? q.1 = some q.2 := fun q hq => hBG _ _ (N q hq).1 fun hm => by
    rcases mem_frames hf hm with z | z
    · exact (N q hq).2.1 z
    · obtain ⟨o, es, n, ho, _⟩ := D _ z
      rw [(N q hq).2.2] at ho; cases ho
  have hL : B.get? L = none := by
    rw [← hB]; exact hideAll_none _ (hin _ (.head _) L rfl)
  obtain ⟨ob, tp, hob0, hcls, hdat⟩ := hx.there
  have hsm : h.UpToSlots s'.heap := Heap.UpToSlots.of_keeps hx.keeps
  have note : ∀ {E : Value → Shared → Prop} {Q' : Unit → Shared → Prop}, (∀ h', Heap.HeldW B (envOf name scope L a cd :: outer) e (.type X) tp L h' → s'.heap.UpToSlots h' → Q' () { s' with heap := h' }) → wpAny (model prog w) (A₀.deeper (envOf name scope L a cd)) (noteFrame (.ref e) (envOf name scope L a cd)) Q' E s' := by
    intro E Q' k
    unfold noteFrame
    simp only [hf]
    refine wpAny_bind (wpAny_field (x := .none) hob0 hdat rfl ?_)
    rw [if_neg (by decide)]
    refine wpAny_entryW (Around.frames_deeper K.stack) hff hf hob0 fromB hen hdat (by simp) rfl fun h' hN => ?_
    obtain ⟨k1, k2, k3, k4⟩ := hN
    rw [hcls] at k3
    exact k h' ⟨k1, hen, k2, k3⟩ k4
  refine note fun h₄ hheld₄ hsm₄ => ?_
  refine wpAny_landsW hheld₄ fun h₅ hheld hsm₅' => ?_
  have hsm₅ := hsm₄.trans hsm₅'
  obtain ⟨g₅, T₅, F₅, K₅⟩ := kts_ground K F hBG hheld.1 (hsm.trans hsm₅)
  have X₅ : (hd.heap_39 w.params).In g₅ := XB.keeps K₅.stays
  have P₅ : TopRead hd.view_39 looseL mg mb g₅ := topRead_of (TB.keeps K₅.stays)
  obtain ⟨ob, hob, hobc⟩ := hheld.there
  refine wpAny_handleBy_builtin (X := X) (T := T') (b := true) hexc hnt hsub (name_B F₅ X₅ P₅ ex hv hn' ⟨rfl, ⟨ob, hob, hobc⟩, ?_⟩ hk hkx hdb)
  refine lands_againW hheld fun h₆ hfl₆ hsm₆ => ?_
  obtain ⟨g₆, T₆, F₆, K₆⟩ := kts_ground K F hBG hfl₆.1 ((hsm.trans hsm₅).trans hsm₆)
  have Nl : News g₆ L h₆ news := fun q hq => ⟨hfl₆.1 _ _ (hl q hq), (N q hq).2.1, T₆.none_ _ (N q hq).2.2⟩
  have D₆ : KtsDicts (outer.filterMap (·.frame)) g₆ := D.turn T₆
  exact wpAny_mono (k h₆ g₆ ⟨T0.trans T₆, K₆, XB.keeps K₆.stays, TB.keeps K₆.stays, D₆⟩ F₆ Nl) (fun _ _ x => x) fun _ _ x => x.elim
end
end Mine
end
theorem Mine.topOffWn : True := by
  w_top off
  trivial

section
open PySem PySem.W PySem.W.X PyProof.Rows PySem.Calls
set_option maxRecDepth 100000
namespace Mine
open PySem.NumText
theorem int_new_eq (x : PySem.Str) (u v : Tok) : Builtin.«int.__new__» ⟨[.type "int", .str x u, .int 10 v], []⟩ = ((int_private% "intFromText") (.str x u) (numTextOf x) 10 >>= fun r => ret r) := by
  have f1 := F.conv_sub_int
  have f2 := F.madeHere_int
  have f3 : isType (.type "int") = pure true := rfl
  unfold Builtin.«int.__new__»
  simp only [f1, f2, f3, pure_bind, List.head?]
  rfl
theorem refuse_eq {x : PySem.Str} {u : Tok} (hn : PySem.intText? x = none) (hl : x.length ≤ 640) : (int_private% "intFromText") (.str x u) (numTextOf x) 10 = (do
    rule "int.__new__.invalid-literal"
    let shown ← pyRepr (.str x u)
    let m ← mkStr (((s!"invalid literal for int() with base {(10 : Nat)}: " : String) ++ ⟨shown.cps.extract 0 200⟩ : PySem.Str))
    let refusal ← newExc (.type "ValueError") [m]
    markTheRefusal ["int.__new__"] refusal
    raiseNew refusal) := by
  have hs : (numSeenOf x).length ≤ 640 := Nat.le_trans (seen_length x) hl
  rcases read0 x hs with ⟨m, h1, _⟩ | ⟨_, h2⟩
  · rw [hn] at h1; cases h1
  have hb : (int_private% "bytesOf?") (.str x u) = pure none := rfl
  have hs' : ((numTextOf x).takeWhile (· != 0)).length ≤ 640 := hs
  have hsn : (numTextOf x).takeWhile (· != 0) = numSeenOf x := rfl
  refine Eq.trans (b := (ite (((numTextOf x).takeWhile (· != 0)).length ≤ 640) _ _)) rfl ?_
  rw [if_pos hs', pure_bind]
  rw [hsn]
  dsimp only
  rcases h2 with h2 | ⟨i, h2, h3⟩
  · rw [h2]
    dsimp only
    rw [hb, pure_bind]
    try rfl
  · rw [h2]
    dsimp only
    rw [if_neg h3]
    rw [hb, pure_bind]
    try rfl
section
variable {prog : Program} {w : World} {A : Around} {E : Value → Shared → Prop} {s : Shared}
theorem wpC_ift {x : PySem.Str} {u : Tok} {Q : Value → Shared → Prop} (hn : PySem.intText? x = none) (hl : x.length ≤ 640) (hc : ∀ c ∈ x.cps.toList, c < 16 ^ 8) (hh : A.handled = none)
    (h : ∀ h' e tk, Heap.NewExc s.heap h' e "ValueError" → E (.ref e) { s with heap := h', toks := tk }) : wpC (model prog w) A ((int_private% "intFromText") (.str x u) (numTextOf x) 10) Q E s := by
  rw [refuse_eq hn hl]
  have hb := StrLaws.reprText_len x hc
  have hz := sizeLine_eq
  refine wpC_step (wpAny_rule (wpC_step (wpAny_pyRepr_str (wpC_step (wpAny_mkStr ?_ ?_)) ?_)))
  · refine wpC_step (wpAny_newExc_plain plainExc_ValueError fun h' e hm => ?_)
    refine wpC_bind (wpC_mark (wpC_of (wpAny_raiseNew_none hh (h h' e _ hm.newExc))))
  · show Array.size (_ ++ _) ≤ _
    have h1 : (Str.ofString (toString "invalid literal for int() with base " ++ toString (10 : Nat) ++ toString ": ")).cps.size = 40 := by decide +kernel
    rw [Array.size_append, h1]
    have h2 : ((reprText x).cps.extract 0 200).size ≤ 200 := by rw [Array.size_extract]; omega
    show 40 + ((reprText x).cps.extract 0 200).size ≤ _
    omega
  · omega
theorem codeC_builtin {id : String} {args : Args} {b : Builtin} {R : Result → Shared → Prop} (hb : entryFor table id = some b)
    (h : wpC (model prog w) (A.under (.builtin id args)) (b args) (fun fin s' => match fin with | .done f => R (.ok f) s' | .again c' => c'.quiet = true ∧ codeC (model prog w) A c' R s') (fun e s' => R (.error e) s') s) :
    codeC (model prog w) A (.builtin id args) R s := by
  refine codeC_of_tree ?_
  show wpC _ _ (match entryFor table id with | some b => b args | none => unsupported ((withoutEnding? id "#data").getD id)) _ _ s
  rw [hb]; exact h
theorem codeC_call_builtin {id : String} {args : Args} {R : Result → Shared → Prop} (hq : (Code.builtin id args).quiet = true) (hck : checkBuiltinCall id args = pure ())
    (h : codeC (model prog w) A (.builtin id args) R s) : codeC (model prog w) A (.call (.builtin id) args) R s := by
  refine codeC_of_tree (wpC_of ?_)
  show wpAny _ A.in1 (do checkBuiltinCall id args; again (.builtin id args)) _ _ s
  rw [hck]
  exact wpAny_bind (wpAny_pure (wpAny_pure (And.intro hq h)))
/-- int(text, 10) of a text that is no number, where the claim's caller lies on the stack -/
theorem call_ten_bad {x : PySem.Str} {t u : Tok} {Q : Value → Shared → Prop} (hn : PySem.intText? x = none) (hl : x.length ≤ 640) (hc : ∀ c ∈ x.cps.toList, c < 16 ^ 8) (hh : A.handled = none)
    (h : ∀ h' e tk, Heap.NewExc s.heap h' e "ValueError" → E (.ref e) { s with heap := h', toks := tk }) : wpC (model prog w) A (call (.type "int") [.str x t, .int 10 u]) Q E s := by
  refine wpC_call (codeC_of_tree (wpC_of ?_))
  show wpAny _ _ (callAny (.type "int") _) _ _ _
  refine wpAny_pure ⟨Code.quiet_builtin _ (by decide +kernel), codeC_builtin F.entry_type_call ?_⟩
  rw [Around.under_plain (weight_type_call_type "int" _ []) (units_type_call_type "int" _ [])]
  obtain ⟨c, tl, hmro⟩ := F.called_int.mro
  have hmade := F.called_int.made
  have hct := typeCall_int2 (.str x t) (.int 10 u)
  have h1 := F.called_int.notType
  have h2 := F.called_int.canCreate
  unfold Builtin.«type.__call__»
  simp only [hct, hmro, hmade, pure_bind, h1, h2, Bool.false_eq_true, if_false, List.isEmpty_cons]
  refine wpC_bind (wpC_holding (wpC_call (codeC_call_builtin (Code.quiet_builtin _ (by decide +kernel)) (newCall_int2 _ _) (codeC_builtin F.entry_int_new ?_))))
  rw [int_new_eq]
  exact wpC_bind (wpC_ift hn hl hc hh fun h' e tk hx => h h' e tk hx)
end
end Mine
end
theorem Mine.topOffWo : True := by
  w_top off
  trivial

section
open PySem PySem.W PySem.W.X PyProof.Rows PySem.Calls
set_option maxRecDepth 100000
namespace Mine
/-- what a call of a def of the text tells, where frames below may turn and the claim's caller lies on the stack -/
noncomputable def TellsG (w : World) (mean : ExcName → Option Value) (mg mb : PySem.Str → Option Value) (f : Addr) (lv : Nat) (news : List (Addr × Obj)) (vs : List Value) (R : Value → List (Addr × Obj) → Prop) : Prop :=
  ∀ (dp un : Nat) (gd : Option (List Code)) (cn : PySem.Str) (cs : Scope) (a : Addr) (ccd : Value) (cl : List (PySem.Str × Addr)) (outer : List Env) (A₀ : Around) (base h₀ : Heap) (L : Addr) (m : PySem.Str → Option Value) (s : Shared) (Q : Value → Shared → Prop),
    Gnd w mean mg mb A₀ base outer h₀ h₀ → (hd.heap_39 w.params).In base → Top hd.view_39 looseL mean mg mb base → Fr h₀ L s.heap m → News h₀ L s.heap news → cs.kind = .function → dp < 300 + lv → un < 10 * lv →
    (∀ g r own h' tk', R r own → (∀ q ∈ own, ∀ p ∈ news, p.1 < q.1) → Gnd w mean mg mb A₀ base outer h₀ g → Fr g L h' m → News g L h' (own ++ news) → Q r { s with heap := h', toks := tk' }) →
    wpC (model PySem.Challenge.rw_ik0022_01.row.prog w) (ktrTop dp un gd cn cs L a ccd cl outer) (call (.ref f) vs) Q (fun _ _ => False) s
section
variable {prog : Program} {w : World} {A : Around} {E : Value → Shared → Prop} {s : Shared} {env : Env}
theorem wpC_tryStmt {body orelse : Sem Flow} {h₀ : ExceptHandler} {hs : List ExceptHandler} {Q : Flow → Shared → Prop} {M : Model}
    (h : wpC M A body (fun f s₁ => match f with | .next => wpC M A orelse Q E s₁ | f => Q f s₁)
      (fun e s₁ => wpAny M A (noteFrame e env) (fun _ s₂ => wpAny M A (setFlight e none) (fun _ s₃ => wpAny M A (handleBy e env (h₀ :: hs)) Q E s₃) E s₂) E s₁) s) :
    wpC M A (tryStmt false body (h₀ :: hs) orelse [] env) Q E s := by
  unfold tryStmt
  simp only [List.isEmpty_nil, if_true, List.isEmpty_cons, Bool.false_and, Bool.false_eq_true, if_false]
  refine wpC_bind (wpC_attempt (wpC_mono h (fun f s₁ h₁ => ?_) fun e s₁ h₁ => ?_))
  · cases f <;> first | exact h₁ | exact wpC_pure h₁
  · exact wpC_of (wpAny_bind (wpAny_mono h₁ (fun _ _ h₂ => wpAny_bind h₂) fun _ _ x => x))
theorem wpC_Try_except {body orelse : List Stmt} {h₀ : ExceptHandler} {hs : List ExceptHandler} {pos : Pos} {Q : Flow → Shared → Prop}
    (h : wpC (model prog w) A (execs body env) (fun f s₁ => match f with | .next => wpC (model prog w) A (execs orelse env) Q E s₁ | f => Q f s₁)
      (fun e s₁ => wpAny (model prog w) A (noteFrame e env) (fun _ s₂ => wpAny (model prog w) A (setFlight e none) (fun _ s₃ => wpAny (model prog w) A (handleBy e env (h₀ :: hs)) Q E s₃) E s₂) E s₁) s) :
    wpC (model prog w) A (exec (.Try body (h₀ :: hs) orelse [] pos) env) Q E s := by
  rw [arm_exec_Try]
  exact wpC_step (wpAny_standAt (wpC_tryStmt h))
end
end Mine
end
theorem Mine.topOffWp : True := by
  w_top off
  trivial

section
open PySem PySem.W PySem.W.X PyProof.Rows PySem.Calls
set_option maxRecDepth 100000
set_option maxHeartbeats 8000000
namespace Mine
theorem pat_in {w : World} {h : Heap} (X : (hd.heap_39 w.params).In h) : PatAt h 36 := ⟨35, _, _, _, _, _, X _ _ rfl, rfl, rfl, rfl, rfl, rfl, rfl, X _ _ rfl, rfl, by simp [Builtin.Re.reRawOf, reC]⟩
theorem pat_fr {w : World} {h₀ h : Heap} {L : Addr} {m : PySem.Str → Option Value} (X : (hd.heap_39 w.params).In h₀) (F : Fr h₀ L h m) : PatAt h 36 := (pat_in X).keeps F.keep
local macro_rules | `(tactic| walk_at "execs cons") => `(tactic| (k_here; (with_reducible refine gen_toks ?_); intro tk htk))
local macro_rules | `(tactic| walk_at "execs nil") => `(tactic| (k_here; (with_reducible refine gen_toks ?_); intro tk htk))
local macro_rules | `(tactic| walk_at "getMethod ref") => `(tactic| (k_here; (refine split_method (pat_fr (by k_asm) (by k_asm)) ?_)))
local macro_rules | `(tactic| walk_at "call builtin:re.Pattern.split") => `(tactic| (k_here; (refine split_call (pat_fr (by k_asm) (by k_asm)) (by assumption) (by k_asm) (by k_asm) ?_); intro a9 vs9 h9 k9 hA9 F9 N9 l9 l8))
/-- a number or a text -/
inductive RV
  | n (i : Int)
  | s (l : List Nat)
noncomputable def IsRV (r : RV) (v : Value) : Prop := match r with
  | .n i => ∃ t, v = .int i t
  | .s l => ∃ t, v = .str (tx l) t
/-- what stands for a text that is no number -/
noncomputable def stage (d : List Nat) : Int :=
  if d = [100, 101, 118] then 10 else if d = [97, 108, 112, 104, 97] then 20 else if d = [97] then 20 else if d = [98, 101, 116, 97] then 30 else if d = [98] then 30 else if d = [99] then 40 else if d = [82, 67] then 50 else if d = [114, 99] then 50 else if d = [112, 108] then 200 else if d = [112] then 200 else 0
/-- d is no part of "._+-" -/
noncomputable def apart (d : List Nat) : Bool := (Builtin.Str.occurrences (Str.ofString "._+-") (tx d) 0 (Str.ofString "._+-").length 1).isEmpty
noncomputable def cvOf (d : List Nat) : List RV := if apart d = true then (match PySem.intText? (tx d) with | some n => [.n 100, .n n] | none => [.n (stage d), .s d]) else []
theorem cutsF_mem : ∀ (f : Nat) (d x : List Nat), x ∈ cutsF f d → x.length ≤ d.length ∧ ∀ c ∈ x, c ∈ d
  | 0, d, x, h => by
    simp only [cutsF, List.mem_singleton, List.not_mem_nil] at h
    all_goals first | exact h.elim | (subst h; exact ⟨Nat.le_refl _, fun _ h => h⟩)
  | f + 1, d, x, h => by
    rw [cutsF] at h
    split at h
    · rw [List.mem_singleton.mp h]; exact ⟨Nat.le_refl _, fun _ h => h⟩
    · rename_i o k _
      rcases List.mem_cons.mp h with rfl | h
      · exact ⟨by rw [List.length_take]; exact Nat.min_le_right _ _, fun c hc => List.mem_of_mem_take hc⟩
      · rcases List.mem_cons.mp h with rfl | h
        · exact ⟨by rw [List.length_take, List.length_drop]; omega, fun c hc => List.mem_of_mem_drop (List.mem_of_mem_take hc)⟩
        · have := cutsF_mem f _ _ h
          exact ⟨Nat.le_trans this.1 (by rw [List.length_drop]; omega), fun c hc => List.mem_of_mem_drop (this.2 c hc)⟩
theorem cutsF_len : ∀ (f : Nat) (d : List Nat), (cutsF f d).length ≤ 2 * d.length + 1
  | 0, d => by simp [cutsF]
  | f + 1, d => by
    rw [cutsF]
    split
    · simp
    · rename_i o k e
      have h1 := next_le e
      have h2 := cutsF_len f (d.drop (o + k))
      rw [List.length_drop] at h2
      simp only [List.length_cons]
      omega
theorem cuts_len (d : List Nat) : (cuts d).length ≤ 2 * d.length + 1 := cutsF_len _ _
theorem cuts_mem {d x : List Nat} (h : x ∈ cuts d) : x.length ≤ d.length ∧ ∀ c ∈ x, c ∈ d := cutsF_mem _ _ _ h
noncomputable def CvJ (ps : List (List Nat)) (news : List (Addr × Obj)) (res : Addr) (i : Nat) (m : PySem.Str → Option Value) (nx : List (Addr × Obj)) : Prop :=
  ∃ vs k, m (Str.ofString "result") = some (.ref res) ∧ nx = (res, lstK vs k) :: news ∧ All2 IsRV ((ps.take i).flatMap cvOf) vs.toList ∧ vs.size ≤ 2 * i
theorem CvJ.add {ps : List (List Nat)} {news : List (Addr × Obj)} {res : Addr} {i k : Nat} {vs ws : Array Value} {d : List Nat} {m : PySem.Str → Option Value} (hd : ps[i]? = some d) (hr : All2 IsRV ((ps.take i).flatMap cvOf) vs.toList) (hsz : vs.size ≤ 2 * i)
    (hm : m (Str.ofString "result") = some (.ref res)) (hw : All2 IsRV (cvOf d) ws.toList) (hs : ws.size ≤ 2) : CvJ ps news res (i + 1) m ((res, lstK (vs ++ ws) k) :: news) := by
  refine ⟨vs ++ ws, k, hm, rfl, ?_, by rw [Array.size_append]; omega⟩
  rw [List.take_add_one, hd, Option.toList_some, List.flatMap_append, List.flatMap_cons, List.flatMap_nil, List.append_nil, Array.toList_append]
  exact hr.append hw
section
variable {prog : Program} {w : World} {A : Around} {E : Value → Shared → Prop} {s : Shared} {h₀ : Heap} {L : Addr} {m : PySem.Str → Option Value}
theorem extend_pair {b it ax res : Addr} {oI oX : Obj} {vs : Array Value} {k n2 : Nat} {x y : Value} {news : List (Addr × Obj)} {Q : Value → Shared → Prop} (F : Fr h₀ L s.heap m)
    (N : News h₀ L s.heap ((b, { cls := .type "tuple", data := .seq #[x, y] n2 }) :: (it, oI) :: (ax, oX) :: (res, lstK vs k) :: news)) (hb : @Ne Nat b res) (hi : @Ne Nat it res) (ha : @Ne Nat ax res) (hn : ∀ p ∈ news, p.1 ≠ res) (hsz : vs.size ≤ 10000)
    (h : ∀ h' k', Fr h₀ L h' m → News h₀ L h' ((it, oI) :: (ax, oX) :: (res, lstK (vs ++ #[x, y]) k') :: news) → Q .none { s with heap := h' }) : wpAny (model prog w) A (call (.builtin "list.extend") [.ref res, .ref b]) Q E s := by
  have hz := sizeLine_eq
  refine kup_extend (its := vs) (n := k) (its2 := #[x, y]) F N (.head _) rfl (by simp) (.tail hb (.tail hi (.tail ha (.head hn)))) ?_ (by rw [Array.length_toList]; omega) (by show vs.size + 2 ≤ _; omega) fun h' F' N' => h h' (k + 1) F' ?_
  · have : Builtin.List.listTooLong (vs.size + 2) = false := by unfold Builtin.List.listTooLong; simp; omega
    show ¬(!vs.isEmpty && Builtin.List.listTooLong (vs.size + 2)) = true
    rw [this]; simp
  · have e : vs ++ #[x, y] = (vs.toList ++ #[x, y].toList).toArray := by simp
    rw [e]
    exact news_sub N' fun p hp => .tail _ hp
end
theorem cv_yes {d : List Nat} {n : Int} (h : apart d = true) (hn : PySem.intText? (tx d) = some n) : cvOf d = [.n 100, .n n] := by unfold cvOf; rw [if_pos h, hn]
theorem cv_no {d : List Nat} (h : apart d = true) (hn : PySem.intText? (tx d) = none) : cvOf d = [.n (stage d), .s d] := by unfold cvOf; rw [if_pos h, hn]
noncomputable def CvR (l : List Nat) (r : Value) (own : List (Addr × Obj)) : Prop := ∃ a vs k, r = .ref a ∧ own = [(a, lstK vs k)] ∧ All2 IsRV ((cuts l).flatMap cvOf) vs.toList
theorem stage_flat {v : Value} {d : List Nat} (h : PyProof.V.Flat v ((PySem.Spec.lookup (PyData.str (tx d))
          [(PyData.str { cps := #[100, 101, 118] }, PyData.int 10),
            (PyData.str { cps := #[97, 108, 112, 104, 97] }, PyData.int 20),
            (PyData.str { cps := #[97] }, PyData.int 20), (PyData.str { cps := #[98, 101, 116, 97] }, PyData.int 30),
            (PyData.str { cps := #[98] }, PyData.int 30), (PyData.str { cps := #[99] }, PyData.int 40),
            (PyData.str { cps := #[82, 67] }, PyData.int 50), (PyData.str { cps := #[114, 99] }, PyData.int 50),
            (PyData.str { cps := #[112, 108] }, PyData.int 200), (PyData.str { cps := #[112] }, PyData.int 200)]).getD
      (PyData.int 0))) : IsRV (.n (stage d)) v := by
  have key : (PySem.Spec.lookup (PyData.str (tx d))
          [(PyData.str { cps := #[100, 101, 118] }, PyData.int 10),
            (PyData.str { cps := #[97, 108, 112, 104, 97] }, PyData.int 20),
            (PyData.str { cps := #[97] }, PyData.int 20), (PyData.str { cps := #[98, 101, 116, 97] }, PyData.int 30),
            (PyData.str { cps := #[98] }, PyData.int 30), (PyData.str { cps := #[99] }, PyData.int 40),
            (PyData.str { cps := #[82, 67] }, PyData.int 50), (PyData.str { cps := #[114, 99] }, PyData.int 50),
            (PyData.str { cps := #[112, 108] }, PyData.int 200), (PyData.str { cps := #[112] }, PyData.int 200)]).getD
      (PyData.int 0) = PyData.int (stage d) := by
    show ((if PySem.Spec.same (PyData.str (tx [100, 101, 118])) (PyData.str (tx d)) = true then some (PyData.int 10) else if PySem.Spec.same (PyData.str (tx [97, 108, 112, 104, 97])) (PyData.str (tx d)) = true then some (PyData.int 20)
      else if PySem.Spec.same (PyData.str (tx [97])) (PyData.str (tx d)) = true then some (PyData.int 20) else if PySem.Spec.same (PyData.str (tx [98, 101, 116, 97])) (PyData.str (tx d)) = true then some (PyData.int 30)
      else if PySem.Spec.same (PyData.str (tx [98])) (PyData.str (tx d)) = true then some (PyData.int 30) else if PySem.Spec.same (PyData.str (tx [99])) (PyData.str (tx d)) = true then some (PyData.int 40)
      else if PySem.Spec.same (PyData.str (tx [82, 67])) (PyData.str (tx d)) = true then some (PyData.int 50) else if PySem.Spec.same (PyData.str (tx [114, 99])) (PyData.str (tx d)) = true then some (PyData.int 50)
      else if PySem.Spec.same (PyData.str (tx [112, 108])) (PyData.str (tx d)) = true then some (PyData.int 200) else if PySem.Spec.same (PyData.str (tx [112])) (PyData.str (tx d)) = true then some (PyData.int 200) else none).getD (PyData.int 0)) = _
    have ti : ∀ {a b : List Nat}, (tx a = tx b) ↔ b = a := ⟨fun h => (tx_inj h).symm, fun h => by rw [h]⟩
    simp only [PyProof.V.same_str, decide_eq_true_eq, ti]
    unfold stage
    (repeat' split) <;> rfl
  rw [key] at h
  exact PyProof.V.Flat.int_inv h
theorem lcv : ∀ (w : World) (mean : ExcName → Option Value) (mg mb : PySem.Str → Option Value) (news : List (Addr × Obj)) (l : List Nat) (t : Tok), l.length ≤ 640 → (∀ c ∈ l, c < 128) → TellsG w mean mg mb 44 12 news [.str (tx l) t] (CvR l) := by
  unfold TellsG
  k_fill
  intro w mean mg mb news l t hx hlc dp un gd cn cs a ccd cl outer A₀ base h₀ L m s Q G XB TB F N hk hdp hun hret
  have hx' : l.length ≤ 1000 := by omega
  (refine wpC_call ?_; (refine' code_defG ?kG ?kXB ?kTB ?k2 ?k4 ?kA ?kF ?kK ?k6 ?k7 ?k8 ?k9 ?kB ?_ ?c2 ?c3 ?c4 ?c5; (case kA | kF => exact rfl); (case kK | kG | kXB | kTB | k2 | k4 => assumption); (case k6 | k7 => k_is); (case k8 => ((simp only [depth_deeper, recursionLimit] at *); omega)); (case k9 => first | exact BindsTo.of_eq rfl | exact binds_K (by k_in) rfl (by k_is) rfl rfl rfl); (case c5 => decide); (case kB => exact locs rfl); (case c2 | c3 | c4 => exact rfl)))
  intro g L' h₁ F₁ N₁ G₁
  dsimp only
  have B₁ := G₁.below
  have X₁ := G₁.kin
  have T₁ := G₁.top
  clear F N
  refine wpC_execs_step ?_
  k_steps
  dsimp only
  refine wpC_execs_step ?_
  k_steps
  dsimp only
  rename Fr _ _ _ _ => F7
  rename ∀ p ∈ news, _ => l1
  refine wpC_execs_cons (wpC_For_list (Gd := Gnd w mean mg mb (ktrTop dp un gd cn cs L a ccd cl outer) base (envX cn cs L a ccd cl :: outer) g) rfl rfl rfl ?iter (fun _ => rfl))
  case iter =>
    k_steps
    rename All2 _ _ _ => hA
    rename List Value => vs9
    rename Fr _ _ _ _ => F8
    rename News _ _ _ _ => N8
    rename ∀ p ∈ (_, _) :: news, _ => l9
    refine ForSrcC.intro (news := (_, lstK #[] 0) :: news) (CvJ (cuts l) news _) G₁ F8 N8 (fun p hp => hp) ⟨#[], 0, rfl, rfl, .nil, Nat.le_refl _⟩ ?turn ?fin
    case turn =>
      clear F8 N8 B₁ X₁ T₁ G₁
      rintro i v g₂ m₁ news₁ h₂ tk₂ it oI hv G₂ ⟨vs, k, hm, rfl, hr, hsz⟩ F₂ N₂ hit
      obtain ⟨d, hd, td, rfl⟩ := hA.get (by simpa using hv)
      replace F₂ := fr_named (f := fun m y => if y = Str.ofString "v" then some (.str (tx d) td) else m y) hm F₂
      clear hm
      have hdm := cuts_mem (List.mem_of_getElem? hd)
      have hdl : d.length ≤ 640 := Nat.le_trans hdm.1 hx
      have hdc : ∀ c ∈ (tx d).cps.toList, c < 16 ^ 8 := fun c hc => by
        rw [tx_cps] at hc
        exact Nat.lt_trans (hlc c (hdm.2 c hc)) (by decide)
      have hi : i ≤ 1280 := by
        have h1 := (List.getElem?_eq_some_iff.mp hd).1
        have h2 := cuts_len l
        omega
      have B₂ := G₂.below
      have X₂ := G₂.kin
      have T₂ := G₂.top
      (try dsimp only)
      (try k_fold)
      refine wpC_execs_cons (wpC_If ?_)
      k_steps
      all_goals try dsimp only
      · rename (Builtin.Str.occurrences _ _ _ _ _).isEmpty = _ => hap
        refine wpC_execs_cons ?_
        refine wpC_Try_except ?_
        refine wpC_execs_cons ?_
        refine wpC_Assign_Name ?_ rfl
        refine wpC_Call ?_
        k_steps
        refine wpC_callWith_type ?_
        k_steps
        cases hn : PySem.intText? (tx d) with
        | some n =>
          refine wpC_of (call_ten hn (by rw [tx_length]; exact hdl) ?_)
          k_steps
          dsimp only
          refine wpC_execs_step ?_
          k_steps
          dsimp only
          refine wpC_of (wpAny_execs_nil ?_)
          dsimp only
          refine wpC_of (wpAny_execs_nil ?_)
          dsimp only
          refine wpC_execs_step ?_
          k_steps
          rename Fr _ _ _ _ => F₆
          rename News _ _ _ _ => N₆
          rename _ ∧ _ ∧ _ ∧ AllLt _ _ => l6
          refine extend_pair F₆ N₆ (Nat.ne_of_gt l6.2.2.1) (Ne.symm (hit _ (.head _))) (Nat.ne_of_gt (l9 _ (.head _))) (fun p hp => Nat.ne_of_lt (l1 p hp)) (by omega) fun h₇ k₇ F₇ N₇ => ?_
          k_steps
          dsimp only
          refine wpC_of (wpAny_execs_nil ?_)
          dsimp only
          refine wpC_of (wpAny_execs_nil ?_)
          have hr0 := hit _ (.head _)
          exact TurnC.intro _ G₂ F₇ N₇ (fun p hp => hp) (fun p hp => by
            rcases List.mem_cons.mp hp with rfl | hp
            · exact hr0
            · exact hit _ (.tail _ hp)) (CvJ.add hd hr hsz (by rfl) (by rw [cv_yes hap hn]; exact .cons ⟨_, rfl⟩ (.cons ⟨_, rfl⟩ .nil)) (Nat.le_refl 2))
        | none =>
          refine call_ten_bad hn (by rw [tx_length]; exact hdl) hdc rfl fun h₃ e₃ tk₃ hx₃ => ?_
          refine caught_here G₂ XB TB hx₃ F₂ N₂ (by k_is) PyProof.Rows.Boot.«ValueError» (by decide) PySem.F.isExc_ValueError PySem.F.notTuple_ValueError (by kts_sub) ?_ rfl rfl (by decide)
          clear F₂ N₂ B₂ X₂ T₂
          intro h₄ g₄ G₄ F₄ N₄
          have B₄ := G₄.below
          have X₄ := G₄.kin
          have T₄ := G₄.top
          k_steps
          rename PyProof.V.Flat _ _ => hv4
          dsimp only
          refine wpC_execs_step ?_
          k_steps
          rename Fr _ _ _ _ => F₆
          rename News _ _ _ _ => N₆
          rename _ ∧ _ ∧ _ ∧ AllLt _ _ => l6
          refine extend_pair F₆ N₆ (Nat.ne_of_gt l6.2.2.1) (Ne.symm (hit _ (.head _))) (Nat.ne_of_gt (l9 _ (.head _))) (fun p hp => Nat.ne_of_lt (l1 p hp)) (by omega) fun h₇ k₇ F₇ N₇ => ?_
          k_steps
          dsimp only
          refine wpC_of (wpAny_execs_nil ?_)
          dsimp only
          refine wpC_of (wpAny_execs_nil ?_)
          have hr0 := hit _ (.head _)
          exact TurnC.intro _ G₄ F₇ N₇ (fun p hp => hp) (fun p hp => by
            rcases List.mem_cons.mp hp with rfl | hp
            · exact hr0
            · exact hit _ (.tail _ hp)) (CvJ.add hd hr hsz (by rfl) (by rw [cv_no hap hn]; exact .cons (stage_flat hv4) (.cons ⟨_, rfl⟩ .nil)) (Nat.le_refl 2))
      · rename (Builtin.Str.occurrences _ _ _ _ _).isEmpty = _ => hap
        refine wpC_of (wpAny_execs_nil ?_)
        dsimp only
        refine wpC_of (wpAny_execs_nil ?_)
        have e : cvOf d = [] := by unfold cvOf apart; rw [hap]; rfl
        exact TurnC.intro _ G₂ F₂ N₂ (fun p hp => hp) hit (CvJ.add (ws := #[]) hd hr hsz (by rfl) (by rw [e]; exact .nil) (by decide))
    case fin =>
      intro g₂ h₂ tk₂ m₂ news₂ G₂ F₂ N₂ ⟨vs, k, hm, e, hr, hsz⟩
      subst e
      replace F₂ := fr_named (f := fun m => m) hm F₂
      dsimp only at F₂ ⊢
      clear B₁ X₁ T₁ G₁
      have B₂ := G₂.below
      have X₂ := G₂.kin
      have T₂ := G₂.top
      refine wpC_execs_step ?_
      k_steps
      dsimp only
      have hlen := hA.length
      rw [show (vs9.toArray.size) = (cuts l).length by simp [hlen]] at hr
      rw [List.take_length] at hr
      refine LeaveG.intro G₂ F₂ N₂ fun h₀' G' F' N' => hret h₀' _ [(_, lstK vs k)] _ _ ⟨_, vs, k, rfl, rfl, hr⟩ (fun q hq p hp => ?_) G' F' (news_sub N' fun p hp => .tail _ hp)
      rw [List.mem_singleton.mp hq]
      exact l1 p hp
end Mine
end
theorem Mine.topOffE10 : True := by
  w_top off
  trivial

section
open PySem PySem.W PySem.W.X PyProof.Rows PySem.Calls
set_option maxRecDepth 100000
namespace Mine
open LCg
theorem All2.imp {α β : Type} {R S : α → β → Prop} (h : ∀ a b, R a b → S a b) : ∀ {as : List α} {bs : List β}, All2 R as bs → All2 S as bs
  | _, _, .nil => .nil
  | _, _, .cons x r => .cons (h _ _ x) (r.imp h)
section
variable {prog : Program} {w : World} {A : Around} {E : Value → Shared → Prop} {R : Result → Shared → Prop} {s : Shared}
/-- [y for x in .. for y in x] -/
noncomputable abbrev flatE (x y : PySem.Str) (p1 p2 p3 p4 : Pos) (iter : Expr) (scope : Scope) (pos : Pos) : Expr := .ListComp (.Name y p1) [⟨.Name x p2, iter, [], 0⟩, ⟨.Name y p3, .Name x p4, [], 0⟩] scope pos
variable {x y : PySem.Str} {p1 p2 p3 p4 : Pos} {iter : Expr} {scope : Scope} {pos : Pos}
theorem compTurn_flat0 (it acc : Value) (env : Env) : compTurn (flatE x y p1 p2 p3 p4 iter scope pos) 0 it acc env = (do
    standAt iter.pos
    match ← pyNext it with
    | none => pure (.done .next)
    | some v =>
      letOwnedTupleGo (.Name x p2) it v
      assign (.Name x p2) env v
      let xv ← eval (.Name x p4) env
      standAt p4
      let xv ← foldedSetIterable (.Name x p4) env xv
      let _ ← runOwn (.compStart (flatE x y p1 p2 p3 p4 iter scope pos) 1 (← holding [xv] (pyIter xv)) acc env) env
      again (.compLoop (flatE x y p1 p2 p3 p4 iter scope pos) 0 it acc env)) := by rfl
theorem compTurn_flat1 (it acc : Value) (env : Env) : compTurn (flatE x y p1 p2 p3 p4 iter scope pos) 1 it acc env = (do
    standAt p4
    match ← pyNext it with
    | none => pure (.done .next)
    | some v =>
      letOwnedTupleGo (.Name y p3) it v
      assign (.Name y p3) env v
      (do let _ ← call (.builtin "list.append") [acc, ← eval (.Name y p1) env])
      again (.compLoop (flatE x y p1 p2 p3 p4 iter scope pos) 1 it acc env)) := by rfl
theorem wpAny_calm {α : Type} {M : Model} {m : Sem α} {k : Value → Sem Unit} {Q : α → Shared → Prop} (h : wpAny M A m Q (fun _ _ => False) s) : wpAny M A (m.onRaise k) Q E s :=
  wpAny_onRaise (wpAny_mono h (fun _ _ x => x) fun _ _ x => x.elim)
theorem start_flat {it acc : Value} {env : Env} {d : Nat} {I a : Addr} {i : Nat} (hd : d = 0 ∨ d = 1) (e : it = .ref I) (hit : s.heap.IsListIter I a i)
    (h : codeAny (model prog w) A (.compLoop (flatE x y p1 p2 p3 p4 iter scope pos) d it acc env) R s) : codeAny (model prog w) A (.compStart (flatE x y p1 p2 p3 p4 iter scope pos) d it acc env) R s := by
  subst e
  refine codeAny_of_tree ?_
  rcases hd with rfl | rfl
  · show wpAny _ _ ((compStart (flatE x y p1 p2 p3 p4 iter scope pos) 0 (.ref I) acc env).onRaise (fun x => do noteFrame x env; standAt theWindowsPlace)) _ _ s
    refine wpAny_calm ?_
    unfold compStart
    show wpAny _ _ (ask >>= _) _ _ s
    refine wpAny_bind (wpAny_askSetting (wpAny_ite ?_))
    split
    · first
        | exact wpAny_bind (wpAny_pure (wpAny_pure (And.intro rfl h)))
        | exact wpAny_pure (And.intro rfl h)
    · refine wpAny_bind (wpAny_rule ?_)
      show wpAny _ _ (standAt iter.pos >>= _) _ _ s
      exact wpAny_bind (wpAny_standAt (wpAny_bind (wpAny_pyIter_listiter hit (wpAny_pure (And.intro rfl h)))))
  · show wpAny _ _ ((compStart (flatE x y p1 p2 p3 p4 iter scope pos) 1 (.ref I) acc env).onRaise (fun x => do noteFrame x env; standAt theWindowsPlace)) _ _ s
    refine wpAny_calm ?_
    unfold compStart
    show wpAny _ _ (ask >>= _) _ _ s
    refine wpAny_bind (wpAny_askSetting (wpAny_ite ?_))
    split
    · first
        | exact wpAny_bind (wpAny_pure (wpAny_pure (And.intro rfl h)))
        | exact wpAny_pure (And.intro rfl h)
    · refine wpAny_bind (wpAny_rule ?_)
      show wpAny _ _ (standAt p4 >>= _) _ _ s
      exact wpAny_bind (wpAny_standAt (wpAny_bind (wpAny_pyIter_listiter hit (wpAny_pure (And.intro rfl h)))))
/-- the inner loop -/
theorem flat_inner {env : Env} {I2 D a2 : Addr} {its2 : Array Value} {ys : List Value} {m₀ : PySem.Str → Option Value} (hh : A.handled = none) (hk : env.scope.kind = .function) (hy : env.kindOf y = some .local) (hdb : (y == ("__debug__" : PySem.Str)) = false)
    (hID : @Ne Nat I2 D) (hIC : @Ne Nat I2 env.locals) (hDC : @Ne Nat D env.locals) (haI : @Ne Nat a2 I2) (haD : @Ne Nat a2 D) (haC : @Ne Nat a2 env.locals)
    (hit : s.heap.IsListIter I2 a2 0) (hl : s.heap.IsList a2 its2) (hD : s.heap.get? D = some (lst ys)) (hn : s.heap.Ns env.locals m₀) (hsz : ys.length + its2.size ≤ sizeLine)
    (hR : ∀ h' tk m', h'.get? D = some (lst (ys ++ its2.toList)) → h'.Ns env.locals m' → (∀ b o, b ≠ I2 → b ≠ D → b ≠ env.locals → s.heap.get? b = some o → h'.get? b = some o) → R (.ok .next) { s with heap := h', toks := tk }) :
    codeAny (model prog w) A (.compLoop (flatE x y p1 p2 p3 p4 iter scope pos) 1 (.ref I2) (.ref D) env) R s := by
  have W := Walks.list (prog := prog) (w := w) hh I2 a2 haI its2
  refine codeAny_loop rfl
    (fun n s' => ∃ h' tk m' i, s' = { s with heap := h', toks := tk } ∧ i ≤ its2.size ∧ n = its2.size + 1 - i ∧ h'.IsListIter I2 a2 i ∧ h'.get? D = some (lst (ys ++ its2.toList.take i)) ∧ h'.Ns env.locals m' ∧ (∀ b o, b ≠ I2 → b ≠ D → b ≠ env.locals → s.heap.get? b = some o → h'.get? b = some o))
    ?_ (its2.size + 1) ⟨s.heap, s.toks, m₀, 0, rfl, Nat.zero_le _, rfl, hit, by rw [List.take_zero, List.append_nil]; exact hD, hn, fun _ _ _ _ _ e => e⟩
  rintro n s' ⟨h', tk, m', i, rfl, hi, rfl, hit', hD', hn', hk'⟩
  show wpAny _ A ((compTurn (flatE x y p1 p2 p3 p4 iter scope pos) 1 (.ref I2) (.ref D) env).onRaise (fun x => do noteFrame x env; theTreesLotGoes x)) _ _ _
  refine wpAny_calm ?_
  rw [compTurn_flat1]
  have hl' : h'.IsList a2 its2 := by obtain ⟨o, e, r⟩ := hl; exact ⟨o, hk' _ _ haI haD haC e, r⟩
  by_cases hlt : i < its2.size
  · refine wpAny_bind (wpAny_standAt (wpAny_bind (W.item i _ _ _ hlt ⟨hit', hl'⟩ fun v h₂ tk₂ hPv hst₂ hk₂ => ?_)))
    refine wpAny_bind (wpAny_of_eq (by rfl) ?_)
    refine wpAny_bind (wpAny_assign_Name (wpAny_storeName_local hy (hn'.at' fun o e => hk₂ _ o (by simpa using Ne.symm hIC) e) (fun h₃ hn₃ hs₃ => ?_) (by rw [hk]; rfl)))
    refine wpAny_bind ?_
    refine wpAny_bind (wpAny_Name (wpAny_loadName_local (v := v) hk hy hn₃ (by simp) ?_) hdb)
    have hD₃ : h₃.get? D = some (lst (ys ++ its2.toList.take i)) := hs₃.extBut _ _ hDC (hk₂ _ _ (by simpa using Ne.symm hID) hD')
    have hI₃ : h₃.IsListIter I2 a2 (i + 1) := by obtain ⟨o, e, r⟩ := hst₂.1; exact ⟨o, hs₃.extBut _ _ hIC e, r⟩
    refine wpAny_bind (append_at (its := (ys ++ its2.toList.take i).toArray) (hsz := by rw [List.size_toArray, List.length_append, List.length_take, Array.length_toList (xs := its2)]; omega) hD₃ fun h₅ hs₅ hD₅ => ?_)
    refine wpAny_pure (wpAny_pure ⟨rfl, its2.size + 1 - (i + 1), by omega, h₅, _, _, i + 1, rfl, hlt, rfl, ?_, ?_, hn₃.sameBut hs₅ (Ne.symm hDC), fun b o b1 b2 b3 e => ?_⟩)
    · obtain ⟨o, e, r⟩ := hI₃
      exact ⟨o, hs₅.extBut _ _ hID e, r⟩
    · rw [hD₅]
      refine congrArg some ((lst_snoc _ v).trans ?_)
      have hv : its2.toList[i]? = some v := by simpa using hPv
      rw [List.take_add_one, hv, Option.toList_some, List.append_assoc]
    · exact hs₅.extBut _ _ b2 (hs₃.extBut _ _ b3 (hk₂ _ _ (by simpa using b1) (hk' _ _ b1 b2 b3 e)))
  · obtain rfl : i = its2.size := Nat.le_antisymm hi (Nat.not_lt.mp hlt)
    refine wpAny_bind (wpAny_standAt (wpAny_bind (W.done _ _ _ ⟨hit', hl'⟩ fun h₂ tk₂ hk₂ => ?_)))
    refine wpAny_pure (hR h₂ tk₂ m' ?_ (hn'.at' fun o e => hk₂ _ o (by simpa using Ne.symm hIC) e) fun b o b1 b2 b3 e => hk₂ _ _ (by simpa using b1) (hk' _ _ b1 b2 b3 e))
    rw [hk₂ _ _ (by simpa using Ne.symm hID) hD', ← Array.length_toList, List.take_length]
/-- the lists that lie behind the items of a list -/
noncomputable def Subs (h : Heap) (its : Array Value) (subs : List (Array Value)) : Prop := All2 (fun sub v => ∃ a, v = Value.ref a ∧ h.IsList a sub) subs its.toList
/-- the outer loop -/
theorem flat_outer {env : Env} {I C D ax : Addr} {its : Array Value} {subs : List (Array Value)} {m₀ : PySem.Str → Option Value} (hh : A.handled = none) (hk : env.scope.kind = .function) (hLC : env.locals = C)
    (hx : env.kindOf x = some .local) (hxd : (x == ("__debug__" : PySem.Str)) = false) (hy : env.kindOf y = some .local) (hdb : (y == ("__debug__" : PySem.Str)) = false)
    (hID : @Ne Nat I D) (hIC : @Ne Nat I C) (hDC : @Ne Nat D C) (haI : @Ne Nat ax I) (haD : @Ne Nat ax D) (haC : @Ne Nat ax C)
    (hit : s.heap.IsListIter I ax 0) (hl : s.heap.IsList ax its) (hD : s.heap.get? D = some (lst [])) (hn : s.heap.Ns C m₀) (hS : Subs s.heap its subs)
    (hap : ∀ a, .ref a ∈ its.toList → @Ne Nat a I ∧ @Ne Nat a D ∧ @Ne Nat a C) (hsz : (subs.flatMap (·.toList)).length ≤ sizeLine)
    (hR : ∀ h' tk m', h'.get? D = some (lst (subs.flatMap (·.toList))) → h'.Ns C m' → (∀ b o, b ≠ I → b ≠ D → b ≠ C → s.heap.get? b = some o → h'.get? b = some o) → R (.ok .next) { s with heap := h', toks := tk }) :
    codeAny (model prog w) A (.compLoop (flatE x y p1 p2 p3 p4 iter scope pos) 0 (.ref I) (.ref D) env) R s := by
  subst hLC
  have W := Walks.list (prog := prog) (w := w) hh I ax haI its
  have hlen := hS.length
  refine codeAny_loop rfl
    (fun n s' => ∃ h' tk m' i, s' = { s with heap := h', toks := tk } ∧ i ≤ its.size ∧ n = its.size + 1 - i ∧ h'.IsListIter I ax i ∧ h'.get? D = some (lst ((subs.take i).flatMap (·.toList))) ∧ h'.Ns env.locals m' ∧ (∀ b o, b ≠ I → b ≠ D → b ≠ env.locals → s.heap.get? b = some o → h'.get? b = some o))
    ?_ (its.size + 1) ⟨s.heap, s.toks, m₀, 0, rfl, Nat.zero_le _, rfl, hit, by rw [List.take_zero, List.flatMap_nil]; exact hD, hn, fun _ _ _ _ _ e => e⟩
  rintro n s' ⟨h', tk, m', i, rfl, hi, rfl, hit', hD', hn', hk'⟩
  show wpAny _ A ((compTurn (flatE x y p1 p2 p3 p4 iter scope pos) 0 (.ref I) (.ref D) env).onRaise (fun x => do noteFrame x env; theTreesLotGoes x)) _ _ _
  refine wpAny_calm ?_
  rw [compTurn_flat0]
  have hl' : h'.IsList ax its := by obtain ⟨o, e, r⟩ := hl; exact ⟨o, hk' _ _ haI haD haC e, r⟩
  by_cases hlt : i < its.size
  · refine wpAny_bind (wpAny_standAt (wpAny_bind (W.item i _ _ _ hlt ⟨hit', hl'⟩ fun v h₂ tk₂ hPv hst₂ hk₂ => ?_)))
    refine wpAny_bind (wpAny_of_eq (by rfl) ?_)
    refine wpAny_bind (wpAny_assign_Name (wpAny_storeName_local hx (hn'.at' fun o e => hk₂ _ o (by simpa using Ne.symm hIC) e) (fun h₃ hn₃ hs₃ => ?_) (by rw [hk]; rfl)))
    have hv : its.toList[i]? = some v := by simpa using hPv
    obtain ⟨sub, hsub, a2, rfl, o2, e2, r2⟩ := hS.get hv
    obtain ⟨n1, n2, n3⟩ := hap a2 (List.mem_of_getElem? hv)
    refine wpAny_bind (wpAny_Name (wpAny_loadName_local (v := .ref a2) hk hx hn₃ (by simp) ?_) hxd)
    refine wpAny_bind (wpAny_standAt (wpAny_bind (wpAny_of_eq (by rfl) ?_)))
    have hD₃ : h₃.get? D = some (lst ((subs.take i).flatMap (·.toList))) := hs₃.extBut _ _ hDC (hk₂ _ _ (by simpa using Ne.symm hID) hD')
    have hI₃ : h₃.IsListIter I ax (i + 1) := by obtain ⟨o, e, r⟩ := hst₂.1; exact ⟨o, hs₃.extBut _ _ hIC e, r⟩
    have hk₃ : ∀ b o, b ≠ I → b ≠ D → b ≠ env.locals → s.heap.get? b = some o → h₃.get? b = some o := fun b o b1 b2 b3 e => hs₃.extBut _ _ b3 (hk₂ _ _ (by simpa using b1) (hk' _ _ b1 b2 b3 e))
    have hl₃ : h₃.IsList a2 sub := ⟨o2, hk₃ _ _ n1 n2 n3 e2, r2⟩
    refine wpAny_bind (wpAny_holding (wpAny_pyIter_list hl₃ ?_))
    have up : ∀ b o, h₃.get? b = some o → (h₃.push { cls := .type "list_iterator", data := .fields #[.ref a2, .int 0 0] }).get? b = some o := fun b o e => Heap.get?_push_of_some _ e
    have hI2 : (h₃.push { cls := .type "list_iterator", data := .fields #[.ref a2, .int 0 0] }).get? h₃.objs.size = some { cls := .type "list_iterator", data := .fields #[.ref a2, .int 0 0] } := Heap.get?_push_size _ rfl
    have new : ∀ b o, h₃.get? b = some o → @Ne Nat h₃.objs.size b := fun b o e => Nat.ne_of_gt (Heap.lt_size e)
    obtain ⟨oC, _, _, heC, _⟩ := hn₃
    have hn₃ : h₃.Ns env.locals _ := ⟨oC, _, _, heC, ‹_›⟩
    obtain ⟨oI, heI, rI⟩ := hI₃
    have taken : (subs.take (i + 1)).flatMap (·.toList) = (subs.take i).flatMap (·.toList) ++ sub.toList := by
      rw [List.take_add_one, hsub, Option.toList_some, List.flatMap_append, List.flatMap_cons, List.flatMap_nil, List.append_nil]
    have small : ((subs.take (i + 1)).flatMap (·.toList)).length ≤ sizeLine := by
      refine Nat.le_trans ?_ hsz
      conv => rhs; rw [← List.take_append_drop (i + 1) subs, List.flatMap_append, List.length_append]
      exact Nat.le_add_right _ _
    refine wpAny_bind (wpAny_runOwn (start_flat (.inr rfl) rfl ⟨_, hI2, rfl, rfl⟩ (flat_inner (its2 := sub) (a2 := a2) (ys := (subs.take i).flatMap (·.toList)) hh hk hy hdb (new _ _ hD₃) (new _ _ heC) hDC (Ne.symm (new _ _ hl₃.choose_spec.1)) n2 n3 ⟨_, hI2, rfl, rfl⟩ ?_ (up _ _ hD₃) (hn₃.at' fun o e => up _ o e) ?_ ?_)))
    · obtain ⟨o, e, r⟩ := hl₃
      exact ⟨o, up _ _ e, r⟩
    · rw [taken, List.length_append, Array.length_toList] at small; exact small
    · intro h₄ tk₄ m₄ hD₄ hn₄ hk₄
      refine wpAny_pure ⟨rfl, its.size + 1 - (i + 1), by omega, h₄, tk₄, m₄, i + 1, rfl, hlt, rfl, ?_, ?_, hn₄, fun b o b1 b2 b3 e => ?_⟩
      · exact ⟨oI, hk₄ _ _ (Ne.symm (new _ _ heI)) hID hIC (up _ _ heI), rI⟩
      · rw [taken]; exact hD₄
      · exact hk₄ _ _ (Ne.symm (new _ _ (hk₃ _ _ b1 b2 b3 e))) b2 b3 (up _ _ (hk₃ _ _ b1 b2 b3 e))
  · obtain rfl : i = its.size := Nat.le_antisymm hi (Nat.not_lt.mp hlt)
    refine wpAny_bind (wpAny_standAt (wpAny_bind (W.done _ _ _ ⟨hit', hl'⟩ fun h₂ tk₂ hk₂ => ?_)))
    refine wpAny_pure (hR h₂ tk₂ m' ?_ (hn'.at' fun o e => hk₂ _ o (by simpa using Ne.symm hIC) e) fun b o b1 b2 b3 e => hk₂ _ _ (by simpa using b1) (hk' _ _ b1 b2 b3 e))
    rw [hk₂ _ _ (by simpa using Ne.symm hID) hD', ← Array.length_toList, ← hlen, List.take_length]
end
section
variable {prog : Program} {w : World} {A : Around} {E : Value → Shared → Prop} {s : Shared} {h₀ : Heap} {L : Addr} {env : Env}
variable {x y : PySem.Str} {p1 p2 p3 p4 : Pos} {iter : Expr} {scope : Scope} {pos : Pos}
noncomputable def FlatSrc (h₀ : Heap) (L : Addr) (Q : Value → Shared → Prop) (xv : Value) (s₁ : Shared) : Prop :=
  ∃ (ax : Addr) (its : Array Value) (k : Nat) (m : PySem.Str → Option Value) (news : List (Addr × Obj)) (subs : List (Array Value)), xv = .ref ax ∧ Fr h₀ L s₁.heap m ∧ News h₀ L s₁.heap ((ax, lstK its k) :: news) ∧
    All2 (fun sub v => ∃ a k', v = Value.ref a ∧ (a, lstK sub k') ∈ news) subs its.toList ∧ (subs.flatMap (·.toList)).length ≤ sizeLine ∧
    (∀ h' tk D, Fr h₀ L h' m → News h₀ L h' ((D, lst (subs.flatMap (·.toList))) :: (ax, lstK its k) :: news) → (∀ p ∈ (ax, lstK its k) :: news, p.1 < D) → Q (.ref D) { s₁ with heap := h', toks := tk })
theorem FlatSrc.intro {Q : Value → Shared → Prop} {s₁ : Shared} {ax : Addr} {its : Array Value} {k : Nat} {m : PySem.Str → Option Value} {news all : List (Addr × Obj)} {subs : List (Array Value)} (F : Fr h₀ L s₁.heap m) (N : News h₀ L s₁.heap all) (hs : ∀ p ∈ (ax, lstK its k) :: news, p ∈ all)
    (hS : All2 (fun sub v => ∃ a k', v = Value.ref a ∧ (a, lstK sub k') ∈ news) subs its.toList) (hsz : (subs.flatMap (·.toList)).length ≤ sizeLine)
    (fin : ∀ h' tk D, Fr h₀ L h' m → News h₀ L h' ((D, lst (subs.flatMap (·.toList))) :: (ax, lstK its k) :: news) → (∀ p ∈ (ax, lstK its k) :: news, p.1 < D) → Q (.ref D) { s₁ with heap := h', toks := tk }) : FlatSrc h₀ L Q (.ref ax) s₁ :=
  ⟨ax, its, k, m, news, subs, rfl, F, news_sub N hs, hS, hsz, fin⟩
theorem ListComp_flat {cl : List (PySem.Str × Addr)} {Q : Value → Shared → Prop} {m₀ : PySem.Str → Option Value} (_F : Fr h₀ L s.heap m₀) (hh : A.handled = none)
    (hclos : closureFor scope env = pure cl) (hcell : ∀ z ∈ scope.names, z.2 ≠ .cell) (hkind : scope.kind = .function)
    (hnames : ∀ z ∈ scope.names, z.2 = .local → scope.names.lookup z.1 = some .local) (hx : scope.names.lookup x = some .local) (hy : scope.names.lookup y = some .local) (hxd : (x == ("__debug__" : PySem.Str)) = false) (hyd : (y == ("__debug__" : PySem.Str)) = false)
    (h : wpAny (model prog w) A (eval iter env) (FlatSrc h₀ L Q) E s)
    (hs : ∀ x, foldedSetIterable iter env x = pure x) :
    wpAny (model prog w) A (eval (flatE x y p1 p2 p3 p4 iter scope pos) env) Q E s := by
  rw [eval_ListComp]
  refine wpAny_comprehension_free (use := none) rfl hs hclos hkind hnames (wpAny_mono h (fun xv s₁ h₁ => ?_) fun _ _ e => e)
  obtain ⟨ax, its, k, m, news, subs, rfl, F, N, hS, hsz, fin⟩ := h₁
  have hax := N (ax, lstK its k) (.head _)
  have hl : s₁.heap.IsList ax its := ⟨_, hax.1, rfl, k, rfl⟩
  have hlt : ax < s₁.heap.objs.size := Heap.lt_size hax.1
  refine wpAny_pyIter_list hl ?_
  have up1 : ∀ b o, s₁.heap.get? b = some o → (s₁.heap.push { cls := .type "list_iterator", data := .fields #[.ref ax, .int 0 0] }).get? b = some o := fun b o e => Heap.get?_push_of_some _ e
  have hIget1 : (s₁.heap.push { cls := .type "list_iterator", data := .fields #[.ref ax, .int 0 0] }).get? s₁.heap.objs.size = some { cls := .type "list_iterator", data := .fields #[.ref ax, .int 0 0] } := Heap.get?_push_size _ rfl
  have hS1 : (s₁.heap.push { cls := .type "list_iterator", data := .fields #[.ref ax, .int 0 0] }).objs.size = s₁.heap.objs.size + 1 := Heap.size_push ..
  generalize (s₁.heap.push { cls := .type "list_iterator", data := .fields #[.ref ax, .int 0 0] }) = H1 at up1 hIget1 hS1 ⊢
  generalize hI : s₁.heap.objs.size = I at hIget1 hS1 ⊢
  refine wpAny_newObj_type (wpAny_newFunctionEnv hcell (by intro y hy; simp at hy) (fun h₁ hns₁ hsb₁ => ?_) hkind)
  dsimp only at hns₁ hsb₁ ⊢
  have hDget : (H1.push { cls := .type "list", dict := none, data := .seq ([] : List Value).toArray }).get? H1.objs.size = some (lst []) := Heap.get?_push_size _ rfl
  have hS2 : (H1.push { cls := .type "list", dict := none, data := .seq ([] : List Value).toArray }).objs.size = H1.objs.size + 1 := Heap.size_push ..
  have up2 : ∀ b o, H1.get? b = some o → (H1.push { cls := .type "list", dict := none, data := .seq ([] : List Value).toArray }).get? b = some o := fun b o e => Heap.get?_push_of_some _ e
  generalize (H1.push { cls := .type "list", dict := none, data := .seq ([] : List Value).toArray }) = H2 at hns₁ hsb₁ hDget hS2 up2 ⊢
  generalize hD : H1.objs.size = D at hDget hS2 ⊢
  generalize hC : H2.objs.size = C at hns₁ hsb₁ ⊢
  have dI : D = I + 1 := by rw [← hD, hS1]
  have cI : C = I + 2 := by rw [← hC, hS2, dI]
  have lt2 : ∀ b o, H2.get? b = some o → b < I + 2 := fun b o e => by have := Heap.lt_size e; rw [hC, cI] at this; exact this
  have low : ∀ b o, s₁.heap.get? b = some o → b < I := fun b o e => by have := Heap.lt_size e; rw [hI] at this; exact this
  have old2 : ∀ b o, H2.get? b = some o → h₁.get? b = some o := fun b o e => hsb₁.extBut b o (fun q => by have := lt2 b o e; rw [q, cI] at this; exact Nat.lt_irrefl _ this) (Heap.get?_push_of_some _ e)
  have old : ∀ b o, s₁.heap.get? b = some o → h₁.get? b = some o := fun b o e => old2 b o (up2 b o (up1 b o e))
  have hacc : h₁.get? D = some (lst []) := old2 _ _ hDget
  have hIh : h₁.get? I = some { cls := .type "list_iterator", data := .fields #[.ref ax, .int 0 0] } := old2 _ _ (up2 _ _ hIget1)
  have fresh₀ : ∀ a, I ≤ a → h₀.get? a = none := fun a ha => by
    cases e : h₀.get? a with
    | none => rfl
    | some o' => exact absurd (low a o' (F.keep a o' e)) (Nat.not_lt.mpr ha)
  have hLlt : L < I := by have := F.ns.lt; rw [hI] at this; exact this
  obtain ⟨hIL, hDL, hCL, hID, hIC, hDC⟩ := nat_facts dI cI hLlt
  have off : ∀ b o, s₁.heap.get? b = some o → b ≠ I ∧ b ≠ C ∧ b ≠ D := fun b o e => nat_off dI cI (low b o e)
  have offx := off _ _ hax.1
  have hlx : h₁.IsList ax its := ⟨_, old _ _ hax.1, rfl, k, rfl⟩
  have hsub : Subs h₁ its subs := by
    refine All2.imp (fun sub v h => ?_) hS
    obtain ⟨a, k', rfl, hm⟩ := h
    exact ⟨a, rfl, _, old _ _ (N _ (.tail _ hm)).1, rfl, k', rfl⟩
  refine start_flat (.inl rfl) rfl ⟨_, hIh, rfl, rfl⟩ (flat_outer (C := C) (D := D) (ax := ax) (its := its) (subs := subs) hh hkind rfl (lookup_relabel_local hx) hxd (lookup_relabel_local hy) hyd hID hIC hDC offx.1 offx.2.2 offx.2.1 ⟨_, hIh, rfl, rfl⟩ hlx hacc hns₁ hsub ?_ hsz ?_)
  · intro a ha
    obtain ⟨i, hi⟩ := List.getElem?_of_mem ha
    obtain ⟨sub, _, a', k', e, hm⟩ := hS.get hi
    cases e
    have := off _ _ (N _ (.tail _ hm)).1
    exact ⟨this.1, this.2.2, this.2.1⟩
  · intro h' tk m' hD' hn' hk'
    refine ⟨m', hn', fun h'' hs'' => ?_⟩
    have keep : ∀ b o, s₁.heap.get? b = some o → h''.get? b = some o := fun b o e => by
      have := off b o e
      exact hs''.extBut _ _ this.2.1 (hk' _ _ this.1 this.2.2 this.2.1 (old _ _ e))
    refine fin h'' tk D (F.keeps keep) (fun p hp => ?_) fun p hp => ?_
    · rcases List.mem_cons.mp hp with rfl | hp
      · exact ⟨hs''.extBut _ _ hDC hD', hDL, fresh₀ D (by rw [dI]; exact Nat.le_add_right _ _)⟩
      · exact ⟨keep _ _ (N p hp).1, (N p hp).2⟩
    · have := low _ _ (N p hp).1
      show p.1 < D
      rw [dI]; exact Nat.lt_succ_of_lt this
end
end Mine
end
theorem Mine.topOffCf : True := by
  w_top off
  trivial

section
open PySem PySem.W PySem.W.X PyProof.Rows PySem.Calls
set_option maxRecDepth 100000
namespace Mine
open LCg
/-- the end of a turn over a text -/
noncomputable def TextEnd (h₀ : Heap) (L : Addr) (it : Addr) (oI : Obj) (J : (PySem.Str → Option Value) → List (Addr × Obj) → Prop) (s : Shared) (f : Flow) (s₂ : Shared) : Prop :=
  f = .next ∧ ∃ h' tk m₂ news₂, s₂ = { s with heap := h', toks := tk } ∧ Fr h₀ L h' m₂ ∧ News h₀ L h' ((it, oI) :: news₂) ∧ (∀ p ∈ news₂, p.1 ≠ it) ∧ J m₂ news₂
theorem TextEnd.intro {h₀ h' : Heap} {L it : Addr} {oI : Obj} {J : (PySem.Str → Option Value) → List (Addr × Obj) → Prop} {s : Shared} {tk : Nat} {m₂ : PySem.Str → Option Value} {news' : List (Addr × Obj)} (news₂ : List (Addr × Obj))
    (F : Fr h₀ L h' m₂) (N : News h₀ L h' news') (hs : ∀ p ∈ (it, oI) :: news₂, p ∈ news') (hn : ∀ p ∈ news₂, p.1 ≠ it) (hJ : J m₂ news₂) : TextEnd h₀ L it oI J s .next { s with heap := h', toks := tk } :=
  ⟨rfl, h', tk, m₂, news₂, rfl, F, news_sub N hs, hn, hJ⟩
section
variable {prog : Program} {w : World} {A : Around} {s : Shared} {env : Env}
noncomputable def TextSrc (prog : Program) (w : World) (A : Around) (h₀ : Heap) (env : Env) (x : PySem.Str) (body : List Stmt) (E : Value → Shared → Prop) (Q : Flow → Shared → Prop) (xv : Value) (s₁ : Shared) : Prop :=
  ∃ (l : List Nat) (t : Tok) (m : PySem.Str → Option Value) (news : List (Addr × Obj)) (J : Nat → (PySem.Str → Option Value) → List (Addr × Obj) → Prop),
      xv = .str (tx l) t ∧ Fr h₀ env.locals s₁.heap m ∧ News h₀ env.locals s₁.heap news ∧ J 0 m news ∧
      (∀ i c u m₁ news₁ h tk it oI, l[i]? = some c → J i m₁ news₁ → Fr h₀ env.locals h (fun y => if y = x then some (.str (tx [c]) u) else m₁ y) → News h₀ env.locals h ((it, oI) :: news₁) → (∀ p ∈ news₁, p.1 ≠ it) →
        wpAny (model prog w) A (execs body env) (TextEnd h₀ env.locals it oI (J (i + 1)) { s₁ with heap := h, toks := tk }) E { s₁ with heap := h, toks := tk }) ∧
      (∀ h' tk m' news', Fr h₀ env.locals h' m' → News h₀ env.locals h' news' → J l.length m' news' → Q .next { s₁ with heap := h', toks := tk })
theorem TextSrc.intro {h₀ : Heap} {x : PySem.Str} {body : List Stmt} {E : Value → Shared → Prop} {Q : Flow → Shared → Prop} {s₁ : Shared} {l : List Nat} {t : Tok} {m : PySem.Str → Option Value} {news all : List (Addr × Obj)} (J : Nat → (PySem.Str → Option Value) → List (Addr × Obj) → Prop)
    (F : Fr h₀ env.locals s₁.heap m) (N : News h₀ env.locals s₁.heap all) (hs : ∀ p ∈ news, p ∈ all) (h0 : J 0 m news)
    (turn : ∀ i c u m₁ news₁ h tk it oI, l[i]? = some c → J i m₁ news₁ → Fr h₀ env.locals h (fun y => if y = x then some (.str (tx [c]) u) else m₁ y) → News h₀ env.locals h ((it, oI) :: news₁) → (∀ p ∈ news₁, p.1 ≠ it) →
        wpAny (model prog w) A (execs body env) (TextEnd h₀ env.locals it oI (J (i + 1)) { s₁ with heap := h, toks := tk }) E { s₁ with heap := h, toks := tk })
    (fin : ∀ h' tk m' news', Fr h₀ env.locals h' m' → News h₀ env.locals h' news' → J l.length m' news' → Q .next { s₁ with heap := h', toks := tk }) : TextSrc prog w A h₀ env x body E Q (.str (tx l) t) s₁ :=
  ⟨l, t, m, news, J, rfl, F, news_sub N hs, h0, turn, fin⟩
theorem For_text {E : Value → Shared → Prop} {Q : Flow → Shared → Prop} {x : PySem.Str} {px pos : Pos} {iter : Expr} {body : List Stmt} {h₀ : Heap} {m0 : PySem.Str → Option Value} (_F : Fr h₀ env.locals s.heap m0) (hh : A.handled = none) (hx : env.kindOf x = some .local)
    (hp : (env.scope.kind == .class || (env.scope.kind == .module && env.locals != env.globals)) = false)
    (h : wpAny (model prog w) A (eval iter env) (TextSrc prog w A h₀ env x body E Q) E s)
    (hs : ∀ x, foldedSetIterable iter env x = pure x := by intro _; rfl)
    (hE : PassesOwn (model prog w) A env E := by passes_own) :
    wpAny (model prog w) A (exec (.For (.Name x px) iter body [] pos) env) Q E s := by
  refine For_invV h₀ hx hp (wpAny_mono h (fun xv s₁ h₁ => ?_) fun _ _ e => e) hs hE
  obtain ⟨l, t, m, news, J, rfl, F, N, hJ, step, fin⟩ := h₁
  refine iter_text fun o St hW hIo hst => ?_
  have hI₀ : h₀.get? s₁.heap.objs.size = none := next_is_new F
  have hLI : env.locals ≠ s₁.heap.objs.size := Nat.ne_of_lt F.ns.lt
  have up : ∀ b o', s₁.heap.get? b = some o' → (s₁.heap.push o).get? b = some o' := fun b o' e => Heap.get?_push_of_some _ e
  refine ⟨s₁.heap.objs.size, [s₁.heap.objs.size], [s₁.heap.objs.size], l.length, _, _, m, news, J, rfl, hW A hh, ?_, ?_, ?_, hst, F.keeps up, N.grown up, hJ, ?_, ?_⟩
  · intro hm; exact hLI (List.mem_singleton.mp hm)
  · intro b hb; rw [List.mem_singleton.mp hb]; exact hI₀
  · intro p hp hm
    have e := List.mem_singleton.mp hm
    have := Heap.lt_size (N p hp).1
    rw [e] at this
    exact Nat.lt_irrefl _ this
  · rintro i v m₁ news₁ s₃ own ⟨h, tk, rfl⟩ hi ⟨c, u, hc, rfl⟩ hJ₁ hw hsub hget hall st F₁ N₁
    obtain ⟨oI, hIg⟩ := hIo _ _ st
    have hmI : (s₁.heap.objs.size, oI) ∈ own := hall _ (.head _) hI₀ _ hIg
    refine wpAny_mono (step i c u m₁ news₁ h tk s₁.heap.objs.size oI hc hJ₁ F₁ (news_sub N₁ fun p hp => ?_) (fun p hp e => hw p hp (by rw [e]; exact List.mem_singleton.mpr rfl))) (fun f s₄ h₄ => ?_) fun _ _ e => e
    · rcases List.mem_cons.mp hp with rfl | hp
      · exact List.mem_append_left _ hmI
      · exact List.mem_append_right _ hp
    · obtain ⟨rfl, h', tk', m₂, news₂, rfl, F₂, N₂, hn₂, hJ₂⟩ := h₄
      refine ⟨rfl, h', tk', m₂, news₂, rfl, F₂, ?_, ?_, hJ₂⟩
      · intro p hp
        rcases List.mem_append.mp hp with hp | hp
        · have hg := hget p hp
          have e := List.mem_singleton.mp (hsub p hp)
          have : p.2 = oI := by rw [e] at hg; exact Option.some.inj (hg.symm.trans hIg)
          have : p = (s₁.heap.objs.size, oI) := Prod.ext e this
          rw [this]; exact N₂ _ (.head _)
        · exact N₂ p (.tail _ hp)
      · intro p hp hm
        exact hn₂ p hp (List.mem_singleton.mp hm)
  · rintro h' tk m' news' F' N' - hJ'
    exact fin h' tk m' news' F' N' hJ'
end
section
variable {prog : Program} {w : World} {A : Around} {s : Shared} {h₀ : Heap} {L : Addr} {m : PySem.Str → Option Value} {env : Env}
/-- a comprehension with an invariant -/
theorem rest_inv {elt : Expr} {x : PySem.Str} {scope : Scope} {cl : List (PySem.Str × Addr)} {S : List (Addr × Obj) → Prop} {P : Nat → Value → Prop} {Fin : List Value → List (Addr × Obj) → Prop} {n : Nat} (J : Nat → List Value → List (Addr × Obj) → Prop)
    (turn : ∀ i v ys news I oI C oC D m₂ h tk (E' : Value → Shared → Prop), P i v → J i ys news → LCg.NsObj oC m₂ → m₂ x = some v → Fr h₀ L h m → News h₀ L h ((I, oI) :: (C, oC) :: (D, LCg.lst ys) :: news) → LCg.Off3 I C D news → ((@Ne Nat I C) ∧ (@Ne Nat I D) ∧ (@Ne Nat C D)) → 
      wpAny (model prog w) A (eval elt (compEnvC scope cl C env)) (LCg.CompEnd h₀ L m { s with heap := h, toks := tk } I oI C oC D (LCg.lst ys) S (fun y news' => J (i + 1) (ys ++ [y]) news')) E' { s with heap := h, toks := tk })
    (fin : ∀ ys news, J n ys news → Fin ys news) : ∀ (j i : Nat) (ys : List Value) (news : List (Addr × Obj)), i + j = n → J i ys news → LCg.CompRest prog w A h₀ L m env elt x scope cl s S P Fin j i ys news
  | 0, i, ys, news, hi, hJ => LCg.CompRest.zero (fin ys news (by rw [← hi]; exact hJ))
  | j + 1, i, ys, news, hi, hJ => by
    refine LCg.CompRest.succ ?_
    intro v I oI C oC D m₂ h tk E' hv hC hx F N off ne
    refine wpAny_mono (turn i v ys news I oI C oC D m₂ h tk E' hv hJ hC hx F N off ne) (fun y s₂ hq => ?_) fun _ _ e => e
    obtain ⟨h', tk', nw, e, F', N', off', hS', hJ'⟩ := hq
    exact ⟨h', tk', nw, e, F', N', off', hS', rest_inv J turn fin j (i + 1) _ _ (by omega) hJ'⟩
end
end Mine
end
theorem Mine.topOffFt : True := by
  w_top off
  trivial

section
open PySem PySem.W PySem.W.X PyProof.Rows PySem.Calls
set_option maxRecDepth 100000
namespace Mine
section
variable {prog : Program} {w : World} {A : Around} {E : Value → Shared → Prop} {s : Shared}
theorem in_fig {c : Nat} {t u : Tok} {Q : Value → Shared → Prop} (h : Q (.bool (decide (c ∈ [48, 49, 50, 51, 52, 53, 54, 55, 56, 57]))) s) : wpAny (model prog w) A (compareOp .In (.str (tx [c]) u) (.str (Str.ofString "0123456789") t)) Q E s := by
  have e : Str.ofString "0123456789" = tx [48, 49, 50, 51, 52, 53, 54, 55, 56, 57] := by decide +kernel
  rw [e]; exact in_sign rfl h
theorem in_mark {c : Nat} {t u : Tok} {Q : Value → Shared → Prop} (h : Q (.bool (decide (c ∈ [46, 95, 43, 45]))) s) : wpAny (model prog w) A (compareOp .In (.str (tx [c]) u) (.str (Str.ofString "._+-") t)) Q E s := by
  have e : Str.ofString "._+-" = tx [46, 95, 43, 45] := by decide +kernel
  rw [e]; exact in_sign rfl h
theorem add_two {h₀ : Heap} {L a b : Addr} {m : PySem.Str → Option Value} {news : List (Addr × Obj)} {xs ys : List Value} {k1 k2 : Nat} {Q : Value → Shared → Prop} (F : Fr h₀ L s.heap m) (N : News h₀ L s.heap news) (ha : (a, lstK xs.toArray k1) ∈ news) (hb : (b, lstK ys.toArray k2) ∈ news)
    (hz : xs.length + ys.length ≤ 100000) (h : ∀ D h', Fr h₀ L h' m → News h₀ L h' ((D, lstK (xs ++ ys).toArray 0) :: news) → (∀ p ∈ news, p.1 < D) → Q (.ref D) { s with heap := h' }) : wpAny (model prog w) A (binaryOp .Add (.ref a) (.ref b)) Q E s :=
  kmk_add_lit (its := xs.toArray) (its2 := ys.toArray) F N ⟨_, (N _ ha).1, rfl, k1, rfl⟩ ⟨_, (N _ hb).1, rfl, k2, rfl⟩ rfl h (by have := sizeLine_eq; simp only [Array.length_toList, List.size_toArray]; omega)
theorem item_last {value slice : Expr} {l : Addr} {vs : List Value} {v : Value} {u : Tok} {Q : Value → Shared → Prop} (hl : s.heap.IsList l (vs ++ [v]).toArray) (h : Q v s)
    (hs : subscripted slice false (.ref l) (.int (-1) u) = operate [.ref l, .int (-1) u] (getItem (.ref l) (.int (-1) u))) : wpAny (model prog w) A (subscriptTail value slice (.ref l) (.int (-1) u)) Q E s := by
  have h1 : seqIndex? (-1) (vs ++ [v]).length = some vs.length := by
    simp only [seqIndex?, List.length_append, List.length_singleton]
    simp
    omega
  have h2 : (vs ++ [v])[vs.length]? = some v := by simp
  have h3 : (-1 : Int) < 0 := by decide
  refine kde_neg (vs := vs ++ [v]) (k := -1) (j := vs.length) (v := v) ?a ?b ?c ?d ?e ?f ?g
  case a => exact hl
  case b => exact h3
  case d => exact h1
  case e => exact h2
  case f => exact h
  case g => exact hs
  case c => omega
end
theorem pick_last (l : List Value) : kms_pick l none (some (-1)) = l.dropLast := by
  unfold kms_pick kms_lo kms_hi
  simp only [show ((-1 : Int) < 0) by decide, if_true, List.drop_zero, Nat.sub_zero, List.dropLast_eq_take]
  rfl
theorem pick_snoc (l : List Value) (x : Value) : kms_pick (l ++ [x]).toArray.toList none (some (-1)) = l := by rw [pick_last]; simp
theorem allLt_mem {d : Nat} {l : List (Addr × Obj)} (h : AllLt d l) : ∀ p ∈ l, @LT.lt Nat _ p.1 d := by
  induction l with
  | nil => intro p hp; exact nomatch hp
  | cons q r ih =>
    intro p hp
    obtain ⟨h1, h2⟩ := h
    rcases List.mem_cons.mp hp with rfl | hp
    · exact h1
    · exact ih h2 p hp
theorem All2.snoc_right {α β : Type} {R : α → β → Prop} {b : β} : ∀ {bs : List β} {as : List α}, All2 R as (bs ++ [b]) → ∃ as' a, as = as' ++ [a] ∧ All2 R as' bs ∧ R a b
  | [], _, .cons h .nil => ⟨[], _, rfl, .nil, h⟩
  | _ :: bs, _, .cons h r => by
    obtain ⟨as', a, rfl, h1, h2⟩ := All2.snoc_right (bs := bs) r
    exact ⟨_ :: as', a, rfl, .cons h h1, h2⟩
/-- the kind of a sign: figure, mark, other -/
noncomputable def kd (c : Nat) : Nat := if c ∈ [48, 49, 50, 51, 52, 53, 54, 55, 56, 57] then 1 else if c ∈ [46, 95, 43, 45] then 2 else 3
noncomputable def ktx (k : Nat) : PySem.Str := if k = 1 then Str.ofString "figure" else if k = 2 then Str.ofString "mark" else if k = 3 then Str.ofString "other" else Str.ofString ""
noncomputable def rstep (p : List (List Nat) × Nat) (c : Nat) : List (List Nat) × Nat :=
  if kd c = p.2 ∧ kd c ≠ 2 then (p.1.dropLast ++ [p.1.getLastD [] ++ [c]], kd c) else if kd c ≠ 2 then (p.1 ++ [[c]], kd c) else (p.1, kd c)
noncomputable def rfold (l : List Nat) : List (List Nat) × Nat := l.foldl rstep ([], 0)
theorem rfold_snoc (l : List Nat) (c : Nat) : rfold (l ++ [c]) = rstep (rfold l) c := by unfold rfold; rw [List.foldl_append]; rfl
theorem kd_fig {c : Nat} (h : c ∈ [48, 49, 50, 51, 52, 53, 54, 55, 56, 57]) : kd c = 1 := if_pos h
theorem kd_mark {c : Nat} (h : ¬ c ∈ [48, 49, 50, 51, 52, 53, 54, 55, 56, 57]) (h' : c ∈ [46, 95, 43, 45]) : kd c = 2 := (if_neg h).trans (if_pos h')
theorem kd_other {c : Nat} (h : ¬ c ∈ [48, 49, 50, 51, 52, 53, 54, 55, 56, 57]) (h' : ¬ c ∈ [46, 95, 43, 45]) : kd c = 3 := (if_neg h).trans (if_neg h')
theorem kd_123 (c : Nat) : kd c = 1 ∨ kd c = 2 ∨ kd c = 3 := by
  by_cases h : c ∈ [48, 49, 50, 51, 52, 53, 54, 55, 56, 57]
  · exact .inl (kd_fig h)
  · by_cases h' : c ∈ [46, 95, 43, 45]
    · exact .inr (.inl (kd_mark h h'))
    · exact .inr (.inr (kd_other h h'))
theorem rstep_kind (p : List (List Nat) × Nat) (c : Nat) : (rstep p c).2 = kd c := by
  unfold rstep
  by_cases h : kd c = p.2 ∧ kd c ≠ 2
  · rw [if_pos h]
  · rw [if_neg h]
    by_cases h' : kd c ≠ 2
    · rw [if_pos h']
    · rw [if_neg h']
theorem rstep_ne {p : List (List Nat) × Nat} {c : Nat} (h : kd c ≠ 2) : (rstep p c).1 ≠ [] := by
  unfold rstep
  by_cases h' : kd c = p.2 ∧ kd c ≠ 2
  · rw [if_pos h']; simp
  · rw [if_neg h', if_pos h]; simp
theorem rfold_ne {l : List Nat} (h : (rfold l).1 = []) : (rfold l).2 = 0 ∨ (rfold l).2 = 2 := by
  rcases List.eq_nil_or_concat l with rfl | ⟨r, c, rfl⟩
  · exact .inl rfl
  · rw [List.concat_eq_append, rfold_snoc] at h ⊢
    rw [rstep_kind]
    rcases kd_123 c with e | e | e
    · exact absurd h (rstep_ne (by omega))
    · exact .inr e
    · exact absurd h (rstep_ne (by omega))
theorem rfold_k (l : List Nat) : (rfold l).2 ≤ 3 := by
  rcases List.eq_nil_or_concat l with rfl | ⟨r, c, rfl⟩
  · exact Nat.zero_le _
  · rw [List.concat_eq_append, rfold_snoc, rstep_kind]
    rcases kd_123 c with e | e | e <;> omega
theorem ktx_fig {k : Nat} (hk : k ≤ 3) : (Str.ofString "figure" == ktx k) = decide (1 = k) := by
  match k, hk with
  | 0, _ => decide +kernel
  | 1, _ => decide +kernel
  | 2, _ => decide +kernel
  | 3, _ => decide +kernel
theorem ktx_other {k : Nat} (hk : k ≤ 3) : (Str.ofString "other" == ktx k) = decide (3 = k) := by
  match k, hk with
  | 0, _ => decide +kernel
  | 1, _ => decide +kernel
  | 2, _ => decide +kernel
  | 3, _ => decide +kernel
theorem rfold_take {l : List Nat} {i c : Nat} (h : l[i]? = some c) : rfold (l.take (i + 1)) = rstep (rfold (l.take i)) c := by
  rw [List.take_add_one, h, Option.toList_some, rfold_snoc]
theorem rfold_len : ∀ (n : Nat) (l : List Nat), l.length = n → ∀ r ∈ (rfold l).1, r.length ≤ l.length
  | 0, l, hl, r, hr => by
    rw [List.length_eq_zero_iff.mp hl] at hr
    exact nomatch hr
  | n + 1, l, hl, r, hr => by
    rcases List.eq_nil_or_concat l with rfl | ⟨q, c, rfl⟩
    · cases hl
    · rw [List.concat_eq_append] at *
      rw [List.length_append, List.length_singleton] at hl ⊢
      have ih := rfold_len n q (by omega)
      rw [rfold_snoc] at hr
      unfold rstep at hr
      split at hr
      · rcases List.mem_append.mp hr with h | h
        · have := ih r (List.dropLast_subset _ h); omega
        · rw [List.mem_singleton.mp h, List.length_append, List.length_singleton]
          cases e : (rfold q).1 with
          | nil => simp
          | cons x xs =>
            have hm : (x :: xs).getLastD [] ∈ (rfold q).1 := by
              rw [e, List.getLastD_eq_getLast?, List.getLast?_eq_some_getLast (List.cons_ne_nil _ _), Option.getD_some]
              exact List.getLast_mem _
            have := ih _ hm
            omega
      · split at hr
        · rcases List.mem_append.mp hr with h | h
          · have := ih r h; omega
          · rw [List.mem_singleton.mp h]; simp
        · have := ih r hr; omega
theorem rstep_mark {p : List (List Nat) × Nat} {c : Nat} (h : kd c = 2) : (rstep p c).1 = p.1 := by
  unfold rstep
  rw [if_neg (by rw [h]; simp), if_neg (by rw [h]; simp)]
theorem rstep_same {p : List (List Nat) × Nat} {c : Nat} {rs : List (List Nat)} {r : List Nat} (h : kd c = p.2) (h2 : kd c ≠ 2) (e : p.1 = rs ++ [r]) : (rstep p c).1 = rs ++ [r ++ [c]] := by
  unfold rstep
  rw [if_pos ⟨h, h2⟩, e]
  simp
theorem rstep_new {p : List (List Nat) × Nat} {c : Nat} (h : kd c ≠ p.2) (h2 : kd c ≠ 2) : (rstep p c).1 = p.1 ++ [[c]] := by
  unfold rstep
  rw [if_neg (fun q => h q.1), if_pos h2]
noncomputable def RaJ (l : List Nat) (news : List (Addr × Obj)) (i : Nat) (m : PySem.Str → Option Value) (nx : List (Addr × Obj)) : Prop :=
  ∃ a vs k u, m (Str.ofString "runs") = some (.ref a) ∧ m (Str.ofString "kind") = some (.str (ktx (rfold (l.take i)).2) u) ∧ nx = (a, lstK (List.toArray vs) k) :: news ∧ All2 (fun l v => IsT v l) (rfold (l.take i)).1 vs ∧ vs.length ≤ i ∧ (∀ p ∈ news, p.1 < a)
theorem RaJ.next {l : List Nat} {news : List (Addr × Obj)} {i c a k : Nat} {vs : List Value} {u : Tok} {x : PySem.Str} {m : PySem.Str → Option Value} (hc : l[i]? = some c) (hm1 : m (Str.ofString "runs") = some (.ref a)) (hm2 : m (Str.ofString "kind") = some (.str x u)) (e : ktx (kd c) = x)
    {rs : List (List Nat)} (hrs : (rstep (rfold (l.take i)) c).1 = rs) (hr : All2 (fun l v => IsT v l) rs vs) (hlen : vs.length ≤ i + 1) (hlt : ∀ p ∈ news, p.1 < a) : RaJ l news (i + 1) m ((a, lstK vs.toArray k) :: news) := by
  refine ⟨a, vs, k, u, hm1, ?_, rfl, ?_, hlen, hlt⟩
  · rw [rfold_take hc, rstep_kind, e]; exact hm2
  · rw [rfold_take hc, hrs]; exact hr
/-- the end of a turn that has made a new list -/
theorem ra_end {h₀ h' : Heap} {L it a : Addr} {oI : Obj} {l : List Nat} {news all : List (Addr × Obj)} {s : Shared} {tk i c k : Nat} {vs : List Value} {u : Tok} {x : PySem.Str} {m : PySem.Str → Option Value} {rs : List (List Nat)}
    (F : Fr h₀ L h' m) (N : News h₀ L h' all) (hs : ∀ p ∈ (it, oI) :: (a, lstK vs.toArray k) :: news, p ∈ all) (hit : ∀ p ∈ news, p.1 ≠ it) (hai : @Ne Nat a it) (hlt : ∀ p ∈ news, p.1 < a)
    (hc : l[i]? = some c) (hm1 : m (Str.ofString "runs") = some (.ref a)) (hm2 : m (Str.ofString "kind") = some (.str x u)) (e : ktx (kd c) = x) (hrs : (rstep (rfold (l.take i)) c).1 = rs) (hr : All2 (fun l v => IsT v l) rs vs) (hlen : vs.length ≤ i + 1) :
    TextEnd h₀ L it oI (RaJ l news (i + 1)) s .next { s with heap := h', toks := tk } :=
  TextEnd.intro ((a, lstK vs.toArray k) :: news) F N hs (fun p hp => by
    rcases List.mem_cons.mp hp with rfl | hp
    · exact hai
    · exact hit p hp) (RaJ.next hc hm1 hm2 e hrs hr hlen hlt)
end Mine
end
theorem Mine.topOffRa : True := by
  w_top off
  trivial

section
open PySem PySem.W PySem.W.X PyProof.Rows PySem.Calls
set_option maxRecDepth 100000
namespace Mine
theorem dropWhile_le (p : Nat → Bool) (l : List Nat) : (l.dropWhile p).length ≤ l.length := (List.dropWhile_suffix p).length_le
/-- the runs of a text, read from the left -/
noncomputable def runsR : List Nat → List (List Nat)
  | [] => []
  | c :: r => if kd c = 2 then runsR r else (c :: r.takeWhile (kd · == kd c)) :: runsR (r.dropWhile (kd · == kd c))
termination_by l => l.length
decreasing_by
  · exact Nat.lt_succ_self _
  · exact Nat.lt_succ_of_le (dropWhile_le _ _)
theorem runsR_nil : runsR [] = [] := by rw [runsR]
theorem runsR_mark {c : Nat} {r : List Nat} (h : kd c = 2) : runsR (c :: r) = runsR r := by rw [runsR, if_pos h]
theorem runsR_cons {c : Nat} {r : List Nat} (h : kd c ≠ 2) : runsR (c :: r) = (c :: r.takeWhile (kd · == kd c)) :: runsR (r.dropWhile (kd · == kd c)) := by rw [runsR, if_neg h]
theorem rstep_eq (rs : List (List Nat)) (k c : Nat) : rstep (rs, k) c = if kd c = k ∧ kd c ≠ 2 then (rs.dropLast ++ [rs.getLastD [] ++ [c]], kd c) else if kd c ≠ 2 then (rs ++ [[c]], kd c) else (rs, kd c) := rfl
theorem fold_runs : ∀ (l : List Nat), (∀ (rs : List (List Nat)) (k : Nat), k = 0 ∨ k = 2 → (l.foldl rstep (rs, k)).1 = rs ++ runsR l) ∧
    (∀ (rs : List (List Nat)) (q : List Nat) (k : Nat), k = 1 ∨ k = 3 → (l.foldl rstep (rs ++ [q], k)).1 = rs ++ (q ++ l.takeWhile (kd · == k)) :: runsR (l.dropWhile (kd · == k)))
  | [] => ⟨fun rs k _ => by simp [runsR_nil], fun rs q k _ => by simp [runsR_nil]⟩
  | c :: r => by
    obtain ⟨ihA, ihB⟩ := fold_runs r
    refine ⟨fun rs k hk => ?_, fun rs q k hk => ?_⟩
    · rw [List.foldl_cons, rstep_eq]
      by_cases h2 : kd c = 2
      · rw [if_neg (by rw [h2]; simp), if_neg (by rw [h2]; simp), ihA _ _ (.inr h2), runsR_mark h2]
      · have hk' : ¬ (kd c = k ∧ kd c ≠ 2) := by
          have := kd_123 c
          omega
        have hk3 : kd c = 1 ∨ kd c = 3 := by have := kd_123 c; omega
        rw [if_neg hk', if_pos h2, ihB _ _ _ hk3, runsR_cons h2]
        rfl
    · rw [List.foldl_cons, rstep_eq]
      by_cases hc : kd c = k
      · have h2 : kd c ≠ 2 := by omega
        rw [if_pos ⟨hc, h2⟩]
        simp only [List.dropLast_concat]
        have e : (rs ++ [q]).getLastD [] = q := by simp
        rw [e, ihB _ _ _ (by omega), List.takeWhile_cons, List.dropWhile_cons, hc]
        simp
      · have hb : (kd c == k) = false := by simpa using hc
        rw [if_neg (fun q => hc q.1), List.takeWhile_cons, List.dropWhile_cons, hb]
        simp only [Bool.false_eq_true, if_false, List.append_nil]
        by_cases h2 : kd c = 2
        · rw [if_neg (by rw [h2]; simp), ihA _ _ (.inr h2), runsR_mark h2]
          simp
        · have hk3 : kd c = 1 ∨ kd c = 3 := by have := kd_123 c; omega
          rw [if_pos h2, ihB _ _ _ hk3, runsR_cons h2]
          simp
theorem rfold_runs (l : List Nat) : (rfold l).1 = runsR l := by
  have := (fold_runs l).1 [] 0 (.inl rfl)
  rw [List.nil_append] at this
  exact this
theorem mem_takeWhile {p : Nat → Bool} : ∀ {l : List Nat} {x : Nat}, x ∈ l.takeWhile p → p x = true ∧ x ∈ l
  | a :: l, x, h => by
    rw [List.takeWhile_cons] at h
    split at h
    · rename_i ha
      rcases List.mem_cons.mp h with rfl | h
      · exact ⟨ha, .head _⟩
      · have := mem_takeWhile h
        exact ⟨this.1, .tail _ this.2⟩
    · exact nomatch h
/-- every run is of one kind and is not empty -/
theorem runsR_uni : ∀ (n : Nat) (l : List Nat), l.length ≤ n → ∀ r ∈ runsR l, r ≠ [] ∧ (∀ c ∈ r, c ∈ l) ∧ kd (r.headD 0) ≠ 2 ∧ ∀ c ∈ r, kd c = kd (r.headD 0)
  | n, [], _, r, h => by rw [runsR_nil] at h; exact nomatch h
  | 0, c :: r, hl, _, h => by simp at hl
  | n + 1, c :: l, hl, r, h => by
    by_cases h2 : kd c = 2
    · rw [runsR_mark h2] at h
      obtain ⟨a, b, d⟩ := runsR_uni n l (by simpa using hl) r h
      exact ⟨a, fun x hx => .tail _ (b x hx), d⟩
    · rw [runsR_cons h2] at h
      rcases List.mem_cons.mp h with rfl | h
      · refine ⟨List.cons_ne_nil _ _, fun x hx => ?_, h2, fun x hx => ?_⟩
        · rcases List.mem_cons.mp hx with rfl | hx
          · exact .head _
          · exact .tail _ (mem_takeWhile hx).2
        · rcases List.mem_cons.mp hx with rfl | hx
          · rfl
          · exact eq_of_beq (mem_takeWhile hx).1
      · obtain ⟨a, b, d⟩ := runsR_uni n (l.dropWhile (kd · == kd c)) (Nat.le_trans (dropWhile_le _ _) (by simpa using hl)) r h
        exact ⟨a, fun x hx => .tail _ ((List.dropWhile_suffix _).subset (b x hx)), d⟩
theorem fig_of {c : Nat} (h : kd c = 1) : 48 ≤ c ∧ c ≤ 57 := by
  unfold kd at h
  split at h
  · rename_i hm
    simp only [List.mem_cons, List.not_mem_nil, or_false] at hm
    omega
  · split at h <;> omega
theorem of_fig {c : Nat} (h : 48 ≤ c ∧ c ≤ 57) : kd c = 1 := kd_fig (by simp only [List.mem_cons, List.not_mem_nil, or_false]; omega)
theorem int_fig {r : List Nat} (h : ∀ c ∈ r, kd c = 1) (hne : r ≠ []) (hl : r.length ≤ 4300) : ∃ n, PySem.intText? (tx r) = some n :=
  ⟨_, PySem.intText_digits (x := tx r) (fun c hc => fig_of (h c (by rwa [tx_cps] at hc))) (by rw [tx_cps]; exact hne) (by rw [tx_length]; exact hl)⟩
theorem run_ok {l r : List Nat} (h : r ∈ runsR l) (hl : l.length ≤ 640) : ∃ c q, r = c :: q ∧ r.length ≤ 640 ∧ kd c ≠ 2 ∧ (kd c = 1 → ∃ n, PySem.intText? (tx r) = some n) := by
  obtain ⟨h1, h2, h3, h4⟩ := runsR_uni _ l (Nat.le_refl _) r h
  have hlen : r.length ≤ l.length := rfold_len _ l rfl r (by rw [rfold_runs]; exact h)
  obtain ⟨c, q, rfl⟩ := List.exists_cons_of_ne_nil h1
  refine ⟨c, q, rfl, by omega, h3, fun hk => int_fig (fun x hx => (h4 x hx).trans hk) h1 (by omega)⟩
end Mine
end
theorem Mine.topOffPr : True := by
  w_top off
  trivial

section
open PySem PySem.W PySem.W.X PyProof.Rows PySem.Calls
set_option maxRecDepth 100000
set_option maxHeartbeats 8000000
namespace Mine
local macro_rules | `(tactic| walk_at "execs cons") => `(tactic| (k_here; (with_reducible refine gen_toks ?_); intro tk htk))
local macro_rules | `(tactic| walk_at "execs nil") => `(tactic| (k_here; (with_reducible refine gen_toks ?_); intro tk htk))
local macro_rules | `(tactic| walk_at "exec For Name Name cons nil") => `(tactic| (k_here; (refine stop_here ?_)))
local macro_rules | `(tactic| walk_at "compareOp In str str") => `(tactic| (k_here; first | refine in_fig ?_ | refine in_mark ?_))
local macro_rules | `(tactic| walk_at "subscriptTail Name UnaryOp ref int") => `(tactic| (k_here; (refine item_last (by is_list) ?_ (by with_unfolding_all rfl))))
local macro_rules | `(tactic| walk_at "subscriptTail Name Slice ref ref") => `(tactic| (k_here; (with_reducible show wpAny _ _ (subscriptTail _ (PySem.Expr.Slice _ _ none _) (Value.ref _) (Value.ref _)) _ _ _); k_dflt (refine' kms_slice_lit ?F ?N ?l ?p ?q ?e ?_ ?s ?t ?z; (case F | N => k_asm); (case l => kmk_list); (case p | q => kmk_part); (case e => first | exact pick_snoc _ _ | exact pick_last _); (case s => with_unfolding_all rfl); (case t => kmk_pure); (case z => (simp only [sizeLine_eq, List.size_toArray]; omega))); intro D' h' F' N' l1; (try k_lt l1); (try k_sweep)))
local macro_rules | `(tactic| walk_at "binaryOp Add ref ref") => `(tactic| (k_here; (refine add_two (by k_asm) (by k_asm) (by k_mem) (by k_mem) ?z ?_); (case z => ((simp only [List.length_append, List.length_cons, List.length_nil]); omega)); intro D' h' F' N' l1; (try k_lt l1); (try k_sweep)))
local macro_rules | `(tactic| walk_at "binaryOp Add str str") => `(tactic| (k_here; (refine add_tx ?_ (show 1 ≤ 4000000 by decide) ?_); (focus omega); intro t' k'; (try dsimp only)))
local macro_rules | `(tactic| walk_at "exec Assign cons ListComp") => `(tactic| (k_here; (refine stop_here ?_)))
/-- what stands for a run that is no number -/
noncomputable def stageR (d : List Nat) : Int := if d = [114, 99] then 50 else if d = [97] then 20 else if d = [112, 108] then 200 else if d = [112] then 200 else 0
noncomputable def rvOf (r : List Nat) : List RV := if kd (r.headD 0) = 1 then (match PySem.intText? (tx r) with | some n => [.n 100, .n n] | none => []) else [.n (stageR r), .s r]
noncomputable def PairJ (runs : List (List Nat)) (all : List (Addr × Obj)) (i : Nat) (ys : List Value) (nw : List (Addr × Obj)) : Prop :=
  ∃ subs : List (Array Value), All2 (fun r sub => All2 IsRV (rvOf r) sub.toList) (runs.take i) subs ∧ All2 (fun sub v => ∃ a k, v = Value.ref a ∧ (a, lstK sub k) ∈ nw) subs ys ∧ (∀ sub ∈ subs, sub.size ≤ 2) ∧ (∀ p ∈ all, p ∈ nw)
section
variable {prog : Program} {w : World} {A : Around} {E : Value → Shared → Prop} {s : Shared}
theorem item0 {value slice : Expr} {c : Nat} {q : List Nat} {t u : Tok} {Q : Value → Shared → Prop} (h : Q (.str (tx [c]) s.toks) { s with toks := s.toks + 1 })
    (hs : subscripted slice false (.str (tx (c :: q)) t) (.int 0 u) = operate [.str (tx (c :: q)) t, .int 0 u] (getItem (.str (tx (c :: q)) t) (.int 0 u)))
    (ht : ∀ r, letTemporaryGo value (.str (tx (c :: q)) t) r = pure ()) : wpAny (model prog w) A (subscriptTail value slice (.str (tx (c :: q)) t) (.int 0 u)) Q E s := by
  refine item_str (by decide) (by simp only [tx_length, List.length_cons]; omega) (by simp only [tx_length, List.length_cons]; omega) (fun _ => ?_) hs ht
  have e : Txt.item (tx (c :: q)) 0 = tx [c] := (eq_of_beq (item_closes ⟨by decide, by simp only [tx_length, List.length_cons]; omega⟩)).trans rfl
  rw [e]; exact h
end
theorem rank_look (t1 t2 t3 t4 u1 u2 u3 u4 : Tok) (d : List Nat) : (PySem.Spec.lookup (PyData.str (tx d)) (strData [(Value.str (Str.ofString "rc") t1, Value.int 50 u1), (Value.str (Str.ofString "a") t2, Value.int 20 u2), (Value.str (Str.ofString "pl") t3, Value.int 200 u3), (Value.str (Str.ofString "p") t4, Value.int 200 u4)])).getD (PyData.int 0) = PyData.int (stageR d) := by
  have e1 : Str.ofString "rc" = tx [114, 99] := by decide +kernel
  have e2 : Str.ofString "a" = tx [97] := by decide +kernel
  have e3 : Str.ofString "pl" = tx [112, 108] := by decide +kernel
  have e4 : Str.ofString "p" = tx [112] := by decide +kernel
  rw [e1, e2, e3, e4]
  show ((if PySem.Spec.same (PyData.str (tx [114, 99])) (PyData.str (tx d)) = true then some (PyData.int 50) else if PySem.Spec.same (PyData.str (tx [97])) (PyData.str (tx d)) = true then some (PyData.int 20) else if PySem.Spec.same (PyData.str (tx [112, 108])) (PyData.str (tx d)) = true then some (PyData.int 200)
    else if PySem.Spec.same (PyData.str (tx [112])) (PyData.str (tx d)) = true then some (PyData.int 200) else none).getD (PyData.int 0)) = _
  have ti : ∀ {a b : List Nat}, (tx a = tx b) ↔ b = a := ⟨fun h => (tx_inj h).symm, fun h => by rw [h]⟩
  simp only [PyProof.V.same_str, decide_eq_true_eq, ti]
  unfold stageR
  (repeat' split) <;> rfl
theorem int_flat {v : Value} {d : PyData} {i : Int} (h : PyProof.V.Flat v d) (e : d = PyData.int i) : ∃ t, v = .int i t := by subst e; exact PyProof.V.Flat.int_inv h
theorem All2.flat {α β γ δ : Type} {R : γ → δ → Prop} {f : α → List γ} {g : β → List δ} : ∀ {as : List α} {bs : List β}, All2 (fun a b => All2 R (f a) (g b)) as bs → All2 R (as.flatMap f) (bs.flatMap g)
  | _, _, .nil => .nil
  | _, _, .cons h r => by rw [List.flatMap_cons, List.flatMap_cons]; exact h.append r.flat
theorem flat_len {subs : List (Array Value)} (h : ∀ sub ∈ subs, sub.size ≤ 2) : (subs.flatMap (·.toList)).length ≤ 2 * subs.length := by
  induction subs with
  | nil => simp
  | cons x xs ih =>
    rw [List.flatMap_cons, List.length_append, Array.length_toList, List.length_cons]
    have := h x (.head _)
    have := ih fun s hs => h s (.tail _ hs)
    omega
noncomputable def RaR (l : List Nat) (news : List (Addr × Obj)) (r : Value) (own : List (Addr × Obj)) : Prop := ∃ a vs k, r = .ref a ∧ own = [(a, lstK vs k)] ∧ All2 IsRV ((runsR l).flatMap rvOf) vs.toList ∧ vs.size ≤ 1280 ∧ ∀ p ∈ news, p.1 < a
theorem sub4 {α : Type} {a b c d : α} {l : List α} : ∀ p ∈ b :: c :: d :: a :: l, p ∈ a :: b :: c :: d :: l := by
  intro p hp
  simp only [List.mem_cons] at hp ⊢
  rcases hp with h | h | h | h | h <;> simp [h]
theorem sub5 {α : Type} {a b c d x : α} {l : List α} : ∀ p ∈ b :: c :: d :: a :: l, p ∈ a :: x :: b :: c :: d :: l := by
  intro p hp
  simp only [List.mem_cons] at hp ⊢
  rcases hp with h | h | h | h | h <;> simp [h]
theorem pair_end {h₀ h' : Heap} {L I C D ln ra : Addr} {m : PySem.Str → Option Value} {s₁ : Shared} {oI oC : Obj} {tk k k0 i : Nat} {vs sub : Array Value} {ys : List Value} {runs : List (List Nat)} {r : List Nat} {nw all all' : List (Addr × Obj)}
    (F : Fr h₀ L h' m) (N : News h₀ L h' all') (hs : ∀ p ∈ (I, oI) :: (C, oC) :: (D, LCg.lst ys) :: (ln, lstK sub k0) :: nw, p ∈ all') (off : LCg.Off3 I C D nw) (lt : @LT.lt Nat _ I ln ∧ @LT.lt Nat _ C ln ∧ @LT.lt Nat _ D ln) (hJ : PairJ runs all i ys nw) (hri : runs[i]? = some r)
    (hsub : All2 IsRV (rvOf r) sub.toList) (hsz : sub.size ≤ 2) (hm : (ra, lstK vs k) ∈ all) :
    LCg.CompEnd h₀ L m s₁ I oI C oC D (LCg.lst ys) (LCg.SrcAt h₀ ra vs) (fun y nw' => PairJ runs all (i + 1) (ys ++ [y]) nw') (.ref ln) { s₁ with heap := h', toks := tk } := by
  obtain ⟨l1, l2, l3⟩ := lt
  obtain ⟨subs, hs1, hs2, hs3, hs4⟩ := hJ
  refine LCg.CompEnd.intro F N ((ln, lstK sub k0) :: nw) hs (LCg.Off3.of fun p hp => ?_) (.inr ⟨_, .tail _ (hs4 _ hm), rfl, _, rfl⟩) ⟨subs ++ [sub], ?_, ?_, ?_, fun p hp => .tail _ (hs4 p hp)⟩
  · rcases List.mem_cons.mp hp with rfl | hp
    · exact ⟨Ne.symm (Nat.ne_of_lt l1), Ne.symm (Nat.ne_of_lt l2), Ne.symm (Nat.ne_of_lt l3)⟩
    · exact off.mem p hp
  · rw [List.take_add_one, hri]
    exact hs1.append (.cons hsub .nil)
  · refine All2.append (hs2.imp fun sub v h => ?_) (.cons ⟨ln, k0, rfl, .head _⟩ .nil)
    obtain ⟨a, k', e, hm⟩ := h
    exact ⟨a, k', e, .tail _ hm⟩
  · intro x hx
    rcases List.mem_append.mp hx with hx | hx
    · exact hs3 x hx
    · rw [List.mem_singleton.mp hx]; exact hsz
local macro_rules | `(tactic| walk_at "subscriptTail Name Constant str int") => `(tactic| (k_here; (refine item0 ?_ (by with_unfolding_all rfl) (by intro _; with_unfolding_all rfl))))
theorem lra : ∀ (w : World) (mean : ExcName → Option Value) (mg mb : PySem.Str → Option Value) (news : List (Addr × Obj)) (l : List Nat) (t : Tok), l.length ≤ 640 → TellsW w mean mg mb 83 12 news [.str (tx l) t] (RaR l news) := by
  unfold TellsW
  k_fill
  intro w mean mg mb news l t hx dp un gd cn cs a ccd cl outer A₀ base h₀ L m s Q E B F X N T hk hdp hun hret
  (refine wpAny_call ?_; k_dflt (refine' code_def ?k1 ?k2 ?k3 ?k4 ?k5 ?kA ?kF ?kK ?k6 ?k7 ?k8 ?k9 ?kB ?_ ?c2 ?c3 ?c4 ?c5; (case kA | kF => exact rfl); (case kK => assumption); (case k1 | k2 | k3 | k4 | k5 => k_asm); (case k6 | k7 => k_is); (case k8 => ((simp only [depth_deeper, recursionLimit] at *); omega)); (case k9 => first | exact BindsTo.of_eq rfl | exact binds_K (by k_in) rfl (by k_is) rfl rfl rfl); (case c5 => decide); (case kB => exact locs rfl); (case c2 | c3 | c4 => exact rfl); k_whole; intro g'_z L'_z h'_z FG'_z F'_z N'_z B'_z X'_z T'_z; (try dsimp only); (try k_lift B'_z); (try k_fold)); (refine gen_toks0 ?_ ?_; (focus (k_dflt (exact Nat.succ_pos _)))); intro tk_z htk_z)
  k_steps
  unfold Stop
  rename Fr _ _ _ _ => F7
  rename News _ _ _ _ => N7
  rename ∀ p ∈ news, _ => l7
  refine wpAny_noRaise (For_text F7 rfl rfl rfl ?iter (fun _ => rfl) PassesOwn.never)
  case iter =>
    k_steps
    refine TextSrc.intro (news := (_, lstK #[] 0) :: news) (RaJ l news) F7 N7 (fun p hp => .tail _ hp) ⟨_, [], 0, _, rfl, rfl, rfl, .nil, Nat.le_refl _, l7⟩ ?turn ?fin
    case turn =>
      clear F7 N7
      rintro i c u m₁ news₁ h₁ tk₁ it oI hc ⟨ra, vs, k, uk, hm1, hm2, rfl, hr, hsz, hlt⟩ F₁ N₁ hit
      replace F₁ := fr_named (f := fun m y => if y = Str.ofString "sign" then some (.str (tx [c]) u) else m y) hm2 F₁
      replace F₁ := fr_named (f := fun m y => if y = Str.ofString "sign" then some (.str (tx [c]) u) else if y = Str.ofString "kind" then some (.str (ktx (rfold (l.take i)).2) uk) else m y) hm1 F₁
      dsimp only at F₁
      clear hm1 hm2
      (try dsimp only)
      (try k_fold)
      have hi : i < 640 := by
        have := (List.getElem?_eq_some_iff.mp hc).1
        omega
      have hs' : vs.length ≤ 640 := by omega
      have hk3 := rfold_k (l.take i)
      rcases List.eq_nil_or_concat vs with rfl | ⟨vs₀, lv, rfl⟩
      · have e0 : (rfold (l.take i)).1 = [] := List.length_eq_zero_iff.mp hr.length
        have e1 := rfold_ne e0
        k_steps
        · rename (Str.ofString _ == ktx _) = true => qk
          first
            | rw [ktx_fig hk3, decide_eq_true_iff] at qk
            | rw [ktx_other hk3, decide_eq_true_iff] at qk
          omega
        · rename (Str.ofString _ == ktx _) = false => qk
          rename c ∈ [48, 49, 50, 51, 52, 53, 54, 55, 56, 57] => q1
          have q := kd_fig q1
          rw [ktx_fig hk3, decide_eq_false_iff_not] at qk
          rename _ ∧ _ ∧ _ ∧ AllLt _ _ => lt
          exact ra_end (vs := [.str (tx [c]) u]) (by k_asm) (by k_asm) (fun p hp => by
            rcases List.mem_cons.mp hp with rfl | hp
            · exact .tail _ (.tail _ (.head _))
            · rcases List.mem_cons.mp hp with rfl | hp
              · exact .head _
              · exact .tail _ (.tail _ (.tail _ (.tail _ hp)))) (fun p hp => hit p (.tail _ hp)) (Nat.ne_of_gt lt.2.1) (allLt_mem lt.2.2.2) hc (by rfl) (by rfl) (by rw [q]; rfl) (rstep_new (by rw [q]; exact qk) (by rw [q]; decide)) (hr.append (.cons ⟨u, rfl⟩ .nil)) (by simp only [List.length_append, List.length_cons, List.length_nil] at hsz ⊢; omega)
        · rename c ∈ [46, 95, 43, 45] => q2
          rename ¬ c ∈ [48, 49, 50, 51, 52, 53, 54, 55, 56, 57] => q1
          have q := kd_mark q1 q2
          exact ra_end (by k_asm) (by k_asm) (fun p hp => hp) (fun p hp => hit p (.tail _ hp)) (hit _ (.head _)) hlt hc (by rfl) (by rfl) (by rw [q]; rfl) (rstep_mark q) hr (Nat.le_succ_of_le hsz)
        · rename c ∈ [46, 95, 43, 45] => q2
          rename ¬ c ∈ [48, 49, 50, 51, 52, 53, 54, 55, 56, 57] => q1
          have q := kd_mark q1 q2
          exact ra_end (by k_asm) (by k_asm) (fun p hp => hp) (fun p hp => hit p (.tail _ hp)) (hit _ (.head _)) hlt hc (by rfl) (by rfl) (by rw [q]; rfl) (rstep_mark q) hr (Nat.le_succ_of_le hsz)
        · rename (Str.ofString _ == ktx _) = true => qk
          first
            | rw [ktx_fig hk3, decide_eq_true_iff] at qk
            | rw [ktx_other hk3, decide_eq_true_iff] at qk
          omega
        · rename (Str.ofString _ == ktx _) = false => qk
          rename ¬ c ∈ [46, 95, 43, 45] => q2
          rename ¬ c ∈ [48, 49, 50, 51, 52, 53, 54, 55, 56, 57] => q1
          have q := kd_other q1 q2
          rw [ktx_other hk3, decide_eq_false_iff_not] at qk
          rename _ ∧ _ ∧ _ ∧ AllLt _ _ => lt
          exact ra_end (vs := [.str (tx [c]) u]) (by k_asm) (by k_asm) (fun p hp => by
            rcases List.mem_cons.mp hp with rfl | hp
            · exact .tail _ (.tail _ (.head _))
            · rcases List.mem_cons.mp hp with rfl | hp
              · exact .head _
              · exact .tail _ (.tail _ (.tail _ (.tail _ hp)))) (fun p hp => hit p (.tail _ hp)) (Nat.ne_of_gt lt.2.1) (allLt_mem lt.2.2.2) hc (by rfl) (by rfl) (by rw [q]; rfl) (rstep_new (by rw [q]; exact qk) (by rw [q]; decide)) (hr.append (.cons ⟨u, rfl⟩ .nil)) (by simp only [List.length_append, List.length_cons, List.length_nil] at hsz ⊢; omega)
      · rw [List.concat_eq_append] at *
        obtain ⟨rs₀, rl, hrs, hr₀, tl, rfl⟩ := hr.snoc_right
        have hv0 : vs₀.length ≤ 639 := by
          simp only [List.length_append, List.length_cons, List.length_nil] at hs'
          omega
        have hrl : rl.length ≤ 640 := by
          have := rfold_len _ (l.take i) rfl rl (by rw [hrs]; simp)
          rw [List.length_take] at this
          omega
        k_steps
        · rename (Str.ofString _ == ktx _) = true => qk
          rename c ∈ [48, 49, 50, 51, 52, 53, 54, 55, 56, 57] => q1
          have q := kd_fig q1
          rw [ktx_fig hk3, decide_eq_true_iff] at qk
          rename _ ∧ _ ∧ _ ∧ _ ∧ AllLt _ _ => lt
          exact ra_end (vs := vs₀ ++ [.str (tx (rl ++ [c])) _]) (by k_asm) (by k_asm) (fun p hp => by
            rcases List.mem_cons.mp hp with rfl | hp
            · exact .tail _ (.tail _ (.tail _ (.head _)))
            · rcases List.mem_cons.mp hp with rfl | hp
              · exact .head _
              · exact .tail _ (.tail _ (.tail _ (.tail _ (.tail _ hp))))) (fun p hp => hit p (.tail _ hp)) (Nat.ne_of_gt lt.2.2.1) (allLt_mem lt.2.2.2.2) hc (by rfl) (by rfl) (by rw [q]; rfl) (rstep_same (by rw [q]; exact qk) (by rw [q]; decide) hrs) (hr₀.append (.cons ⟨_, rfl⟩ .nil)) (by simp only [List.length_append, List.length_cons, List.length_nil] at hsz ⊢; omega)
        · rename (Str.ofString _ == ktx _) = false => qk
          rename c ∈ [48, 49, 50, 51, 52, 53, 54, 55, 56, 57] => q1
          have q := kd_fig q1
          rw [ktx_fig hk3, decide_eq_false_iff_not] at qk
          rename _ ∧ _ ∧ _ ∧ AllLt _ _ => lt
          exact ra_end (vs := (vs₀ ++ [.str (tx rl) tl]) ++ [.str (tx [c]) u]) (by k_asm) (by k_asm) (fun p hp => by
            rcases List.mem_cons.mp hp with rfl | hp
            · exact .tail _ (.tail _ (.head _))
            · rcases List.mem_cons.mp hp with rfl | hp
              · exact .head _
              · exact .tail _ (.tail _ (.tail _ (.tail _ hp)))) (fun p hp => hit p (.tail _ hp)) (Nat.ne_of_gt lt.2.1) (allLt_mem lt.2.2.2) hc (by rfl) (by rfl) (by rw [q]; rfl) (rstep_new (by rw [q]; exact qk) (by rw [q]; decide)) (hr.append (.cons ⟨u, rfl⟩ .nil)) (by simp only [List.length_append, List.length_cons, List.length_nil] at hsz ⊢; omega)
        · rename c ∈ [46, 95, 43, 45] => q2
          rename ¬ c ∈ [48, 49, 50, 51, 52, 53, 54, 55, 56, 57] => q1
          have q := kd_mark q1 q2
          exact ra_end (by k_asm) (by k_asm) (fun p hp => hp) (fun p hp => hit p (.tail _ hp)) (hit _ (.head _)) hlt hc (by rfl) (by rfl) (by rw [q]; rfl) (rstep_mark q) hr (Nat.le_succ_of_le hsz)
        · rename c ∈ [46, 95, 43, 45] => q2
          rename ¬ c ∈ [48, 49, 50, 51, 52, 53, 54, 55, 56, 57] => q1
          have q := kd_mark q1 q2
          exact ra_end (by k_asm) (by k_asm) (fun p hp => hp) (fun p hp => hit p (.tail _ hp)) (hit _ (.head _)) hlt hc (by rfl) (by rfl) (by rw [q]; rfl) (rstep_mark q) hr (Nat.le_succ_of_le hsz)
        · rename (Str.ofString _ == ktx _) = true => qk
          rename ¬ c ∈ [46, 95, 43, 45] => q2
          rename ¬ c ∈ [48, 49, 50, 51, 52, 53, 54, 55, 56, 57] => q1
          have q := kd_other q1 q2
          rw [ktx_other hk3, decide_eq_true_iff] at qk
          rename _ ∧ _ ∧ _ ∧ _ ∧ AllLt _ _ => lt
          exact ra_end (vs := vs₀ ++ [.str (tx (rl ++ [c])) _]) (by k_asm) (by k_asm) (fun p hp => by
            rcases List.mem_cons.mp hp with rfl | hp
            · exact .tail _ (.tail _ (.tail _ (.head _)))
            · rcases List.mem_cons.mp hp with rfl | hp
              · exact .head _
              · exact .tail _ (.tail _ (.tail _ (.tail _ (.tail _ hp))))) (fun p hp => hit p (.tail _ hp)) (Nat.ne_of_gt lt.2.2.1) (allLt_mem lt.2.2.2.2) hc (by rfl) (by rfl) (by rw [q]; rfl) (rstep_same (by rw [q]; exact qk) (by rw [q]; decide) hrs) (hr₀.append (.cons ⟨_, rfl⟩ .nil)) (by simp only [List.length_append, List.length_cons, List.length_nil] at hsz ⊢; omega)
        · rename (Str.ofString _ == ktx _) = false => qk
          rename ¬ c ∈ [46, 95, 43, 45] => q2
          rename ¬ c ∈ [48, 49, 50, 51, 52, 53, 54, 55, 56, 57] => q1
          have q := kd_other q1 q2
          rw [ktx_other hk3, decide_eq_false_iff_not] at qk
          rename _ ∧ _ ∧ _ ∧ AllLt _ _ => lt
          exact ra_end (vs := (vs₀ ++ [.str (tx rl) tl]) ++ [.str (tx [c]) u]) (by k_asm) (by k_asm) (fun p hp => by
            rcases List.mem_cons.mp hp with rfl | hp
            · exact .tail _ (.tail _ (.head _))
            · rcases List.mem_cons.mp hp with rfl | hp
              · exact .head _
              · exact .tail _ (.tail _ (.tail _ (.tail _ hp)))) (fun p hp => hit p (.tail _ hp)) (Nat.ne_of_gt lt.2.1) (allLt_mem lt.2.2.2) hc (by rfl) (by rfl) (by rw [q]; rfl) (rstep_new (by rw [q]; exact qk) (by rw [q]; decide)) (hr.append (.cons ⟨u, rfl⟩ .nil)) (by simp only [List.length_append, List.length_cons, List.length_nil] at hsz ⊢; omega)
    case fin =>
      clear F7 N7
      rintro h₁ tk₁ m₁ news₁ F₁ N₁ ⟨ra, vs, k, uk, hm1, hm2, rfl, hr, hsz, hlt⟩
      replace F₁ := fr_named (f := fun m => m) hm1 F₁
      rw [List.take_length] at hr
      have hs' : vs.length ≤ 640 := by omega
      (try dsimp only)
      (try k_fold)
      k_steps
      unfold Stop
      rename Fr _ _ _ _ => F9
      refine LCg.Assign_ListComp_U (F₀ := F9) rfl (by with_unfolding_all rfl) (by with_unfolding_all rfl) (by decide) rfl (by decide) rfl rfl rfl ?src (fun _ => rfl)
      case src =>
        k_steps
        rename News _ _ _ _ => N9
        refine LCg.CompSrc.ledger rfl (by k_asm) N9 (.head _) (by have := sizeLine_eq; simp only [List.size_toArray]; omega) (fun g9 => ?_)
        refine rest_inv (PairJ (rfold l).1 ((ra, lstK vs.toArray k) :: news)) ?turn2 ?fin2 _ 0 [] _ (Nat.zero_add _) ⟨[], .nil, .nil, (fun _ h => nomatch h), fun p hp => hp⟩
        case turn2 =>
          clear N9 F9 hret N F X T B
          rintro i v ys nw I oI C oC D m₂ h₂ tk₂ E' hv ⟨subs, hs1, hs2, hs3, hs4⟩ hC hx2 F₂ N₂ off ne
          obtain ⟨r, hri, tr, rfl⟩ := hr.get (by simpa using hv)
          obtain ⟨c0, q0, rfl, hlr, hk2, hint⟩ := run_ok (l := l) (r := r) (by rw [← rfold_runs]; exact List.mem_of_getElem? hri) hx
          (try dsimp only)
          k_fold
          k_steps
          · rename c0 ∈ [48, 49, 50, 51, 52, 53, 54, 55, 56, 57] => q1
            obtain ⟨n, hn⟩ := hint (kd_fig q1)
            refine KIN.call_text hn (by rw [tx_length]; exact hlr) ?_
            k_steps
            rename Fr _ _ _ _ => F₃
            rename News _ _ _ _ => N₃
            rename _ ∧ _ ∧ _ ∧ AllLt _ _ => lt
            refine pair_end (sub := #[_, _]) F₃ N₃ sub4 off ⟨lt.1, lt.2.1, lt.2.2.1⟩ ⟨subs, hs1, hs2, hs3, hs4⟩ hri ?_ (Nat.le_refl 2) (.head _)
            · unfold rvOf
              rw [show (c0 :: q0).headD 0 = c0 from rfl, if_pos (kd_fig q1), hn]
              exact .cons ⟨_, rfl⟩ (.cons ⟨_, rfl⟩ .nil)
          · rename ¬ c0 ∈ [48, 49, 50, 51, 52, 53, 54, 55, 56, 57] => q1
            rename PyProof.V.Flat _ _ => hv4
            rename Fr _ _ _ _ => F₃
            rename News _ _ _ _ => N₃
            rename _ ∧ _ ∧ _ ∧ _ ∧ AllLt _ _ => lt
            refine pair_end (sub := #[_, _]) F₃ N₃ sub5 off ⟨lt.2.1, lt.2.2.1, lt.2.2.2.1⟩ ⟨subs, hs1, hs2, hs3, hs4⟩ hri ?_ (Nat.le_refl 2) (.head _)
            · unfold rvOf
              rw [show (c0 :: q0).headD 0 = c0 from rfl, if_neg (fun q => q1 (by have := fig_of q; simp only [List.mem_cons, List.not_mem_nil, or_false]; omega))]
              exact .cons (int_flat hv4 (rank_look _ _ _ _ _ _ _ _ _)) (.cons ⟨_, rfl⟩ .nil)
        case fin2 =>
          clear N9 F9
          rintro ys nw ⟨subs, hs1, hs2, hs3, hs4⟩
          intro D h₂ tk₂ F₂ N₂ off
          (try dsimp only)
          (try k_fold)
          k_steps
          rename Fr _ _ _ _ => F₃
          refine ListComp_flat F₃ rfl (by with_unfolding_all rfl) (by decide) rfl (by decide) rfl rfl (by decide) (by decide) ?src3 (fun _ => rfl)
          k_steps
          have hl1 := hs1.length
          have hsl : subs.length ≤ 640 := by
            rw [← hl1, List.length_take, List.size_toArray]
            omega
          have hfl := flat_len hs3
          have hfu : (rfold l).1.take vs.toArray.size = runsR l := by
            rw [List.size_toArray, ← hr.length, List.take_length, rfold_runs]
          rw [hfu] at hs1
          refine FlatSrc.intro (its := ys.toArray) (k := ys.length) (subs := subs) (by k_asm) (by k_asm) (fun p hp => hp) (by simpa using hs2) (by have := sizeLine_eq; omega) ?fin3
          intro h₃ tk₃ D₂ F₃ N₃ lt₃
          (try dsimp only)
          (try k_fold)
          k_steps
          rename Fr h₀ L _ _ => F₅
          rename News h₀ L _ _ => N₅
          refine hret _ [(D₂, lstK (List.toArray (subs.flatMap (·.toList))) (subs.flatMap (·.toList)).length)] _ _ ⟨D₂, _, _, rfl, rfl, by simpa using hs1.flat, by simp only [List.size_toArray]; omega, fun p hp => lt₃ p (.tail _ (hs4 p (.tail _ hp)))⟩ F₅ (news_sub N₅ fun p hp => ?_)
          rcases List.mem_cons.mp hp with rfl | hp
          · exact .head _
          · exact .tail _ (.tail _ (hs4 p (.tail _ hp)))
end Mine
end
theorem Mine.topOffE11 : True := by
  w_top off
  trivial

section
open PySem PySem.W PySem.W.X PyProof.Rows PySem.Calls
set_option maxRecDepth 100000
namespace Mine
noncomputable abbrev cvL (l : List Nat) : List RV := (cuts l).flatMap cvOf
noncomputable abbrev rkL (l : List Nat) : List RV := (runsR l).flatMap rvOf
noncomputable abbrev escL (l : List Nat) : List Nat := l.flatMap (esub EP)
noncomputable def RV.map (f : List Nat → List Nat) : RV → RV
  | .n i => .n i
  | .s l => .s (f l)
/-- what a text must fulfil that _law_right may say True -/
structure RightOk (l : List Nat) : Prop where
  len : l.length ≤ 300
  lenE : (escL l).length ≤ 640
  lenU : (unesc l).length ≤ 640
  lenQ : (quoL l).length ≤ 640
  lenA : (attL l).length ≤ 640
  small : ∀ c ∈ l, c < 128
  smallE : ∀ c ∈ escL l, c < 128
  smallU : ∀ c ∈ unesc l, c < 128
  smallQ : ∀ c ∈ quoL l, c < 128
  cv1 : cvL l = rkL l
  cv2 : cvL (escL l) = (rkL l).map (RV.map escL)
  cv3 : cvL (unesc l) = (rkL l).map (RV.map (openK 0))
  cv4 : cvL (quoL l) = rkL (attL l)
  un : unesc l = openK 0 l
  qu : quoL l = attL l
section
variable {w : World} {mean : ExcName → Option Value} {mg mb : PySem.Str → Option Value} {f : Addr} {lv : Nat} {news : List (Addr × Obj)} {vs : List Value}
theorem TellsW.useRa {l : List Nat} (C : TellsW w mean mg mb f lv news vs (RaR l news))
    {dp un : Nat} {gd : Option (List Code)} {cn : PySem.Str} {cs : Scope} {a : Addr} {ccd : Value} {cl : List (PySem.Str × Addr)} {outer : List Env} {A₀ : Around} {base h₀ : Heap} {L : Addr} {m : PySem.Str → Option Value} {s : Shared} {Q E : Value → Shared → Prop}
    (B : Below A₀ base outer h₀) (F : Fr h₀ L s.heap m) (X : (hd.heap_39 w.params).In h₀) (N : News h₀ L s.heap news) (T : Top hd.view_39 looseL mean mg mb h₀) (hk : cs.kind = .function) (hdp : dp < 300 + lv) (hun : un < 10 * lv)
    (h : ∀ a vs' k h' tk', Fr h₀ L h' m → News h₀ L h' ((a, lstK vs' k) :: news) → All2 IsRV (rkL l) vs'.toList → vs'.size ≤ 1280 → (∀ p ∈ news, p.1 < a) → Q (.ref a) { s with heap := h', toks := tk' }) :
    wpAny (model PySem.Challenge.rw_ik0022_01.row.prog w) (ktrTop dp un gd cn cs L a ccd cl outer) (call (.ref f) vs) Q E s :=
  C dp un gd cn cs a ccd cl outer A₀ base h₀ L m s Q E B F X N T hk hdp hun fun r own h' tk' hR F' N' => by
    obtain ⟨a, vs', k, rfl, rfl, h1, h2, h3⟩ := hR
    exact h a vs' k h' tk' F' N' h1 h2 h3
theorem TellsG.useCv {l : List Nat} (C : TellsG w mean mg mb f lv news vs (CvR l))
    {dp un : Nat} {gd : Option (List Code)} {cn : PySem.Str} {cs : Scope} {a : Addr} {ccd : Value} {cl : List (PySem.Str × Addr)} {outer : List Env} {A₀ : Around} {base h₀ : Heap} {L : Addr} {m : PySem.Str → Option Value} {s : Shared} {Q : Value → Shared → Prop}
    (G : Gnd w mean mg mb A₀ base outer h₀ h₀) (XB : (hd.heap_39 w.params).In base) (TB : Top hd.view_39 looseL mean mg mb base) (F : Fr h₀ L s.heap m) (N : News h₀ L s.heap news) (hk : cs.kind = .function) (hdp : dp < 300 + lv) (hun : un < 10 * lv)
    (h : ∀ g a vs' k h' tk', Gnd w mean mg mb A₀ base outer h₀ g → Fr g L h' m → News g L h' ((a, lstK vs' k) :: news) → All2 IsRV (cvL l) vs'.toList → (∀ p ∈ news, p.1 < a) → Q (.ref a) { s with heap := h', toks := tk' }) :
    wpC (model PySem.Challenge.rw_ik0022_01.row.prog w) (ktrTop dp un gd cn cs L a ccd cl outer) (call (.ref f) vs) Q (fun _ _ => False) s :=
  C dp un gd cn cs a ccd cl outer A₀ base h₀ L m s Q G XB TB F N hk hdp hun fun g r own h' tk' hR hlt G' F' N' => by
    obtain ⟨a, vs', k, rfl, rfl, h1⟩ := hR
    exact h g a vs' k h' tk' G' F' N' h1 fun p hp => hlt _ (.head _) p hp
end
section
variable {M : Model} {A : Around} {E : Value → Shared → Prop} {s : Shared} {env : Env}
theorem wpC_callWith_K {e : Expr} {rest : List Expr} {pos : Pos} {f : Addr} {o : Obj} {fd : FuncData} {Q : Value → Shared → Prop} {hx : Heap} (_ho : hx.get? f = some o) (hdat : o.data = .func fd)
    (h : wpAny M A (spliced (backTo pos (starEach (e :: rest) env))) (fun vs s₁ => s₁.heap.get? f = some o ∧ wpC M A (call (.ref f) vs) Q E s₁) E s)
    (he : starEach (e :: rest) env = (false, eval e env) :: starEach rest env := by rfl) :
    wpC M A (callWith pos (.ref f) [] (backTo pos (starEach (e :: rest) env)) []) Q E s := wpC_callWith_def hdat h he
end
theorem rk_len {l q : List Nat} (h : RV.s q ∈ rkL l) : q.length ≤ l.length := by
  obtain ⟨r, hr, hq⟩ := List.mem_flatMap.mp h
  have h1 : r.length ≤ l.length := rfold_len _ l rfl r (by rw [rfold_runs]; exact hr)
  unfold rvOf at hq
  split at hq
  · split at hq
    · simp at hq
    · exact nomatch hq
  · simp at hq
    subst hq; exact h1
theorem four_get {a b c d : List Nat} {t0 t1 t2 t3 : Tok} {i : Nat} {v : Value} (hv : (#[Value.str (tx a) t0, Value.str (tx b) t1, Value.str (tx c) t2, Value.str (tx d) t3] : Array Value)[i]? = some v) : ∃ x t, [a, b, c, d][i]? = some x ∧ v = Value.str (tx x) t := by
  have hT : All2 (fun x v => ∃ t, v = Value.str (tx x) t) [a, b, c, d] [Value.str (tx a) t0, Value.str (tx b) t1, Value.str (tx c) t2, Value.str (tx d) t3] := .cons ⟨_, rfl⟩ (.cons ⟨_, rfl⟩ (.cons ⟨_, rfl⟩ (.cons ⟨_, rfl⟩ .nil)))
  obtain ⟨x, h, t, e⟩ := hT.get (by simpa using hv)
  exact ⟨x, t, h, e⟩
noncomputable def TJ (texts : List (List Nat)) (all : List (Addr × Obj)) (i : Nat) (ys : List Value) (nw : List (Addr × Obj)) : Prop :=
  All2 (fun x v => ∃ a vs k, v = Value.ref a ∧ (a, lstK vs k) ∈ nw ∧ All2 IsRV (cvL x) vs.toList) (texts.take i) ys ∧ (∀ p ∈ all, p ∈ nw)
theorem TJ.add {texts : List (List Nat)} {all nw : List (Addr × Obj)} {i : Nat} {ys : List Value} {x : List Nat} {a k : Nat} {vs : Array Value} (h : TJ texts all i ys nw) (hx : texts[i]? = some x) (hv : All2 IsRV (cvL x) vs.toList) : TJ texts all (i + 1) (ys ++ [.ref a]) ((a, lstK vs k) :: nw) := by
  refine ⟨?_, fun p hp => .tail _ (h.2 p hp)⟩
  rw [List.take_add_one, hx, Option.toList_some]
  refine (h.1.imp fun x v q => ?_).append (.cons ⟨a, vs, k, rfl, .head _, hv⟩ .nil)
  obtain ⟨a', vs', k', e, hm, hq⟩ := q
  exact ⟨a', vs', k', e, .tail _ hm, hq⟩
/-- the datum that stands for a rank -/
noncomputable def rvD : RV → PyData
  | .n i => .int i
  | .s q => .str (tx q)
theorem rv_reads {h : Heap} : ∀ {rs : List RV} {vs : List Value}, All2 IsRV rs vs → ReadsAll h vs (rs.map rvD) []
  | _, _, .nil => .nil
  | _, _, .cons (a := r) hr rest => by
    cases r with
    | n i => obtain ⟨t, rfl⟩ := hr; exact ReadsAll.cons (.int i t) (rv_reads rest)
    | s q => obtain ⟨t, rfl⟩ := hr; exact ReadsAll.cons (.str (tx q) t) (rv_reads rest)
theorem list_reads {h : Heap} {a k : Nat} {rs : List RV} {vs : Array Value} (ho : h.get? a = some (lstK vs k)) (hr : All2 IsRV rs vs.toList) : Reads h (.ref a) (.list (rs.map rvD)) [a] := Reads.list ho rfl rfl (rv_reads hr)
theorem told_reads {h : Heap} {nw : List (Addr × Obj)} (hN : ∀ p ∈ nw, h.get? p.1 = some p.2) : ∀ {xs : List (List Nat)} {ys : List Value}, All2 (fun x v => ∃ a vs k, v = Value.ref a ∧ (a, lstK vs k) ∈ nw ∧ All2 IsRV (cvL x) vs.toList) xs ys → ∃ as, ReadsAll h ys (xs.map fun x => .list ((cvL x).map rvD)) as
  | _, _, .nil => ⟨_, .nil⟩
  | _, _, .cons hx rest => by
    obtain ⟨a, vs, k, rfl, hm, hv⟩ := hx
    obtain ⟨as, ih⟩ := told_reads hN rest
    exact ⟨_, .cons (list_reads (hN _ hm) hv) ih⟩
theorem All2.map_left {α β γ : Type} {R : γ → β → Prop} {f : α → γ} : ∀ {as : List α} {bs : List β}, All2 (fun a b => R (f a) b) as bs → All2 R (as.map f) bs
  | _, _, .nil => .nil
  | _, _, .cons h r => .cons h r.map_left
noncomputable def rvOk : RV → Prop
  | .n _ => True
  | .s q => ∀ c ∈ q, c < 128
theorem strOk_tx {q : List Nat} (h : ∀ c ∈ q, c < 128) : PyData.strOk (tx q) = true := by
  unfold PyData.strOk tx
  simp only [List.all_toArray, List.all_eq_true, decide_eq_true_eq]
  exact fun c hc => Nat.lt_trans (h c hc) (by decide)
theorem canLay_rv : ∀ {rs : List RV}, (∀ r ∈ rs, rvOk r) → PyData.canLayAll0 (rs.map rvD) = true
  | [], _ => rfl
  | .n i :: rs, h => by
    show (true && PyData.canLayAll0 (rs.map rvD)) = true
    rw [canLay_rv fun r hr => h r (.tail _ hr)]; rfl
  | .s q :: rs, h => by
    show (PyData.strOk (tx q) && PyData.canLayAll0 (rs.map rvD)) = true
    rw [canLay_rv fun r hr => h r (.tail _ hr), strOk_tx (h _ (.head _))]; rfl
theorem depth_rv : ∀ rs : List RV, PyData.depthAll (rs.map rvD) = 0
  | [] => rfl
  | .n i :: rs => by
    show max 0 (PyData.depthAll (rs.map rvD)) = 0
    rw [depth_rv rs]; rfl
  | .s q :: rs => by
    show max 0 (PyData.depthAll (rs.map rvD)) = 0
    rw [depth_rv rs]; rfl
theorem cv_small {x : List Nat} (h : ∀ c ∈ x, c < 128) : ∀ r ∈ cvL x, rvOk r := by
  intro r hr
  obtain ⟨d, hd, hr⟩ := List.mem_flatMap.mp hr
  have hm := (cuts_mem hd).2
  unfold cvOf at hr
  split at hr
  · split at hr
    · simp only [List.mem_cons, List.not_mem_nil, or_false] at hr
      rcases hr with rfl | rfl <;> trivial
    · simp only [List.mem_cons, List.not_mem_nil, or_false] at hr
      rcases hr with rfl | rfl
      · trivial
      · exact fun c hc => h c (hm c hc)
  · exact nomatch hr
theorem told_shaped : ∀ {xs : List (List Nat)}, (∀ x ∈ xs, ∀ c ∈ x, c < 128) → PyData.canLayAll0 (xs.map fun x => .list ((cvL x).map rvD)) = true ∧ PyData.depthAll (xs.map fun x => .list ((cvL x).map rvD)) ≤ 1
  | [], _ => ⟨rfl, Nat.zero_le _⟩
  | x :: xs, h => by
    obtain ⟨h1, h2⟩ := told_shaped fun y hy => h y (.tail _ hy)
    refine ⟨?_, ?_⟩
    · show (PyData.canLayAll0 ((cvL x).map rvD) && _) = true
      rw [canLay_rv (cv_small (h x (.head _))), h1]; rfl
    · show max (PyData.depthAll ((cvL x).map rvD) + 1) _ ≤ 1
      rw [depth_rv]
      exact Nat.max_le.mpr ⟨Nat.le_refl _, h2⟩
section
variable {prog : Program} {w : World} {A : Around} {E : Value → Shared → Prop} {s : Shared} {Q : Value → Shared → Prop}
theorem eq_same {a b : Value} {d : PyData} {as bs : List Addr} (ra : Reads s.heap a d as) (rb : Reads s.heap b d bs) (hd : SeqAt.shaped d = true) (hu : A.units + 64 < cLine) (h : Q (.bool true) s) : wpAny (model prog w) A (compareOp .Eq a b) Q E s :=
  eq_dataH ra rb hd hd hu (by rw [SeqAt.eqv_refl d (SeqAt.canLay_of_shaped hd)]; exact h)
/-- what _comparable_version has told is what is due -/
theorem told_due {l : List Nat} {D D' a1 a2 a3 a4 k0 k1 k4 : Nat} {ys ye yo : List Value} {v1 v4 : Array Value} {nw : List (Addr × Obj)} (ok : RightOk l) (hu : A.units + 64 < cLine)
    (hN : ∀ p ∈ nw, s.heap.get? p.1 = some p.2) (hT : All2 (fun x v => ∃ a vs k, v = Value.ref a ∧ (a, lstK vs k) ∈ nw ∧ All2 IsRV (cvL x) vs.toList) [l, escL l, unesc l, quoL l] ys)
    (gD : s.heap.get? D = some (LCg.lst ys)) (gD' : s.heap.get? D' = some (lstK #[.ref a1, .ref a2, .ref a3, .ref a4] k0)) (g1 : s.heap.get? a1 = some (lstK v1 k1)) (g2 : s.heap.get? a2 = some (LCg.lst ye)) (g3 : s.heap.get? a3 = some (LCg.lst yo)) (g4 : s.heap.get? a4 = some (lstK v4 k4))
    (h1 : All2 IsRV (rkL l) v1.toList) (h2 : All2 (fun r y => IsRV (RV.map escL r) y) (rkL l) ye) (h3 : All2 (fun r y => IsRV (RV.map (openK 0) r) y) (rkL l) yo) (h4 : All2 IsRV (rkL (attL l)) v4.toList) (h : Q (.bool true) s) :
    wpAny (model prog w) A (compareOp .Eq (.ref D) (.ref D')) Q E s := by
  obtain ⟨as, hr⟩ := told_reads hN hT
  have hsm : ∀ x ∈ [l, escL l, unesc l, quoL l], ∀ c ∈ x, c < 128 := by
    intro x hx
    simp only [List.mem_cons, List.not_mem_nil, or_false] at hx
    rcases hx with rfl | rfl | rfl | rfl
    · exact ok.small
    · exact ok.smallE
    · exact ok.smallU
    · exact ok.smallQ
  have hsh := told_shaped hsm
  refine eq_same (bs := D' :: ([a1] ++ ([a2] ++ ([a3] ++ ([a4] ++ []))))) (Reads.list gD rfl rfl (by simpa using hr)) (Reads.list gD' rfl rfl ?_) ?_ hu h
  · show ReadsAll _ [Value.ref a1, Value.ref a2, Value.ref a3, Value.ref a4] [.list ((cvL l).map rvD), .list ((cvL (escL l)).map rvD), .list ((cvL (unesc l)).map rvD), .list ((cvL (quoL l)).map rvD)] _
    rw [ok.cv1, ok.cv2, ok.cv3, ok.cv4]
    exact .cons (list_reads g1 h1) (.cons (list_reads g2 h2.map_left) (.cons (list_reads g3 h3.map_left) (.cons (list_reads g4 h4) .nil)))
  · unfold SeqAt.shaped
    rw [Bool.and_eq_true]
    refine ⟨hsh.1, decide_eq_true ?_⟩
    exact Nat.succ_le_succ (Nat.le_trans hsh.2 (by decide))
/-- the three texts -/
theorem three_texts {l : List Nat} {a b k1 k2 : Nat} {t1 t2 t3 u1 u2 u3 : Tok} (ok : RightOk l) (hu : A.units + 64 < cLine) (ga : s.heap.get? a = some (lstK #[.str (tx (escL l)) t1, .str (tx (unesc l)) t2, .str (tx (quoL l)) t3] k1))
    (gb : s.heap.get? b = some (lstK #[.str (tx (escL l)) u1, .str (tx (openK 0 l)) u2, .str (tx (attL l)) u3] k2)) (h : Q (.bool true) s) : wpAny (model prog w) A (compareOp .Eq (.ref a) (.ref b)) Q E s := by
  refine eq_same (d := .list [.str (tx (escL l)), .str (tx (unesc l)), .str (tx (quoL l))]) (as := [a] ++ ([] ++ ([] ++ ([] ++ [])))) (bs := [b] ++ ([] ++ ([] ++ ([] ++ [])))) (Reads.list ga rfl rfl (.cons (.str _ _) (.cons (.str _ _) (.cons (.str _ _) .nil)))) (Reads.list gb rfl rfl ?_) ?_ hu h
  · rw [ok.un, ok.qu]
    exact .cons (.str _ _) (.cons (.str _ _) (.cons (.str _ _) .nil))
  · show ((PyData.strOk (tx (escL l)) && (PyData.strOk (tx (unesc l)) && (PyData.strOk (tx (quoL l)) && true))) && _) = true
    rw [strOk_tx ok.smallE, strOk_tx ok.smallU, strOk_tx ok.smallQ]
    rfl
end
end Mine
end
theorem Mine.topOffRg : True := by
  w_top off
  trivial

section
open PySem PySem.W PySem.W.X PyProof.Rows PySem.Calls
set_option maxRecDepth 100000
set_option maxHeartbeats 8000000
namespace Mine
local macro_rules | `(tactic| walk_at "execs cons") => `(tactic| (k_here; (with_reducible refine gen_toks ?_); intro tk htk))
local macro_rules | `(tactic| walk_at "execs nil") => `(tactic| (k_here; (with_reducible refine gen_toks ?_); intro tk htk))
local macro_rules | `(tactic| walk_at "call ref") => `(tactic| (k_here; k_dflt (refine' TellsW.useStr ?C ?B ?F ?X ?N ?T ?hk ?hdp ?hun ?_; (case B | F | X | N | T => k_asm); (case C => first | exact latt _ _ _ _ _ _ _ (by omega) | exact lop _ _ _ _ _ _ _ (by omega) | exact lesc _ _ _ _ _ _ _ (by omega)); (case hk => exact rfl); (case hdp | hun => (dsimp only [ktrTop]; omega))); intro t' h' tk' F' N'))
local macro_rules | `(tactic| walk_at "call ref") => `(tactic| (k_here; k_dflt (refine' Tells.useStr ?C ?B ?F ?X ?N ?T ?hk ?hdp ?hun ?_; (case B | F | X | N | T => k_asm); (case C => first | exact quo _ _ _ _ _ _ _ (by omega) | exact une _ _ _ _ _ _ _ (by omega) | exact esc1 _ _ _ _ _ _ _ (by omega)); (case hk => exact rfl); (case hdp | hun => (dsimp only [ktrTop]; omega))); intro t' h' tk' htk F' N'))
local macro_rules | `(tactic| walk_at "call ref") => `(tactic| (k_here; k_dflt (refine' TellsW.useRa ?C ?B ?F ?X ?N ?T ?hk ?hdp ?hun ?_; (case B | F | X | N | T => k_asm); (case C => exact lra _ _ _ _ _ _ _ (by omega)); (case hk => exact rfl); (case hdp | hun => (dsimp only [ktrTop]; omega))); intro a' vs' k' h' tk' F' N' hA' hz' lt'))
local macro_rules | `(tactic| walk_at "binaryOp Add ref ref") => `(tactic| (k_here; (refine add_two (by k_asm) (by k_asm) (by k_mem) (by k_mem) ?z ?_); (case z => ((simp only [List.length_append, List.length_cons, List.length_nil]); omega)); intro D' h' F' N' l1; (try k_lt l1); (try k_sweep)))
local macro_rules | `(tactic| walk_at "compareOp Eq ref ref") => `(tactic| (k_here; (refine stop_here ?_)))
local macro_rules | `(tactic| walk_at "eval ListComp") => `(tactic| (k_here; (refine stop_here ?_)))
theorem lri : ∀ (w : World) (mean : ExcName → Option Value) (mg mb : PySem.Str → Option Value) (news : List (Addr × Obj)) (l : List Nat) (t : Tok), RightOk l → TellsG w mean mg mb 103 11 news [.str (tx l) t] (fun r own => r = .bool true ∧ own = []) := by
  unfold TellsG
  k_fill
  intro w mean mg mb news l t ok dp un gd cn cs a ccd cl outer A₀ base h₀ L m s Q G XB TB F N hk hdp hun hret
  have hlen := ok.len
  have hlenE := ok.lenE
  have hlenU := ok.lenU
  have hlenQ := ok.lenQ
  have hlenA := ok.lenA
  (refine wpC_call ?_; (refine' code_defG ?kG ?kXB ?kTB ?k2 ?k4 ?kA ?kF ?kK ?k6 ?k7 ?k8 ?k9 ?kB ?_ ?c2 ?c3 ?c4 ?c5; (case kA | kF => exact rfl); (case kK | kG | kXB | kTB | k2 | k4 => assumption); (case k6 | k7 => k_is); (case k8 => ((simp only [depth_deeper, recursionLimit] at *); omega)); (case k9 => first | exact BindsTo.of_eq rfl | exact binds_K (by k_in) rfl (by k_is) rfl rfl rfl); (case c5 => decide); (case kB => exact locs rfl); (case c2 | c3 | c4 => exact rfl)))
  intro g L' h₁ F₁ N₁ G₁
  dsimp only
  have B₁ := G₁.below
  have X₁ := G₁.kin
  have T₁ := G₁.top
  clear F N
  refine wpC_execs_step ?_
  k_steps
  dsimp only
  rename Fr _ _ _ _ => F9
  rename All2 IsRV (rkL l) _ => hRk
  refine wpC_execs_cons ?_
  refine wpC_Assign_ListComp (Gd := Gnd w mean mg mb (ktrTop dp un gd cn cs L a ccd cl outer) base (envX cn cs L a ccd cl :: outer) g) F9 rfl (by with_unfolding_all rfl) (by with_unfolding_all rfl) (by decide) rfl (by decide) rfl rfl rfl ?src (fun _ => rfl)
  case src =>
    k_steps
    rename Fr _ _ _ _ => F8
    rename News _ _ _ _ => N8
    refine CSrcC.intro (k := 0) (TJ [l, escL l, unesc l, quoL l] _) rfl G₁ F8 N8 (fun p hp => hp) (by have := sizeLine_eq; show 4 ≤ _; omega) ⟨.nil, fun p hp => hp⟩ ?turn ?fin
    case turn =>
      clear B₁ X₁ T₁
      rintro i v ys g₂ nw I oI C oC D m₂ h₂ tk₂ hv G₂ hJ hC hx2 F₂ N₂ off ne
      refine wpC_tests_nil ?_
      simp only [if_true]
      obtain ⟨x, tv, hxi, rfl⟩ := four_get hv
      have hxo : x.length ≤ 640 ∧ ∀ c ∈ x, c < 128 := by
        have hm := List.mem_of_getElem? hxi
        simp only [List.mem_cons, List.not_mem_nil, or_false] at hm
        rcases hm with rfl | rfl | rfl | rfl
        · exact ⟨by omega, ok.small⟩
        · exact ⟨hlenE, ok.smallE⟩
        · exact ⟨hlenU, ok.smallU⟩
        · exact ⟨hlenQ, ok.smallQ⟩
      have B₂ := G₂.below
      have X₂ := G₂.kin
      have T₂ := G₂.top
      refine wpC_Call ?_
      (try dsimp only)
      k_fold
      k_steps
      have ho := F₂.keep _ _ (X₂ 44 _ rfl)
      refine wpC_callWith_K ho rfl ?_
      k_steps
      refine (lcv _ _ _ _ _ _ _ hxo.1 hxo.2).useCv G₂.refl XB TB F₂ N₂ rfl ?hd1 ?hu1 ?_
      case hd1 => (dsimp only [ktrTop]; omega)
      case hu1 => (dsimp only [ktrTop]; omega)
      intro g₃ a₃ vs₃ k₃ h₃ tk₃ G₃ F₃ N₃ hr₃ lt₃
      refine CEndC.intro ((a₃, lstK vs₃ k₃) :: nw) (G₂.trans G₃) F₃ N₃ (fun p hp => ?_) (LCg.Off3.of fun p hp => ?_) (hJ.add hxi hr₃)
      · simp only [List.mem_cons] at hp ⊢
        rcases hp with h | h | h | h | h | h <;> simp [h]
      · rcases List.mem_cons.mp hp with rfl | hp
        · exact off.mem _ (.head _)
        · rcases List.mem_cons.mp hp with rfl | hp
          · exact ⟨Nat.ne_of_gt (lt₃ (I, oI) (.head _)), Nat.ne_of_gt (lt₃ (C, oC) (.tail _ (.head _))), Nat.ne_of_gt (lt₃ (D, _) (.tail _ (.tail _ (.head _))))⟩
          · exact off.mem _ (.tail _ hp)
    case fin =>
      rintro g₂ h₂ tk₂ D ys nw G₂ F₂ N₂ off ⟨hT, hsub⟩
      clear F8 N8 B₁ X₁ T₁ G₁
      (try dsimp only at *)
      have B₂ := G₂.below
      have X₂ := G₂.kin
      have T₂ := G₂.top
      refine wpC_execs_step ?_
      k_steps
      unfold Stop
      rename Fr _ _ _ _ => F9
      refine LCg.ListComp_U (F₀ := F9) (by with_unfolding_all rfl) (by decide) rfl (by decide) rfl ?src2 (fun _ => rfl)
      case src2 =>
        k_steps
        rename News _ _ _ _ => N9
        refine LCg.CompSrc.ledger rfl (by k_asm) N9 (hsub _ (.head _) |> .tail _ |> .tail _) (by have := sizeLine_eq; omega) (fun g9 => ?_)
        refine rest_rel (as := rkL l) IsRV (fun r y => IsRV (RV.map escL r) y) (by rw [← Array.length_toList]; exact hRk.length) (fun i v hv => hRk.get (by simpa using hv)) ?turn2 (.inr ⟨_, hsub _ (.head _) |> .tail _ |> .tail _, rfl, _, rfl⟩) ?fin2
        case turn2 =>
          clear N9 off hret hT G
          rintro r v I oI C oC D' m₃ ys' h₃ tk₃ E' hr hsrc hC hx3 F₃ N₃ off ne hS
          cases r with
          | n i =>
            obtain ⟨ti, rfl⟩ := hsrc
            (try dsimp only)
            k_fold
            k_steps
            exact LCg.CompEnd.intro (by k_asm) (by k_asm) _ (fun p hp => hp) off hS (ElIs.intro ⟨_, rfl⟩)
          | s q =>
            obtain ⟨ti, rfl⟩ := hsrc
            have hql := rk_len hr
            (try dsimp only)
            (try k_fold)
            k_steps
            exact LCg.CompEnd.intro (by k_asm) (by k_asm) _ (fun p hp => hp) off hS (ElIs.intro ⟨_, rfl⟩)
        case fin2 =>
          clear N9 F9
          intro ye hye
          intro De h₃ tk₃ F₃ N₃ oe
          (try dsimp only)
          (try k_fold)
          k_steps
          refine wpC_of ?_
          k_steps
          unfold Stop
          rename Fr _ _ _ _ => F9
          refine LCg.ListComp_U (F₀ := F9) (by with_unfolding_all rfl) (by decide) rfl (by decide) rfl ?src3 (fun _ => rfl)
          case src3 =>
            k_steps
            rename News _ _ _ _ => N9
            refine LCg.CompSrc.ledger rfl (by k_asm) N9 (hsub _ (.head _) |> .tail _ |> .tail _ |> .tail _ |> .tail _) (by have := sizeLine_eq; omega) (fun g9 => ?_)
            refine rest_rel (as := rkL l) IsRV (fun r y => IsRV (RV.map (openK 0) r) y) (by rw [← Array.length_toList]; exact hRk.length) (fun i v hv => hRk.get (by simpa using hv)) ?turn3 (.inr ⟨_, hsub _ (.head _) |> .tail _ |> .tail _ |> .tail _ |> .tail _, rfl, _, rfl⟩) ?fin3
            case turn3 =>
              clear N9 hret hT G
              rintro r v I oI C oC D' m₃ ys' h₃ tk₃ E' hr hsrc hC hx3 F₃ N₃ off ne hS
              cases r with
              | n i =>
                obtain ⟨ti, rfl⟩ := hsrc
                (try dsimp only)
                k_fold
                k_steps
                exact LCg.CompEnd.intro (by k_asm) (by k_asm) _ (fun p hp => hp) off hS (ElIs.intro ⟨_, rfl⟩)
              | s q =>
                obtain ⟨ti, rfl⟩ := hsrc
                have hql := rk_len hr
                (try dsimp only)
                (try k_fold)
                k_steps
                exact LCg.CompEnd.intro (by k_asm) (by k_asm) _ (fun p hp => hp) off hS (ElIs.intro ⟨_, rfl⟩)
            case fin3 =>
              clear N9
              intro yo hyo
              intro Do h₄ tk₄ F₄ N₄ oo
              (try dsimp only)
              (try k_fold)
              k_steps
              unfold Stop
              rename All2 IsRV (rkL (attL l)) _ => hRa
              rename News _ _ _ _ => N₅
              have hu : ((ktrTop dp un gd cn cs L a ccd cl outer).deeper (envOf (Str.ofString "_law_right") default L' 103 (Value.ref 102))).units + 64 < cLine := by
                have e9 : cLine = 9900 := rfl
                rw [e9]
                dsimp only [ktrTop, Around.deeper]
                omega
              refine told_due ok hu (fun p hp => (N₅ p (.tail _ (.tail _ (.tail _ (.tail _ (.tail _ (.tail _ (.tail _ (.tail _ hp))))))))).1) hT (N₅ _ (.tail _ (.tail _ (.tail _ (.tail _ (.tail _ (.tail _ (.head _)))))))).1 (N₅ _ (.head _)).1
                (N₅ _ (.tail _ (.tail _ (.tail _ (.tail _ (.tail _ (.tail _ (.tail _ (.tail _ (hsub _ (.head _))))))))))).1 (N₅ _ (.tail _ (.tail _ (.tail _ (.tail _ (.tail _ (.head _))))))).1 (N₅ _ (.tail _ (.tail _ (.tail _ (.head _))))).1 (N₅ _ (.tail _ (.tail _ (.head _)))).1 hRk hye hyo hRa ?_
              k_steps
              unfold Stop
              rename Fr _ _ _ _ => F₆
              rename News _ _ _ _ => N₆
              refine three_texts ok hu (N₆ _ (.tail _ (.head _))).1 (N₆ _ (.head _)).1 ?_
              refine LeaveG.intro G₂ F₆ N₆ fun h₀' G' F' N' => hret h₀' _ [] _ _ ⟨rfl, rfl⟩ (fun _ h => nomatch h) G' F' (news_sub N' fun p hp => ?_)
              exact .tail _ (.tail _ (.tail _ (.tail _ (.tail _ (.tail _ (.tail _ (.tail _ (.tail _ (.tail _ (hsub _ (.tail _ hp)))))))))))
end Mine
end
theorem Mine.topOffE12 : True := by
  w_top off
  trivial

section
open PySem PySem.W PySem.W.X PyProof.Rows PySem.Calls
set_option maxRecDepth 100000
namespace Mine
section
variable {M : Model} {A : Around} {E : Value → Shared → Prop} {s : Shared} {env : Env}
theorem wpC_Return_some {e : Expr} {pos : Pos} {Q : Flow → Shared → Prop} (h : wpC M A (eval e env) (fun v => Q (.ret v)) E s) : wpC M A (exec (.Return (some e) pos) env) Q E s := by
  rw [exec_Return_some]
  exact wpC_step (wpAny_standAt (wpC_bind (wpC_mono h (fun _ _ hv => wpC_pure hv) fun _ _ x => x)))
theorem wpC_Compare1 {l r : Expr} {op : CmpOp} {pos : Pos} {Q : Value → Shared → Prop} (h : wpC M A (eval l env) (fun a s₁ => wpAny M A (eval r env) (fun b s₂ => wpAny M A (compareOp op a b) Q E s₂) E s₁) E s)
    (hm : behindInMarks op r = false := by with_unfolding_all rfl) : wpC M A (eval (.Compare l [op] [r] pos) env) Q E s := by
  rw [eval_Compare1]
  refine wpC_bind (wpC_mono h (fun a s₁ h₁ => wpC_of ?_) fun _ _ x => x)
  rw [markedBehindIn_of_false hm]
  intro Γ p hΓ
  simp only [Sem.wp_bind', Sem.wp_holding, Sem.wp_cmd_standAt, Sem.wp_operate]
  exact Sem.wp_mono M Γ _ (fun b _ s₂ h₂ => h₂ Γ _ hΓ) (fun _ _ _ h' => h') _ _ (h₁ Γ p hΓ)
theorem wpC_isTrue_Not {x : Expr} {pos : Pos} {whole : Sem Value} {Q : Bool → Shared → Prop} (h : wpC M A (isTrue x env (eval x env)) (fun b s₁ => Q (!b) s₁) E s) :
    wpC M A (isTrue (.UnaryOp .Not x pos) env whole) Q E s := by
  rw [arm_isTrue_UnaryOp]
  exact wpC_bind (wpC_mono h (fun b s₁ h₁ => wpC_pure h₁) fun _ _ x => x)
theorem wpC_isTrue_plain {e : Expr} {whole : Sem Value} {Q : Bool → Shared → Prop} (h : wpC M A whole (fun v s₁ => wpAny M A (truthy v) Q E s₁) E s)
    (he : isTrue e env whole = (do let v ← whole; standAt e.pos; holding [v] (truthy v)) := by rfl) : wpC M A (isTrue e env whole) Q E s := by
  rw [he]
  exact wpC_bind (wpC_mono h (fun v s₁ h₁ => wpC_of (wpAny_bind (wpAny_standAt (wpAny_holding h₁)))) fun _ _ x => x)
end
end Mine
end
theorem Mine.topOffWq : True := by
  w_top off
  trivial

section
open PySem PySem.W PySem.W.X PyProof.Rows PySem.Calls
set_option maxRecDepth 100000
set_option maxHeartbeats 8000000
namespace Mine
theorem good_true {c : ClaimW} {cl : PySem.Str → Option Addr} {mean : ExcName → Option Value} {args : List WData} {s₁ : Shared} {h' : Heap} {tk : Nat} (hr : ∀ cls, c.raises args cls = false) (hp : c.post args (.bool true) args = true)
    (keep : ∀ b o, s₁.heap.get? b = some o → h'.get? b = some o) (hg : s₁.gens = #[]) : GoodWG c cl mean args s₁ (.ok (.ret (.bool true))) { s₁ with heap := h', toks := tk } :=
  ⟨.inl ⟨.bool true, .bool true, [], rfl, hr, .bool _, hp, fun _ => ⟨List.nodup_nil, fun _ h => nomatch h⟩⟩, .of_keep keep, rfl, .of_eq hg⟩
section
variable {prog : Program} {w : World} {A : Around} {s : Shared}
theorem call_cellsC {R : Result → Shared → Prop} {name : PySem.Str} {params : Arguments} {body : List Stmt} {scope : Scope} {dV kV pm cd doc : Value} {a : Addr} {o : Obj} {args : List Value} {binds : List (PySem.Str × Value)}
    (hroom : A.depth < recursionLimit) (ho : s.heap.get? a = some o) (hdata : o.data = .func { docDef name params body scope pm cd doc with defaults := dV, kwdefaults := kV }) (hlim : s.heap.NoLimit) (hcd : s.heap.CodeRec cd name)
    (hbind : BindsTo s { docDef name params body scope pm cd doc with defaults := dV, kwdefaults := kV } ⟨args, []⟩ binds)
    (hkind : ∀ x ∈ binds, scope.names.lookup x.1 = some .local ∨ (scope.names.lookup x.1 = some .cell ∧ ((cellsFrom (s.heap.objs.size + 1) scope.names []).lookup x.1).isSome = true))
    (hnd : ((cellsFrom 0 scope.names []).map (·.1)).Nodup)
    (h : ∀ h₁ tk cells, Fr s.heap s.heap.objs.size h₁ (bindL (envOfC name scope s.heap.objs.size a cd).kindOf binds fun _ => none) → News s.heap s.heap.objs.size h₁ cells →
      CellsAre (bindC (envOfC name scope s.heap.objs.size a cd).kindOf binds fun _ => none) (cellsFrom (s.heap.objs.size + 1) scope.names []) cells →
      wpC (model prog w) (A.deeper (envOfC name scope s.heap.objs.size a cd)) (execs body (envOfC name scope s.heap.objs.size a cd))
        (fun f s' => R (.ok (.ret (match f with | .ret v => v | _ => .none))) s') (fun _ _ => False) { s with heap := h₁, toks := tk })
    (hco : scope.isCoroutine = false) (hgen : scope.isGenerator = false) (hk : scope.kind = .function) :
    codeC (model prog w) A (.call (.ref a) ⟨args, []⟩) R s := by
  refine codeC_function hroom ho hdata hco hgen rfl hcd (hbind _ _ _ _ ?_)
  refine wpAny_newFunctionEnv_cells hk hkind fun env he s' x => ?_
  subst he
  refine ⟨hlim.keeps x.toInCall.keep, codeC_func ?_⟩
  obtain ⟨h₁, tk, rfl, _⟩ := x.done
  obtain ⟨cells, NC, Y⟩ := Cl.news (h₀ := s.heap) (Nat.le_refl _) fun n c hm => ⟨x.cell n c (lookup_of_mem_nodup (cellsFrom_names scope.names 0 (s.heap.objs.size + 1) [] [] rfl ▸ hnd) hm), x.above n c hm⟩
  exact wpC_mono (h h₁ tk cells ⟨x.toInCall.ns, x.toInCall.keep, x.toInCall.fresh⟩ NC Y) (fun _ _ z => z) fun _ _ z => z.elim
end
local macro_rules | `(tactic| walk_at "eval ListComp") => `(tactic| (k_here; (refine stop_here ?_)))
noncomputable def piecesL : List (List Nat) := [[48], [55], [49, 50], [46], [95], [43], [45], [97], [114, 99], [112, 108], [38], [60], [62], [34], [39], [10], [38, 108, 116, 59], [38, 97, 109, 112, 59], [38, 103, 116, 59], [108, 116, 59], [103, 116, 59]]
noncomputable def pieceOf (n : Int) : List Nat := piecesL.getD (n.fmod 21).toNat []
theorem piece_of (n : Int) {t0 t1 t2 t3 t4 t5 t6 t7 t8 t9 t10 t11 t12 t13 t14 t15 t16 t17 t18 t19 t20 : Tok} : ∃ t, ([.str (Str.ofString "0") t0, .str (Str.ofString "7") t1, .str (Str.ofString "12") t2, .str (Str.ofString ".") t3, .str (Str.ofString "_") t4, .str (Str.ofString "+") t5, .str (Str.ofString "-") t6, .str (Str.ofString "a") t7, .str (Str.ofString "rc") t8, .str (Str.ofString "pl") t9, .str (Str.ofString "&") t10, .str (Str.ofString "<") t11, .str (Str.ofString ">") t12, .str (Str.ofString "\"") t13, .str (Str.ofString "'") t14, .str (Str.ofString "\n") t15, .str (Str.ofString "&lt;") t16, .str (Str.ofString "&amp;") t17, .str (Str.ofString "&gt;") t18, .str (Str.ofString "lt;") t19, .str (Str.ofString "gt;") t20] : List Value)[(n.fmod 21).toNat]? = some (.str (tx (pieceOf n)) t) := by
  have h1 : 0 ≤ n.fmod 21 := Int.fmod_nonneg_of_pos n (by decide)
  have h2 : n.fmod 21 < 21 := Int.fmod_lt_of_pos n (by decide)
  unfold pieceOf
  generalize hk : (n.fmod 21).toNat = k
  have h3 : k < 21 := by omega
  match k, h3 with
  | 0, _ => exact ⟨t0, by with_unfolding_all rfl⟩
  | 1, _ => exact ⟨t1, by with_unfolding_all rfl⟩
  | 2, _ => exact ⟨t2, by with_unfolding_all rfl⟩
  | 3, _ => exact ⟨t3, by with_unfolding_all rfl⟩
  | 4, _ => exact ⟨t4, by with_unfolding_all rfl⟩
  | 5, _ => exact ⟨t5, by with_unfolding_all rfl⟩
  | 6, _ => exact ⟨t6, by with_unfolding_all rfl⟩
  | 7, _ => exact ⟨t7, by with_unfolding_all rfl⟩
  | 8, _ => exact ⟨t8, by with_unfolding_all rfl⟩
  | 9, _ => exact ⟨t9, by with_unfolding_all rfl⟩
  | 10, _ => exact ⟨t10, by with_unfolding_all rfl⟩
  | 11, _ => exact ⟨t11, by with_unfolding_all rfl⟩
  | 12, _ => exact ⟨t12, by with_unfolding_all rfl⟩
  | 13, _ => exact ⟨t13, by with_unfolding_all rfl⟩
  | 14, _ => exact ⟨t14, by with_unfolding_all rfl⟩
  | 15, _ => exact ⟨t15, by with_unfolding_all rfl⟩
  | 16, _ => exact ⟨t16, by with_unfolding_all rfl⟩
  | 17, _ => exact ⟨t17, by with_unfolding_all rfl⟩
  | 18, _ => exact ⟨t18, by with_unfolding_all rfl⟩
  | 19, _ => exact ⟨t19, by with_unfolding_all rfl⟩
  | 20, _ => exact ⟨t20, by with_unfolding_all rfl⟩
  | k + 21, h => exact absurd h (by omega)
theorem forgetP {h₀ h : Heap} {L l : Addr} {rest : List (Addr × Obj)} {t0 t1 t2 t3 t4 t5 t6 t7 t8 t9 t10 t11 t12 t13 t14 t15 t16 t17 t18 t19 t20 : Tok} (N : News h₀ L h ((l, W.listOf #[.str (Str.ofString "0") t0, .str (Str.ofString "7") t1, .str (Str.ofString "12") t2, .str (Str.ofString ".") t3, .str (Str.ofString "_") t4, .str (Str.ofString "+") t5, .str (Str.ofString "-") t6, .str (Str.ofString "a") t7, .str (Str.ofString "rc") t8, .str (Str.ofString "pl") t9, .str (Str.ofString "&") t10, .str (Str.ofString "<") t11, .str (Str.ofString ">") t12, .str (Str.ofString "\"") t13, .str (Str.ofString "'") t14, .str (Str.ofString "\n") t15, .str (Str.ofString "&lt;") t16, .str (Str.ofString "&amp;") t17, .str (Str.ofString "&gt;") t18, .str (Str.ofString "lt;") t19, .str (Str.ofString "gt;") t20] 0) :: rest)) :
    ∃ ps : List Value, ps.length = 21 ∧ (∀ n : Int, ∃ t, ps[(n.fmod 21).toNat]? = some (.str (tx (pieceOf n)) t)) ∧ News h₀ L h ((l, lstK ps.toArray 0) :: rest) :=
  ⟨[.str (Str.ofString "0") t0, .str (Str.ofString "7") t1, .str (Str.ofString "12") t2, .str (Str.ofString ".") t3, .str (Str.ofString "_") t4, .str (Str.ofString "+") t5, .str (Str.ofString "-") t6, .str (Str.ofString "a") t7, .str (Str.ofString "rc") t8, .str (Str.ofString "pl") t9, .str (Str.ofString "&") t10, .str (Str.ofString "<") t11, .str (Str.ofString ">") t12, .str (Str.ofString "\"") t13, .str (Str.ofString "'") t14, .str (Str.ofString "\n") t15, .str (Str.ofString "&lt;") t16, .str (Str.ofString "&amp;") t17, .str (Str.ofString "&gt;") t18, .str (Str.ofString "lt;") t19, .str (Str.ofString "gt;") t20], rfl, fun n => piece_of n, N⟩
theorem dropSecond {h₀ h : Heap} {L : Addr} {a b : Addr × Obj} {rest : List (Addr × Obj)} (N : News h₀ L h (a :: b :: rest)) : News h₀ L h (a :: rest) := fun p hp => N p (by
  rcases List.mem_cons.mp hp with rfl | hp
  · exact .head _
  · exact .tail _ (.tail _ hp))
noncomputable def tailN : List Int := [1, 8, 2, 3, 7, 6, 11, 0, 16, 5, 9, 4, 13, 15, 17, 19, 12, 14, 18, 0, 17, 20, 10]
section
variable {prog : Program} {w : World} {A : Around} {E : Value → Shared → Prop} {s : Shared}
theorem item_piece {value slice : Expr} {l : Addr} {ps : List Value} {n : Int} {u : Tok} {Q : Value → Shared → Prop} (hl : s.heap.IsList l ps.toArray) (hps : ∀ n : Int, ∃ t, ps[(n.fmod 21).toNat]? = some (.str (tx (pieceOf n)) t)) (h : ∀ t, Q (.str (tx (pieceOf n)) t) s)
    (hs : subscripted slice false (.ref l) (.int (n.fmod 21) u) = operate [.ref l, .int (n.fmod 21) u] (getItem (.ref l) (.int (n.fmod 21) u)) := by with_unfolding_all rfl) : wpAny (model prog w) A (subscriptTail value slice (.ref l) (.int (n.fmod 21) u)) Q E s := by
  obtain ⟨t, e⟩ := hps n
  have h1 : 0 ≤ n.fmod 21 := Int.fmod_nonneg_of_pos n (by decide)
  have h2 : n.fmod 21 < 21 := Int.fmod_lt_of_pos n (by decide)
  exact item_litK hl h1 (by omega) e (h t) hs
end
theorem len_tx {prog : Program} {w : World} {A : Around} {E : Value → Shared → Prop} {s : Shared} {l : List Nat} {t : Tok} {Q : Value → Shared → Prop} (hl : l.length ≤ 1000) (h : Q (.int (l.length : Int) (s.toks + 1)) { s with toks := s.toks + 1 + 1 }) :
    wpAny (model prog w) A (call (.builtin "len") [.str (tx l) t]) Q E s := P.len_str (by rw [tx_length]; omega) (by rw [tx_length]; exact h)
theorem half_nonneg (n : Nat) {k : Int} (h : 0 ≤ k) : 0 ≤ ((n : Int) * k).fdiv 2 := Int.fdiv_nonneg (Int.mul_nonneg (Int.natCast_nonneg n) h) (by decide)
theorem fr_script {kindOf : PySem.Str → Option NameKind} {n : PySem.Str} {binds : List (PySem.Str × Value)} {m0 : PySem.Str → Option Value} {v : Value} {h₀ h : Heap} {L : Addr} (F : Fr h₀ L h (bindL kindOf binds m0)) (hb : binds = [(n, v)]) (hk : kindOf n = some .local) :
    Fr h₀ L h (fun y => if y = n then some v else m0 y) := by
  subst hb
  unfold bindL at F
  rw [if_pos hk] at F
  exact F
theorem nn_len (ns : List Int) : (ns.take 10 ++ tailN).length ≤ 33 := by
  rw [List.length_append, List.length_take]
  show min 10 ns.length + 23 ≤ 33
  omega
theorem size_ok {ws : List Value} {nn : List Int} (h : IntsAre ws nn) (hl : nn.length ≤ 33) : ws.toArray.size ≤ sizeLine := by
  rw [List.size_toArray, h.length]; have := sizeLine_eq; omega
theorem pieceOf_len (n : Int) : (pieceOf n).length ≤ 5 := by
  have h1 : 0 ≤ n.fmod 21 := Int.fmod_nonneg_of_pos n (by decide)
  have h2 : n.fmod 21 < 21 := Int.fmod_lt_of_pos n (by decide)
  unfold pieceOf
  generalize hk : (n.fmod 21).toNat = k
  have h3 : k < 21 := by omega
  have : ∀ k, k < 21 → (piecesL.getD k []).length ≤ 5 := by decide
  exact this k h3
local macro_rules | `(tactic| walk_at "subscriptTail Name BinOp ref int") => `(tactic| (k_here; (refine item_piece (by k_asm) (by assumption) ?_); intro tpi))
theorem fr_back {h₀ g h : Heap} {L : Addr} {m : PySem.Str → Option Value} (x : KtsTurn [] h₀ g) (F : Fr g L h m) : Fr h₀ L h m :=
  ⟨F.ns, fun b o e => F.keep b o (x.other b o e (fun z => nomatch z)), x.size ▸ F.above⟩
theorem none_back {h₀ g : Heap} (x : KtsTurn [] h₀ g) {b : Addr} (e : g.get? b = none) : h₀.get? b = none := by
  cases q : h₀.get? b with
  | none => rfl
  | some o => have := x.other b o q (fun z => nomatch z); rw [e] at this; cases this
theorem news_back {h₀ g h : Heap} {L : Addr} {news : List (Addr × Obj)} (x : KtsTurn [] h₀ g) (N : News g L h news) : News h₀ L h news :=
  fun p hp => ⟨(N p hp).1, (N p hp).2.1, none_back x (N p hp).2.2⟩
theorem sub_law {x c l1 l2 l3 l4 : Addr × Obj} : ∀ p ∈ x :: [c], p ∈ x :: ([l1, l2, l3] ++ [c, l4]) := by
  intro p hp
  rcases List.mem_cons.mp hp with rfl | hp
  · exact .head _
  obtain rfl := List.mem_singleton.mp hp
  exact .tail _ (.tail _ (.tail _ (.tail _ (.head _))))
theorem text_len {nn : List Int} (h : nn.length ≤ 33) : (nn.flatMap pieceOf).length ≤ 165 := by
  have : ∀ ms : List Int, (ms.flatMap pieceOf).length ≤ 5 * ms.length := by
    intro ms
    induction ms with
    | nil => exact Nat.le_refl _
    | cons a r ih =>
      have := pieceOf_len a
      simp only [List.flatMap_cons, List.length_append, List.length_cons]
      omega
  have := this nn
  omega
theorem two_get {i : Nat} {v : Value} {a b : Tok} (h : (#[.int 1 a, .int 2 b] : Array Value)[i]? = some v) : ∃ k t, v = .int k t ∧ 0 ≤ k ∧ k ≤ 2 := by
  match i, h with
  | 0, h => exact ⟨1, a, (Option.some.inj h).symm, by decide, by decide⟩
  | 1, h => exact ⟨2, b, (Option.some.inj h).symm, by decide, by decide⟩
  | i + 2, h => simp at h
theorem law_walk (okAll : ∀ (ns : List Int) (j : Nat), RightOk (((ns.take 10 ++ tailN).flatMap pieceOf).take j)) : ∀ _ : Unit, PySem.Challenge.rw_ik0022_01.Holds := by
  intro _
  refine top_C fun H d hH hdef => ?_
  obtain rfl : _ = d := congrArg Prod.fst (Option.some.inj (show some _ = some (d, []) from hdef))
  have _z : True ∨ (hd.heap_39 = hd.heap_39 ∧ PySem.Challenge.rw_ik0022_01 = PySem.Challenge.rw_ik0022_01) := by
    k_fill
    exact .inl trivial
  clear _z
  intro w s₀ s₁ mg mb G Y fa o pm cd doc dV kV ho hd' hcd hD hmg hg args vals as hpre hlay hrd hwl hlo
  have KX := hH _ _ Y
  have T := G.T
  clear hH hdef H Y G
  wrow_args hpre hlay hrd hwl hlo
  rename List Int => ns
  rename IntsAre _ ns => hI
  rename s₁.heap.IsList _ _ => hL
  rename ¬ (_ < _) => hlen
  have hpost : PySem.Challenge.rw_ik0022_01.row.claim.post [ofPy (PyData.list (List.map PyData.int ns))] (WData.bool true) [ofPy (PyData.list (List.map PyData.int ns))] = true := postW_of (by wrow_shape) (by wtm_val) (by str_meet; first | done | w_fin)
  have hgood : ∀ (h' : Heap) (tk : Nat), (∀ b o, s₁.heap.get? b = some o → h'.get? b = some o) → GoodWG PySem.Challenge.rw_ik0022_01.row.claim (classAt s₀.heap) (ExcName.means s₀.heap) [ofPy (PyData.list (List.map PyData.int ns))] s₁ (.ok (.ret (.bool true))) { s₁ with heap := h', toks := tk } :=
    fun h' tk keep => good_true (fun _ => rfl) hpost keep hg
  clear hpost hg
  repeat (rename (_ = true) => q; clear q)
  rename ReadsAllW _ _ _ _ _ _ => q1
  rename Well _ _ _ _ => q2
  rename Reads _ _ _ _ => q3
  rename ReadsAll _ _ _ _ => q4
  clear q1 q2 q3 q4
  refine ⟨hgood s₁.heap s₁.toks (fun _ _ e => e), ?_⟩
  have he := Dflts.none hD rfl
  subst he
  have he := Dflts.noKw hD
  subst he
  refine wpC_never (wpC_call (call_cellsC (by decide) ho hd' T.nolimit hcd (BindsTo.of_eq rfl) (kinds_of (by kinds_ok)) (by decide) (fun h₁ tk₁ cells F N0 X0 => ?_) rfl rfl rfl))
  cells_open X0
  have F1 := fr_script (n := Str.ofString "script") F (by with_unfolding_all rfl) (by with_unfolding_all rfl)
  clear F
  clear hcd hmg ho hd' hD
  (try k_fold)
  refine wpC_execs_step ?_
  k_steps
  (try dsimp only)
  rename News _ _ _ _ => N1
  obtain ⟨ps, hpsn, hps, N2⟩ := forgetP N1
  clear N1
  refine wpC_execs_step ?_
  k_steps
  (try dsimp only)
  rename News _ _ _ _ => N3
  have N4 := dropSecond (dropSecond N3)
  clear N3
  rename IntsAre _ (_ ++ _) => hNum
  change IntsAre _ (ns.take 10 ++ tailN) at hNum
  have hnl := nn_len ns
  have hsz := size_ok hNum hnl
  generalize hnn : ns.take 10 ++ tailN = nn at hNum hnl
  refine wpC_execs_step ?_
  k_steps
  unfold Stop
  rename Fr _ _ _ _ => F9
  refine LCg.ListComp_U (F₀ := F9) (by with_unfolding_all rfl) (by decide) rfl (by decide) rfl ?src1 (fun _ => rfl)
  case src1 =>
    walk1
    (try dsimp only)
    rename News _ _ _ _ => N9
    refine LCg.CompSrc.ledger rfl (by k_asm) N9 (by k_mem) ?sz (fun g9 => ?_)
    case sz => exact hsz
    refine rest_rel (as := nn) (fun n v => ∃ t, v = .int n t) (fun n y => ∃ t, y = .str (tx (pieceOf n)) t) ?len (fun i v hv => ?get) ?turn ?hS ?fin
    case len => rw [List.size_toArray]; exact hNum.length.symm
    case get =>
      obtain ⟨n, t, rfl, e⟩ := hNum.at i v (by simpa using hv)
      exact ⟨n, e, t, rfl⟩
    case hS => exact .inr ⟨_, .head _, rfl, _, rfl⟩
    case turn =>
      rintro n v I oI C oC D m₂ ys h tk E' hn ⟨t, rfl⟩ hC hx F₂ N₂ off ne hS
      (try dsimp only)
      (try k_fold)
      k_steps
      refine item_piece ⟨_, (N₂ _ (.tail _ (.tail _ (.tail _ (.tail _ (.head _)))))).1, rfl, _, rfl⟩ hps ?_
      intro tpi
      k_steps
      refine LCg.CompEnd.intro (by k_asm) (by k_asm) _ (fun p hp => hp) off hS ?_
      exact ElIs.intro (Exists.intro _ rfl)
    case fin =>
      clear N9 F9
      intro ye hye
      intro De h₃ tk₃ F₃ N₃ oe
      (try dsimp only)
      (try k_fold)
      k_steps
      refine join_call (g := pieceOf) (D := De) (as := nn) (N₃ _ (.head _) |> fun z => ⟨_, z.1, rfl, _, rfl⟩) hye (fun a _ => Nat.le_trans (pieceOf_len a) (by decide)) (by omega) ?_
      intro tj kj
      dsimp only
      k_steps
      rename Fr _ _ _ _ => Fx
      rename News _ _ _ _ => Nx
      rename _ = Data.cell (some (Value.str _ _)) => hcell
      rename Obj => oc
      have htl := text_len hnl
      generalize hTT : nn.flatMap pieceOf = TT at hcell htl
      refine wpC_execs_cons ?_
      refine wpC_Return_some (wpC_Compare1 ?_)
      refine wpC_ListComp (Gd := fun g => g = s₁.heap) Fx (by with_unfolding_all rfl) (by decide) rfl (by decide) rfl ?src4
      case src4 =>
        k_steps
        rename Fr _ _ _ _ => F8
        rename News _ _ _ _ => N8
        refine CSrcC.intro (k := 0) (g := s₁.heap) (news := [(s₁.heap.objs.size + 1 + 1, oc)]) (fun _ ys nw => ys = [] ∧ nw = [(s₁.heap.objs.size + 1 + 1, oc)]) rfl rfl F8 N8 sub_law ?sz4 ⟨rfl, rfl⟩ ?turn4 ?fin4
        case sz4 => have := sizeLine_eq; show 2 ≤ _; omega
        case turn4 =>
          clear F8 N8
          rintro i v ys g₂ nw I oI C oC D m₂ h₂ tk₂ hv rfl ⟨rfl, rfl⟩ hC hx2 F₂ N₂ off ne
          obtain ⟨k, tv, rfl, hk0, hk2⟩ := two_get hv
          refine wpC_tests_one (wpC_isTrue_Not (wpC_isTrue_plain (wpC_Call ?_)))
          (try dsimp only)
          (try k_fold)
          k_steps
          have ho := F₂.keep _ _ (KX 103 _ rfl)
          refine wpC_callWith_K ho rfl ?_
          k_steps
          refine len_tx (by omega) ?_
          (try dsimp only)
          k_steps
          (try dsimp only)
          refine sl_take (s := ⟨h₂, _, _, _, _⟩) F₂ N₂ (half_nonneg _ hk0) (line_le (by omega)) ?_
          intro h₄ t₄ k₄ F₄ N₄
          (try dsimp only)
          k_steps
          · exact F₄.keep _ _ (KX 103 _ rfl)
          have ok := okAll ns ((((TT.length : Int) * k).fdiv 2).toNat)
          rw [hnn, hTT] at ok
          refine lri w (ExcName.means s₀.heap) mg mb _ _ t₄ ok _ _ _ _ _ _ _ _ [] callerA s₁.heap s₁.heap s₁.heap.objs.size _ _ _ ⟨.refl, below_caller s₁.heap, KX, T, ktsDicts_nil⟩ KX T F₄ N₄ rfl (by decide) (by decide) ?_
          rintro g₅ r own h₅ tk₅ ⟨rfl, rfl⟩ hlt G₅ F₅ N₅
          (try dsimp only)
          have F₆ := fr_back G₅.turn F₅
          have N₆ := news_back G₅.turn N₅
          clear F₂ N₂ F₄ N₄ F₅ N₅ G₅
          k_steps
          (try simp only [Bool.not_true, Bool.false_eq_true, if_false])
          refine CEndC.intro [(s₁.heap.objs.size + 1 + 1, oc)] rfl F₆ N₆ (fun p hp => hp) off ⟨trivial, rfl⟩
        case fin4 =>
          clear F8 N8
          rintro g₅ h₅ tk₅ D ys nw rfl F₆ N₆ off ⟨rfl, rfl⟩
          (try dsimp only)
          (try k_fold)
          k_steps
          rename Fr _ _ _ _ => F9
          exact hgood _ _ F9.keep
end Mine
end
theorem Mine.topOffE13 : True := by
  w_top off
  trivial

section
open PySem PySem.W PySem.W.X PyProof.Rows PySem.Calls
set_option maxRecDepth 100000
namespace Mine
/-! blocks -/
theorem kd_fast (c : Nat) : kd c = if 48 ≤ c ∧ c ≤ 57 then 1 else if c = 46 ∨ c = 95 ∨ c = 43 ∨ c = 45 then 2 else 3 := by
  unfold kd
  simp only [List.mem_cons, List.not_mem_nil, or_false]
  by_cases h1 : 48 ≤ c ∧ c ≤ 57
  · rw [if_pos (by omega), if_pos h1]
  · rw [if_neg (by omega), if_neg h1]
theorem dig_kd (c : Nat) : dig c = decide (kd c = 1) := by
  rw [kd_fast]
  unfold dig
  by_cases h1 : 48 ≤ c ∧ c ≤ 57
  · simp [h1]
  · rw [if_neg h1]
    split <;> simp <;> omega
theorem sep_kd (c : Nat) : sep c = decide (kd c = 2) := by
  rw [kd_fast]
  unfold sep
  by_cases h1 : 48 ≤ c ∧ c ≤ 57
  · rw [if_pos h1]
    simp
    omega
  · rw [if_neg h1]
    by_cases h2 : c = 46 ∨ c = 95 ∨ c = 43 ∨ c = 45
    · rw [if_pos h2]
      rcases h2 with rfl | rfl | rfl | rfl <;> decide
    · rw [if_neg h2]
      simp
      omega
/-- r does not go on with kind k -/
noncomputable def NoHead (k : Nat) (r : List Nat) : Prop := ∀ c q, r = c :: q → kd c ≠ k
theorem take_block {k : Nat} : ∀ {u r : List Nat}, (∀ c ∈ u, kd c = k) → NoHead k r → (u ++ r).takeWhile (kd · == k) = u ∧ (u ++ r).dropWhile (kd · == k) = r
  | [], [], _, _ => ⟨rfl, rfl⟩
  | [], c :: q, _, h => by
    have h1 : (kd c == k) = false := by simpa using h c q rfl
    simp [h1]
  | c :: u, r, h1, h2 => by
    have e : (kd c == k) = true := by simpa using h1 c (.head _)
    obtain ⟨a, b⟩ := take_block (u := u) (r := r) (fun x hx => h1 x (.tail _ hx)) h2
    simp [e, a, b]
theorem runsR_block {k : Nat} {u r : List Nat} (hu : u ≠ []) (h : ∀ c ∈ u, kd c = k) (hk : k ≠ 2) (hr : NoHead k r) : runsR (u ++ r) = u :: runsR r := by
  obtain ⟨c, v, rfl⟩ := List.exists_cons_of_ne_nil hu
  have hc := h c (.head _)
  obtain ⟨a, b⟩ := take_block (u := v) (r := r) (fun x hx => h x (.tail _ hx)) hr
  rw [List.cons_append, runsR_cons (by rw [hc]; exact hk), hc, a, b]
theorem blocks {P : List Nat → Prop} (h0 : P []) (h2 : ∀ c r, kd c = 2 → P r → P (c :: r))
    (h1 : ∀ k u r, k = 1 ∨ k = 3 → u ≠ [] → (∀ c ∈ u, kd c = k) → NoHead k r → P r → P (u ++ r)) : ∀ (n : Nat) (x : List Nat), x.length ≤ n → P x
  | _, [], _ => h0
  | 0, c :: r, h => by simp at h
  | n + 1, c :: r, h => by
    have hl : r.length ≤ n := by simpa using h
    rcases kd_123 c with hk | hk | hk
    · have e : c :: r = (c :: r.takeWhile (kd · == kd c)) ++ r.dropWhile (kd · == kd c) := by simp
      rw [e]
      refine h1 (kd c) _ _ (.inl hk) (by simp) (fun x hx => ?_) (fun x q hx => ?_) (blocks h0 h2 h1 n _ (Nat.le_trans (dropWhile_le _ _) hl))
      · rcases List.mem_cons.mp hx with rfl | hx
        · rfl
        · simpa using (mem_takeWhile hx).1
      · intro hq
        have := List.head_dropWhile_not (p := (kd · == kd c)) (l := r) (by rw [hx]; simp)
        simp only [hx, List.head_cons] at this
        simp [hq] at this
    · exact h2 c r hk (blocks h0 h2 h1 n r hl)
    · have e : c :: r = (c :: r.takeWhile (kd · == kd c)) ++ r.dropWhile (kd · == kd c) := by simp
      rw [e]
      refine h1 (kd c) _ _ (.inr hk) (by simp) (fun x hx => ?_) (fun x q hx => ?_) (blocks h0 h2 h1 n _ (Nat.le_trans (dropWhile_le _ _) hl))
      · rcases List.mem_cons.mp hx with rfl | hx
        · rfl
        · simpa using (mem_takeWhile hx).1
      · intro hq
        have := List.head_dropWhile_not (p := (kd · == kd c)) (l := r) (by rw [hx]; simp)
        simp only [hx, List.head_cons] at this
        simp [hq] at this
/-! cuts and runs -/
theorem next_sep {c : Nat} {r : List Nat} (h : kd c = 2) : next (c :: r) = some (0, 1) := by
  have h1 : dig c = false := by rw [dig_kd, h]; rfl
  have h2 : sep c = true := by rw [sep_kd, h]; rfl
  simp [next, h1, h2]
theorem next_dig {u r : List Nat} (hu : u ≠ []) (h : ∀ c ∈ u, kd c = 1) (hr : NoHead 1 r) : next (u ++ r) = some (0, u.length) := by
  obtain ⟨c, v, rfl⟩ := List.exists_cons_of_ne_nil hu
  have h1 : dig c = true := by rw [dig_kd, h c (.head _)]; rfl
  have e : digits (c :: v ++ r) = (c :: v).length := by
    unfold digits
    have e : dig = (kd · == 1) := by
      funext c
      rw [dig_kd]
      by_cases h : kd c = 1 <;> simp [h]
    rw [e, (take_block h hr).1]
  rw [List.cons_append] at e ⊢
  simp only [next, h1, if_true, e]
theorem next_other {r : List Nat} : ∀ {u : List Nat}, (∀ c ∈ u, kd c = 3) → next (u ++ r) = (next r).map fun x => (x.1 + u.length, x.2)
  | [], _ => by
    simp only [List.nil_append, List.length_nil, Nat.add_zero]
    cases next r <;> rfl
  | c :: u, h => by
    have h1 : dig c = false := by rw [dig_kd, h c (.head _)]; rfl
    have h2 : sep c = false := by rw [sep_kd, h c (.head _)]; rfl
    have ih := next_other (r := r) (u := u) fun x hx => h x (.tail _ hx)
    rw [List.cons_append, next, h1, h2, ih]
    simp only [Bool.false_eq_true, if_false, Option.map_map]
    congr 1
theorem next_head {r : List Nat} (hr : NoHead 3 r) : r = [] ∨ ∃ k, next r = some (0, k) := by
  cases r with
  | nil => exact .inl rfl
  | cons c q =>
    refine .inr ?_
    rcases kd_123 c with hk | hk | hk
    · have h1 : dig c = true := by rw [dig_kd, hk]; rfl
      exact ⟨digits (c :: q), by simp only [next, h1, if_true]⟩
    · exact ⟨_, next_sep hk⟩
    · exact absurd hk (hr c q rfl)
theorem apart_nil : apart [] = false := by decide +kernel
theorem apart_sep {c : Nat} (h : kd c = 2) : apart [c] = false := by
  have h1 := sep_kd c
  rw [h] at h1
  have h2 : sep c = true := by simpa using h1
  unfold sep at h2
  simp only [Bool.or_eq_true, beq_iff_eq] at h2
  rcases h2 with ((rfl | rfl) | rfl) | rfl <;> decide +kernel
theorem apart_run {c : Nat} {q : List Nat} (h : kd c ≠ 2) : apart (c :: q) = true := by
  cases hx : apart (c :: q) with
  | true => rfl
  | false =>
    unfold apart at hx
    obtain ⟨i, h1, h2⟩ := (StrLaws.found_iff (Str.ofString "._+-") (tx (c :: q))).mp (by rw [hx]; rfl)
    rw [StrLaws.subAt_eq, beq_iff_eq, tx_cps] at h2
    have hm : c ∈ (Str.ofString "._+-").cps.toList := by
      have : c ∈ ((Str.ofString "._+-").cps.toList.drop i).take (tx (c :: q)).length := by rw [h2]; exact .head _
      exact List.mem_of_mem_drop (List.mem_of_mem_take this)
    have e : (Str.ofString "._+-").cps.toList = [46, 95, 43, 45] := by decide +kernel
    rw [e] at hm
    exact absurd (by rw [kd_fast]; simp only [List.mem_cons, List.not_mem_nil, or_false] at hm; rw [if_neg (by omega), if_pos (by omega)]) h
theorem sign_sub (t : List Nat) : ∀ c ∈ (NumText.sign t).2, c ∈ t := by
  intro c h
  unfold NumText.sign at h
  split at h
  · exact .tail _ h
  · exact .tail _ h
  · exact h
theorem core_sub (t : List Nat) : ∀ c ∈ NumText.core t, c ∈ t := by
  intro c h
  unfold NumText.core at h
  have h := List.mem_reverse.mp h
  have h := (List.dropWhile_suffix _).subset h
  have h := List.mem_reverse.mp h
  exact (List.dropWhile_suffix _).subset (sign_sub _ _ h)
theorem step_other {c : Nat} (h : kd c = 3) (p : Array Nat × Bool) : NumText.step 10 p c = none := by
  rw [kd_fast] at h
  have h1 : ¬ (48 ≤ c ∧ c ≤ 57) := fun x => by rw [if_pos x] at h; cases h
  have h2 : ¬ (c = 46 ∨ c = 95 ∨ c = 43 ∨ c = 45) := fun x => by rw [if_neg h1, if_pos x] at h; cases h
  unfold NumText.step
  have h3 : (c == 95) = false := by simp; omega
  rw [h3]
  simp only [Bool.false_eq_true, if_false]
  unfold NumText.digit?
  have h4 : ¬ ((decide (48 ≤ c) && decide (c ≤ 57)) = true) := by simp only [Bool.and_eq_true, decide_eq_true_eq]; exact h1
  rw [if_neg h4]
  by_cases h5 : (decide (97 ≤ c) && decide (c ≤ 122)) = true
  · rw [if_pos h5]
    simp only [Bool.and_eq_true, decide_eq_true_eq] at h5
    simp only
    rw [if_neg (by omega)]
  · rw [if_neg h5]
    by_cases h6 : (decide (65 ≤ c) && decide (c ≤ 90)) = true
    · rw [if_pos h6]
      simp only [Bool.and_eq_true, decide_eq_true_eq] at h6
      simp only
      rw [if_neg (by omega)]
    · rw [if_neg h6]
theorem digits_other {cs : List Nat} (h : ∀ c ∈ cs, kd c = 3) : NumText.digits? 10 cs = none := by
  unfold NumText.digits?
  cases cs with
  | nil => rfl
  | cons c r =>
    rw [List.foldlM_cons, step_other (h c (.head _))]
    rfl
theorem int_other {r : List Nat} (h : ∀ c ∈ r, kd c = 3) (hs : ∀ c ∈ r, c < 128) : PySem.intText? (tx r) = none := by
  have e : numTextOf (tx r) = r := by
    unfold numTextOf
    rw [if_pos, tx_cps]
    rw [Array.all_eq_true_iff_forall_mem]
    intro c hc
    have : c ∈ (tx r).cps.toList := hc.1
    rw [tx_cps] at this
    simpa using hs c this
  unfold PySem.intText?
  have : NumText.digits? 10 (NumText.core (numSeenOf (tx r))) = none := digits_other fun c hc => by
    have := core_sub _ c hc
    unfold numSeenOf at this
    rw [e] at this
    exact h c ((List.takeWhile_prefix _).subset this)
  rw [this]
  split <;> rfl
/-! cv and rk tell the same -/
theorem rv_dig {l u : List Nat} (hu : u ≠ []) (h : ∀ c ∈ u, kd c = 1) (hl : u.length ≤ 4300) : cvOf u = rvOf u := by
  obtain ⟨n, hn⟩ := int_fig h hu hl
  obtain ⟨c, q, rfl⟩ := List.exists_cons_of_ne_nil hu
  have hc := h c (.head _)
  unfold cvOf rvOf
  rw [if_pos (apart_run (by rw [hc]; decide)), if_pos (by simpa using hc)]
  simp only [hn]
theorem stage_eq {u : List Nat} (hb : ∀ c ∈ u, c ≠ 98 ∧ c ≠ 100 ∧ c ≠ 104 ∧ c ≠ 82) (h9 : u ≠ [99]) : stage u = stageR u := by
  unfold stage stageR
  rw [if_neg (fun e => by subst e; exact (hb 100 (by decide)).2.1 rfl), if_neg (fun e => by subst e; exact (hb 104 (by decide)).2.2.1 rfl)]
  by_cases h1 : u = [97]
  · subst h1; rfl
  rw [if_neg h1, if_neg (fun e => by subst e; exact (hb 98 (by decide)).1 rfl), if_neg (fun e => by subst e; exact (hb 98 (by decide)).1 rfl), if_neg h9, if_neg (fun e => by subst e; exact (hb 82 (by decide)).2.2.2 rfl)]
  by_cases h2 : u = [114, 99]
  · subst h2; rfl
  rw [if_neg h2, if_neg h2, if_neg h1]
theorem rv_other {u : List Nat} (hu : u ≠ []) (h : ∀ c ∈ u, kd c = 3) (hs : ∀ c ∈ u, c < 128) (hb : ∀ c ∈ u, c ≠ 98 ∧ c ≠ 100 ∧ c ≠ 104 ∧ c ≠ 82) (h9 : u ≠ [99]) : cvOf u = rvOf u := by
  have hn := int_other h hs
  have hst := stage_eq hb h9
  obtain ⟨c, q, rfl⟩ := List.exists_cons_of_ne_nil hu
  have hc := h c (.head _)
  unfold cvOf rvOf
  rw [if_pos (apart_run (by rw [hc]; decide)), if_neg (by simp [hc])]
  simp only [hn, hst]
theorem cvOf_nil : cvOf [] = [] := by unfold cvOf; rw [apart_nil]; rfl
theorem cvOf_sep {c : Nat} (h : kd c = 2) : cvOf [c] = [] := by unfold cvOf; rw [apart_sep h]; rfl
/-- what a text must be made of that both read it alike -/
structure Fair (x : List Nat) : Prop where
  small : ∀ c ∈ x, c < 128
  free : ∀ c ∈ x, c ≠ 98 ∧ c ≠ 100 ∧ c ≠ 104 ∧ c ≠ 82
  no99 : [99] ∉ runsR x
  len : x.length ≤ 4300
theorem cv_rk_key : ∀ x : List Nat, (∀ c ∈ x, c < 128) → (∀ c ∈ x, c ≠ 98 ∧ c ≠ 100 ∧ c ≠ 104 ∧ c ≠ 82) → [99] ∉ runsR x → x.length ≤ 4300 → cvL x = rkL x := by
  intro x
  refine blocks (P := fun x => (∀ c ∈ x, c < 128) → (∀ c ∈ x, c ≠ 98 ∧ c ≠ 100 ∧ c ≠ 104 ∧ c ≠ 82) → [99] ∉ runsR x → x.length ≤ 4300 → cvL x = rkL x) ?_ ?_ ?_ x.length x (Nat.le_refl _)
  · intro _ _ _ _
    show (cuts []).flatMap cvOf = (runsR []).flatMap rvOf
    rw [runsR_nil]
    have : cuts [] = [[]] := rfl
    rw [this]
    simp [cvOf_nil]
  · intro c r hk ih hs hf h9 hl
    have ih := ih (fun x hx => hs x (.tail _ hx)) (fun x hx => hf x (.tail _ hx)) (by rwa [runsR_mark hk] at h9) (by simp at hl; omega)
    show (cuts (c :: r)).flatMap cvOf = (runsR (c :: r)).flatMap rvOf
    rw [runsR_mark hk, cuts_eq, next_sep hk]
    simp only [List.take_zero, List.drop_zero, List.flatMap_cons, cvOf_nil, List.nil_append]
    have e : (c :: r).take 1 = [c] := rfl
    rw [e, cvOf_sep hk]
    exact ih
  · intro k u r hk hu hku hr ih hs hf h9 hl
    rw [runsR_block hu hku (by omega) hr] at h9
    have ih := ih (fun x hx => hs x (List.mem_append_right _ hx)) (fun x hx => hf x (List.mem_append_right _ hx)) (fun x => h9 (.tail _ x)) (by rw [List.length_append] at hl; omega)
    have hul : u.length ≤ 4300 := by rw [List.length_append] at hl; omega
    show (cuts (u ++ r)).flatMap cvOf = (runsR (u ++ r)).flatMap rvOf
    rw [runsR_block hu hku (by omega) hr, List.flatMap_cons]
    rcases hk with rfl | rfl
    · rw [cuts_eq, next_dig hu hku hr]
      simp only [List.take_zero, List.drop_zero, List.flatMap_cons, cvOf_nil, List.nil_append, Nat.zero_add]
      rw [List.take_left, List.drop_left, rv_dig (l := []) hu hku hul]
      exact congrArg _ ih
    · have hv := rv_other hu hku (fun c hc => hs c (List.mem_append_left _ hc)) (fun c hc => hf c (List.mem_append_left _ hc)) (fun e => h9 (by rw [e]; exact .head _))
      rw [cuts_eq, next_other hku]
      rcases next_head hr with rfl | ⟨n, hn⟩
      · have e : next [] = none := rfl
        rw [e, runsR_nil]
        simp [hv]
      · have ih : (cuts r).flatMap cvOf = (runsR r).flatMap rvOf := ih
        rw [cuts_eq, hn] at ih
        simp only [List.take_zero, List.drop_zero, List.flatMap_cons, cvOf_nil, List.nil_append, Nat.zero_add] at ih
        rw [hn]
        simp only [Option.map_some, Nat.zero_add, List.flatMap_cons]
        rw [List.take_left, List.drop_left, hv, List.drop_append, List.drop_eq_nil_of_le (by omega), List.nil_append]
        have e : u.length + n - u.length = n := by omega
        rw [e, ← ih]
theorem cv_rk {x : List Nat} (h : Fair x) : cvL x = rkL x := cv_rk_key x h.small h.free h.no99 h.len
end Mine
end
theorem Mine.topOffPw : True := by
  w_top off
  trivial

section
open PySem PySem.W PySem.W.X PyProof.Rows PySem.Calls
set_option maxRecDepth 100000
namespace Mine
/-! escape keeps the runs -/
theorem esub_plain {c : Nat} (h1 : c ≠ 38) (h2 : c ≠ 62) (h3 : c ≠ 60) : esub EP c = [c] := by
  have e1 : (c == 38) = false := by simpa using h1
  have e2 : (c == 62) = false := by simpa using h2
  have e3 : (c == 60) = false := by simpa using h3
  simp [esub, List.lookup, e1, e2, e3]
theorem esub_cases (c : Nat) : esub EP c = [c] ∨ (38 ∈ esub EP c ∧ kd c = 3 ∧ (c = 38 ∨ c = 62 ∨ c = 60) ∧ (∀ x ∈ esub EP c, kd x = 3) ∧ ∃ q, esub EP c = 38 :: q) := by
  by_cases h1 : c = 38
  · subst h1; exact .inr ⟨by decide, by decide, by decide, by decide +kernel, _, rfl⟩
  by_cases h2 : c = 62
  · subst h2; exact .inr ⟨by decide, by decide, by decide, by decide +kernel, _, rfl⟩
  by_cases h3 : c = 60
  · subst h3; exact .inr ⟨by decide, by decide, by decide, by decide +kernel, _, rfl⟩
  exact .inl (esub_plain h1 h2 h3)
theorem esub_kd {c : Nat} : ∀ x ∈ esub EP c, kd x = kd c := by
  rcases esub_cases c with h | ⟨_, h, _, h3, _⟩
  · rw [h]; intro x hx; rw [List.mem_singleton.mp hx]
  · intro x hx; rw [h3 x hx, h]
theorem esub_ne (c : Nat) : esub EP c ≠ [] := by
  rcases esub_cases c with h | ⟨_, _, _, _, q, h⟩ <;> rw [h] <;> simp
theorem escL_nil : escL [] = [] := rfl
theorem escL_append (a b : List Nat) : escL (a ++ b) = escL a ++ escL b := List.flatMap_append
theorem escL_one {c : Nat} {r : List Nat} (h : esub EP c = [c]) : escL (c :: r) = c :: escL r := by
  show (c :: r).flatMap (esub EP) = _
  rw [List.flatMap_cons, h]; rfl
theorem escL_mem {x : Nat} {u : List Nat} (h : x ∈ escL u) : ∃ c ∈ u, x ∈ esub EP c := by
  obtain ⟨c, hc, hx⟩ := List.mem_flatMap.mp h
  exact ⟨c, hc, hx⟩
theorem escL_kd {k : Nat} {u : List Nat} (h : ∀ c ∈ u, kd c = k) : ∀ c ∈ escL u, kd c = k := by
  intro x hx
  obtain ⟨c, hc, hx⟩ := escL_mem hx
  rw [esub_kd x hx, h c hc]
theorem escL_ne {u : List Nat} (h : u ≠ []) : escL u ≠ [] := by
  obtain ⟨c, q, rfl⟩ := List.exists_cons_of_ne_nil h
  intro e
  have : esub EP c ++ escL q = [] := by rw [← e]; exact (List.flatMap_cons ..).symm
  exact esub_ne c (List.append_eq_nil_iff.mp this).1
theorem escL_fig {u : List Nat} (h : ∀ c ∈ u, kd c = 1) : escL u = u := by
  induction u with
  | nil => rfl
  | cons c r ih =>
    rcases esub_cases c with hc | ⟨_, h3, _⟩
    · rw [escL_one hc, ih fun x hx => h x (.tail _ hx)]
    · rw [h c (.head _)] at h3; cases h3
theorem escL_head {k : Nat} {r : List Nat} (h : NoHead k r) : NoHead k (escL r) := by
  intro c q e
  cases r with
  | nil => cases e
  | cons d s =>
    have hd := h d s rfl
    have hm : c ∈ esub EP d := by
      have e2 : esub EP d ++ escL s = c :: q := by rw [← e]; exact (List.flatMap_cons ..).symm
      cases hx : esub EP d with
      | nil => exact absurd hx (esub_ne d)
      | cons a b => rw [hx] at e2; rw [List.cons_append] at e2; rw [(List.cons.inj e2).1]; exact .head _
    rw [esub_kd c hm]
    exact hd
theorem runs_esc (x : List Nat) : runsR (escL x) = (runsR x).map escL := by
  refine blocks (P := fun x => runsR (escL x) = (runsR x).map escL) ?_ ?_ ?_ x.length x (Nat.le_refl _)
  · rw [escL_nil, runsR_nil]; rfl
  · intro c r hk ih
    have e : esub EP c = [c] := by
      rcases esub_cases c with h | ⟨_, h, _⟩
      · exact h
      · rw [hk] at h; cases h
    rw [escL_one e, runsR_mark hk, runsR_mark hk, ih]
  · intro k u r hk hu hku hr ih
    rw [escL_append, runsR_block (escL_ne hu) (escL_kd hku) (by omega) (escL_head hr), runsR_block hu hku (by omega) hr, ih]
    rfl
/-! a word is told from all others after a map that adds signs -/
theorem stage_map {f : List Nat → List Nat} {r : List Nat} (h : ∀ w, (∀ c ∈ w, c ≠ 38 ∧ c ≠ 60 ∧ c ≠ 62) → (f r = w ↔ r = w)) : stageR (f r) = stageR r := by
  have k : ∀ w : List Nat, (∀ c ∈ w, c ≠ 38 ∧ c ≠ 60 ∧ c ≠ 62) → (if f r = w then (1 : Nat) else 0) = if r = w then 1 else 0 := by
    intro w hw
    by_cases e : r = w
    · rw [if_pos e, if_pos ((h w hw).mpr e)]
    · rw [if_neg e, if_neg fun x => e ((h w hw).mp x)]
  have h1 := h [114, 99] (by decide)
  have h2 := h [97] (by decide)
  have h3 := h [112, 108] (by decide)
  have h4 := h [112] (by decide)
  unfold stageR
  simp only [h1, h2, h3, h4]
theorem escL_word {r w : List Nat} (hw : ∀ c ∈ w, c ≠ 38 ∧ c ≠ 60 ∧ c ≠ 62) : escL r = w ↔ r = w := by
  have key : ∀ x : List Nat, (∀ c ∈ x, c ≠ 38 ∧ c ≠ 60 ∧ c ≠ 62) → escL x = x := by
    intro x
    induction x with
    | nil => intro _; rfl
    | cons c q ih =>
      intro h
      have := h c (.head _)
      rw [escL_one (esub_plain this.1 this.2.2 this.2.1), ih fun y hy => h y (.tail _ hy)]
  constructor
  · intro e
    have h : ∀ c ∈ r, c ≠ 38 ∧ c ≠ 60 ∧ c ≠ 62 := by
      intro c hc
      rcases esub_cases c with hx | ⟨hx, _⟩
      · have : c ∈ escL r := List.mem_flatMap.mpr ⟨c, hc, by rw [hx]; exact .head _⟩
        rw [e] at this
        exact hw c this
      · have : 38 ∈ escL r := List.mem_flatMap.mpr ⟨c, hc, hx⟩
        rw [e] at this
        exact absurd rfl (hw 38 this).1
    rw [← e, key r h]
  · intro e; subst e; exact key r hw
theorem rk_map {f : List Nat → List Nat} {x : List Nat} (hr : runsR (f x) = (runsR x).map f) (hk : ∀ r ∈ runsR x, kd ((f r).headD 0) = kd (r.headD 0)) (hf : ∀ r ∈ runsR x, kd (r.headD 0) = 1 → f r = r)
    (hs : ∀ r ∈ runsR x, stageR (f r) = stageR r) : rkL (f x) = (rkL x).map (RV.map f) := by
  show (runsR (f x)).flatMap rvOf = ((runsR x).flatMap rvOf).map (RV.map f)
  rw [hr, List.map_flatMap, List.flatMap_map]
  have : ∀ rs : List (List Nat), (∀ r ∈ rs, r ∈ runsR x) → (rs.flatMap fun r => rvOf (f r)) = rs.flatMap fun r => (rvOf r).map (RV.map f) := by
    intro rs
    induction rs with
    | nil => intro _; rfl
    | cons r q ih =>
      intro h
      have hm := h r (.head _)
      rw [List.flatMap_cons, List.flatMap_cons, ih fun y hy => h y (.tail _ hy)]
      congr 1
      by_cases h1 : kd (r.headD 0) = 1
      · rw [hf r hm h1]
        unfold rvOf
        rw [if_pos h1]
        cases PySem.intText? (tx r) <;> rfl
      · unfold rvOf
        rw [if_neg h1, if_neg (by rw [hk r hm]; exact h1), hs r hm]
        rfl
  exact this _ fun _ h => h
theorem rk_esc (x : List Nat) : rkL (escL x) = (rkL x).map (RV.map escL) := by
  refine rk_map (runs_esc x) (fun r hr => ?_) (fun r hr h1 => ?_) fun r _ => stage_map fun w hw => escL_word hw
  · obtain ⟨h1, _, _, h4⟩ := runsR_uni _ x (Nat.le_refl _) r hr
    have h5 := escL_kd h4
    obtain ⟨c, q, e⟩ := List.exists_cons_of_ne_nil (escL_ne h1)
    rw [e] at h5 ⊢
    exact h5 c (.head _)
  · obtain ⟨_, _, _, h4⟩ := runsR_uni _ x (Nat.le_refl _) r hr
    exact escL_fig fun c hc => (h4 c hc).trans h1
end Mine
end
theorem Mine.topOffPx : True := by
  w_top off
  trivial

section
open PySem PySem.W PySem.W.X PyProof.Rows PySem.Calls
set_option maxRecDepth 100000
namespace Mine
/-! opening keeps the runs -/
noncomputable abbrev eA : List Nat := [38, 97, 109, 112, 59]
noncomputable abbrev eL : List Nat := [38, 108, 116, 59]
noncomputable abbrev eG : List Nat := [38, 103, 116, 59]
theorem openK_cons (c : Nat) (r : List Nat) : openK 0 (c :: r) = if eA.isPrefixOf (c :: r) then 38 :: openK 0 (r.drop 4) else if eL.isPrefixOf (c :: r) then 60 :: openK 0 (r.drop 3) else if eG.isPrefixOf (c :: r) then 62 :: openK 0 (r.drop 3) else c :: openK 0 r := by
  rw [openK, openK_skip 4, openK_skip 3]
theorem pre_ne {a c : Nat} {p r : List Nat} (h : a ≠ c) : (a :: p).isPrefixOf (c :: r) = false := by
  simp [List.isPrefixOf, h]
theorem openK_plain {c : Nat} {r : List Nat} (h : c ≠ 38) : openK 0 (c :: r) = c :: openK 0 r := by
  rw [openK_cons, pre_ne (Ne.symm h), pre_ne (Ne.symm h), pre_ne (Ne.symm h)]
  rfl
theorem openK_nil : openK 0 [] = [] := by rw [openK]
/-- the four ways a text opens -/
theorem openK_cases (c : Nat) (r : List Nat) : (∃ q, c :: r = eA ++ q ∧ openK 0 (c :: r) = 38 :: openK 0 q) ∨ (∃ q, c :: r = eL ++ q ∧ openK 0 (c :: r) = 60 :: openK 0 q) ∨ (∃ q, c :: r = eG ++ q ∧ openK 0 (c :: r) = 62 :: openK 0 q) ∨
    (eA.isPrefixOf (c :: r) = false ∧ eL.isPrefixOf (c :: r) = false ∧ eG.isPrefixOf (c :: r) = false ∧ openK 0 (c :: r) = c :: openK 0 r) := by
  rw [openK_cons]
  cases h1 : eA.isPrefixOf (c :: r) with
  | true =>
    obtain ⟨q, hq⟩ := List.isPrefixOf_iff_prefix.mp h1
    refine .inl ⟨q, hq.symm, ?_⟩
    rw [if_pos rfl]
    obtain ⟨rfl, rfl⟩ := List.cons.inj hq
    rfl
  | false =>
    rw [if_neg Bool.false_ne_true]
    cases h2 : eL.isPrefixOf (c :: r) with
    | true =>
      obtain ⟨q, hq⟩ := List.isPrefixOf_iff_prefix.mp h2
      refine .inr (.inl ⟨q, hq.symm, ?_⟩)
      rw [if_pos rfl]
      obtain ⟨rfl, rfl⟩ := List.cons.inj hq
      rfl
    | false =>
      rw [if_neg Bool.false_ne_true]
      cases h3 : eG.isPrefixOf (c :: r) with
      | true =>
        obtain ⟨q, hq⟩ := List.isPrefixOf_iff_prefix.mp h3
        refine .inr (.inr (.inl ⟨q, hq.symm, ?_⟩))
        rw [if_pos rfl]
        obtain ⟨rfl, rfl⟩ := List.cons.inj hq
        rfl
      | false =>
        rw [if_neg Bool.false_ne_true]
        exact .inr (.inr (.inr ⟨rfl, rfl, rfl, rfl⟩))
theorem pre_stay : ∀ {p u r : List Nat}, (∀ c ∈ p, kd c = 3) → NoHead 3 r → p.isPrefixOf (u ++ r) = p.isPrefixOf u
  | [], u, r, _, _ => by simp
  | a :: p, [], [], _, _ => rfl
  | a :: p, [], c :: r, hp, hr => by
    have : a ≠ c := fun e => hr c r rfl (by rw [← e]; exact hp a (.head _))
    rw [List.nil_append, pre_ne this]; rfl
  | a :: p, c :: u, r, hp, hr => by
    simp only [List.cons_append, List.isPrefixOf]
    rw [pre_stay (u := u) (r := r) (fun x hx => hp x (.tail _ hx)) hr]
theorem open_append : ∀ (n : Nat) (u r : List Nat), u.length ≤ n → NoHead 3 r → openK 0 (u ++ r) = openK 0 u ++ openK 0 r
  | _, [], r, _, _ => by rw [openK_nil]; rfl
  | 0, c :: u, r, h, _ => by simp at h
  | n + 1, c :: u, r, h, hr => by
    have hA : eA.isPrefixOf (c :: u ++ r) = eA.isPrefixOf (c :: u) := pre_stay (by decide) hr
    have hL : eL.isPrefixOf (c :: u ++ r) = eL.isPrefixOf (c :: u) := pre_stay (by decide) hr
    have hG : eG.isPrefixOf (c :: u ++ r) = eG.isPrefixOf (c :: u) := pre_stay (by decide) hr
    rcases openK_cases c u with ⟨q, e, ho⟩ | ⟨q, e, ho⟩ | ⟨q, e, ho⟩ | ⟨h1, h2, h3, ho⟩
    · have hq : q.length ≤ n := by have := congrArg List.length e; simp at this h; omega
      have ih := open_append n q r hq hr
      rw [ho, e, List.append_assoc]
      show openK 0 (38 :: ([97, 109, 112, 59] ++ (q ++ r))) = _
      rw [openK_cons, if_pos (by simp [List.isPrefixOf])]
      show 38 :: openK 0 (q ++ r) = _
      rw [ih]; rfl
    · have hq : q.length ≤ n := by have := congrArg List.length e; simp at this h; omega
      have ih := open_append n q r hq hr
      rw [ho, e, List.append_assoc]
      show openK 0 (38 :: ([108, 116, 59] ++ (q ++ r))) = _
      rw [openK_cons, if_neg (by simp [List.isPrefixOf]), if_pos (by simp [List.isPrefixOf])]
      show 60 :: openK 0 (q ++ r) = _
      rw [ih]; rfl
    · have hq : q.length ≤ n := by have := congrArg List.length e; simp at this h; omega
      have ih := open_append n q r hq hr
      rw [ho, e, List.append_assoc]
      show openK 0 (38 :: ([103, 116, 59] ++ (q ++ r))) = _
      rw [openK_cons, if_neg (by simp [List.isPrefixOf]), if_neg (by simp [List.isPrefixOf]), if_pos (by simp [List.isPrefixOf])]
      show 62 :: openK 0 (q ++ r) = _
      rw [ih]; rfl
    · have ih := open_append n u r (by simpa using h) hr
      rw [ho]
      show openK 0 (c :: (u ++ r)) = _
      rw [openK_cons, ← List.cons_append, hA, hL, hG, h1, h2, h3, ih]
      rfl
theorem open_mem : ∀ (n : Nat) (u : List Nat), u.length ≤ n → ∀ x ∈ openK 0 u, (x ∈ u ∨ (kd x = 3 ∧ x < 128 ∧ (x = 38 ∨ x = 60 ∨ x = 62)))
  | _, [], _ => by rw [openK_nil]; intro _ h; cases h
  | 0, c :: u, h => by simp at h
  | n + 1, c :: u, h => by
    intro x hx
    rcases openK_cases c u with ⟨q, e, ho⟩ | ⟨q, e, ho⟩ | ⟨q, e, ho⟩ | ⟨h1, h2, h3, ho⟩
    · have hq : q.length ≤ n := by have := congrArg List.length e; simp at this h; omega
      rw [ho] at hx
      rcases List.mem_cons.mp hx with rfl | hx
      · exact .inr (by decide)
      · rw [e]; exact (open_mem n q hq x hx).imp (fun z => List.mem_append_right _ z) id
    · have hq : q.length ≤ n := by have := congrArg List.length e; simp at this h; omega
      rw [ho] at hx
      rcases List.mem_cons.mp hx with rfl | hx
      · exact .inr (by decide)
      · rw [e]; exact (open_mem n q hq x hx).imp (fun z => List.mem_append_right _ z) id
    · have hq : q.length ≤ n := by have := congrArg List.length e; simp at this h; omega
      rw [ho] at hx
      rcases List.mem_cons.mp hx with rfl | hx
      · exact .inr (by decide)
      · rw [e]; exact (open_mem n q hq x hx).imp (fun z => List.mem_append_right _ z) id
    · rw [ho] at hx
      rcases List.mem_cons.mp hx with rfl | hx
      · exact .inl (.head _)
      · exact (open_mem n u (by simpa using h) x hx).imp (fun z => .tail _ z) id
theorem open_ne {u : List Nat} (h : u ≠ []) : openK 0 u ≠ [] := by
  obtain ⟨c, q, rfl⟩ := List.exists_cons_of_ne_nil h
  rcases openK_cases c q with ⟨_, _, ho⟩ | ⟨_, _, ho⟩ | ⟨_, _, ho⟩ | ⟨_, _, _, ho⟩ <;> rw [ho] <;> simp
theorem open_kd3 {u : List Nat} (h : ∀ c ∈ u, kd c = 3) : ∀ c ∈ openK 0 u, kd c = 3 := fun c hc => (open_mem _ u (Nat.le_refl _) c hc).elim (h c) (·.1)
theorem open_fig {u r : List Nat} (h : ∀ c ∈ u, kd c = 1) : openK 0 (u ++ r) = u ++ openK 0 r := by
  induction u with
  | nil => rfl
  | cons c q ih =>
    have hc : c ≠ 38 := fun e => by have := h c (.head _); rw [e] at this; exact absurd this (by decide)
    rw [List.cons_append, openK_plain hc, ih fun x hx => h x (.tail _ hx)]; rfl
theorem open_head {k : Nat} {r : List Nat} (h : NoHead k r) : NoHead k (openK 0 r) := by
  intro c q e
  cases r with
  | nil => rw [openK_nil] at e; cases e
  | cons d s =>
    have hd := h d s rfl
    by_cases h38 : d = 38
    · subst h38
      have hk : kd c = 3 := by
        rcases openK_cases 38 s with ⟨_, _, ho⟩ | ⟨_, _, ho⟩ | ⟨_, _, ho⟩ | ⟨_, _, _, ho⟩ <;> (rw [ho] at e; rw [← (List.cons.inj e).1]; decide)
      rw [hk]
      intro e3
      exact hd (by rw [← e3]; decide)
    · rw [openK_plain h38] at e
      rw [← (List.cons.inj e).1]
      exact hd
theorem runs_open (x : List Nat) : runsR (openK 0 x) = (runsR x).map (openK 0) := by
  refine blocks (P := fun x => runsR (openK 0 x) = (runsR x).map (openK 0)) ?_ ?_ ?_ x.length x (Nat.le_refl _)
  · rw [openK_nil, runsR_nil]; rfl
  · intro c r hk ih
    have hc : c ≠ 38 := fun e => by rw [e] at hk; exact absurd hk (by decide)
    rw [openK_plain hc, runsR_mark hk, runsR_mark hk, ih]
  · intro k u r hk hu hku hr ih
    rcases hk with rfl | rfl
    · have e : openK 0 u = u := by
        have := open_fig (r := []) hku
        rwa [List.append_nil, openK_nil, List.append_nil] at this
      rw [open_fig hku, runsR_block hu hku (by decide) (open_head hr), runsR_block hu hku (by decide) hr, ih, List.map_cons, e]
    · rw [open_append _ u r (Nat.le_refl _) hr, runsR_block (open_ne hu) (open_kd3 hku) (by decide) (open_head hr), runsR_block hu hku (by decide) hr, ih]
      rfl
theorem open_same : ∀ (n : Nat) (u : List Nat), u.length ≤ n → (∀ c ∈ openK 0 u, c ≠ 38 ∧ c ≠ 60 ∧ c ≠ 62) → openK 0 u = u
  | _, [], _, _ => openK_nil
  | 0, c :: u, h, _ => by simp at h
  | n + 1, c :: u, h, hx => by
    rcases openK_cases c u with ⟨q, e, ho⟩ | ⟨q, e, ho⟩ | ⟨q, e, ho⟩ | ⟨h1, h2, h3, ho⟩
    · rw [ho] at hx; exact absurd rfl (hx _ (.head _)).1
    · rw [ho] at hx; exact absurd rfl (hx _ (.head _)).2.1
    · rw [ho] at hx; exact absurd rfl (hx _ (.head _)).2.2
    · rw [ho] at hx ⊢
      rw [open_same n u (by simpa using h) fun x h => hx x (.tail _ h)]
theorem open_word {r w : List Nat} (hw : ∀ c ∈ w, c ≠ 38 ∧ c ≠ 60 ∧ c ≠ 62) : openK 0 r = w ↔ r = w := by
  constructor
  · intro e
    rw [← e]
    exact (open_same _ r (Nat.le_refl _) (by rw [e]; exact hw)).symm
  · intro e
    subst e
    induction r with
    | nil => exact openK_nil
    | cons c q ih => rw [openK_plain (hw c (.head _)).1, ih fun x hx => hw x (.tail _ hx)]
theorem rk_open (x : List Nat) : rkL (openK 0 x) = (rkL x).map (RV.map (openK 0)) := by
  refine rk_map (runs_open x) (fun r hr => ?_) (fun r hr h1 => ?_) fun r _ => stage_map fun w hw => open_word hw
  · obtain ⟨h1, _, h3, h4⟩ := runsR_uni _ x (Nat.le_refl _) r hr
    obtain ⟨c, q, rfl⟩ := List.exists_cons_of_ne_nil h1
    by_cases hc : c = 38
    · subst hc
      rcases openK_cases 38 q with ⟨_, _, ho⟩ | ⟨_, _, ho⟩ | ⟨_, _, ho⟩ | ⟨_, _, _, ho⟩ <;> (rw [ho]; first | (simp only [List.headD_cons]; done) | (simp only [List.headD_cons]; decide))
    · rw [openK_plain hc]; rfl
  · obtain ⟨_, _, _, h4⟩ := runsR_uni _ x (Nat.le_refl _) r hr
    have := open_fig (r := []) (fun c hc => (h4 c hc).trans h1)
    rwa [List.append_nil, openK_nil, List.append_nil] at this
theorem open_len : ∀ (n : Nat) (u : List Nat), u.length ≤ n → (openK 0 u).length ≤ u.length
  | _, [], _ => by rw [openK_nil]; exact Nat.le_refl _
  | 0, c :: u, h => by simp at h
  | n + 1, c :: u, h => by
    rcases openK_cases c u with ⟨q, e, ho⟩ | ⟨q, e, ho⟩ | ⟨q, e, ho⟩ | ⟨h1, h2, h3, ho⟩
    · have hq := congrArg List.length e
      simp at hq h
      have := open_len n q (by omega)
      rw [ho]; simp; omega
    · have hq := congrArg List.length e
      simp at hq h
      have := open_len n q (by omega)
      rw [ho]; simp; omega
    · have hq := congrArg List.length e
      simp at hq h
      have := open_len n q (by omega)
      rw [ho]; simp; omega
    · have := open_len n u (by simpa using h)
      rw [ho]; simp; omega
end Mine
end
theorem Mine.topOffPy : True := by
  w_top off
  trivial

section
open PySem PySem.W PySem.W.X PyProof.Rows PySem.Calls
set_option maxRecDepth 100000
namespace Mine
/-! unescape opens -/
theorem pre_repl {b : Nat} {y z0 : List Nat} : ∀ {p r : List Nat}, (∀ c ∈ p, c ≠ 38 ∧ c ≠ b) → y = 38 :: z0 → p.isPrefixOf (repl y [b] 0 r) = p.isPrefixOf r
  | [], r, _, _ => by simp
  | a :: p, [], _, _ => by rw [repl]
  | a :: p, c :: r, hp, hy => by
    cases hx : y.isPrefixOf (c :: r) with
    | true =>
      rw [repl_hit (by rw [hy]; simp) hx]
      have hc : c = 38 := by
        rw [hy] at hx
        simp only [List.isPrefixOf, Bool.and_eq_true, beq_iff_eq] at hx
        exact hx.1.symm
      rw [List.singleton_append, pre_ne (hp a (.head _)).2, pre_ne (by rw [hc]; exact (hp a (.head _)).1)]
    | false =>
      rw [repl_miss hx]
      simp only [List.isPrefixOf]
      rw [pre_repl (p := p) (r := r) (fun x h => hp x (.tail _ h)) hy]
theorem repl_plain {y z z0 : List Nat} {c : Nat} {r : List Nat} (hy : y = 38 :: z0) (h : c ≠ 38) : repl y z 0 (c :: r) = c :: repl y z 0 r :=
  repl_miss (by rw [hy]; exact pre_ne (Ne.symm h))
theorem repl_over {y z z0 : List Nat} (hy : y = 38 :: z0) : ∀ {p r : List Nat}, 38 ∉ p → repl y z 0 (p ++ r) = p ++ repl y z 0 r
  | [], _, _ => rfl
  | c :: p, r, h => by
    rw [List.cons_append, repl_plain hy (fun e => h (by rw [e]; exact .head _)), repl_over hy (p := p) (r := r) fun x => h (.tail _ x)]; rfl
theorem repl_at {y z q : List Nat} (hy : y ≠ []) : repl y z 0 (y ++ q) = z ++ repl y z 0 q := by
  rw [repl_hit hy (List.isPrefixOf_iff_prefix.mpr (List.prefix_append ..)), List.drop_left]
theorem repl_no {y z z0 t p r : List Nat} (_hy : y = 38 :: z0) (h : (38 :: p) ++ r = t) (hn : y.isPrefixOf t = false) (h38 : 38 ∉ p) : repl y z 0 t = 38 :: p ++ repl y z 0 r := by
  subst h
  have hn' : y.isPrefixOf (38 :: (p ++ r)) = false := hn
  show repl y z 0 (38 :: (p ++ r)) = _
  rw [repl_miss hn', repl_over _hy h38]; rfl
theorem unesc_key : ∀ (n : Nat) (l : List Nat), l.length ≤ n → unesc l = openK 0 l
  | _, [], _ => by unfold unesc; rw [openK_nil]; simp [repl]
  | 0, c :: u, h => by simp at h
  | n + 1, c :: u, h => by
    rcases openK_cases c u with ⟨q, e, ho⟩ | ⟨q, e, ho⟩ | ⟨q, e, ho⟩ | ⟨h1, h2, h3, ho⟩
    · have hq : q.length ≤ n := by have := congrArg List.length e; simp at this h; omega
      have ih := unesc_key n q hq
      rw [ho, e, ← ih]
      unfold unesc
      rw [repl_no (y := eL) (p := [97, 109, 112, 59]) (r := q) rfl rfl (by simp [List.isPrefixOf]) (by decide), repl_no (y := eG) (p := [97, 109, 112, 59]) (r := repl eL [60] 0 q) rfl rfl (by simp [List.isPrefixOf]) (by decide)]
      exact repl_at (y := eA) (by decide)
    · have hq : q.length ≤ n := by have := congrArg List.length e; simp at this h; omega
      have ih := unesc_key n q hq
      rw [ho, e, ← ih]
      unfold unesc
      rw [repl_at (y := eL) (by decide), List.singleton_append, repl_plain rfl (by decide), repl_plain rfl (by decide)]
    · have hq : q.length ≤ n := by have := congrArg List.length e; simp at this h; omega
      have ih := unesc_key n q hq
      rw [ho, e, ← ih]
      unfold unesc
      rw [repl_no (y := eL) (p := [103, 116, 59]) (r := q) rfl rfl (by simp [List.isPrefixOf]) (by decide)]
      show repl eA [38] 0 (repl eG [62] 0 (eG ++ repl eL [60] 0 q)) = _
      rw [repl_at (y := eG) (by decide), List.singleton_append, repl_plain rfl (by decide)]
    · have ih := unesc_key n u (by simpa using h)
      rw [ho, ← ih]
      unfold unesc
      rw [repl_miss h2]
      by_cases hc : c = 38
      · subst hc
        have g1 : eG.isPrefixOf (38 :: repl eL [60] 0 u) = false := by
          rw [← h3]
          show (true && [103, 116, 59].isPrefixOf _) = (true && [103, 116, 59].isPrefixOf _)
          rw [pre_repl (by decide) rfl]
        rw [repl_miss g1]
        have g2 : eA.isPrefixOf (38 :: repl eG [62] 0 (repl eL [60] 0 u)) = false := by
          rw [← h1]
          show (true && [97, 109, 112, 59].isPrefixOf _) = (true && [97, 109, 112, 59].isPrefixOf _)
          rw [pre_repl (by decide) rfl, pre_repl (by decide) rfl]
        rw [repl_miss g2]
      · rw [repl_plain rfl hc, repl_plain rfl hc]
theorem unesc_open (l : List Nat) : unesc l = openK 0 l := unesc_key _ l (Nat.le_refl _)
/-! quoteattr writes the attribute -/
theorem esubQ_plain {c : Nat} (h : c ≠ 38 ∧ c ≠ 62 ∧ c ≠ 60 ∧ c ≠ 10 ∧ c ≠ 13 ∧ c ≠ 9) : esub QP c = [c] := by
  have e1 : (c == 38) = false := by simpa using h.1
  have e2 : (c == 62) = false := by simpa using h.2.1
  have e3 : (c == 60) = false := by simpa using h.2.2.1
  have e4 : (c == 10) = false := by simpa using h.2.2.2.1
  have e5 : (c == 13) = false := by simpa using h.2.2.2.2.1
  have e6 : (c == 9) = false := by simpa using h.2.2.2.2.2
  simp [esub, List.lookup, e1, e2, e3, e4, e5, e6]
theorem esubQ_quote {c : Nat} (h : c ≠ 38 ∧ c ≠ 62 ∧ c ≠ 60 ∧ c ≠ 10 ∧ c ≠ 13 ∧ c ≠ 9) : esub (QP ++ [(34, [38, 113, 117, 111, 116, 59])]) c = if c = 34 then [38, 113, 117, 111, 116, 59] else [c] := by
  have e1 : (c == 38) = false := by simpa using h.1
  have e2 : (c == 62) = false := by simpa using h.2.1
  have e3 : (c == 60) = false := by simpa using h.2.2.1
  have e4 : (c == 10) = false := by simpa using h.2.2.2.1
  have e5 : (c == 13) = false := by simpa using h.2.2.2.2.1
  have e6 : (c == 9) = false := by simpa using h.2.2.2.2.2
  by_cases h34 : c = 34
  · subst h34; rfl
  · have e7 : (c == 34) = false := by simpa using h34
    simp [esub, List.lookup, e1, e2, e3, e4, e5, e6, e7, h34]
theorem attF_esub {k c : Nat} (h13 : c ≠ 13) (h9 : c ≠ 9) (hk : c ≠ k) : attF k c = esub QP c := by
  unfold attF
  by_cases h : c = 38 ∨ c = 60 ∨ c = 62 ∨ c = 10
  · rw [if_pos h]
  · rw [if_neg h, if_neg hk, esubQ_plain (by omega)]
theorem attF_quote {c : Nat} (h13 : c ≠ 13) (h9 : c ≠ 9) : attF 34 c = esub (QP ++ [(34, [38, 113, 117, 111, 116, 59])]) c := by
  unfold attF
  by_cases h : c = 38 ∨ c = 60 ∨ c = 62 ∨ c = 10
  · rw [if_pos h]
    rcases h with rfl | rfl | rfl | rfl <;> rfl
  · rw [if_neg h, esubQ_quote (by omega)]
theorem flatMap_same {f g : Nat → List Nat} : ∀ {l : List Nat}, (∀ c ∈ l, f c = g c) → l.flatMap f = l.flatMap g
  | [], _ => rfl
  | c :: r, h => by rw [List.flatMap_cons, List.flatMap_cons, h c (.head _), flatMap_same fun x hx => h x (.tail _ hx)]
theorem esubQ_mem {q : Nat} (hq : q = 34 ∨ q = 39) {l : List Nat} : q ∈ l.flatMap (esub QP) ↔ q ∈ l := by
  have key : ∀ c, q ∈ esub QP c ↔ q = c := by
    intro c
    by_cases h : c ≠ 38 ∧ c ≠ 62 ∧ c ≠ 60 ∧ c ≠ 10 ∧ c ≠ 13 ∧ c ≠ 9
    · rw [esubQ_plain h, List.mem_singleton]
    · have h : c = 38 ∨ c = 62 ∨ c = 60 ∨ c = 10 ∨ c = 13 ∨ c = 9 := by omega
      rcases hq with rfl | rfl <;> rcases h with rfl | rfl | rfl | rfl | rfl | rfl <;> decide
  rw [List.mem_flatMap]
  constructor
  · rintro ⟨c, hc, hx⟩
    rw [(key c).mp hx]; exact hc
  · intro h
    exact ⟨q, h, (key q).mpr rfl⟩
theorem quo_att {l : List Nat} (h : ∀ c ∈ l, c ≠ 13 ∧ c ≠ 9) : quoL l = attL l := by
  unfold quoL attL markL
  simp only [esubQ_mem (.inl rfl : (34 : Nat) = 34 ∨ (34 : Nat) = 39), esubQ_mem (.inr rfl : (39 : Nat) = 34 ∨ (39 : Nat) = 39)]
  by_cases h1 : 34 ∈ l
  · by_cases h2 : 39 ∈ l
    · simp only [if_pos h1, if_pos h2]
      rw [repl_esub (by decide)]
      rw [flatMap_same (fun c hc => (attF_quote (h c hc).1 (h c hc).2).symm)]
    · simp only [if_pos h1, if_neg h2]
      rw [flatMap_same (fun c hc => (attF_esub (k := 39) (h c hc).1 (h c hc).2 (fun e => h2 (by rw [← e]; exact hc))).symm)]
  · simp only [if_neg h1]
    rw [flatMap_same (fun c hc => (attF_esub (k := 34) (h c hc).1 (h c hc).2 (fun e => h1 (by rw [← e]; exact hc))).symm)]
end Mine
end
theorem Mine.topOffPz : True := by
  w_top off
  trivial

section
open PySem PySem.W PySem.W.X PyProof.Rows PySem.Calls
set_option maxRecDepth 100000
namespace Mine
/-! every 99 stands behind a 114 -/
noncomputable def pre99 : Nat → List Nat → Bool
  | _, [] => true
  | p, c :: r => (c != 99 || p == 114) && pre99 c r
theorem pre99_cons {p c : Nat} {r : List Nat} : pre99 p (c :: r) = true ↔ (c = 99 → p = 114) ∧ pre99 c r = true := by
  rw [pre99, Bool.and_eq_true, Bool.or_eq_true, bne_iff_ne, beq_iff_eq]
  constructor
  · rintro ⟨h, h'⟩
    exact ⟨fun e => h.resolve_left (fun x => x e), h'⟩
  · rintro ⟨h, h'⟩
    refine ⟨?_, h'⟩
    by_cases e : c = 99
    · exact .inr (h e)
    · exact .inl e
theorem pre99_any {p : Nat} {x : List Nat} (h : pre99 0 x = true) : pre99 p x = true := by
  cases x with
  | nil => rfl
  | cons c r =>
    obtain ⟨h1, h2⟩ := pre99_cons.mp h
    exact pre99_cons.mpr ⟨fun e => absurd (h1 e) (by decide), h2⟩
theorem pre99_append {b : List Nat} (hb : pre99 0 b = true) : ∀ {a : List Nat} {p : Nat}, pre99 p a = true → pre99 p (a ++ b) = true
  | [], _, _ => pre99_any hb
  | c :: a, _, h => by
    obtain ⟨h1, h2⟩ := pre99_cons.mp h
    exact pre99_cons.mpr ⟨h1, pre99_append hb h2⟩
theorem pre99_left {b : List Nat} : ∀ {a : List Nat} {p : Nat}, pre99 p (a ++ b) = true → pre99 p a = true
  | [], _, _ => rfl
  | c :: a, _, h => by
    obtain ⟨h1, h2⟩ := pre99_cons.mp (show pre99 _ (c :: (a ++ b)) = true from h)
    exact pre99_cons.mpr ⟨h1, pre99_left h2⟩
theorem pre99_over {b : List Nat} (hb : ∀ q, pre99 q b = true) : ∀ {a : List Nat} {p : Nat}, 99 ∉ a → pre99 p (a ++ b) = true
  | [], p, _ => hb p
  | c :: a, _, h => pre99_cons.mpr ⟨fun e => absurd (.head _) (e ▸ h), pre99_over hb fun x => h (.tail _ x)⟩
theorem pre99_map {f : Nat → List Nat} (hf : ∀ c, f c = [c] ∨ (99 ∉ f c ∧ c ≠ 114)) : ∀ {l : List Nat} {p p' : Nat}, (p = 114 → p' = 114) → pre99 p l = true → pre99 p' (l.flatMap f) = true
  | [], _, _, _, _ => rfl
  | c :: r, p, p', hp, h => by
    obtain ⟨h1, h2⟩ := pre99_cons.mp h
    rw [List.flatMap_cons]
    rcases hf c with e | ⟨e, e'⟩
    · rw [e]
      exact pre99_cons.mpr ⟨fun z => hp (h1 z), pre99_map hf (fun z => z) h2⟩
    · exact pre99_over (fun q => pre99_map hf (fun z => absurd z e') h2) e
theorem pre99_block {k : Nat} (hk : k ≠ 3) {r : List Nat} : ∀ {u : List Nat} {p : Nat}, u ≠ [] → (∀ c ∈ u, kd c = k) → pre99 p (u ++ r) = true → ∃ q, kd q ≠ 3 ∧ pre99 q r = true
  | [], _, h, _, _ => absurd rfl h
  | [c], _, _, h, hp => ⟨c, by rw [h c (.head _)]; exact hk, (pre99_cons.mp hp).2⟩
  | c :: d :: u, _, _, h, hp => pre99_block hk (u := d :: u) (by simp) (fun x hx => h x (.tail _ hx)) (pre99_cons.mp hp).2
theorem pre99_right : ∀ {u r : List Nat} {p : Nat}, pre99 p (u ++ r) = true → ∃ q, pre99 q r = true
  | [], _, p, h => ⟨p, h⟩
  | _ :: u, _, _, h => pre99_right (u := u) (pre99_cons.mp h).2
theorem no99 (x : List Nat) : ∀ p, kd p ≠ 3 → pre99 p x = true → [99] ∉ runsR x := by
  refine blocks (P := fun x => ∀ p, kd p ≠ 3 → pre99 p x = true → [99] ∉ runsR x) ?_ ?_ ?_ x.length x (Nat.le_refl _)
  · intro _ _ _
    rw [runsR_nil]; intro h; cases h
  · intro c r hk ih p _ hp
    rw [runsR_mark hk]
    exact ih c (by rw [hk]; decide) (pre99_cons.mp hp).2
  · intro k u r hk hu hku hr ih p hp3 hp
    rw [runsR_block hu hku (by omega) hr]
    intro hm
    rcases List.mem_cons.mp hm with e | hm
    · subst e
      have := (pre99_cons.mp hp).1 rfl
      rw [this] at hp3
      exact hp3 (by decide)
    · rcases hk with rfl | rfl
      · obtain ⟨q, h1, h2⟩ := pre99_block (by decide) hu hku hp
        exact ih q h1 h2 hm
      · obtain ⟨q, h2⟩ := pre99_right hp
        refine ih 46 (by decide) ?_ hm
        cases r with
        | nil => rfl
        | cons d s =>
          exact pre99_cons.mpr ⟨fun e => absurd (by rw [e]; decide) (hr d s rfl), (pre99_cons.mp h2).2⟩
/-! signs -/
noncomputable abbrev okc (c : Nat) : Prop := c < 128 ∧ c ≠ 98 ∧ c ≠ 100 ∧ c ≠ 104 ∧ c ≠ 82
theorem fair_of {x : List Nat} (h : ∀ c ∈ x, okc c) (hp : pre99 0 x = true) (hl : x.length ≤ 4300) : Fair x :=
  ⟨fun c hc => (h c hc).1, fun c hc => (h c hc).2, no99 x 46 (by decide) (pre99_any hp), hl⟩
theorem esub_ok {c : Nat} (h : okc c) : ∀ x ∈ esub EP c, okc x := by
  by_cases h1 : c = 38
  · subst h1; decide
  by_cases h2 : c = 62
  · subst h2; decide
  by_cases h3 : c = 60
  · subst h3; decide
  rw [esub_plain h1 h2 h3]
  intro x hx
  rw [List.mem_singleton.mp hx]; exact h
theorem attF_cases {k : Nat} (hk : k = 34 ∨ k = 39) (c : Nat) : attF k c = [c] ∨ ((∀ x ∈ attF k c, okc x ∧ x ≠ 99) ∧ c ≠ 114) := by
  by_cases h : c = 38 ∨ c = 60 ∨ c = 62 ∨ c = 10
  · refine .inr ?_
    unfold attF
    rw [if_pos h]
    rcases h with rfl | rfl | rfl | rfl <;> decide
  · by_cases hc : c = k
    · refine .inr ?_
      unfold attF
      rw [if_neg h, if_pos hc]
      refine ⟨by decide, ?_⟩
      omega
    · refine .inl ?_
      unfold attF
      rw [if_neg h, if_neg hc]
theorem markL_two (l : List Nat) : markL l = 34 ∨ markL l = 39 := by
  unfold markL
  split
  · split
    · exact .inl rfl
    · exact .inr rfl
  · exact .inl rfl
theorem att_ok {l : List Nat} (h : ∀ c ∈ l, okc c) : ∀ c ∈ attL l, okc c := by
  have hm := markL_two l
  have ho : okc (markL l) := by rcases hm with e | e <;> (rw [e]; decide)
  intro c hc
  unfold attL at hc
  rcases List.mem_append.mp hc with hc | hc
  · rcases List.mem_cons.mp hc with rfl | hc
    · exact ho
    · obtain ⟨d, hd, hx⟩ := List.mem_flatMap.mp hc
      rcases attF_cases hm d with e | ⟨e, _⟩
      · rw [e, List.mem_singleton] at hx
        rw [hx]; exact h d hd
      · exact (e c hx).1
  · rw [List.mem_singleton.mp hc]; exact ho
theorem att_pre {l : List Nat} (h : pre99 0 l = true) : pre99 0 (attL l) = true := by
  have hm := markL_two l
  unfold attL
  have h1 : pre99 0 [markL l] = true := by rcases hm with e | e <;> (rw [e]; rfl)
  refine pre99_append h1 (pre99_cons.mpr ⟨fun e => ?_, pre99_map (fun c => ?_) (fun e => absurd e (by decide)) h⟩)
  · rcases hm with e' | e' <;> (rw [e'] at e; cases e)
  · rcases attF_cases hm c with e | ⟨e, e'⟩
    · exact .inl e
    · exact .inr ⟨fun x => (e 99 x).2 rfl, e'⟩
theorem esc_pre {l : List Nat} (h : pre99 0 l = true) : pre99 0 (escL l) = true := by
  refine pre99_map (fun c => ?_) (fun e => e) h
  by_cases h1 : c = 38
  · subst h1; exact .inr (by decide)
  by_cases h2 : c = 62
  · subst h2; exact .inr (by decide)
  by_cases h3 : c = 60
  · subst h3; exact .inr (by decide)
  exact .inl (esub_plain h1 h2 h3)
/-! the text of the law -/
theorem piece_all {P : List Nat → Prop} [DecidablePred P] (h : ∀ k, k < 21 → P (piecesL.getD k [])) (n : Int) : P (pieceOf n) := by
  have h1 : 0 ≤ n.fmod 21 := Int.fmod_nonneg_of_pos n (by decide)
  have h2 : n.fmod 21 < 21 := Int.fmod_lt_of_pos n (by decide)
  unfold pieceOf
  exact h _ (by omega)
theorem piece_signs (n : Int) : ∀ c ∈ pieceOf n, okc c ∧ c ≠ 13 ∧ c ≠ 9 := piece_all (P := fun p => ∀ c ∈ p, okc c ∧ c ≠ 13 ∧ c ≠ 9) (by decide) n
theorem piece_pre (n : Int) : pre99 0 (pieceOf n) = true := piece_all (P := fun p => pre99 0 p = true) (by decide) n
theorem piece_esc (n : Int) : ((pieceOf n).flatMap (esub EP)).length ≤ 9 := piece_all (P := fun p => (p.flatMap (esub EP)).length ≤ 9) (by decide) n
theorem piece_att {k : Nat} (hk : k = 34 ∨ k = 39) (n : Int) : ((pieceOf n).flatMap (attF k)).length ≤ 9 := by
  rcases hk with rfl | rfl
  · exact piece_all (P := fun p => (p.flatMap (attF 34)).length ≤ 9) (by decide) n
  · exact piece_all (P := fun p => (p.flatMap (attF 39)).length ≤ 9) (by decide) n
theorem text_map_len {f : Nat → List Nat} (h : ∀ n, ((pieceOf n).flatMap f).length ≤ 9) : ∀ nn : List Int, ((nn.flatMap pieceOf).flatMap f).length ≤ 9 * nn.length
  | [] => by simp
  | a :: r => by
    have h1 := text_map_len h r
    have h2 := h a
    simp only [List.flatMap_cons, List.flatMap_append, List.length_append, List.length_cons]
    omega
theorem take_map_len (f : Nat → List Nat) (T : List Nat) (j : Nat) : ((T.take j).flatMap f).length ≤ (T.flatMap f).length := by
  have e : T.flatMap f = (T.take j).flatMap f ++ (T.drop j).flatMap f := by rw [← List.flatMap_append, List.take_append_drop]
  rw [e, List.length_append]
  omega
theorem text_pre : ∀ nn : List Int, pre99 0 (nn.flatMap pieceOf) = true
  | [] => rfl
  | a :: r => by
    rw [List.flatMap_cons]
    exact pre99_append (text_pre r) (piece_pre a)
theorem prefix_ok (ns : List Int) (j : Nat) : RightOk (((ns.take 10 ++ tailN).flatMap pieceOf).take j) := by
  have hnl := nn_len ns
  generalize ns.take 10 ++ tailN = nn at hnl
  have hT := text_len hnl
  have hs : ∀ c ∈ (nn.flatMap pieceOf).take j, okc c ∧ c ≠ 13 ∧ c ≠ 9 := fun c hc => by
    obtain ⟨n, _, hx⟩ := List.mem_flatMap.mp (List.mem_of_mem_take hc)
    exact piece_signs n c hx
  have hp : pre99 0 ((nn.flatMap pieceOf).take j) = true := pre99_left (b := (nn.flatMap pieceOf).drop j) (by rw [List.take_append_drop]; exact text_pre nn)
  have hE : (escL ((nn.flatMap pieceOf).take j)).length ≤ 297 := by
    have h1 := take_map_len (esub EP) (nn.flatMap pieceOf) j
    have h2 := text_map_len piece_esc nn
    show (((nn.flatMap pieceOf).take j).flatMap (esub EP)).length ≤ 297
    omega
  have hA : (attL ((nn.flatMap pieceOf).take j)).length ≤ 299 := by
    have hm := markL_two ((nn.flatMap pieceOf).take j)
    have h1 := take_map_len (attF (markL ((nn.flatMap pieceOf).take j))) (nn.flatMap pieceOf) j
    have h2 := text_map_len (piece_att hm) nn
    unfold attL
    simp only [List.length_append, List.length_cons, List.length_nil]
    omega
  have hl : ((nn.flatMap pieceOf).take j).length ≤ 165 := by rw [List.length_take]; omega
  generalize (nn.flatMap pieceOf).take j = l at hs hp hE hA hl
  have hu := unesc_open l
  have hq := quo_att fun c hc => (hs c hc).2
  have ok : ∀ c ∈ l, okc c := fun c hc => (hs c hc).1
  have okE : ∀ c ∈ escL l, okc c := fun c hc => by
    obtain ⟨d, hd, hx⟩ := escL_mem hc
    exact esub_ok (ok d hd) c hx
  have okU : ∀ c ∈ openK 0 l, okc c := fun c hc => by
    rcases open_mem _ l (Nat.le_refl _) c hc with h | ⟨_, _, h⟩
    · exact ok c h
    · rcases h with rfl | rfl | rfl <;> decide
  have okA := att_ok ok
  have hO := open_len _ l (Nat.le_refl _)
  have fl : Fair l := fair_of ok hp (by omega)
  have f1 : cvL l = rkL l := cv_rk fl
  refine ⟨by omega, by omega, by rw [hu]; omega, by rw [hq]; omega, by omega, fun c hc => (ok c hc).1, fun c hc => (okE c hc).1, fun c hc => (okU c (hu ▸ hc)).1, fun c hc => (okA c (hq ▸ hc)).1, f1, ?_, ?_, ?_, hu, hq⟩
  · rw [cv_rk (fair_of okE (esc_pre hp) (by omega)), rk_esc]
  · rw [hu, ← rk_open]
    refine cv_rk ⟨fun c hc => (okU c hc).1, fun c hc => (okU c hc).2, ?_, by omega⟩
    rw [runs_open]
    intro h
    obtain ⟨r, hr, e⟩ := List.mem_map.mp h
    have : r = [99] := (open_word (by decide)).mp e
    rw [this] at hr
    exact fl.no99 hr
  · rw [hq]
    exact cv_rk (fair_of okA (att_pre hp) (by omega))
end Mine
end
theorem Mine.topOffPv : True := by
  w_top off
  trivial

theorem PySem.Challenge.cw_ik0022_01_holds : PySem.Challenge.rw_ik0022_01.Holds :=
  Mine.law_walk Mine.prefix_ok ()
