import PyProof.Rows.All
import Wide.All
import OpenK.AllK
import Wide.FinOn
import PySem.Challenge.RW_tr0007_01
open PySem PySem.W PySem.Calls PyProof.Rows PyProof.Rows.TI
set_option Elab.async false
set_option maxRecDepth 100000
set_option maxHeartbeats 8000000
namespace Mine
section
open PySem PySem.W PyProof.Rows
set_option maxRecDepth 100000
set_option maxHeartbeats 8000000
open_top hd for PySem.Challenge.rw_tr0007_01
end
section
theorem calmPlain0 : True := by w_top off; k_with_none; trivial
/-- what is left of a list when the items equal to e at its head are skipped -/
def sk (e : Int) : List Int → List Int
  | [] => []
  | x :: r => if x = e then sk e r else x :: r
theorem sk_len (e : Int) : ∀ l, (sk e l).length ≤ l.length
  | [] => Nat.le_refl _
  | x :: r => by
    unfold sk
    split
    · exact Nat.le_succ_of_le (sk_len e r)
    · exact Nat.le_refl _
/-- sorted_list_difference, by the turns of its loop -/
def sldN : Nat → List Int → List Int → List Int × List Int
  | 0, _, _ => ([], [])
  | _ + 1, [], ys => ([], ys)
  | _ + 1, x :: xs, [] => (x :: xs, [])
  | f + 1, x :: xs, y :: ys =>
    if x < y then (x :: (sldN f (sk x xs) (y :: ys)).1, (sldN f (sk x xs) (y :: ys)).2)
    else if y < x then ((sldN f (x :: xs) (sk y ys)).1, y :: (sldN f (x :: xs) (sk y ys)).2)
    else sldN f (sk x xs) (sk y ys)
theorem sldN_more : ∀ (f g : Nat) (xs ys : List Int), xs.length + ys.length < f → xs.length + ys.length < g → sldN f xs ys = sldN g xs ys
  | 0, _, _, _, h, _ => absurd h (Nat.not_lt_zero _)
  | _ + 1, 0, _, _, _, h => absurd h (Nat.not_lt_zero _)
  | f + 1, g + 1, [], ys, _, _ => rfl
  | f + 1, g + 1, x :: xs, [], _, _ => rfl
  | f + 1, g + 1, x :: xs, y :: ys, h1, h2 => by
    have l1 := sk_len x xs
    have l2 := sk_len y ys
    simp only [List.length_cons] at h1 h2
    unfold sldN
    rw [sldN_more f g (sk x xs) (y :: ys) (by simp only [List.length_cons]; omega) (by simp only [List.length_cons]; omega),
      sldN_more f g (x :: xs) (sk y ys) (by simp only [List.length_cons]; omega) (by simp only [List.length_cons]; omega),
      sldN_more f g (sk x xs) (sk y ys) (by omega) (by omega)]
def sld (xs ys : List Int) : List Int × List Int := sldN (xs.length + ys.length + 1) xs ys
theorem sld_nil (ys : List Int) : sld [] ys = ([], ys) := rfl
theorem sld_nil' (xs : List Int) : sld xs [] = (xs, []) := by cases xs <;> rfl
theorem sld_lt {x y : Int} {xs ys : List Int} (h : x < y) : sld (x :: xs) (y :: ys) = (x :: (sld (sk x xs) (y :: ys)).1, (sld (sk x xs) (y :: ys)).2) := by
  have l1 := sk_len x xs
  have e : sldN ((sk x xs).length + (y :: ys).length + 1) (sk x xs) (y :: ys) = sldN ((x :: xs).length + (y :: ys).length) (sk x xs) (y :: ys) :=
    sldN_more _ _ _ _ (by omega) (by simp only [List.length_cons]; omega)
  unfold sld
  rw [e]
  show sldN (((x :: xs).length + (y :: ys).length) + 1) (x :: xs) (y :: ys) = _
  rw [sldN, if_pos h]
theorem sld_gt {x y : Int} {xs ys : List Int} (h : y < x) : sld (x :: xs) (y :: ys) = ((sld (x :: xs) (sk y ys)).1, y :: (sld (x :: xs) (sk y ys)).2) := by
  have l1 := sk_len y ys
  have e : sldN ((x :: xs).length + (sk y ys).length + 1) (x :: xs) (sk y ys) = sldN ((x :: xs).length + (y :: ys).length) (x :: xs) (sk y ys) :=
    sldN_more _ _ _ _ (by omega) (by simp only [List.length_cons]; omega)
  unfold sld
  rw [e]
  show sldN (((x :: xs).length + (y :: ys).length) + 1) (x :: xs) (y :: ys) = _
  rw [sldN, if_neg (by omega), if_pos h]
theorem sld_eq {x : Int} {xs ys : List Int} : sld (x :: xs) (x :: ys) = sld (sk x xs) (sk x ys) := by
  have l1 := sk_len x ys
  have l2 := sk_len x xs
  have e : sldN ((sk x xs).length + (sk x ys).length + 1) (sk x xs) (sk x ys) = sldN ((x :: xs).length + (x :: ys).length) (sk x xs) (sk x ys) :=
    sldN_more _ _ _ _ (by omega) (by simp only [List.length_cons]; omega)
  unfold sld
  rw [e]
  show sldN (((x :: xs).length + (x :: ys).length) + 1) (x :: xs) (x :: ys) = _
  rw [sldN, if_neg (by omega), if_neg (by omega)]
/-- the loop's word: what is told so far and what the rest will tell are the whole -/
def SldI (xs ys : List Int) (i j : Int) (us vs : List Int) : Prop :=
  us ++ (sld (xs.drop i.toNat) (ys.drop j.toNat)).1 = (sld xs ys).1 ∧ vs ++ (sld (xs.drop i.toNat) (ys.drop j.toNat)).2 = (sld xs ys).2
theorem SldI.start (xs ys : List Int) : SldI xs ys 0 0 [] [] := ⟨rfl, rfl⟩
/-- the skipping loops' word: from place i the skip goes on as it does from place k -/
def SkI (e : Int) (xs : List Int) (k i : Int) : Prop := sk e (xs.drop k.toNat) = sk e (xs.drop i.toNat)
theorem SkI.start (e : Int) (xs : List Int) (k : Int) : SkI e xs k k := rfl
theorem drop_at {xs : List Int} {i : Int} (h0 : 0 ≤ i) (h1 : i < xs.length) : xs.drop i.toNat = xs.getD i.toNat 0 :: xs.drop (i + 1).toNat := by
  have e : (i + 1).toNat = i.toNat + 1 := by omega
  have hl : i.toNat < xs.length := by omega
  rw [e, List.drop_eq_getElem_cons hl]
  simp [hl]
theorem SkI.step {e : Int} {xs : List Int} {k i : Int} (h : SkI e xs k i) (h0 : 0 ≤ i) (h1 : i < xs.length) (he : xs.getD i.toNat 0 = e) : SkI e xs k (i + 1) := by
  unfold SkI at h ⊢
  rw [h, drop_at h0 h1, sk, if_pos he]
theorem SkI.stop {e : Int} {xs : List Int} {k i : Int} (h : SkI e xs k i) (h0 : 0 ≤ i) (h1 : i < xs.length) (he : xs.getD i.toNat 0 ≠ e) : sk e (xs.drop k.toNat) = xs.drop i.toNat := by
  unfold SkI at h
  rw [h, drop_at h0 h1, sk, if_neg he]
theorem SkI.out {e : Int} {xs : List Int} {k i : Int} (h : SkI e xs k i) (h1 : (xs.length : Int) ≤ i) : sk e (xs.drop k.toNat) = xs.drop i.toNat := by
  unfold SkI at h
  rw [h, List.drop_eq_nil_of_le (by omega)]
  rfl
theorem SldI.lt {xs ys us vs : List Int} {i j i' : Int} (h : SldI xs ys i j us vs) (h0 : 0 ≤ i) (h1 : i < xs.length) (g0 : 0 ≤ j) (g1 : j < ys.length)
    (hlt : xs.getD i.toNat 0 < ys.getD j.toNat 0) (hs : sk (xs.getD i.toNat 0) (xs.drop (i + 1).toNat) = xs.drop i'.toNat) : SldI xs ys i' j (us ++ [xs.getD i.toNat 0]) vs := by
  unfold SldI at h ⊢
  rw [drop_at h0 h1, drop_at g0 g1, sld_lt hlt, hs, ← drop_at g0 g1] at h
  simpa using h
theorem SldI.gt {xs ys us vs : List Int} {i j j' : Int} (h : SldI xs ys i j us vs) (h0 : 0 ≤ i) (h1 : i < xs.length) (g0 : 0 ≤ j) (g1 : j < ys.length)
    (hlt : ys.getD j.toNat 0 < xs.getD i.toNat 0) (hs : sk (ys.getD j.toNat 0) (ys.drop (j + 1).toNat) = ys.drop j'.toNat) : SldI xs ys i j' us (vs ++ [ys.getD j.toNat 0]) := by
  unfold SldI at h ⊢
  rw [drop_at h0 h1, drop_at g0 g1, sld_gt hlt, hs, ← drop_at h0 h1] at h
  simpa using h
theorem SldI.eq {xs ys us vs : List Int} {i j i' j' : Int} (h : SldI xs ys i j us vs) (h0 : 0 ≤ i) (h1 : i < xs.length) (g0 : 0 ≤ j) (g1 : j < ys.length)
    (heq : xs.getD i.toNat 0 = ys.getD j.toNat 0) (hs : sk (xs.getD i.toNat 0) (xs.drop (i + 1).toNat) = xs.drop i'.toNat)
    (gs : sk (ys.getD j.toNat 0) (ys.drop (j + 1).toNat) = ys.drop j'.toNat) : SldI xs ys i' j' us vs := by
  unfold SldI at h ⊢
  rw [drop_at h0 h1, drop_at g0 g1, ← heq, sld_eq, hs, heq, gs] at h
  exact h
theorem SldI.done {xs ys us vs : List Int} {i j : Int} (h : SldI xs ys i j us vs) (he : (xs.length : Int) ≤ i ∨ (ys.length : Int) ≤ j) :
    us ++ xs.drop i.toNat = (sld xs ys).1 ∧ vs ++ ys.drop j.toNat = (sld xs ys).2 := by
  unfold SldI at h
  rcases he with he | he
  · have e : xs.drop i.toNat = [] := List.drop_eq_nil_of_le (by omega)
    rw [e, sld_nil] at h
    rw [e]
    exact h
  · have e : ys.drop j.toNat = [] := List.drop_eq_nil_of_le (by omega)
    rw [e, sld_nil'] at h
    rw [e]
    exact h
theorem SldI.ltW {xs ys us vs : List Int} {i j i' : Int} (h : SldI xs ys i j us vs) (h0 : 0 ≤ i) (h1 : i < xs.length) (g0 : 0 ≤ j) (g1 : j < ys.length)
    (hlt : xs.getD i.toNat 0 < ys.getD j.toNat 0) (hk : SkI (xs.getD i.toNat 0) xs (i + 1) i') (k0 : 0 ≤ i') (k1 : i' < xs.length) (hne : ¬ xs.getD i'.toNat 0 = xs.getD i.toNat 0) :
    SldI xs ys i' j (us ++ [xs.getD i.toNat 0]) vs := h.lt h0 h1 g0 g1 hlt (hk.stop k0 k1 hne)
theorem SldI.gtW {xs ys us vs : List Int} {i j j' : Int} (h : SldI xs ys i j us vs) (h0 : 0 ≤ i) (h1 : i < xs.length) (g0 : 0 ≤ j) (g1 : j < ys.length)
    (hlt : ys.getD j.toNat 0 < xs.getD i.toNat 0) (hk : SkI (ys.getD j.toNat 0) ys (j + 1) j') (k0 : 0 ≤ j') (k1 : j' < ys.length) (hne : ¬ ys.getD j'.toNat 0 = ys.getD j.toNat 0) :
    SldI xs ys i j' us (vs ++ [ys.getD j.toNat 0]) := h.gt h0 h1 g0 g1 hlt (hk.stop k0 k1 hne)
theorem SldI.eqW {xs ys us vs : List Int} {i j i' j' : Int} (h : SldI xs ys i j us vs) (h0 : 0 ≤ i) (h1 : i < xs.length) (g0 : 0 ≤ j) (g1 : j < ys.length)
    (n1 : ¬ xs.getD i.toNat 0 < ys.getD j.toNat 0) (n2 : ¬ ys.getD j.toNat 0 < xs.getD i.toNat 0) (hk : SkI (xs.getD i.toNat 0) xs (i + 1) i') (k0 : 0 ≤ i') (hne : i' < xs.length → ¬ xs.getD i'.toNat 0 = xs.getD i.toNat 0)
    (gk : SkI (ys.getD j.toNat 0) ys (j + 1) j') (m0 : 0 ≤ j') (gne : j' < ys.length → ¬ ys.getD j'.toNat 0 = ys.getD j.toNat 0) : SldI xs ys i' j' us vs := by
  refine h.eq h0 h1 g0 g1 (by omega) ?_ ?_
  · by_cases k1 : i' < xs.length
    · exact hk.stop k0 k1 (hne k1)
    · exact hk.out (by omega)
  · by_cases m1 : j' < ys.length
    · exact gk.stop m0 m1 (gne m1)
    · exact gk.out (by omega)
theorem SldI.doneLt {xs ys us vs : List Int} {i j i' : Int} (h : SldI xs ys i j us vs) (h0 : 0 ≤ i) (h1 : i < xs.length) (g0 : 0 ≤ j) (g1 : j < ys.length)
    (hlt : xs.getD i.toNat 0 < ys.getD j.toNat 0) (hk : SkI (xs.getD i.toNat 0) xs (i + 1) i') (k1 : (xs.length : Int) ≤ i') : 
    (us ++ [xs.getD i.toNat 0]) ++ xs.drop i'.toNat = (sld xs ys).1 ∧ vs ++ ys.drop j.toNat = (sld xs ys).2 := (h.lt h0 h1 g0 g1 hlt (hk.out k1)).done (.inl k1)
theorem SldI.doneGt {xs ys us vs : List Int} {i j j' : Int} (h : SldI xs ys i j us vs) (h0 : 0 ≤ i) (h1 : i < xs.length) (g0 : 0 ≤ j) (g1 : j < ys.length)
    (hlt : ys.getD j.toNat 0 < xs.getD i.toNat 0) (hk : SkI (ys.getD j.toNat 0) ys (j + 1) j') (k1 : (ys.length : Int) ≤ j') : 
    us ++ xs.drop i.toNat = (sld xs ys).1 ∧ (vs ++ [ys.getD j.toNat 0]) ++ ys.drop j'.toNat = (sld xs ys).2 := (h.gt h0 h1 g0 g1 hlt (hk.out k1)).done (.inr k1)
end
section
theorem calmExcA : True := by w_top off; k_with_none; trivial
open PySem PySem.W PySem.Calls PyProof.Rows PyProof.Rows.TI
set_option maxRecDepth 100000

/-- the six places of an IndexError's record: its arguments, its traceback b, its context c -/
abbrev excF (t b c : Value) : Array Value := #[t, b, c, .none, .bool false, .none]

structure ExcNew (h₀ : Heap) (L : Addr) (h : Heap) (m : Str → Option Value) (e : Addr) (c : Value) (news : List (Addr × Obj)) : Prop where
  fr : Fr h₀ L h m
  made : News h₀ L h news
  fresh : h₀.get? e = none
  neL : e ≠ L
  off : ∀ p ∈ news, p.1 ≠ e
  there : ∃ ob t, h.get? e = some ob ∧ ob.cls = .type "IndexError" ∧ ob.data = .fields (excF t .none c)

structure ExcUp (h₀ : Heap) (L : Addr) (h : Heap) (m : Str → Option Value) (e : Addr) (c : Value) (news : List (Addr × Obj)) (fl : Value) : Prop where
  fr : Fr h₀ L h m
  made : News h₀ L h news
  fresh : h₀.get? e = none
  neL : e ≠ L
  off : ∀ p ∈ news, p.1 ≠ e
  there : ∃ ob t tb otb tvs, h.get? e = some ob ∧ ob.cls = .type "IndexError" ∧ ob.data = .fields (excF t (.ref tb) c) ∧ h.get? tb = some otb ∧ otb.data = .fields tvs ∧ tvs[3]? = some fl ∧
    tb ≠ L ∧ tb ≠ e ∧ h₀.get? tb = none ∧ ∀ p ∈ news, p.1 ≠ tb

theorem get_update_ne' {h : Heap} {a b : Addr} {f : Obj → Obj} (hne : b ≠ a) : (h.update a f).get? b = h.get? b := Heap.get?_update_ne h b a f hne

section
variable {M : Model} {A : Around} {E : Value → Shared → Prop} {s : Shared} {h₀ h : Heap} {L L' a e : Addr} {m : Str → Option Value} {c fl : Value} {news new : List (Addr × Obj)} {name : Str} {scope : Scope} {cd : Value} {Q : Unit → Shared → Prop}

theorem fr_update {b : Addr} {f : Obj → Obj} (F : Fr h₀ L h m) (hL : L ≠ b) (h0 : h₀.get? b = none) : Fr h₀ L (h.update b f) m := by
  obtain ⟨oL, es, ep, hl, r⟩ := F.ns
  exact ⟨⟨oL, es, ep, (get_update_ne' hL).trans hl, r⟩, fun x o hx => (get_update_ne' (fun q => by rw [q, h0] at hx; cases hx)).trans (F.keep x o hx), F.above⟩
theorem news_update {b : Addr} {f : Obj → Obj} (N : News h₀ L h news) (hb : ∀ p ∈ news, p.1 ≠ b) : News h₀ L (h.update b f) news :=
  fun p hp => ⟨(get_update_ne' (hb p hp)).trans (N p hp).1, (N p hp).2⟩

theorem ExcNew.of {h₁ : Heap} (F : Fr h₀ L h m) (N : News h₀ L h news) (hx : Heap.NewExc h h₁ e "IndexError") : ExcNew h₀ L h₁ m e .none news where
  fr := F.keeps hx.keeps
  made := fun p hp => ⟨hx.keeps _ _ (N p hp).1, (N p hp).2⟩
  fresh := by
    cases q : h₀.get? e with
    | none => rfl
    | some o => have := F.keep e o q; rw [hx.new] at this; cases this
  neL := fun q => by
    obtain ⟨oL, _, _, hl, _⟩ := F.ns
    have := hx.new
    rw [q, hl] at this; cases this
  off := fun p hp q => by
    have := (N p hp).1
    rw [q, hx.new] at this; cases this
  there := by
    obtain ⟨ob, t, h1, h2, h3⟩ := hx.there
    exact ⟨ob, t, h1, h2, h3⟩

/-- set flight to none -/
theorem ExcUp.land (H : ExcUp h₀ L s.heap m e c news fl) (k : ∀ h', ExcUp h₀ L h' m e c news .none → Q () { s with heap := h' }) : wpAny M A (setFlight (.ref e) none) Q E s := by
  obtain ⟨F, N, hf, hneL, hoff, ob, t, tb, otb, tvs, he, hc, hd, htb, htd, h3, htbL, htbe, htb0, hap⟩ := H
  have hsz : 3 < tvs.size := (Array.getElem?_eq_some_iff.mp h3).1
  refine wpAny_setFlight_none (tb := tb) he hd rfl htb htd hsz (k _ ⟨fr_update F (Ne.symm htbL) htb0, news_update N hap, hf, hneL, hoff, ob, t, tb, _, _, (get_update_ne' (Ne.symm htbe)).trans he, hc, hd,
    Heap.get?_update_self _ htb (Obj.isFreed_of_fields (Obj.data_mapFields htd _)), Obj.data_mapFields htd _, by simp [Array.getElem?_setIfInBounds, hsz], htbL, htbe, htb0, hap⟩)
/-- set flight to a frame -/
theorem ExcUp.fly (H : ExcUp h₀ L s.heap m e c news fl) (f : Addr) (k : ∀ h', ExcUp h₀ L h' m e c news (rawInt f) → Q () { s with heap := h' }) : wpAny M A (setFlight (.ref e) (some f)) Q E s := by
  obtain ⟨F, N, hf, hneL, hoff, ob, t, tb, otb, tvs, he, hc, hd, htb, htd, h3, htbL, htbe, htb0, hap⟩ := H
  have hsz : 3 < tvs.size := (Array.getElem?_eq_some_iff.mp h3).1
  unfold setFlight
  refine wpAny_bind (wpAny_field (x := .ref tb) he hd rfl ?_)
  rw [if_pos (show (Value.ref tb != Value.none) = true from by simp)]
  refine wpAny_setField htb htd hsz (k _ ⟨fr_update F (Ne.symm htbL) htb0, news_update N hap, hf, hneL, hoff, ob, t, tb, _, _, (get_update_ne' (Ne.symm htbe)).trans he, hc, hd,
    Heap.get?_update_self _ htb (Obj.isFreed_of_fields (Obj.data_mapFields htd _)), Obj.data_mapFields htd _, by simp [Array.getElem?_setIfInBounds, hsz], htbL, htbe, htb0, hap⟩)
/-- noted already: nothing turns -/
theorem ExcUp.again (H : ExcUp h₀ L s.heap m e c news (rawInt L)) (k : Q () s) : wpAny M A (noteFrame (.ref e) (envOf name scope L a cd)) Q E s := by
  obtain ⟨F, N, hf, hneL, hoff, ob, t, tb, otb, tvs, he, hc, hd, htb, htd, h3, htbL, htbe, htb0, hap⟩ := H
  unfold noteFrame
  simp only [show (envOf name scope L a cd).frame = some L from rfl]
  refine wpAny_bind (wpAny_field (x := .ref tb) he hd rfl ?_)
  rw [if_pos (show (Value.ref tb != Value.none) = true from by simp)]
  refine wpAny_bind (wpAny_field htb htd h3 ?_)
  rw [if_pos (show (rawInt L == rawInt L) = true from by simp)]
  first | exact wpAny_pure k | exact wpAny_bind (wpAny_pure k)

/-- the first note -/
theorem ExcNew.note {A₀ : Around} {env : Env} {oL : Obj} (hfr : A₀.frames = some [env]) (Fs : Frs [env] [(L, oL)]) (H : ExcNew h₀ L' s.heap m e c (new ++ [(L, oL)])) (hne : ∀ p ∈ new, p.1 ≠ L) (hk : scope.kind = .function)
    (k : ∀ h' sl, Frs [env] [(L, { oL with slots := sl })] → ExcUp h₀ L' h' m e c (new ++ [(L, { oL with slots := sl })]) (rawInt L') → Q () { s with heap := h' }) :
    wpAny M (A₀.deeper (envOf name scope L' a cd)) (noteFrame (.ref e) (envOf name scope L' a cd)) Q E s := by
  obtain ⟨F, N, hf, hneL, hoff, ob, t, he, hc, hd⟩ := H
  have hLm : (L, oL) ∈ new ++ [(L, oL)] := List.mem_append_right _ (List.mem_singleton.mpr rfl)
  have hL0 : h₀.get? L = none := (N _ hLm).2.2
  have hLe : L ≠ e := hoff _ hLm
  have hLL : L ≠ L' := (N _ hLm).2.1
  obtain ⟨oL', es, ep, hL', hLd', hLk, hLf⟩ := F.ns
  have hL0' : h₀.get? L' = none := by
    cases q : h₀.get? L' with
    | none => rfl
    | some o => exact absurd (Nat.lt_of_lt_of_le (Heap.lt_size q) F.above) (Nat.lt_irrefl _)
  have Fs2 := Fs
  obtain ⟨hkm, hfe, ⟨es2, ep2, hde⟩, _⟩ := Fs2
  have hff : s.heap.FunFrames h₀ (envOf name scope L' a cd :: [env]) :=
    ⟨by show scope.kind ≠ .module; rw [hk]; decide, ⟨L', oL', rfl, hL0', hL', fun vs q => by rw [hLd'] at q; cases q⟩, hkm, ⟨L, oL, hfe, hL0, (N _ hLm).1, fun vs q => by have q' : oL.data = .fields vs := q; rw [hde] at q'; cases q'⟩, trivial⟩
  unfold noteFrame
  simp only [show (envOf name scope L' a cd).frame = some L' from rfl]
  refine wpAny_bind (wpAny_field (x := .none) he hd rfl ?_)
  rw [if_neg (by decide)]
  refine wpAny_bind (wpAny_frameOf_fun (Around.frames_deeper hfr) hff rfl fun h₁ hs₁ => ?_)
  refine wpAny_bind (wpAny_entryPlaceOf fun pl hpl => ?_)
  have hin : ∀ b, b ∈ (envOf name scope L' a cd :: [env]).filterMap (·.frame) → b = L' ∨ b = L := fun b hb => by
    have e1 : (envOf name scope L' a cd :: [env]).filterMap (·.frame) = [L', L] := by simp [envOf, hfe]
    rw [e1] at hb
    rcases List.mem_cons.mp hb with h | h
    · exact .inl h
    · exact .inr (List.mem_singleton.mp h)
  have keep₁ : ∀ b, b ≠ L' → b ≠ L → h₁.get? b = s.heap.get? b := fun b h1 h2 => hs₁.2.1 b fun hb => (hin b hb).elim h1 h2
  obtain ⟨sl', hl'⟩ := hs₁.2.2 L' oL' hL'
  obtain ⟨sl, hl⟩ := hs₁.2.2 L oL (N _ hLm).1
  have he₁ : h₁.get? e = some ob := (keep₁ e hneL (Ne.symm hLe)).trans he
  unfold EntryCells.newEntry newFields
  refine wpAny_bind (wpAny_newObj_type ?_ (hpl.sizeOk5 _ _ _ _ _))
  have pu : ∀ {b o}, h₁.get? b = some o → ∀ x : Obj, (h₁.push x).get? b = some o := fun hb x => Heap.get?_push_of_some x hb
  refine wpAny_setField (pu he₁ _) hd (by show 1 < 6; decide) ?_
  have hne1 : ∀ b o, h₁.get? b = some o → b ≠ h₁.objs.size := fun b o hb => Nat.ne_of_lt (Heap.lt_size hb)
  have up : ∀ b o, b ≠ e → h₁.get? b = some o → ((h₁.push { cls := .type "traceback", dict := none, data := .fields ([Value.none, .ref L', .none, rawInt L', .none] ++ (if pl.isEmpty then List.replicate 6 Value.none else pl)).toArray }).update e (Obj.mapFields (·.setIfInBounds 1 (.ref h₁.objs.size)))).get? b = some o :=
    fun b o hb h => (get_update_ne' hb).trans (pu h _)
  have h0sz : h₀.get? h₁.objs.size = none := by
    cases q : h₀.get? h₁.objs.size with
    | none => rfl
    | some o =>
      have q1 := F.keep _ _ q
      have q2 : h₁.objs.size ≠ L' := fun z => by rw [z, hL0'] at q; cases q
      have q3 : h₁.objs.size ≠ L := fun z => by rw [z, hL0] at q; cases q
      rw [← keep₁ _ q2 q3] at q1
      exact absurd (Heap.lt_size q1) (Nat.lt_irrefl _)
  refine k _ sl ⟨hkm, hfe, ⟨es2, ep2, hde⟩, trivial⟩ ⟨⟨⟨_, es, ep, up _ _ (Ne.symm hneL) hl', hLd', hLk, hLf⟩, fun b o hb => up b o (fun q => by rw [q, hf] at hb; cases hb) ((keep₁ b (fun q => by rw [q, hL0'] at hb; cases hb) (fun q => by rw [q, hL0] at hb; cases hb)).trans (F.keep b o hb)), F.above⟩,
    fun p hp => ?_, hf, hneL, fun p hp => ?_, ?_⟩
  · rcases List.mem_append.mp hp with hp | hp
    · have q := N p (List.mem_append_left _ hp)
      exact ⟨up _ _ (hoff p (List.mem_append_left _ hp)) ((keep₁ _ q.2.1 (hne p hp)).trans q.1), q.2⟩
    · obtain rfl := List.mem_singleton.mp hp
      exact ⟨up _ _ hLe hl, hLL, hL0⟩
  · rcases List.mem_append.mp hp with hp | hp
    · exact hoff p (List.mem_append_left _ hp)
    · obtain rfl := List.mem_singleton.mp hp
      exact hLe
  · have hTe : h₁.objs.size ≠ e := Ne.symm (hne1 _ _ he₁)
    refine ⟨_, t, h₁.objs.size, _, _, Heap.get?_update_self _ (pu he₁ _) (Obj.isFreed_of_fields (Obj.data_mapFields hd _)), (Obj.cls_mapFields _ _).trans hc, Obj.data_mapFields hd _, (get_update_ne' hTe).trans (Heap.get?_push_size h₁ rfl), rfl,
      ?_, Ne.symm (hne1 _ _ hl'), hTe, h0sz, fun p hp => ?_⟩
    · first | (simp; done) | (rcases hpl with rfl | ⟨_, _, _, _, _, _, _, rfl⟩ <;> simp)
    · rcases List.mem_append.mp hp with hp | hp
      · have q := N p (List.mem_append_left _ hp)
        exact hne1 _ _ ((keep₁ _ q.2.1 (hne p hp)).trans q.1)
      · obtain rfl := List.mem_singleton.mp hp
        exact hne1 _ _ hl
end

theorem entry_unchain : entryFor table "proto.unchain" = some Builtin.«proto.unchain» := entryFor_of_fast (by kernel_rfl)
theorem plain_unchain : plainId "proto.unchain" = true := by decide +kernel

section
variable {α : Type} {prog : Program} {w : World} {A : Around} {E : Value → Shared → Prop} {s : Shared}
/-- an IndexError raised while another one, without a context, is handled -/
theorem raise_under {msg : String} {Q : α → Shared → Prop} {e₁ : Addr} {ob₁ : Obj} {t₁ b₁ : Value} (hA : A.handled = some (.ref e₁)) (he₁ : s.heap.get? e₁ = some ob₁) (hd₁ : ob₁.data = .fields (excF t₁ b₁ .none))
    (h : ∀ h' tk e, (∀ b o, s.heap.get? b = some o → h'.get? b = some o) → s.heap.get? e = none → (∃ ob t, h'.get? e = some ob ∧ ob.cls = .type "IndexError" ∧ ob.data = .fields (excF t .none (.ref e₁))) → E (.ref e) { s with heap := h', toks := tk }) :
    wpAny (model prog w) A (raiseErrorWords "IndexError" msg : Sem α) Q E s := by
  unfold raiseErrorWords
  refine wpAny_bind (wpAny_mkText (wpAny_bind ?_))
  unfold newExc newTuple
  refine wpAny_bind (wpAny_newObj_type ?_)
  refine wpAny_bind (m := firstArgMember _ _) (wpAny_of_eq (a := Value.none) (by simp only [firstArgMember, plainExc_IndexError.first]; rfl) ?_)
  rw [plainExc_IndexError.own]
  refine wpAny_newObj_type ?_
  unfold raiseNew
  refine wpAny_bind (wpAny_handled ?_)
  rw [hA]
  have h1 := Heap.get?_push_of_some (h := s.heap) { cls := .type "tuple", dict := none, data := .seq #[Value.str msg s.toks] } he₁
  have h2 := Heap.get?_push_of_some (h := s.heap.push { cls := .type "tuple", dict := none, data := .seq #[Value.str msg s.toks] }) { cls := .type "IndexError", dict := none, data := .fields (excF (.ref s.heap.objs.size) .none .none) } h1
  have hne : e₁ ≠ (s.heap.push { cls := .type "tuple", dict := none, data := .seq #[Value.str msg s.toks] }).objs.size := Nat.ne_of_lt (Heap.lt_size h1)
  have hnew := Heap.get?_push_size (s.heap.push { cls := .type "tuple", dict := none, data := .seq #[Value.str msg s.toks] }) (o := { cls := .type "IndexError", dict := none, data := .fields (excF (.ref s.heap.objs.size) .none .none) }) rfl
  dsimp only
  rw [if_pos (by simpa using hne)]
  refine wpAny_bind (wpAny_holding (wpAny_runValue (codeAny_builtin entry_unchain ?_)))
  show wpAny _ _ (field (.ref e₁) 2 >>= _) _ _ _
  refine wpAny_bind (wpAny_field (x := .none) h2 hd₁ rfl ?_)
  rw [if_pos (by rfl)]
  first | refine wpAny_bind (wpAny_pure (wpAny_pure ?_)) | refine wpAny_bind (wpAny_pure ?_) | refine wpAny_pure ?_
  (try dsimp only)
  (try refine wpAny_pure ?_)
  (try dsimp only)
  have hd2 : ({ cls := .type "IndexError", dict := none, data := .fields (excF (.ref s.heap.objs.size) .none .none) } : Obj).data = .fields (excF (.ref s.heap.objs.size) .none .none) := rfl
  show wpAny _ _ (setField (.ref (s.heap.push { cls := .type "tuple", dict := none, data := .seq #[Value.str msg s.toks] }).objs.size) 2 (.ref e₁) >>= _) _ _ _
  refine wpAny_bind (wpAny_setField hnew hd2 (by show 2 < 6; decide) (wpAny_throw ?_))
  refine h _ _ _ (fun b o hb => ?_) (Heap.get?_none_of_le (by simp)) ⟨_, .ref s.heap.objs.size, Heap.get?_update_self _ hnew (Obj.isFreed_of_fields (Obj.data_mapFields hd2 _)), Obj.cls_mapFields _ _, Obj.data_mapFields hd2 _⟩
  have q := Heap.get?_push_of_some { cls := .type "IndexError", dict := none, data := .fields (excF (.ref s.heap.objs.size) .none .none) } (Heap.get?_push_of_some { cls := .type "tuple", dict := none, data := .seq #[Value.str msg s.toks] } hb)
  refine (get_update_ne' (fun z => ?_)).trans q
  have q2 := Heap.lt_size (Heap.get?_push_of_some { cls := .type "tuple", dict := none, data := .seq #[Value.str msg s.toks] } hb)
  rw [z] at q2
  exact Nat.lt_irrefl _ q2

theorem getItem_out_under {l : Addr} {items : Array Value} {k : Int} {t : Tok} {Q : Value → Shared → Prop} {e₁ : Addr} {ob₁ : Obj} {t₁ b₁ : Value} (hA : A.handled = some (.ref e₁)) (he₁ : s.heap.get? e₁ = some ob₁) (hd₁ : ob₁.data = .fields (excF t₁ b₁ .none))
    (hl : s.heap.IsList l items) (hout : (items.size : Int) ≤ k) (hhi : k < 2 ^ 63)
    (h : ∀ h' tk e, (∀ b o, s.heap.get? b = some o → h'.get? b = some o) → s.heap.get? e = none → (∃ ob t, h'.get? e = some ob ∧ ob.cls = .type "IndexError" ∧ ob.data = .fields (excF t .none (.ref e₁))) → E (.ref e) { s with heap := h', toks := tk }) :
    wpAny (model prog w) A (getItem (.ref l) (.int k t)) Q E s := by
  obtain ⟨o, ho, hc, ne, hd⟩ := id hl
  unfold getItem
  (try with_reducible refine wpAny_holding ?_)
  refine wpAny_bind (wpAny_sequenceKey hl.typeIs (by decide) ?_)
  refine wpAny_bind (wpAny_callSpecial?_slot (name := PySem.Str.ofString "__getitem__") hl.typeIs slot_list_getitem (wpAny_call_entry slot_list_getitem hl.typeIs entry_list_getitem ?_ (args_list_getitem _ _)))
  show wpAny _ _ (Builtin.List.listSubscript? (.int k t) >>= _) _ _ s
  refine wpAny_bind (wpAny_listSubscript_int (fitsIndex_both (by omega) hhi) ?_)
  clear hhi
  cases k with
  | negSucc j => exact absurd hout (by have := Int.negSucc_lt_zero j; omega)
  | ofNat j =>
  have hx : items[j]? = none := Array.getElem?_eq_none (by have : (items.size : Int) ≤ (j : Int) := hout; omega)
  show wpAny _ _ ((seqItemAt l j >>= fun r => pure (r.map (j, ·))) >>= _) _ _ s
  refine wpAny_bind (wpAny_bind (wpAny_seqItemAt ho hd (wpAny_pure ?_)))
  rw [hx]
  first
    | exact wpAny_bind (wpAny_rule (raise_under hA he₁ hd₁ h))
    | exact wpAny_bind (wpAny_rule (wpAny_bind (raise_under hA he₁ hd₁ h)))
    | exact wpAny_bind (wpAny_bind (wpAny_rule (raise_under hA he₁ hd₁ h)))
    | exact wpAny_rule (raise_under hA he₁ hd₁ h)

/-- an item, or an IndexError under a handled one -/
theorem item_or_under {value slice : PySem.Expr} {l : Addr} {vs : List Value} {ns : List Int} {k : Int} {u : Tok} {Q : Value → Shared → Prop} {e₁ : Addr} {ob₁ : Obj} {t₁ b₁ : Value} (hA : A.handled = some (.ref e₁))
    (he₁ : s.heap.get? e₁ = some ob₁) (hd₁ : ob₁.data = .fields (excF t₁ b₁ .none)) (hl : s.heap.IsList l vs.toArray) (hi : IntsAre vs ns) (hlo : 0 ≤ k) (hhi : k < 2 ^ 63)
    (h1 : k < ns.length → ∀ t, Q (.int (ns.getD k.toNat 0) t) s)
    (h0 : (ns.length : Int) ≤ k → ∀ h' tk e, (∀ b o, s.heap.get? b = some o → h'.get? b = some o) → s.heap.get? e = none → (∃ ob t, h'.get? e = some ob ∧ ob.cls = .type "IndexError" ∧ ob.data = .fields (excF t .none (.ref e₁))) → E (.ref e) { s with heap := h', toks := tk })
    (hs : subscripted slice false (.ref l) (.int k u) = operate [.ref l, .int k u] (getItem (.ref l) (.int k u)) := by with_unfolding_all rfl) :
    wpAny (model prog w) A (subscriptTail value slice (.ref l) (.int k u)) Q E s := by
  have hsz : vs.toArray.size = ns.length := by simp [hi.length]
  refine tail_any hl.typeIs slot_list_getitem.lookup ?_ hs
  by_cases hin : k < ns.length
  · have h : k.toNat < ns.length := by omega
    obtain ⟨t, ht⟩ := hi.get k.toNat (ns.getD k.toNat 0) (by simp [h])
    exact wpAny_getItem_list hl hlo hhi (by simpa using ht) (h1 hin t)
  · exact getItem_out_under hA he₁ hd₁ hl (by rw [hsz]; omega) hhi (h0 (by omega))
end

section
variable {M : Model} {A : Around} {E : Value → Shared → Prop} {s : Shared} {h₀ h : Heap} {L L' a e : Addr} {m : PySem.Str → Option Value} {c fl : Value} {news new : List (Addr × Obj)} {name : PySem.Str} {scope : Scope} {cd : Value}

theorem ExcNew.ofRaw {h₁ : Heap} (F : Fr h₀ L h m) (N : News h₀ L h news) (hk : ∀ b o, h.get? b = some o → h₁.get? b = some o) (hn : h.get? e = none)
    (ht : ∃ ob t, h₁.get? e = some ob ∧ ob.cls = .type "IndexError" ∧ ob.data = .fields (excF t .none c)) : ExcNew h₀ L h₁ m e c news where
  fr := F.keeps hk
  made := fun p hp => ⟨hk _ _ (N p hp).1, (N p hp).2⟩
  fresh := by
    cases q : h₀.get? e with
    | none => rfl
    | some o => have := F.keep e o q; rw [hn] at this; cases this
  neL := fun q => by
    obtain ⟨oL, _, _, hl, _⟩ := F.ns
    rw [q, hl] at hn; cases hn
  off := fun p hp q => by
    have := (N p hp).1
    rw [q, hn] at this; cases this
  there := ht
theorem item_or_underN {prog : Program} {w : World} {value slice : PySem.Expr} {l : Addr} {vs : List Value} {ns : List Int} {k : Int} {u : Tok} {Q : Value → Shared → Prop} {e₁ tb₁ : Addr} {ob₁ otb₁ : Obj} {t₁ b₁ : Value} (hA : A.handled = some (.ref e₁))
    (F : Fr h₀ L s.heap m) (N : News h₀ L s.heap ((e₁, ob₁) :: (tb₁, otb₁) :: news)) (hd₁ : ob₁.data = .fields (excF t₁ b₁ .none)) (hl : s.heap.IsList l vs.toArray) (hi : IntsAre vs ns) (hlo : 0 ≤ k) (hhi : k < 2 ^ 63)
    (h1 : k < ns.length → ∀ t, Q (.int (ns.getD k.toNat 0) t) s)
    (h0 : (ns.length : Int) ≤ k → ∀ h' tk e, ExcNew h₀ L h' m e (.ref e₁) ((e₁, ob₁) :: (tb₁, otb₁) :: news) → E (.ref e) { s with heap := h', toks := tk })
    (hs : subscripted slice false (.ref l) (.int k u) = operate [.ref l, .int k u] (getItem (.ref l) (.int k u)) := by with_unfolding_all rfl) :
    wpAny (model prog w) A (subscriptTail value slice (.ref l) (.int k u)) Q E s :=
  item_or_under hA (N _ (.head _)).1 hd₁ hl hi hlo hhi h1 (fun h h' tk e hk hn ht => h0 h h' tk e (ExcNew.ofRaw F N hk hn ht)) hs
theorem ExcUp.held (H : ExcUp h₀ L h m e c news fl) : TT.HeldNA h₀ L h m e "IndexError" news fl := by
  obtain ⟨F, N, hf, hneL, hoff, ob, t, tb, otb, tvs, he, hc, hd, htb, htd, h3, htbL, htbe, htb0, hap⟩ := H
  refine ⟨⟨F, ⟨ob, _, tb, otb, tvs, he, hc, hd, rfl, htb, htd, h3, htbL, htbe, htb0⟩, hf⟩, N, ?_⟩
  intro ob' vs' tb' e1 e2 e3 p hp
  rw [he] at e1
  obtain rfl := Option.some.inj e1
  rw [hd] at e2
  injection e2 with e2
  subst e2
  have e4 : some (Value.ref tb) = some (Value.ref tb') := e3
  injection e4 with e4
  injection e4 with e4
  rw [← e4]
  exact hap p hp
theorem ExcUp.sub (H : ExcUp h₀ L h m e c news fl) (hs : ∀ p ∈ new, p ∈ news) : ExcUp h₀ L h m e c new fl := by
  obtain ⟨F, N, hf, hneL, hoff, ob, t, tb, otb, tvs, he, hc, hd, htb, htd, h3, htbL, htbe, htb0, hap⟩ := H
  exact ⟨F, fun p hp => N p (hs p hp), hf, hneL, fun p hp => hoff p (hs p hp), ob, t, tb, otb, tvs, he, hc, hd, htb, htd, h3, htbL, htbe, htb0, fun p hp => hap p (hs p hp)⟩
theorem ExcUp.back (H : ExcUp h₀ L s.heap m e c news fl) (k : ∀ h', ExcUp h₀ L h' m e c news (rawInt L) → E (.ref e) { s with heap := h' }) : cameBackBy M A (envOf name scope L a cd) E (.ref e) s := by
  have H' := H
  obtain ⟨F, N, hf, hneL, hoff, ob, t, tb, otb, tvs, he, hc, hd, htb, htd, h3, htbL, htbe, htb0, hap⟩ := H'
  unfold cameBackBy
  refine wpAny_bind (wpAny_field (x := .ref tb) he hd rfl ?_)
  rw [if_neg (by simp)]
  first
    | exact H.fly L k
    | exact wpAny_bind (wpAny_pure (H.fly L k))
theorem ExcUp.passOn {α : Type} {what : String} {Q : α → Shared → Prop} (H : ExcUp h₀ L s.heap m e c news fl) (k : ∀ h', ExcUp h₀ L h' m e c news (rawInt L) → E (.ref e) { s with heap := h' }) : wpAny M A (passOn what (.ref e) (envOf name scope L a cd)) Q E s := by
  have H' := H
  obtain ⟨F, N, hf, hneL, hoff, ob, t, tb, otb, tvs, he, hc, hd, htb, htd, h3, htbL, htbe, htb0, hap⟩ := H'
  unfold PySem.passOn
  refine wpAny_bind (wpAny_field (x := .ref tb) he hd rfl ?_)
  rw [if_neg (by simp)]
  first
    | exact wpAny_bind (H.fly L fun h' x => wpAny_throw (k h' x))
    | exact wpAny_bind (wpAny_pure (wpAny_bind (H.fly L fun h' x => wpAny_throw (k h' x))))

/-- the record and its traceback entry, said of the ledger -/
structure ExcIn (e : Addr) (ob : Obj) (tb : Addr) (otb : Obj) (c : Value) (adr : List Addr) : Prop where
  cls : ob.cls = .type "IndexError"
  data : ∃ t, ob.data = .fields (excF t (.ref tb) c)
  entry : ∃ tvs, otb.data = .fields tvs ∧ tvs[3]? = some .none
  ne : tb ≠ e
  off : ∀ b ∈ adr, b ≠ e ∧ b ≠ tb
theorem ExcUp.ledger (H : ExcUp h₀ L h m e c news .none) : ∃ ob tb otb t, Fr h₀ L h m ∧ News h₀ L h ((e, ob) :: (tb, otb) :: news) ∧ ExcIn e ob tb otb c (news.map (·.1)) ∧ ob.data = .fields (excF t (.ref tb) c) := by
  obtain ⟨F, N, hf, hneL, hoff, ob, t, tb, otb, tvs, he, hc, hd, htb, htd, h3, htbL, htbe, htb0, hap⟩ := H
  refine ⟨ob, tb, otb, t, F, fun p hp => ?_, ⟨hc, ⟨t, hd⟩, ⟨tvs, htd, h3⟩, htbe, fun b hb => ?_⟩, hd⟩
  · rcases List.mem_cons.mp hp with rfl | hp
    · exact ⟨he, hneL, hf⟩
    · rcases List.mem_cons.mp hp with rfl | hp
      · exact ⟨htb, htbL, htb0⟩
      · exact N p hp
  · obtain ⟨p, hp, rfl⟩ := List.mem_map.mp hb
    exact ⟨hoff p hp, hap p hp⟩
theorem ExcIn.up {ob otb : Obj} {tb : Addr} {adr : List Addr} (x : ExcIn e ob tb otb c adr) (F : Fr h₀ L h m) (N : News h₀ L h ((e, ob) :: (tb, otb) :: news)) (ha : news.map (·.1) = adr) : ExcUp h₀ L h m e c news .none := by
  obtain ⟨hc, ⟨t, hd⟩, ⟨tvs, htd, h3⟩, htbe, hoff⟩ := x
  have n1 := N _ (List.Mem.head _)
  have n2 := N _ (List.Mem.tail _ (List.Mem.head _))
  refine ⟨F, fun p hp => N p (.tail _ (.tail _ hp)), n1.2.2, n1.2.1, fun p hp => (hoff _ (ha ▸ List.mem_map_of_mem hp)).1, ob, t, tb, otb, tvs, n1.1, hc, hd, n2.1, htd, h3, n2.2.1, htbe, n2.2.2, fun p hp => (hoff _ (ha ▸ List.mem_map_of_mem hp)).2⟩
end

section
variable {M : Model} {A : Around} {E : Value → Shared → Prop} {s : Shared} {h₀ h : Heap} {L L' a e : Addr} {m : PySem.Str → Option Value} {c fl : Value} {news : List (Addr × Obj)} {name : PySem.Str} {scope : Scope} {cd : Value} {Q : Unit → Shared → Prop} {p1 p2 p3 p4 : Addr × Obj}
theorem ExcNew.sub {new : List (Addr × Obj)} (H : ExcNew h₀ L h m e c news) (hs : ∀ p ∈ new, p ∈ news) : ExcNew h₀ L h m e c new :=
  ⟨H.fr, fun p hp => H.made p (hs p hp), H.fresh, H.neL, fun p hp => H.off p (hs p hp), H.there⟩
theorem ExcNew.note2 {A₀ : Around} {env : Env} {oL : Obj} (hfr : A₀.frames = some [env]) (Fs : Frs [env] [(L, oL)]) (H : ExcNew h₀ L' s.heap m e c (p1 :: p2 :: (L, oL) :: news)) (n1 : p1.1 ≠ L) (n2 : p2.1 ≠ L) (hne : ∀ p ∈ news, p.1 ≠ L) (hk : scope.kind = .function)
    (k : ∀ h' sl, Frs [env] [(L, { oL with slots := sl })] → ExcUp h₀ L' h' m e c (p1 :: p2 :: (L, { oL with slots := sl }) :: news) (rawInt L') → Q () { s with heap := h' }) :
    wpAny M (A₀.deeper (envOf name scope L' a cd)) (noteFrame (.ref e) (envOf name scope L' a cd)) Q E s := by
  refine ExcNew.note (new := p1 :: p2 :: news) hfr Fs (H.sub fun p hp => ?_) (fun p hp => ?_) hk fun h' sl Fs' H' => k h' sl Fs' (H'.sub fun p hp => ?_)
  · rcases List.mem_append.mp hp with hp | hp
    · rcases List.mem_cons.mp hp with rfl | hp
      · exact .head _
      · rcases List.mem_cons.mp hp with rfl | hp
        · exact .tail _ (.head _)
        · exact .tail _ (.tail _ (.tail _ hp))
    · rw [List.mem_singleton.mp hp]
      exact .tail _ (.tail _ (.head _))
  · rcases List.mem_cons.mp hp with rfl | hp
    · exact n1
    · rcases List.mem_cons.mp hp with rfl | hp
      · exact n2
      · exact hne p hp
  · rcases List.mem_cons.mp hp with rfl | hp
    · exact List.mem_append_left _ (.head _)
    · rcases List.mem_cons.mp hp with rfl | hp
      · exact List.mem_append_left _ (.tail _ (.head _))
      · rcases List.mem_cons.mp hp with rfl | hp
        · exact List.mem_append_right _ (List.mem_singleton.mpr rfl)
        · exact List.mem_append_left _ (.tail _ (.tail _ hp))
theorem ExcNew.note2M {A₀ : Around} {hd : Option Value} {env : Env} {oL : Obj} (hfr : A₀.frames = some [env]) (Fs : Frs [env] [(L, oL)]) (H : ExcNew h₀ L' s.heap m e c (p3 :: p4 :: p1 :: p2 :: (L, oL) :: news)) (n1 : p1.1 ≠ L) (n2 : p2.1 ≠ L) (hne : ∀ p ∈ news, p.1 ≠ L) (hk : scope.kind = .function)
    (k : ∀ h' sl, Frs [env] [(L, { oL with slots := sl })] → ExcUp h₀ L' h' m e c (p1 :: p2 :: (L, { oL with slots := sl }) :: news) (rawInt L') → Q () { s with heap := h' }) :
    wpAny M ((A₀.deeper (envOf name scope L' a cd)).mark hd) (noteFrame (.ref e) (envOf name scope L' a cd)) Q E s :=
  ExcNew.note2 (A₀ := A₀.mark hd) hfr Fs (H.sub fun p hp => .tail _ (.tail _ hp)) n1 n2 hne hk k
end

section
variable {prog : Program} {w : World} {A : Around} {s : Shared} {h₀ : Heap} {L : Addr} {m : PySem.Str → Option Value} {news : List (Addr × Obj)} {K : Frag} {p : Program} {loose : List PySem.Str} {mean : PySem.ExcName → Option Value} {mg mb : PySem.Str → Option Value}
  {R : Result → Shared → Prop} {name qual : PySem.Str} {params : Arguments} {body : List Stmt} {scope : Scope} {dV kV doc pm cdv ct oc : Value} {an od : Option Addr} {osl : Array (Option Value)} {f : Addr} {args : Args} {binds : List (PySem.Str × Value)} {env : Env}
/-- a def with a try in it, called from the one frame that stands: the caller's names go onto the ledger -/
theorem enter_try (F : Fr h₀ L s.heap m) (X₀ : K.In h₀) (N : News h₀ L s.heap news) (T : Top p loose mean mg mb h₀) (hfe : env.frame = some L) (hck : env.scope.kind = .function)
    (ho : K.lookup f = some ⟨oc, od, .func (fnOf name qual params body scope dV kV doc pm an cdv ct), osl⟩) (hcd : codeIn K cdv qual = true) (hroom : A.depth < recursionLimit)
    (hbind : BindsTo s (fnOf name qual params body scope dV kV doc pm an cdv ct) args binds) (hloc : ∀ y ∈ binds, scope.names.lookup y.1 = some .local)
    (h : ∀ oL h₁, Caller h₀ L m oL → Frs [env] [(L, oL)] → (∀ p ∈ news, p.1 ≠ L) → Fr h₀ s.heap.objs.size h₁ (fun y => binds.reverse.lookup y) → News h₀ s.heap.objs.size h₁ ((L, oL) :: news) →
      wpAny (model prog w) (A.deeper (envOf qual scope s.heap.objs.size f cdv)) (execs body (envOf qual scope s.heap.objs.size f cdv))
        (fun fl s' => R (.ok (.ret (match fl with | .ret v => v | _ => .none))) s')
        (fun e s' => wpAny (model prog w) (A.deeper (envOf qual scope s.heap.objs.size f cdv)) (leaving (envOf qual scope s.heap.objs.size f cdv) e) (fun _ s'' => R (.error e) s'') (fun e' s'' => R (.error e') s'') s')
        { s with heap := h₁, toks := s.toks + binds.length })
    (hco : scope.isCoroutine = false) (hgen : scope.isGenerator = false) (hk : scope.kind = .function)
    (hcell : ∀ x ∈ scope.names, x.2 ≠ .cell) : codeAny (model prog w) A (.call (.ref f) args) R s := by
  obtain ⟨oL, es, ep, hL, hLd, hLk, hLf⟩ := F.ns
  have X := X₀.keeps F.keep
  have lt := Heap.lt_size hL
  refine codeAny_call_def (fd := fnOf name qual params body scope dV kV doc pm an cdv ct) (body := body) (binds := binds) hroom (X _ _ ho) rfl (T.nolimit.keeps F.keep) (codeRec_of X hcd) rfl hbind hcell hloc (fun h₁ hns hk₁ => ?_) hco hgen hk
  refine h oL h₁ ⟨fun h' sl q => ⟨_, es, ep, q, hLd, hLk, hLf⟩, ⟨es, ep, hLd⟩, F.above⟩ ⟨by rw [hck]; decide, hfe, ⟨es, ep, hLd⟩, trivial⟩ (fun p hp => (N p hp).2.1)
    ⟨hns, fun b o q => hk₁ b o (F.keep b o q), Nat.le_trans F.above (Nat.le_of_lt lt)⟩ fun p hp => ?_
  rcases List.mem_cons.mp hp with rfl | hp
  · exact ⟨hk₁ _ _ hL, Nat.ne_of_lt lt, Heap.get?_none_of_le F.above⟩
  · have q := N p hp
    exact ⟨hk₁ _ _ q.1, Nat.ne_of_lt (Heap.lt_size q.1), q.2.2⟩
/-- back in the caller -/
theorem leave_try {s' : Shared} {m' : PySem.Str → Option Value} {L' : Addr} {oL : Obj} {sl : Array (Option Value)} {P : Prop} {p0 p1 p2 : Addr × Obj} (C : Caller h₀ L m oL) (F' : Fr h₀ L' s'.heap m') (N' : News h₀ L' s'.heap (p0 :: p1 :: p2 :: (L, { oL with slots := sl }) :: news))
    (n0 : p0.1 ≠ L) (n1 : p1.1 ≠ L) (n2 : p2.1 ≠ L) (hne : ∀ p ∈ news, p.1 ≠ L) (k : Fr h₀ L s'.heap m → News h₀ L s'.heap (p0 :: p1 :: p2 :: news) → P) : P := by
  have hm : (L, { oL with slots := sl }) ∈ p0 :: p1 :: p2 :: (L, { oL with slots := sl }) :: news := .tail _ (.tail _ (.tail _ (.head _)))
  refine k ⟨C.ns _ sl (N' _ hm).1, F'.keep, C.above⟩ fun p hp => ?_
  rcases List.mem_cons.mp hp with rfl | hp
  · have q := N' _ (List.Mem.head _)
    exact ⟨q.1, n0, q.2.2⟩
  · rcases List.mem_cons.mp hp with rfl | hp
    · have q := N' _ (List.Mem.tail _ (List.Mem.head _))
      exact ⟨q.1, n1, q.2.2⟩
    · rcases List.mem_cons.mp hp with rfl | hp
      · have q := N' _ (List.Mem.tail _ (List.Mem.tail _ (List.Mem.head _)))
        exact ⟨q.1, n2, q.2.2⟩
      · have q := N' _ (List.Mem.tail _ (List.Mem.tail _ (List.Mem.tail _ (List.Mem.tail _ hp))))
        exact ⟨q.1, hne p hp, q.2.2⟩
end
end
section
theorem calmSld : True := by w_top off; k_with_none; trivial
open PySem PySem.W PySem.Calls PyProof.Rows PyProof.Rows.TI
set_option maxRecDepth 100000
set_option maxHeartbeats 8000000
abbrev PR : Program := Challenge.rw_tr0007_01.row.prog
theorem getD_at {ns : List Int} {k : Int} (hlo : 0 ≤ k) (hin : k < ns.length) : ns[k.toNat]? = some (ns.getD k.toNat 0) := by
  have h : k.toNat < ns.length := by omega
  simp [h]
theorem my_item_or {prog : Program} {w : World} {A : Around} {E Q : Value → Shared → Prop} {s : Shared} {value slice : PySem.Expr} {l : Addr} {vs : List Value} {ns : List Int} {k : Int} {u : Tok}
    (hA : A.handled = none) (hl : s.heap.IsList l vs.toArray) (hi : IntsAre vs ns) (hlo : 0 ≤ k) (hhi : k < 2 ^ 63)
    (h1 : k < ns.length → ∀ t, Q (.int (ns.getD k.toNat 0) t) s)
    (h0 : (ns.length : Int) ≤ k → ∀ h' tk e, Heap.NewExc s.heap h' e "IndexError" → E (.ref e) { s with heap := h', toks := tk })
    (hs : subscripted slice false (.ref l) (.int k u) = operate [.ref l, .int k u] (getItem (.ref l) (.int k u)) := by with_unfolding_all rfl) :
    wpAny (model prog w) A (subscriptTail value slice (.ref l) (.int k u)) Q E s := by
  have hsz : vs.toArray.size = ns.length := by simp [hi.length]
  refine tail_any hl.typeIs slot_list_getitem.lookup ?_ hs
  by_cases hin : k < ns.length
  · obtain ⟨t, ht⟩ := hi.get k.toNat (ns.getD k.toNat 0) (getD_at hlo hin)
    exact wpAny_getItem_list hl hlo hhi (by simpa using ht) (h1 hin t)
  · exact wpAny_getItem_list_out hA hl (.inr (by rw [hsz]; omega)) (by omega) hhi (h0 (by omega))
local macro_rules | `(tactic| k_mem) => `(tactic| assumption)
local macro_rules | `(tactic| walk_at "subscriptTail Name Name") => `(tactic| (k_here; (with_reducible show wpAny _ _ (subscriptTail _ _ (Value.ref _) (Value.int _ _)) _ _ _); (with_unfolding_all refine' my_item_or ?k0 ?k1 ?k2 ?k3 ?k4 (fun myIn myT => ?_) (fun myOut myH myTk myE myX => ?_) ?k6; (case k0 => exact rfl); (case k1 => exact News.isList (by k_asm) (by k_mem)); (case k2 => with_reducible assumption); (case k3 => omega); (case k4 => omega); (case k6 => with_unfolding_all rfl)); (try dsimp only)))
local macro_rules | `(tactic| walk_at "subscriptTail Name Name") => `(tactic| (k_here; (with_reducible show wpAny _ (Around.mark _ (some (Value.ref _))) (subscriptTail _ _ (Value.ref _) (Value.int _ _)) _ _ _); (with_unfolding_all refine' item_or_underN ?k0 ?kx ?ky ?kz ?k1 ?k2 ?k3 ?k4 (fun myIn myT => ?_) (fun myOut myH myTk myE exN => ?_) ?k6; (case k0 => exact rfl); (case kx => k_asm); (case ky => k_asm); (case kz => assumption); (case k1 => exact News.isList (by k_asm) (by k_mem)); (case k2 => with_reducible assumption); (case k3 => omega); (case k4 => omega); (case k6 => with_unfolding_all rfl)); (try dsimp only)))
local macro_rules | `(tactic| walk_at "noteFrame ref") => `(tactic| (k_here; (with_reducible rename ExcUp _ _ _ _ _ _ _ _ => exU); refine ExcUp.again exU ?_))
local macro_rules | `(tactic| walk_at "noteFrame ref") => `(tactic| (k_here; (with_reducible rename ExcNew _ _ _ _ _ _ _ => exN); (with_reducible show wpAny _ (Around.mark _ _) _ _ _ _); (with_reducible rename Frs _ _ => exS); (refine ExcNew.note2M (by exact rfl) exS exN (by k_ne) (by k_ne) (by assumption) (by rfl) ?_); clear exN exS; intro h' sl' exS' exU'))
local macro_rules | `(tactic| walk_at "noteFrame ref") => `(tactic| (k_here; (with_reducible rename Heap.NewExc _ _ _ _ => exX); (with_reducible rename Fr _ _ _ _ => exF); (with_reducible rename News _ _ _ _ => exM); (with_reducible rename Frs _ _ => exS); (refine ExcNew.note2 (by exact rfl) exS (ExcNew.of exF exM exX) (by k_ne) (by k_ne) (by assumption) (by rfl) ?_); clear exX exS; intro h' sl' exS' exU'))
local macro_rules | `(tactic| walk_at "setFlight ref") => `(tactic| (k_here; (with_reducible rename ExcUp _ _ _ _ _ _ _ _ => exU); refine ExcUp.land exU ?_; clear exU; intro h' exU'))
local macro_rules | `(tactic| walk_at "handleBy") => `(tactic| (k_here; (with_reducible rename ExcUp _ _ _ _ _ _ _ _ => exU); (with_reducible rename Top _ _ _ _ _ _ => exT); (with_unfolding_all refine TT.clause_hitTN (ExcUp.held exU) exT (k := ?_) (hv := by boot_by_name)); clear exU; intro h' F' N'))
local macro_rules | `(tactic| walk_at "execs cons AugAssign") => `(tactic| (k_here; (with_reducible rename ExcUp _ _ _ _ _ _ _ _ => exU); have exQ := ExcUp.ledger exU; clear exU; obtain ⟨exOb, exTb, exOtb, exT0, F', N', exI, exD⟩ := exQ))
local macro_rules | `(tactic| walk_at "passOn") => `(tactic| (k_here; (with_reducible rename ExcIn _ _ _ _ _ _ => exI); (with_reducible rename Fr _ _ _ _ => exF); (with_reducible rename News _ _ _ _ => exM); have exU := ExcIn.up exI exF exM (by rfl); clear exI; refine ExcUp.passOn exU ?_; clear exU; intro h' exU'))
local macro_rules | `(tactic| walk_at "notedBy") => `(tactic| (unfold notedBy))
local macro_rules | `(tactic| walk_at "cameBackBy") => `(tactic| ((with_reducible rename ExcUp _ _ _ _ _ _ _ _ => exU); refine ExcUp.back exU ?_; clear exU; intro h' exU'))
local macro_rules | `(tactic| walk_at "And") => `(tactic| ((with_reducible show _ ≠ byPass ∧ _); refine ⟨ref_ne_byPass _, ?_⟩))
theorem extend_ints {prog : Program} {w : World} {A : Around} {E Q : Value → Shared → Prop} {s : Shared} {h₀ : Heap} {L D b : Addr} {m : PySem.Str → Option Value} {news news' : List (Addr × Obj)} {us ys : List Value} {n n2 : Nat}
    (F : Fr h₀ L s.heap m) (N : News h₀ L s.heap news) (hb : (b, listOf ys.toArray n2) ∈ news) (U : Upd D (listOf us.toArray n) (listOf (us ++ ys).toArray (if ys.length = 0 then n else n + 1)) news news') (hz : us.length + ys.length < 5000)
    (h : ∀ h', Fr h₀ L h' m → News h₀ L h' news' → Q .none { s with heap := h' }) : wpAny (model prog w) A (call (.builtin "list.extend") [.ref D, .ref b]) Q E s := by
  have hs := sizeLine_eq
  have ht : ¬(!us.toArray.isEmpty && Builtin.List.listTooLong (us.toArray.size + ys.toArray.size)) = true := by
    simp only [List.size_toArray, Bool.and_eq_true, Bool.not_eq_true', Builtin.List.listTooLong, decide_eq_true_eq]
    omega
  by_cases hy : ys.length = 0
  · obtain rfl : ys = [] := List.length_eq_zero_iff.mp hy
    refine kxn_extend F N hb rfl (by simpa using U) ht (by simp only [List.length_nil] at hz; show us.length ≤ _; omega) (by simp only [List.size_toArray, List.length_nil] at hz ⊢; omega) h
  · rw [if_neg hy] at U
    exact kl_extend F N hb rfl hy U ht (by show us.length ≤ _; omega) (by simp only [List.size_toArray]; omega) h
local macro_rules | `(tactic| walk_at "call builtin:list.extend") => `(tactic| (k_here; (with_reducible show wpAny _ _ (call (Value.builtin _) [Value.ref _, Value.ref _]) _ _ _); (with_reducible rename News _ _ _ _ => nP'); (try simp only [List.push_toArray] at nP'); k_dflt (refine' extend_ints ?F ?N ?b ?U ?z ?_; (case F => k_asm); (case N => k_asm); (case b => k_mem); (case U => k_upd); (case z => ((try law_lens); (try simp only [List.length_append, List.length_cons, List.length_nil, List.length_drop] at *); omega))); intro h' F' N'; (try dsimp only at N'); (try k_sweep)))
local macro_rules | `(tactic| walk_at "subscriptTail Name Slice ref ref") => `(tactic| (k_here; (with_reducible show wpAny _ _ (subscriptTail _ (PySem.Expr.Slice _ _ none _) (Value.ref _) (Value.ref _)) _ _ _); k_dflt (refine' kmk_slice_ints ?F ?N ?l ?p ?q ?i ?m ?c ?_ ?s ?t ?z; (case F => k_asm); (case N => k_asm); (case l => exact News.isList (by k_asm) (by k_mem)); (case p => exact IsPart.int _ _); (case q => exact IsPart.none); (case i => with_reducible assumption); (case m => exact kmk_from (by with_reducible assumption) (by omega)); (case c => exact List.length_drop ..); (case s => with_unfolding_all rfl); (case t => kmk_pure); (case z => exact kmk_sz (by with_reducible assumption) (by rw [sizeLine_eq]; omega))); intro D' ws' h' F' N' l1 hI' hC' hL'; (have hW' := IntsAre.length hI'); (try k_lt l1); (try k_sweep)))
theorem sld_fin {s : Shared} {Q : Value → Shared → Prop} {h₀ h' : Heap} {L L' l1 l2 t : Addr} {m m' : PySem.Str → Option Value} {oL : Obj} {sl : Array (Option Value)} {news led : List (Addr × Obj)} {us vs : List Value} {n1 n2 tk : Nat} {xs ys : List Int}
    (ret : ∀ t l1 l2 us vs n1 n2 h' tk', Fr h₀ L h' m → News h₀ L h' ((t, { cls := .type "tuple", data := .seq #[.ref l1, .ref l2] }) :: (l2, listOf (List.toArray vs) n2) :: (l1, listOf (List.toArray us) n1) :: news) → IntsAre us xs → IntsAre vs ys →
      (∀ p ∈ news, p.1 < l1) → l1 < l2 → l2 < t → Q (.ref t) { s with heap := h', toks := tk' })
    (C : Caller h₀ L m oL) (hoff : ∀ p ∈ news, p.1 ≠ L) (F' : Fr h₀ L' h' m') (N' : News h₀ L' h' led) (hL : (L, { oL with slots := sl }) ∈ led)
    (ht : (t, { cls := .type "tuple", data := .seq #[.ref l1, .ref l2] }) ∈ led) (h2 : (l2, listOf (List.toArray vs) n2) ∈ led) (h1 : (l1, listOf (List.toArray us) n1) ∈ led) (hs : ∀ p ∈ news, p ∈ led)
    (nt : t ≠ L) (nl2 : l2 ≠ L) (nl1 : l1 ≠ L) (iu : IntsAre us xs) (iv : IntsAre vs ys) (o1 : ∀ p ∈ news, p.1 < l1) (o2 : l1 < l2) (o3 : l2 < t) : Q (.ref t) { s with heap := h', toks := tk } := by
  refine ret t l1 l2 us vs n1 n2 h' tk ⟨C.ns _ sl (N' _ hL).1, F'.keep, C.above⟩ (fun p hp => ?_) iu iv o1 o2 o3
  rcases List.mem_cons.mp hp with rfl | hp
  · exact ⟨(N' _ ht).1, nt, (N' _ ht).2.2⟩
  · rcases List.mem_cons.mp hp with rfl | hp
    · exact ⟨(N' _ h2).1, nl2, (N' _ h2).2.2⟩
    · rcases List.mem_cons.mp hp with rfl | hp
      · exact ⟨(N' _ h1).1, nl1, (N' _ h1).2.2⟩
      · exact ⟨(N' p (hs p hp)).1, hoff p hp, (N' p (hs p hp)).2.2⟩
theorem allLt_mem {d : Addr} : ∀ {l : List (Addr × Obj)}, PySem.W.AllLt d l → ∀ p ∈ l, p.1 < d
  | [], _, _, h => nomatch h
  | _ :: _, x, p, h => by
    rcases List.mem_cons.mp h with rfl | h
    · exact x.1
    · exact allLt_mem x.2 p h
section
variable {w : World} {mean : PySem.ExcName → Option Value} {mg mb : PySem.Str → Option Value} {A : Around} {env : Env} {h₀ : Heap} {L : Addr} {m : PySem.Str → Option Value} {s : Shared} {Q E : Value → Shared → Prop} {news : List (Addr × Obj)}

theorem sld_call {x y : Addr} {xs ys : List Value} {ns ms : List Int} {nx ny : Nat}
    (F : Fr h₀ L s.heap m) (X : (hd.heap_39 w.params).In h₀) (N : News h₀ L s.heap news)
    (T : Top hd.view_39 (looseW hd.view_39 []) mean mg mb h₀) (hA : A.frames = some [env]) (hfe : env.frame = some L) (hck : env.scope.kind = .function) (hroom : A.depth < recursionLimit) (hh : A.handled = none)
    (hx : (x, listOf xs.toArray nx) ∈ news) (hy : (y, listOf ys.toArray ny) ∈ news) (ix : IntsAre xs ns) (iy : IntsAre ys ms)
    (bx : ns.length < 1000) (bY : ms.length < 1000)
    (ret : ∀ t l1 l2 us vs n1 n2 h' tk', Fr h₀ L h' m → News h₀ L h' ((t, { cls := .type "tuple", data := .seq #[.ref l1, .ref l2] }) :: (l2, listOf (List.toArray vs) n2) :: (l1, listOf (List.toArray us) n1) :: news) → IntsAre us (sld ns ms).1 → IntsAre vs (sld ns ms).2 →
      (∀ p ∈ news, p.1 < l1) → l1 < l2 → l2 < t → Q (.ref t) { s with heap := h', toks := tk' }) :
    wpAny (model PR w) A (call (.ref 21) [.ref x, .ref y]) Q E s := by
  revert X; unfold PR; k_fill; intro X
  refine wpAny_call ?_
  have lt := F.ns.lt
  refine enter_try F X N T hfe hck (by k_dflt k_is) (by k_dflt k_is) hroom (BindsTo.of_eq rfl) (locs rfl) ?_ rfl rfl rfl (by decide)
  intro oL h' C' Fs' hoff F' N'
  clear F N
  obtain ⟨Ah, Ad, Af, Ag, Au⟩ := A
  obtain rfl : Ah = none := hh
  obtain rfl : Af = some [env] := hA
  try dsimp only
  try k_fold
  k_with "exec While Constant cons nil" => k_while (fun (script : List Int) (i j : Int) (us vs : List Int) => 0 ≤ i ∧ i ≤ (ns.length : Int) ∧ 0 ≤ j ∧ j ≤ (ms.length : Int) ∧ (us.length : Int) ≤ i ∧ (vs.length : Int) ≤ j ∧ SldI ns ms i j us vs) (fun (script : List Int) (i j : Int) (us vs : List Int) => (ns.length - i).toNat + (ms.length - j).toNat) "i" "j" "missing" "unexpected"
  k_with "exec While Compare cons nil" => ((with_reducible show wpAny _ _ (exec (Stmt.While (Expr.Compare (Expr.Subscript (Expr.Name "expected" _) _ _) _ _ _) _ _ _) _) _ _ _); (rename News _ _ _ _ => nP'); (try simp only [List.push_toArray] at nP'); k_while_given ["e", "i!"] (fun (e i0 : Int) (script : List Int) (i : Int) => i0 ≤ i ∧ i ≤ (ns.length : Int) ∧ SkI e ns i0 i) (fun (e i0 : Int) (script : List Int) (i : Int) => (ns.length - i).toNat) "i")
  k_with "exec While Compare cons nil" => ((with_reducible show wpAny _ _ (exec (Stmt.While (Expr.Compare (Expr.Subscript (Expr.Name "actual" _) _ _) _ _ _) _ _ _) _) _ _ _); (rename News _ _ _ _ => nP'); (try simp only [List.push_toArray] at nP'); k_while_given ["a", "j!"] (fun (e i0 : Int) (script : List Int) (i : Int) => i0 ≤ i ∧ i ≤ (ms.length : Int) ∧ SkI e ms i0 i) (fun (e i0 : Int) (script : List Int) (i : Int) => (ms.length - i).toNat) "j")
  k_with "state" => (first | ((refine ⟨?_, ?_, ?_, ?_, ?_, ?_, ?_⟩) <;> first | omega | exact SldI.start _ _ | ((try simp only [List.length_append, List.length_cons, List.length_nil]); omega) | exact SldI.ltW (by assumption) (by omega) (by omega) (by omega) (by omega) (by assumption) (by assumption) (by omega) (by omega) (by assumption) | exact SldI.gtW (by assumption) (by omega) (by omega) (by omega) (by omega) (by assumption) (by assumption) (by omega) (by omega) (by assumption) | exact SldI.eqW (by assumption) (by omega) (by omega) (by omega) (by omega) (by assumption) (by assumption) (by assumption) (by omega) (fun _ => by assumption) (by assumption) (by omega) (fun _ => by assumption)) | ((refine ⟨?_, ?_, ?_⟩) <;> first | omega | exact SkI.start _ _ _ | exact SkI.step (by assumption) (by omega) (by omega) (by assumption)))
  k_steps
  all_goals
    show Q (Value.ref _) _
    with_reducible rename Fr _ _ _ _ => zF
    with_reducible rename News _ _ _ _ => zN
    first
      | have q := SldI.done ‹SldI ns ms _ _ _ _› (Or.inl (by omega))
      | have q := SldI.done ‹SldI ns ms _ _ _ _› (Or.inr (by omega))
      | have q := SldI.doneLt ‹SldI ns ms _ _ _ _› (by omega) (by omega) (by omega) (by omega) (by assumption) (by assumption) (by omega)
      | have q := SldI.doneGt ‹SldI ns ms _ _ _ _› (by omega) (by omega) (by omega) (by omega) (by assumption) (by assumption) (by omega)
      | have q := SldI.done (SldI.eqW ‹SldI ns ms _ _ _ _› (by omega) (by omega) (by omega) (by omega) (by omega) (by omega) (by assumption) (by omega) (fun _ => by omega) (by assumption) (by omega) (fun _ => by omega)) (Or.inr (by omega))
      | have q := SldI.done (SldI.eqW ‹SldI ns ms _ _ _ _› (by omega) (by omega) (by omega) (by omega) (by omega) (by omega) (by assumption) (by omega) (fun _ => by omega) (by assumption) (by omega) (fun _ => by omega)) (Or.inl (by omega))
    refine' sld_fin ret C' hoff zF zN ?hL ?ht ?h2 ?h1 ?hs ?nt ?n2 ?n1 ?iu ?iv ?o1 ?o2 ?o3
    case ht => k_mem
    case hL => k_mem
    case h2 => k_mem
    case h1 => k_mem
    case hs => intro p hp; k_mem
    case nt => k_ne
    case n2 => k_ne
    case n1 => k_ne
    case o1 => exact allLt_mem (And.right (by assumption))
    case o2 => refine PySem.W.ltN ?_; (try dsimp only); omega
    case o3 => refine PySem.W.ltN ?_; (try dsimp only); omega
    case iu => rw [← q.1]; exact IntsAre.append (by first | assumption | exact IntsAre.append (by assumption) (.cons _ _ .nil)) (by assumption)
    case iv => rw [← q.2]; exact IntsAre.append (by first | assumption | exact IntsAre.append (by assumption) (.cons _ _ .nil)) (by assumption)
end
end
section
theorem calmOps : True := by w_top off; k_with_none; trivial
open PySem PySem.W PySem.Calls PyProof.Rows PyProof.Rows.TI
set_option maxRecDepth 100000
set_option maxHeartbeats 8000000
def cmp3 (x y : Int) : Int := b2i (decide (y < x)) - b2i (decide (x < y))
theorem cmp3_eq (x y : Int) : cmp3 x y = (if y < x then 1 else 0) - (if x < y then 1 else 0) := by
  unfold cmp3
  by_cases h : y < x <;> by_cases h' : x < y <;> simp [h, h', b2i]
theorem cmp3_le (x y : Int) : -1 ≤ cmp3 x y ∧ cmp3 x y ≤ 1 := by
  rw [cmp3_eq]
  by_cases h : y < x <;> by_cases h' : x < y <;> simp [h, h']
abbrev anyEnv (L : Addr) : Env := envOf (Str.ofString "") (Scope.mk .function [] false false []) L 0 .none
section
variable {prog : Program} {w : World} {A : Around} {env : Env} {h₀ : Heap} {L : Addr} {m : PySem.Str → Option Value} {s : Shared} {news : List (Addr × Obj)} {R : Result → Shared → Prop} {p : Program} {loose : List PySem.Str} {mean : PySem.ExcName → Option Value} {mg mb : PySem.Str → Option Value} {K : Frag}
  {name qual : PySem.Str} {params : Arguments} {body : List Stmt} {scope : Scope} {dV kV doc pm cdv ct oc : Value} {an od : Option Addr} {osl : Array (Option Value)} {f : Addr} {args : Args} {binds : List (PySem.Str × Value)}
theorem enter_tk (F : Fr h₀ L s.heap m) (X₀ : K.In h₀) (N : News h₀ L s.heap news) (T : Top p loose mean mg mb h₀) (hfe : env.frame = some L) (hck : env.scope.kind = .function)
    (ho : K.lookup f = some ⟨oc, od, .func (fnOf name qual params body scope dV kV doc pm an cdv ct), osl⟩) (hcd : codeIn K cdv qual = true) (hroom : A.depth < recursionLimit)
    (hbind : BindsTo s (fnOf name qual params body scope dV kV doc pm an cdv ct) args binds) (hloc : ∀ y ∈ binds, scope.names.lookup y.1 = some .local)
    (h : ∀ oL h₁ tk, s.toks ≤ tk → Caller h₀ L m oL → Frs [env] [(L, oL)] → (∀ p ∈ news, p.1 ≠ L) → Fr h₀ s.heap.objs.size h₁ (fun y => binds.reverse.lookup y) → News h₀ s.heap.objs.size h₁ ((L, oL) :: news) →
      wpAny (model prog w) (A.deeper (envOf qual scope s.heap.objs.size f cdv)) (execs body (envOf qual scope s.heap.objs.size f cdv))
        (fun fl s' => R (.ok (.ret (match fl with | .ret v => v | _ => .none))) s')
        (fun e s' => wpAny (model prog w) (A.deeper (envOf qual scope s.heap.objs.size f cdv)) (leaving (envOf qual scope s.heap.objs.size f cdv) e) (fun _ s'' => R (.error e) s'') (fun e' s'' => R (.error e') s'') s')
        { s with heap := h₁, toks := tk })
    (hco : scope.isCoroutine = false) (hgen : scope.isGenerator = false) (hk : scope.kind = .function)
    (hcell : ∀ x ∈ scope.names, x.2 ≠ .cell) : codeAny (model prog w) A (.call (.ref f) args) R s :=
  enter_try F X₀ N T hfe hck ho hcd hroom hbind hloc (fun oL h₁ C Fs off F' N' => h oL h₁ _ (Nat.le_add_right _ _) C Fs off F' N') hco hgen hk hcell
end
theorem back2 {h₀ h' : Heap} {L L' : Addr} {m m' : PySem.Str → Option Value} {oL : Obj} {news : List (Addr × Obj)} (C : Caller h₀ L m oL) (hoff : ∀ p ∈ news, p.1 ≠ L) (F' : Fr h₀ L' h' m') (N' : News h₀ L' h' ((L, oL) :: news)) : Fr h₀ L h' m ∧ News h₀ L h' news :=
  ⟨⟨C.ns _ oL.slots (N' _ (.head _)).1, F'.keep, C.above⟩, fun p hp => ⟨(N' p (.tail _ hp)).1, hoff p hp, (N' p (.tail _ hp)).2.2⟩⟩
section
variable {w : World} {mean : PySem.ExcName → Option Value} {mg mb : PySem.Str → Option Value} {A : Around} {env : Env} {h₀ : Heap} {L : Addr} {m : PySem.Str → Option Value} {s : Shared} {Q E : Value → Shared → Prop} {news : List (Addr × Obj)}
theorem mod_call {a b : Int} {ta tb : Tok}
    (F : Fr h₀ L s.heap m) (X : (hd.heap_39 w.params).In h₀) (N : News h₀ L s.heap news)
    (T : Top hd.view_39 (looseW hd.view_39 []) mean mg mb h₀) (hroom : A.depth < recursionLimit) (hh : A.handled = none) (hb : b ≠ 0)
    (ret : ∀ t h' tk', s.toks ≤ t → t < tk' → Fr h₀ L h' m → News h₀ L h' news → Q (.int (a.fmod b) t) { s with heap := h', toks := tk' }) :
    wpAny (model PR w) A (call (.ref 35) [.int a ta, .int b tb]) Q E s := by
  revert X; unfold PR; k_fill; intro X
  refine wpAny_call ?_
  refine enter_tk (env := anyEnv L) F X N T rfl rfl (by k_dflt k_is) (by k_dflt k_is) hroom (BindsTo.of_eq rfl) (locs rfl) ?_ rfl rfl rfl (by decide)
  intro oL h' tk htk C' Fs' hoff F' N'
  clear F N
  obtain ⟨Ah, Ad, Af, Ag, Au⟩ := A
  obtain rfl : Ah = none := hh
  try dsimp only
  try k_fold
  k_steps
  with_reducible rename Fr _ _ _ _ => zF
  with_reducible rename News _ _ _ _ => zN
  obtain ⟨zF', zN'⟩ := back2 C' hoff zF zN
  show Q (Value.int _ _) _
  exact ret _ _ _ htk (Nat.lt_succ_self _) zF' zN'

theorem mul_call {a b : Int} {ta tb : Tok}
    (F : Fr h₀ L s.heap m) (X : (hd.heap_39 w.params).In h₀) (N : News h₀ L s.heap news)
    (T : Top hd.view_39 (looseW hd.view_39 []) mean mg mb h₀) (hroom : A.depth < recursionLimit) (hh : A.handled = none) (hb : IntMulOk a b)
    (ret : ∀ t h' tk', s.toks ≤ t → t < tk' → Fr h₀ L h' m → News h₀ L h' news → Q (.int (a * b) t) { s with heap := h', toks := tk' }) :
    wpAny (model PR w) A (call (.ref 42) [.int a ta, .int b tb]) Q E s := by
  revert X; unfold PR; k_fill; intro X
  refine wpAny_call ?_
  refine enter_tk (env := anyEnv L) F X N T rfl rfl (by k_dflt k_is) (by k_dflt k_is) hroom (BindsTo.of_eq rfl) (locs rfl) ?_ rfl rfl rfl (by decide)
  intro oL h' tk htk C' Fs' hoff F' N'
  clear F N
  obtain ⟨Ah, Ad, Af, Ag, Au⟩ := A
  obtain rfl : Ah = none := hh
  try dsimp only
  try k_fold
  k_steps
  with_reducible rename Fr _ _ _ _ => zF
  with_reducible rename News _ _ _ _ => zN
  obtain ⟨zF', zN'⟩ := back2 C' hoff zF zN
  show Q (Value.int _ _) _
  exact ret _ _ _ htk (Nat.lt_succ_self _) zF' zN'

theorem sub_call {a b : Int} {ta tb : Tok}
    (F : Fr h₀ L s.heap m) (X : (hd.heap_39 w.params).In h₀) (N : News h₀ L s.heap news)
    (T : Top hd.view_39 (looseW hd.view_39 []) mean mg mb h₀) (hroom : A.depth < recursionLimit) (hh : A.handled = none)
    (ret : ∀ t h' tk', s.toks ≤ t → t < tk' → Fr h₀ L h' m → News h₀ L h' news → Q (.int (a - b) t) { s with heap := h', toks := tk' }) :
    wpAny (model PR w) A (call (.ref 49) [.int a ta, .int b tb]) Q E s := by
  revert X; unfold PR; k_fill; intro X
  refine wpAny_call ?_
  refine enter_tk (env := anyEnv L) F X N T rfl rfl (by k_dflt k_is) (by k_dflt k_is) hroom (BindsTo.of_eq rfl) (locs rfl) ?_ rfl rfl rfl (by decide)
  intro oL h' tk htk C' Fs' hoff F' N'
  clear F N
  obtain ⟨Ah, Ad, Af, Ag, Au⟩ := A
  obtain rfl : Ah = none := hh
  try dsimp only
  try k_fold
  k_steps
  with_reducible rename Fr _ _ _ _ => zF
  with_reducible rename News _ _ _ _ => zN
  obtain ⟨zF', zN'⟩ := back2 C' hoff zF zN
  show Q (Value.int _ _) _
  exact ret _ _ _ htk (Nat.lt_succ_self _) zF' zN'

theorem cmp_call {x y : Int} {tx ty : Tok}
    (F : Fr h₀ L s.heap m) (X : (hd.heap_39 w.params).In h₀) (N : News h₀ L s.heap news)
    (T : Top hd.view_39 (looseW hd.view_39 []) mean mg mb h₀) (hroom : A.depth < recursionLimit) (hh : A.handled = none)
    (ret : ∀ t h' tk', s.toks ≤ t → t < tk' → Fr h₀ L h' m → News h₀ L h' news → Q (.int (cmp3 x y) t) { s with heap := h', toks := tk' }) :
    wpAny (model PR w) A (call (.ref 28) [.int x tx, .int y ty]) Q E s := by
  revert X; unfold PR; k_fill; intro X
  refine wpAny_call ?_
  refine enter_tk (env := anyEnv L) F X N T rfl rfl (by k_dflt k_is) (by k_dflt k_is) hroom (BindsTo.of_eq rfl) (locs rfl) ?_ rfl rfl rfl (by decide)
  intro oL h' tk htk C' Fs' hoff F' N'
  clear F N
  obtain ⟨Ah, Ad, Af, Ag, Au⟩ := A
  obtain rfl : Ah = none := hh
  try dsimp only
  try k_fold
  k_steps
  with_reducible rename Fr _ _ _ _ => zF
  with_reducible rename News _ _ _ _ => zN
  obtain ⟨zF', zN'⟩ := back2 C' hoff zF zN
  show Q (Value.int _ _) _
  exact ret _ _ _ htk (Nat.lt_succ_self _) zF' zN'

end
end
section
theorem calmCnt : True := by w_top off; k_with_none; trivial
open PySem PySem.W PySem.Calls PyProof.Rows PyProof.Rows.TI
set_option maxRecDepth 100000
set_option maxHeartbeats 8000000
def cntF (l : List Int) (v : Int) : Int := ((l.count v : Nat) : Int)
theorem cntF_bounds (l : List Int) (v : Int) : 0 ≤ cntF l v ∧ cntF l v ≤ l.length := by
  unfold cntF
  have := List.count_le_length (l := l) (a := v)
  omega
theorem cntF_take {ns : List Int} {i : Nat} {n b : Int} (h : ns[i]? = some n) : cntF (ns.take (i + 1)) b = cntF (ns.take i) b + (if n = b then 1 else 0) := by
  unfold cntF
  rw [List.take_add_one, h, List.count_append]
  by_cases e : n = b
  · subst e; simp
  · simp [e]
theorem is_ints {M : Model} {A : Around} {E : Value → Shared → Prop} {s : Shared} {Q : Value → Shared → Prop} {n b : Int} {t u : Tok} (ht : t ≠ 0) (hu : u ≠ 0) (htu : t ≠ u) (hb : smallInt b = true) (h : Q (.bool (decide (n = b))) s) :
    wpAny M A (compareOp .Is (.int n t) (.int b u)) Q E s := by
  show wpAny M A (do return .bool (← isSame (.int n t) (.int b u))) Q E s
  refine wpAny_bind ?_
  unfold isSame
  by_cases e : n = b
  · subst e
    simp only [beq_self_eq_true, Bool.true_and, hb, if_true]
    have h1 : (t == 0 || u == 0) = false := by simp [ht, hu]
    unfold isSame.cachedInt
    rw [if_neg (by rw [h1]; decide)]
    refine wpAny_bind (wpAny_rule (wpAny_pure (wpAny_pure ?_)))
    simpa using h
  · have e1 : (n == b) = false := by simpa using e
    have h1 : (t == 0 || u == 0) = false := by simp [ht, hu]
    have h2 : (t == u) = false := by simpa using htu
    simp only [e1, Bool.false_and]
    rw [if_neg (by decide)]
    unfold isSame.created
    rw [if_neg (by rw [h1]; decide), if_neg (by rw [h2]; decide)]
    simp only [Bool.not_false, if_true]
    refine wpAny_pure (wpAny_pure ?_)
    simpa [e] using h
section
variable {prog : Program} {w : World} {A : Around} {E : Value → Shared → Prop} {s : Shared} {env : Env} {h₀ : Heap} {x y : PySem.Str} {body : List Stmt} {Q : Flow → Shared → Prop} {l : Addr} {vs : List Value} {nn : Nat} {m₀ : PySem.Str → Option Value} {news : List (Addr × Obj)}
def ItemEnd (h₀ : Heap) (L : Addr) (led : List (Addr × Obj)) (x y : PySem.Str) (a : Int) (m₀ : PySem.Str → Option Value) (s : Shared) (f : Flow) (s₂ : Shared) : Prop :=
  f = .next ∧ ∃ h' tk' m', s₂ = { s with heap := h', toks := tk' } ∧ Fr h₀ L h' m' ∧ News h₀ L h' led ∧ (∃ t', m' y = some (.int a t')) ∧ ∀ z, z ≠ x → z ≠ y → m' z = m₀ z
theorem ItemEnd.intro {h₀ h' : Heap} {L : Addr} {led : List (Addr × Obj)} {x y : PySem.Str} {a b : Int} {m₀ m' : PySem.Str → Option Value} {s : Shared} {tk' : Nat} {t' : Tok} (F : Fr h₀ L h' m') (N : News h₀ L h' led) (e : m' y = some (.int b t')) (eb : b = a) (h : ∀ z, z ≠ x → z ≠ y → m' z = m₀ z) :
    ItemEnd h₀ L led x y a m₀ s .next { s with heap := h', toks := tk' } := ⟨rfl, h', tk', m', rfl, F, N, ⟨t', by rw [e, eb]⟩, h⟩
/-- a for over a list in the ledger whose body counts in one name: the item is handed on as it stands in the list -/
theorem iter_items (hl : (l, listOf vs.toArray nn) ∈ news) (g : Nat → Int) (hh : A.handled = none) (F : Fr h₀ env.locals s.heap m₀) (N : News h₀ env.locals s.heap news) (hy : ∃ t₀, m₀ y = some (.int (g 0) t₀))
    (turn : ∀ i v ta h tk own, vs[i]? = some v → Fr h₀ env.locals h (fun z => if z = x then some v else if z = y then some (.int (g i) ta) else m₀ z) → News h₀ env.locals h (news ++ own) →
      wpAny (model prog w) A (execs body env) (ItemEnd h₀ env.locals (news ++ own) x y (g (i + 1)) m₀ s) E { s with heap := h, toks := tk })
    (done : ∀ (u : PySem.Str → Option Value) t h tk, Fr h₀ env.locals h (fun z => if z = x then u z else if z = y then some (.int (g vs.length) t) else m₀ z) → News h₀ env.locals h news → Q .next { s with heap := h, toks := tk }) :
    wpAny (model prog w) A (pyIter (.ref l)) (fun it s₂ => LoopAtV prog w A h₀ env x body Q E it s₂) E s := by
  have hol : s.heap.get? l = some (listOf vs.toArray nn) := (N _ hl).1
  have hls : s.heap.IsList l vs.toArray := ⟨_, hol, rfl, nn, rfl⟩
  have hne : l ≠ s.heap.objs.size := Nat.ne_of_lt (Heap.lt_size hol)
  refine wpAny_pyIter_list hls ?_
  refine ⟨s.heap.objs.size, _, _, _, _, _, m₀, news, fun i m nx => nx = news ∧ (∃ t, m y = some (.int (g i) t)) ∧ ∀ z, z ≠ x → z ≠ y → m z = m₀ z, rfl, Walks.list (prog := prog) (w := w) hh s.heap.objs.size l hne vs.toArray, ?_, ?_, ?_,
    ⟨⟨_, Heap.get?_push_size _ rfl, rfl, rfl⟩, hls.at fun o e => Heap.get?_push_of_some _ e⟩, F.push _, fun p hp => ⟨Heap.get?_push_of_some _ (N p hp).1, (N p hp).2⟩, ⟨rfl, hy, fun _ _ _ => rfl⟩, ?_, ?_⟩
  · intro hm
    rcases List.mem_cons.mp hm with e | hm
    · exact absurd F.ns.lt (e ▸ Nat.lt_irrefl _)
    · exact (N _ hl).2.1 (List.mem_singleton.mp hm).symm
  · intro b hb
    rw [List.mem_singleton.mp hb]
    exact next_is_new F
  · intro p hp hI
    exact absurd (Heap.lt_size (N p hp).1) ((List.mem_singleton.mp hI) ▸ Nat.lt_irrefl _)
  · rintro i v m₁ news₁ s₁ own ⟨hh', tk', rfl⟩ hin hP ⟨rfl, ⟨ta, hta⟩, hm⟩ hoff hown hget hfp _ F₁ N₁
    have hv : vs[i]? = some v := by simpa using hP
    have F₂ : Fr h₀ env.locals hh' (fun z => if z = x then some v else if z = y then some (.int (g i) ta) else m₀ z) := by
      rw [← map_one hta hm]; exact F₁
    refine wpAny_mono (turn i v ta hh' tk' own hv F₂ fun p hp => N₁ p ((List.mem_append.mp hp).elim (fun h => List.mem_append.mpr (.inr h)) fun h => List.mem_append.mpr (.inl h))) (fun f s₂ p => ?_) fun _ _ e => e
    obtain ⟨rfl, h', tk, m', rfl, F', N', j1, j2⟩ := p
    refine LoopStepV.next (.intro F' (fun p hp => N' p ((List.mem_append.mp hp).elim (fun h => List.mem_append.mpr (.inr h)) fun h => List.mem_append.mpr (.inl h))) hoff ⟨rfl, j1, j2⟩)
  · rintro h' tk m' news' F' N' _ ⟨rfl, ⟨t, ht⟩, hm⟩
    refine done (fun z => m' z) t h' tk ?_ N'
    have e : (fun z => if z = x then m' z else if z = y then some (.int (g vs.length) t) else m₀ z) = m' := by
      funext z
      by_cases h1 : z = x
      · simp [h1]
      · by_cases h2 : z = y
        · subst h2; simp [h1]; rw [ht]; simp
        · simp [h1, h2]; exact (hm z h1 h2).symm
    rw [e]; exact F'
end
section
variable {w : World} {mean : PySem.ExcName → Option Value} {mg mb : PySem.Str → Option Value} {A : Around} {env : Env} {h₀ : Heap} {L : Addr} {m : PySem.Str → Option Value} {s : Shared} {Q E : Value → Shared → Prop} {news : List (Addr × Obj)}
local macro_rules | `(tactic| walk_at "compareOp Is int int") => `(tactic| (k_here; (with_reducible refine is_ints ?k1 ?k2 ?k3 ?k4 ?_); (case k1 => assumption); (case k2 => assumption); (case k3 => assumption); (case k4 => assumption)))
theorem countOf_call {x : Addr} {vs : List Value} {ns : List Int} {nx : Nat} {b : Int} {tb : Tok} (F : Fr h₀ L s.heap m) (X : (hd.heap_39 w.params).In h₀) (N : News h₀ L s.heap news) (T : Top hd.view_39 (looseW hd.view_39 []) mean mg mb h₀)
    (hroom : A.depth < recursionLimit) (hh : A.handled = none)
    (hx : (x, listOf vs.toArray nx) ∈ news) (ix : IntsAre vs ns) (hb : smallInt b = true) (htb : tb ≠ 0) (hvs : ∀ v ∈ vs, ∃ n t, v = .int n t ∧ t ≠ 0 ∧ t ≠ tb) (hlen : ns.length < 1000)
    (ret : ∀ t h' tk', 0 ≤ cntF ns b → cntF ns b < 1000 → Fr h₀ L h' m → News h₀ L h' news → Q (.int (cntF ns b) t) { s with heap := h', toks := tk' }) :
    wpAny (model PR w) A (call (.ref 56) [.ref x, .int b tb]) Q E s := by
  revert X; unfold PR; k_fill; intro X
  refine wpAny_call ?_
  refine enter_tk (env := anyEnv L) F X N T rfl rfl (by k_dflt k_is) (by k_dflt k_is) hroom (BindsTo.of_eq rfl) (locs rfl) ?_ rfl rfl rfl (by decide)
  intro oL h' tk htk C' Fs' hoff F' N'
  clear F N
  obtain ⟨Ah, Ad, Af, Ag, Au⟩ := A
  obtain rfl : Ah = none := hh
  try dsimp only
  try k_fold
  k_with "pyIter ref" => (fail "mine")
  k_steps
  with_unfolding_all refine' iter_items (y := "count") (vs := vs) (nn := nx) (news := (L, oL) :: news) (.tail _ hx) (fun i => cntF (ns.take i) b) rfl (by k_dflt k_asm) (by k_dflt k_asm) ⟨_, rfl⟩ ?_ ?_
  · (intro i v ta h tk own hv; obtain ⟨n, t, rfl, hn⟩ := IntsAre.at ix i v hv; obtain ⟨n', t', he, ht0, htt⟩ := hvs _ (List.mem_of_getElem? hv); cases he; intro F1 N1)
    k_steps
    all_goals
      refine ItemEnd.intro (by k_asm) (by k_asm) rfl ?_ (by intro z h1 h2; simp [h1, h2])
      rw [cntF_take hn]
      simp_all
  · intro u t h tk F1 N1
    k_steps
    obtain ⟨zF', zN'⟩ := back2 C' hoff F1 N1
    rw [List.take_of_length_le (by rw [IntsAre.length ix]; exact Nat.le_refl _)]
    exact ret _ _ _ (cntF_bounds ns b).1 (by have := (cntF_bounds ns b).2; omega) zF' zN'
end
end
section
theorem calmComp : True := by w_top off; k_with_none; trivial
open PySem PySem.W PySem.Calls PyProof.Rows PyProof.Rows.TI
set_option maxRecDepth 100000
set_option maxHeartbeats 8000000
open LCg
def TokInts (lo hi : Nat) (vs : List Value) (ns : List Int) : Prop := IntsAre vs ns ∧ ∀ v ∈ vs, ∃ n t, v = .int n t ∧ lo < t ∧ t < hi
theorem TokInts.nil (lo hi : Nat) : TokInts lo hi [] [] := ⟨.nil, fun _ h => nomatch h⟩
theorem TokInts.snoc {lo hi hi' t : Nat} {vs : List Value} {ns : List Int} {n : Int} (h : TokInts lo hi vs ns) (h1 : lo < t) (h2 : t < hi') (h3 : hi ≤ hi') : TokInts lo hi' (vs ++ [.int n t]) (ns ++ [n]) := by
  refine ⟨h.1.append (.cons _ _ .nil), fun v hv => ?_⟩
  rcases List.mem_append.mp hv with hv | hv
  · obtain ⟨n, t, e, a, b⟩ := h.2 v hv
    exact ⟨n, t, e, a, Nat.lt_of_lt_of_le b h3⟩
  · exact ⟨n, t, List.mem_singleton.mp hv, h1, h2⟩
theorem TokInts.mono {lo hi hi' : Nat} {vs : List Value} {ns : List Int} (h : TokInts lo hi vs ns) (h3 : hi ≤ hi') : TokInts lo hi' vs ns :=
  ⟨h.1, fun v hv => let ⟨n, t, e, a, b⟩ := h.2 v hv; ⟨n, t, e, a, Nat.lt_of_lt_of_le b h3⟩⟩
def EltEnd (h₀ : Heap) (L : Addr) (m : PySem.Str → Option Value) (s₁ : Shared) (led : List (Addr × Obj)) (z : Int) (y : Value) (s₂ : Shared) : Prop :=
  ∃ h' tk' t, s₂ = { s₁ with heap := h', toks := tk' } ∧ y = .int z t ∧ s₁.toks ≤ t ∧ t < tk' ∧ Fr h₀ L h' m ∧ News h₀ L h' led
section
variable {prog : Program} {w : World} {A : Around} {E : Value → Shared → Prop} {s : Shared} {h₀ : Heap} {L : Addr} {m : PySem.Str → Option Value} {env : Env}
/-- what a turn owes: the element is the int «z», its token made in this turn -/
def TurnOf (prog : Program) (w : World) (A : Around) (h₀ : Heap) (L : Addr) (m : PySem.Str → Option Value) (env : Env) (elt : PySem.Expr) (x : PySem.Str) (scope : Scope) (cl : List (PySem.Str × Addr)) (s : Shared) (news : List (Addr × Obj)) (v : Value) (z : Int) : Prop :=
  ∀ I oI C oC D ys m₂ h tk (E' : Value → Shared → Prop), s.toks < tk → NsObj oC m₂ → m₂ x = some v → Fr h₀ L h m → News h₀ L h ((I, oI) :: (C, oC) :: (D, lst ys) :: news) → Off3 I C D news → ((@Ne Nat I C) ∧ (@Ne Nat I D) ∧ (@Ne Nat C D)) →
    wpAny (model prog w) A (eval elt (compEnvC scope cl C env)) (EltEnd h₀ L m { s with heap := h, toks := tk } ((I, oI) :: (C, oC) :: (D, lst ys) :: news) z) E' { s with heap := h, toks := tk }
theorem block_tok {elt iter : PySem.Expr} {x : PySem.Str} {px : Pos} {scope : Scope} {cl : List (PySem.Str × Addr)} {pos : Pos} {s₂ : Shared} {I : Addr} {fp : List Addr} {n : Nat} {P : Nat → Value → Prop} {St : Nat → Heap → Prop} {news : List (Addr × Obj)} {RR : Value → Addr → Result → Shared → Prop} (g : Nat → Int)
    (W : Walks prog w A I fp [I] n P St) (hsz : n ≤ sizeLine) (hIo : ∀ i h, St i h → ∃ o, h.get? I = some o)
    (hSt : ∀ i h h' o, St i h → h.get? I = some o → h'.get? I = some o → News h₀ L h' news → St i h')
    (hcell : ∀ y ∈ scope.names, y.2 ≠ .cell) (hkind : scope.kind = .function) (hx : scope.names.lookup x = some .local) (hst : St 0 s₂.heap) (hfp : ∀ b ∈ fp, b < s₂.heap.objs.size)
    (F : Fr h₀ L s₂.heap m) (N : News h₀ L s₂.heap news) (hIL : L ≠ I) (hI₀ : h₀.get? I = none) (off : ∀ p ∈ news, p.1 ≠ I)
    (turn : ∀ i v, i < n → P i v → TurnOf prog w A h₀ L m env elt x scope cl s₂ news v (g i))
    (hRR : ∀ D C h tk m' ys, Fr h₀ L h m → News h₀ L h ((D, lst ys) :: news) → (∀ p ∈ news, p.1 < D) → h.Ns C m' → h₀.get? C = none → C ≠ L → C ≠ D → (∀ p ∈ news, p.1 ≠ C) → TokInts s₂.toks tk ys ((List.range n).map g) → s₂.toks ≤ tk → RR (.ref D) C (.ok .next) { s₂ with heap := h, toks := tk }) :
    wpAny (model prog w) A (newList []) (fun acc s₃ => wpAny (model prog w) A (newFunctionEnv scope env.globals cl [] env.qual none .none (some env)) (fun cenv s₄ =>
      codeAny (model prog w) A (.compStart (.ListComp elt [⟨.Name x px, iter, [], 0⟩] scope pos) 0 (.ref I) acc { cenv with scope := relabel scope env }) (RR acc cenv.locals) s₄) E s₃) E s₂ := by
  refine wpAny_newObj_type (wpAny_newFunctionEnv hcell (by intro y hy; simp at hy) (fun h₁ hns₁ hsb₁ => ?_) hkind)
  dsimp only at hns₁ hsb₁ ⊢
  generalize hD : s₂.heap.objs.size = D at *
  generalize hH : s₂.heap.push { cls := .type "list", dict := none, data := .seq ([] : List Value).toArray } = H at hns₁ hsb₁ ⊢
  have hC : H.objs.size = D + 1 := by rw [← hH, Heap.size_push, hD]
  generalize hCe : H.objs.size = C at *
  have lt : ∀ {b o}, s₂.heap.get? b = some o → b < D := fun e => hD ▸ Heap.lt_size e
  have hIf : I < D := hfp I (W.sub I (List.mem_singleton.mpr rfl))
  have hCD : C ≠ D := by rw [hC]; exact Nat.succ_ne_self D
  have hIC : I ≠ C := by rw [hC]; exact Nat.ne_of_lt (Nat.lt_succ_of_lt hIf)
  have hID : I ≠ D := Nat.ne_of_lt hIf
  have hLD : L < D := hD ▸ F.ns.lt
  have hCL : C ≠ L := by rw [hC]; exact Nat.ne_of_gt (Nat.lt_succ_of_lt hLD)
  have old : ∀ b o, s₂.heap.get? b = some o → h₁.get? b = some o := fun b o e => hsb₁.extBut b o (by rw [hC]; exact Nat.ne_of_lt (Nat.lt_succ_of_lt (lt e))) (Heap.get?_push_of_some _ (hH ▸ Heap.get?_push_of_some _ e))
  have hacc : h₁.get? D = some (lst []) := hsb₁.extBut _ _ (Ne.symm hCD) (Heap.get?_push_of_some _ (hH ▸ hD ▸ Heap.get?_push_size _ rfl))
  have h₀n : ∀ a, D ≤ a → h₀.get? a = none := fun a ha => by
    cases e : h₀.get? a with
    | none => rfl
    | some o' => exact absurd (lt (F.keep a o' e)) (Nat.not_lt.mpr ha)
  have hD₀ : h₀.get? D = none := h₀n D (Nat.le_refl _)
  have hC₀ : h₀.get? C = none := h₀n C (by rw [hC]; exact Nat.le_succ _)
  have lD : ∀ p ∈ news, p.1 < D := fun p hp => lt (N p hp).1
  have nD : ∀ p ∈ news, p.1 ≠ D := fun p hp => Nat.ne_of_lt (lD p hp)
  have nC : ∀ p ∈ news, p.1 ≠ C := fun p hp => by rw [hC]; exact Nat.ne_of_lt (Nat.lt_succ_of_lt (lt (N p hp).1))
  have off3 : Off3 I C D news := Off3.of fun p hp => ⟨off p hp, nC p hp, nD p hp⟩
  have offI : ∀ ys : List Value, ∀ p ∈ (D, lst ys) :: news, p.1 ≠ I := fun ys p hp => by
    rcases List.mem_cons.mp hp with rfl | hp
    · exact Ne.symm hID
    · exact off p hp
  have loop : ∀ s₃ : Shared, s₃ = { s₂ with heap := h₁, toks := s₂.toks + ([] : List (PySem.Str × Value)).length } →
      codeAny (model prog w) A (.compLoop (.ListComp elt [⟨.Name x px, iter, [], 0⟩] scope pos) 0 (.ref I) (.ref D) (compEnvC scope cl C env)) (RR (.ref D) C) s₃ := by
    rintro s₃ rfl
    refine codeAny_compLoop_tests
      (fun k s' => ∃ i h' tk ys m', s' = { s₂ with heap := h', toks := tk } ∧ s₂.toks ≤ tk ∧ i ≤ n ∧ k = n + 1 - i ∧ TokInts s₂.toks tk ys ((List.range i).map g) ∧ St i h' ∧ Fr h₀ L h' m ∧ h'.Ns C m' ∧ News h₀ L h' ((D, lst ys) :: news)) ?_ (n + 1)
      ⟨0, h₁, _, [], _, rfl, Nat.le_refl _, Nat.zero_le _, rfl, TokInts.nil _ _, W.frame _ _ _ hst fun b _ o e => old b o e, F.keeps old, hns₁, fun p hp => ?_⟩
    · rintro k s' ⟨i, h', tk, ys, m', rfl, hτ, hi, rfl, hT, hst', F', hn', N'⟩
      by_cases hlt : i < n
      · refine wpAny_with_toks (n := tk) (Nat.le_refl _) (W.item i _ _ _ hlt hst' fun v h₂ tk₂ hPv hst₂ hk₂ ht₂ => ?_)
        have ht₂ : tk ≤ tk₂ := ht₂
        refine wpAny_assign_Name (wpAny_storeName_local (lookup_relabel_local hx) (hn'.at' fun o e => hk₂ _ o (by simpa using Ne.symm hIC) e) (fun h₃ hn₃ hs₃ => ?_) (by simp [compEnvC, relabel, hkind]))
        have ht₃ : tk ≤ tk₂ + 1 := Nat.le_succ_of_le ht₂
        refine wpAny_tests_nil ?_
        simp only [if_true]
        have hst₃ : St (i + 1) h₃ := W.frame _ _ _ hst₂ fun b hb o e => hs₃.extBut b o (fun q => by have q' : b = C := q; have := hfp b hb; rw [q', hC] at this; exact Nat.lt_irrefl _ (Nat.lt_of_succ_lt this)) e
        obtain ⟨oI, heI⟩ := hIo _ _ hst₃
        obtain ⟨oC, heC, hoC⟩ := ns_obj hn₃
        have F₃ : Fr h₀ L h₃ m := (fr_but F' hk₂ hIL hI₀).change hs₃ hCL hC₀
        have N₂ : News h₀ L h₂ ((D, lst ys) :: news) := news_but N' hk₂ (offI ys)
        have N₃ : News h₀ L h₃ ((I, oI) :: (C, oC) :: (D, lst ys) :: news) := fun p hp => by
          rcases List.mem_cons.mp hp with rfl | hp
          · exact ⟨heI, Ne.symm hIL, hI₀⟩
          · rcases List.mem_cons.mp hp with rfl | hp
            · exact ⟨heC, hCL, hC₀⟩
            · refine ⟨hs₃.extBut _ _ ?_ (N₂ p hp).1, (N₂ p hp).2⟩
              rcases List.mem_cons.mp hp with rfl | hp
              · exact Ne.symm hCD
              · exact nC p hp
        refine wpAny_mono (turn i v hlt hPv I oI C oC D ys _ h₃ (tk₂ + 1) _ (Nat.lt_succ_of_le (Nat.le_trans hτ ht₂)) hoC (by simp) F₃ N₃ off3 ⟨hIC, hID, hCD⟩) (fun y s₄ h₄ => ?_) fun _ _ e => e
        obtain ⟨h₄, tk₄, t, rfl, rfl, hta, htb, F₄, N₄⟩ := h₄
        have hta : tk₂ + 1 ≤ t := hta
        have N₄' : News h₀ L h₄ ((D, lst ys) :: news) := fun p hp => N₄ p (.tail _ (.tail _ hp))
        have hst₄ : St (i + 1) h₄ := hSt _ _ _ _ hst₃ heI (N₄ _ (.head _)).1 fun p hp => N₄' p (.tail _ hp)
        have hyl : ys.length = i := by rw [hT.1.length, List.length_map, List.length_range]
        refine append_at (hsz := by show ys.toArray.size ≤ sizeLine; rw [List.size_toArray, hyl]; exact Nat.le_trans hi hsz) (N₄' _ (.head _)).1 fun h₅ hs₅ hD₅ => ?_
        refine ⟨n + 1 - (i + 1), by omega, i + 1, h₅, tk₄, ys ++ [.int (g i) t], _, rfl, Nat.le_trans hτ (Nat.le_trans ht₃ (Nat.le_of_lt (Nat.lt_of_le_of_lt hta htb))), hlt, rfl, ?_, W.frame _ _ _ hst₄ fun b hb o e => hs₅.extBut b o (fun q => absurd (hfp b hb) (by have q' : b = D := q; rw [q']; exact Nat.lt_irrefl _)) e,
          F₄.change hs₅ (Ne.symm (Nat.ne_of_lt hLD)) hD₀, (hoC.ns (N₄ _ (.tail _ (.head _))).1).sameBut hs₅ hCD, fun p hp => ?_⟩
        · rw [List.range_succ, List.map_append]
          exact hT.snoc (Nat.lt_of_lt_of_le (Nat.lt_succ_of_le (Nat.le_trans hτ ht₂)) hta) htb (Nat.le_trans ht₃ (Nat.le_of_lt (Nat.lt_of_le_of_lt hta htb)))
        · rcases List.mem_cons.mp hp with rfl | hp
          · exact ⟨hD₅.trans (congrArg some (lst_snoc ys _)), (N₄' _ (.head _)).2⟩
          · exact ⟨hs₅.extBut _ _ (nD p hp) (N₄' p (.tail _ hp)).1, (N₄' p (.tail _ hp)).2⟩
      · obtain rfl : i = n := Nat.le_antisymm hi (Nat.not_lt.mp hlt)
        refine wpAny_with_toks (n := tk) (Nat.le_refl _) (W.done _ _ _ hst' fun h₂ tk₂ hk₂ ht₂ => ?_)
        have ht₂ : tk ≤ tk₂ := ht₂
        exact hRR D C h₂ tk₂ _ ys (fr_but F' hk₂ hIL hI₀) (news_but N' hk₂ (offI ys)) lD (hn'.at' fun o e => hk₂ _ o (by simpa using Ne.symm hIC) e) hC₀ hCL hCD nC (hT.mono ht₂) (Nat.le_trans hτ ht₂)
    · rcases List.mem_cons.mp hp with rfl | hp
      · exact ⟨hacc, Ne.symm (Nat.ne_of_lt hLD), hD₀⟩
      · exact ⟨old _ _ (N p hp).1, (N p hp).2⟩
  exact codeAny_compStart_list (loop _ rfl) (W.self 0 _ _ _ (W.frame _ _ _ hst fun b _ o e => old b o e) (loop _ rfl))

def CompTok (prog : Program) (w : World) (A : Around) (h₀ : Heap) (L : Addr) (m : PySem.Str → Option Value) (env : Env) (elt : PySem.Expr) (x : PySem.Str) (scope : Scope) (cl : List (PySem.Str × Addr)) (Fin : Shared → List (Addr × Obj) → List Int → Prop) (xv : Value) (s₁ : Shared) : Prop :=
  ∃ (news : List (Addr × Obj)) (n : Nat) (g : Nat → Int), A.handled = none ∧ Fr h₀ L s₁.heap m ∧ News h₀ L s₁.heap news ∧ n ≤ sizeLine ∧
    ((∃ ax vs k, xv = .ref ax ∧ (ax, listOf (List.toArray vs) k) ∈ news ∧ vs.length = n ∧ ∀ h, ∀ i v, vs[i]? = some v → TurnOf prog w A h₀ L m env elt x scope cl { s₁ with heap := h } news v (g i)) ∨
     (∃ r a b t u v, xv = .ref r ∧ IsRange s₁.heap r a b 1 t u v ∧ Builtin.Range.small a b 1 = true ∧ Builtin.Range.rangeSize a b 1 = ((n : Nat) : Int) ∧ ∀ h, ∀ i t, i < n → TurnOf prog w A h₀ L m env elt x scope cl { s₁ with heap := h } news (.int (a + (i : Int)) t) (g i))) ∧
    Fin s₁ news ((List.range n).map g)
theorem CompTok.list {Fin : Shared → List (Addr × Obj) → List Int → Prop} {elt : PySem.Expr} {x : PySem.Str} {scope : Scope} {cl : List (PySem.Str × Addr)} {s₁ : Shared} {news : List (Addr × Obj)} {ax : Addr} {vs : List Value} {k : Nat} (g : Nat → Int)
    (hh : A.handled = none) (F : Fr h₀ L s₁.heap m) (N : News h₀ L s₁.heap news) (hm : (ax, listOf (List.toArray vs) k) ∈ news) (hsz : vs.length ≤ sizeLine)
    (turn : ∀ h, ∀ i v, vs[i]? = some v → TurnOf prog w A h₀ L m env elt x scope cl { s₁ with heap := h } news v (g i)) (fin : Fin s₁ news ((List.range vs.length).map g)) : CompTok prog w A h₀ L m env elt x scope cl Fin (.ref ax) s₁ :=
  ⟨news, vs.length, g, hh, F, N, hsz, .inl ⟨ax, vs, k, rfl, hm, rfl, turn⟩, fin⟩
theorem CompTok.range {Fin : Shared → List (Addr × Obj) → List Int → Prop} {elt : PySem.Expr} {x : PySem.Str} {scope : Scope} {cl : List (PySem.Str × Addr)} {s₁ : Shared} {news : List (Addr × Obj)} {r : Addr} {a b : Int} {t u v : Tok} {n : Nat} (g : Nat → Int)
    (hh : A.handled = none) (F : Fr h₀ L s₁.heap m) (N : News h₀ L s₁.heap news) (hr : IsRange s₁.heap r a b 1 t u v) (hsm : Builtin.Range.small a b 1 = true) (hn : Builtin.Range.rangeSize a b 1 = ((n : Nat) : Int)) (hsz : n ≤ sizeLine)
    (turn : ∀ h, ∀ i t, i < n → TurnOf prog w A h₀ L m env elt x scope cl { s₁ with heap := h } news (.int (a + (i : Int)) t) (g i)) (fin : Fin s₁ news ((List.range n).map g)) : CompTok prog w A h₀ L m env elt x scope cl Fin (.ref r) s₁ :=
  ⟨news, n, g, hh, F, N, hsz, .inr ⟨r, a, b, t, u, v, rfl, hr, hsm, hn, turn⟩, fin⟩
def FinTE (h₀ : Heap) (L : Addr) (m : PySem.Str → Option Value) (Q : Value → Shared → Prop) (s : Shared) (news : List (Addr × Obj)) (ns : List Int) : Prop :=
  ∀ D h tk ys, Fr h₀ L h m → News h₀ L h ((D, listOf (List.toArray ys) ys.length) :: news) → (∀ p ∈ news, p.1 < D) → s.toks ≤ tk → TokInts s.toks tk ys ns → Q (.ref D) { s with heap := h, toks := tk }
def FinTA (h₀ : Heap) (L : Addr) (m : PySem.Str → Option Value) (y : PySem.Str) (Q : Flow → Shared → Prop) (s : Shared) (news : List (Addr × Obj)) (ns : List Int) : Prop :=
  ∀ D h tk ys, Fr h₀ L h (fun z => if z = y then some (.ref D) else m z) → News h₀ L h ((D, listOf (List.toArray ys) ys.length) :: news) → (∀ p ∈ news, p.1 < D) → s.toks < tk → TokInts s.toks tk ys ns → Q .next { s with heap := h, toks := tk }
theorem comp_tok {elt iter : PySem.Expr} {x : PySem.Str} {px : Pos} {scope : Scope} {cl : List (PySem.Str × Addr)} {pos : Pos} {s₁ : Shared} {xv : Value} {Fin : Shared → List (Addr × Obj) → List Int → Prop} {RR : Value → Addr → Result → Shared → Prop}
    (h : CompTok prog w A h₀ L m env elt x scope cl Fin xv s₁) (hcell : ∀ y ∈ scope.names, y.2 ≠ .cell) (hkind : scope.kind = .function) (hx : scope.names.lookup x = some .local)
    (hRR : ∀ D C h tk m' ys news ns, Fr h₀ L h m → News h₀ L h ((D, lst ys) :: news) → (∀ p ∈ news, p.1 < D) → h.Ns C m' → h₀.get? C = none → C ≠ L → C ≠ D → (∀ p ∈ news, p.1 ≠ C) → TokInts s₁.toks tk ys ns → s₁.toks ≤ tk → Fin s₁ news ns → RR (.ref D) C (.ok .next) { s₁ with heap := h, toks := tk }) :
    wpAny (model prog w) A (pyIter xv) (fun it s₂ => wpAny (model prog w) A (newList []) (fun acc s₃ => wpAny (model prog w) A (newFunctionEnv scope env.globals cl [] env.qual none .none (some env)) (fun cenv s₄ =>
      codeAny (model prog w) A (.compStart (.ListComp elt [⟨.Name x px, iter, [], 0⟩] scope pos) 0 it acc { cenv with scope := relabel scope env }) (RR acc cenv.locals) s₄) E s₃) E s₂) E s₁ := by
  obtain ⟨news, n, g, hh, F, N, hsz, src, fin⟩ := h
  rcases src with ⟨ax, vs, k, rfl, hm, rfl, turn⟩ | ⟨r, a, b, t, u, v, rfl, hr, hsm, hn, turn⟩
  · have hol : s₁.heap.get? ax = some (listOf vs.toArray k) := (N _ hm).1
    have hls : s₁.heap.IsList ax vs.toArray := ⟨_, hol, rfl, k, rfl⟩
    have hlt : ax < s₁.heap.objs.size := Heap.lt_size hol
    refine wpAny_pyIter_list hls ?_
    have up : ∀ b o, s₁.heap.get? b = some o → (s₁.heap.push { cls := .type "list_iterator", data := .fields #[.ref ax, .int 0 0] }).get? b = some o := fun b o e => Heap.get?_push_of_some _ e
    have W := Walks.list (prog := prog) (w := w) hh s₁.heap.objs.size ax (Nat.ne_of_lt hlt) vs.toArray
    rw [show vs.toArray.size = vs.length by simp] at W
    refine block_tok g W hsz (fun i h st => by obtain ⟨o, e, _⟩ := st.1; exact ⟨o, e⟩) (fun i h h' o st e e' N' => ⟨by obtain ⟨o', q, r⟩ := st.1; rw [e] at q; cases q; exact ⟨o, e', r⟩, ⟨_, (N' _ hm).1, rfl, k, rfl⟩⟩) hcell hkind hx ⟨⟨_, Heap.get?_push_size _ rfl, rfl, rfl⟩, hls.push _⟩ (fun b hb => ?_)
      (F.keeps up) (N.grown up) (Nat.ne_of_lt F.ns.lt) (next_is_new F) (fun p hp => Nat.ne_of_lt (Heap.lt_size (N p hp).1)) (fun i v hi hP => turn _ i v (by simpa using hP)) ?_
    · show b < (s₁.heap.push _).objs.size
      rw [Heap.size_push]
      rcases List.mem_cons.mp hb with rfl | hb
      · exact Nat.lt_succ_self _
      · rw [List.mem_singleton.mp hb]; exact Nat.lt_succ_of_lt hlt
    · intro D C h tk m' ys F' N' lD hn hC₀ hCL hCD nC hT ht
      exact hRR D C h tk m' ys news _ F' N' lD hn hC₀ hCL hCD nC hT ht fin
  · refine wpAny_pyIter_range hr hsm ?_
    refine block_tok g (range_walks hh a n) hsz (fun i h st => ⟨_, st⟩) (fun i h h' o st e e' N' => ?_) hcell hkind hx (by show IsRangeIter _ _ _ _ _; rw [hn]; simpa using Heap.get?_push_size _ rfl) (fun b hb => ?_)
      (F.keeps fun _ _ e => Heap.get?_push_of_some _ e) (N.grown fun _ _ e => Heap.get?_push_of_some _ e) (Nat.ne_of_lt F.ns.lt) (next_is_new F) (fun p hp => Nat.ne_of_lt (Heap.lt_size (N p hp).1)) (fun i v hi hP => by obtain ⟨t, rfl⟩ := hP; exact turn _ i t hi) ?_
    · have st' : h.get? _ = some _ := st
      show h'.get? _ = some _
      rw [e', ← e]; exact st'
    · rw [List.mem_singleton.mp hb]
      show s₁.heap.objs.size < (s₁.heap.push _).objs.size
      rw [Heap.size_push]; exact Nat.lt_succ_self _
    · intro D C h tk m' ys F' N' lD hn hC₀ hCL hCD nC hT ht
      exact hRR D C h tk m' ys news _ F' N' lD hn hC₀ hCL hCD nC hT ht fin
theorem ListComp_tok {elt iter : PySem.Expr} {x : PySem.Str} {px : Pos} {scope : Scope} {cl : List (PySem.Str × Addr)} {pos : Pos} {Q : Value → Shared → Prop} (_F₀ : Fr h₀ L s.heap m)
    (hclos : closureFor scope env = pure cl) (hcell : ∀ y ∈ scope.names, y.2 ≠ .cell) (hkind : scope.kind = .function)
    (hnames : ∀ y ∈ scope.names, y.2 = .local → scope.names.lookup y.1 = some .local) (hx : scope.names.lookup x = some .local)
    (h : wpAny (model prog w) A (eval iter env) (CompTok prog w A h₀ L m env elt x scope cl (FinTE h₀ L m Q)) E s)
    (hs : ∀ x, foldedSetIterable iter env x = pure x := by intro _; rfl) :
    wpAny (model prog w) A (eval (.ListComp elt [⟨.Name x px, iter, [], 0⟩] scope pos) env) Q E s := by
  rw [eval_ListComp]
  refine wpAny_comprehension_free (use := none) rfl hs hclos hkind hnames (wpAny_mono h (fun xv s₁ h₁ => comp_tok h₁ hcell hkind hx ?_) fun _ _ e => e)
  intro D C h tk m' ys news ns F' N' lD hn hC₀ hCL hCD nC hT ht fin
  refine ⟨m', hn, fun h'' hs'' => fin D h'' tk ys (F'.change hs'' hCL hC₀) (fun p hp => ?_) lD ht hT⟩
  refine ⟨hs''.extBut _ _ ?_ (N' p hp).1, (N' p hp).2⟩
  rcases List.mem_cons.mp hp with rfl | hp
  · exact Ne.symm hCD
  · exact nC p hp
theorem Assign_ListComp_tok {elt iter : PySem.Expr} {x y : PySem.Str} {px py : Pos} {scope : Scope} {cl : List (PySem.Str × Addr)} {pos spos : Pos} {Q : Flow → Shared → Prop} (_F₀ : Fr h₀ L s.heap m) (hLe : env.locals = L)
    (hsw : swapsWith (.ListComp elt [⟨.Name x px, iter, [], 0⟩] scope pos) (some (.Name y py)) spos.line env = pure true)
    (hclos : closureFor scope env = pure cl) (hcell : ∀ z ∈ scope.names, z.2 ≠ .cell) (hkind : scope.kind = .function)
    (hnames : ∀ z ∈ scope.names, z.2 = .local → scope.names.lookup z.1 = some .local) (hx : scope.names.lookup x = some .local)
    (hy : env.kindOf y = some .local) (hp : (env.scope.kind == .class || (env.scope.kind == .module && env.locals != env.globals)) = false)
    (h : wpAny (model prog w) A (eval iter env) (CompTok prog w A h₀ L m env elt x scope cl (FinTA h₀ L m y Q)) E s)
    (hs : ∀ x, foldedSetIterable iter env x = pure x := by intro _; rfl) :
    wpAny (model prog w) A (exec (.Assign [.Name y py] (.ListComp elt [⟨.Name x px, iter, [], 0⟩] scope pos) spos) env) Q E s := by
  subst hLe
  rw [exec_Assign_Name_used _ _ _ _ hsw]
  refine wpAny_bind (wpAny_standAt (wpAny_bind ?_))
  show wpAny _ A (do let _ ← comprehension (.ListComp elt [⟨.Name x px, iter, [], 0⟩] scope pos) scope env _ (newList []) false (eval iter env) (some (assign (.Name y py) env))) _ _ s
  refine wpAny_bind (wpAny_mono (wpAny_comprehension_free (use := some (assign (.Name y py) env)) (Q := fun _ s' => Q .next s') rfl hs hclos hkind hnames
    (wpAny_mono h (fun xv s₁ h₁ => comp_tok h₁ hcell hkind hx ?_) fun _ _ e => e)) (fun _ s' hq => wpAny_pure (wpAny_pure hq)) fun _ _ e => e)
  intro D C h' tk m' ys news ns F' N' lD hn hC₀ hCL hCD nC hT ht fin
  show wpAny _ A (assign (.Name y py) env (.ref D)) _ _ _
  refine wpAny_assign_Name (wpAny_storeName_local hy F'.ns (fun h₂ hn₂ hs₂ => ?_) hp)
  have hL₀ : h₀.get? env.locals = none := Heap.get?_none_of_le F'.above
  have F₂ : Fr h₀ env.locals h₂ (fun z => if z = y then some (.ref D) else m z) := ⟨hn₂, fun b o e => hs₂.extBut b o (fun q => by rw [q, hL₀] at e; cases e) (F'.keep b o e), F'.above⟩
  refine ⟨m', hn.sameBut hs₂ hCL, fun h'' hs'' => fin D h'' _ ys (F₂.change hs'' hCL hC₀) (fun p hp => ?_) lD (Nat.lt_succ_of_le ht) (hT.mono (Nat.le_succ _))⟩
  have z : h₂.get? p.1 = some p.2 := hs₂.extBut _ _ (N' p hp).2.1 (N' p hp).1
  refine ⟨hs''.extBut _ _ ?_ z, (N' p hp).2⟩
  rcases List.mem_cons.mp hp with rfl | hp
  · exact Ne.symm hCD
  · exact nC p hp
end
end
section
theorem calmPlainQ : True := by w_top off; k_with_none; trivial
open PySem PySem.W PySem.Calls PyProof.Rows PyProof.Rows.TI
set_option maxRecDepth 100000
set_option maxHeartbeats 8000000
def sqG (p : Int) (i : Nat) : Int := ((0 + (i : Int)) * (0 + (i : Int))).fmod p
def cntSq (p r : Int) : Int := cntF ((List.range p.toNat).map (sqG p)) r
def symF : Nat → Int → Int → Int → Int
  | 0, _, _, _ => 1
  | n + 1, u, l, p => if 1 < l then (if l.fmod p = 0 then (cntSq p (u.fmod p) - 1) * symF n u (l.fdiv p) p else symF n u l (p + 2)) else 1
def stopF : Nat → Int → Int → Bool
  | 0, l, _ => decide (l ≤ 1)
  | n + 1, l, p => if 1 < l then (if l.fmod p = 0 then stopF n (l.fdiv p) p else stopF n l (p + 2)) else true
def squaresF (u l : Int) : Int := symF 12 u l 3
def okN (l p : Nat) : Bool := l % 2 == 1 && p % 2 == 1 && (l == 1 || (List.range p).all fun d => decide (d ≤ 1) || l % d != 0)
theorem okN_div : ∀ l : Fin 22, ∀ p : Fin 22, 3 ≤ p.val → 1 < l.val → okN l p = true → l.val % p.val = 0 → okN (l.val / p.val) p = true ∧ 1 ≤ l.val / p.val ∧ l.val / p.val < l.val := by decide +kernel
theorem okN_next : ∀ l : Fin 22, ∀ p : Fin 22, 3 ≤ p.val → 1 < l.val → okN l p = true → l.val % p.val ≠ 0 → okN l (p.val + 2) = true ∧ p.val + 2 ≤ 21 := by decide +kernel
def SqI (u total l p σ : Int) : Prop := 1 ≤ l ∧ l ≤ 21 ∧ 3 ≤ p ∧ p ≤ 21 ∧ okN l.toNat p.toNat = true ∧ ∃ n, stopF n l p = true ∧ σ * symF n u l p = total
theorem SqI.start {u l : Int} (h1 : 3 ≤ l) (h2 : l ≤ 21) (h3 : l % 2 = 1) : SqI u (squaresF u l) l 3 1 := by
  have key : ∀ l : Fin 22, 3 ≤ l.val → l.val % 2 = 1 → okN l 3 = true ∧ stopF 12 (l.val : Int) 3 = true := by decide +kernel
  obtain ⟨n, rfl⟩ := Int.eq_ofNat_of_zero_le (show 0 ≤ l by omega)
  have q := key ⟨n, by omega⟩ (by show 3 ≤ n; omega) (by show n % 2 = 1; omega)
  exact ⟨by omega, h2, by decide, by decide, q.1, 12, q.2, by rw [Int.one_mul]; rfl⟩
theorem SqI.bounds {u t l p σ : Int} (h : SqI u t l p σ) : 1 ≤ l ∧ l ≤ 21 ∧ 3 ≤ p ∧ p ≤ 21 := ⟨h.1, h.2.1, h.2.2.1, h.2.2.2.1⟩
theorem SqI.done {u t l p σ : Int} (h : SqI u t l p σ) (hl : ¬ 1 < l) : σ = t := by
  obtain ⟨_, _, _, _, _, n, _, e⟩ := h
  cases n with
  | zero => simpa [symF] using e
  | succ n => simpa [symF, hl] using e
theorem SqI.next {u t l p σ : Int} (h : SqI u t l p σ) (hl : 1 < l) (hm : l.fmod p ≠ 0) : SqI u t l (p + 2) σ := by
  obtain ⟨a, b, c, d, ok, n, hs, e⟩ := h
  obtain ⟨l, rfl⟩ := Int.eq_ofNat_of_zero_le (show 0 ≤ l by omega)
  obtain ⟨p, rfl⟩ := Int.eq_ofNat_of_zero_le (show 0 ≤ p by omega)
  have hm' : l % p ≠ 0 := fun q => hm (by rw [Int.fmod_eq_emod_of_nonneg _ (by omega)]; exact_mod_cast q)
  have q := okN_next ⟨l, by omega⟩ ⟨p, by omega⟩ (by show 3 ≤ p; omega) (by show 1 < l; omega) (by simpa using ok) hm'
  have q2 : p + 2 ≤ 21 := q.2
  cases n with
  | zero => simp [stopF] at hs; omega
  | succ n =>
    rw [stopF, if_pos hl, if_neg hm] at hs
    rw [symF, if_pos hl, if_neg hm] at e
    exact ⟨a, b, by omega, by omega, by simpa [show ((p : Int) + 2).toNat = p + 2 by omega] using q.1, n, hs, e⟩
theorem SqI.div {u t l p σ : Int} (h : SqI u t l p σ) (hl : 1 < l) (hm : l.fmod p = 0) : SqI u t (l.fdiv p) p (σ * (cntSq p (u.fmod p) - 1)) ∧ l.fdiv p < l ∧ 1 ≤ l.fdiv p := by
  obtain ⟨a, b, c, d, ok, n, hs, e⟩ := h
  obtain ⟨l, rfl⟩ := Int.eq_ofNat_of_zero_le (show 0 ≤ l by omega)
  obtain ⟨p, rfl⟩ := Int.eq_ofNat_of_zero_le (show 0 ≤ p by omega)
  have hm' : l % p = 0 := by rw [Int.fmod_eq_emod_of_nonneg _ (by omega)] at hm; exact_mod_cast hm
  have q := okN_div ⟨l, by omega⟩ ⟨p, by omega⟩ (by show 3 ≤ p; omega) (by show 1 < l; omega) (by simpa using ok) hm'
  have hd : (l : Int).fdiv p = ((l / p : Nat) : Int) := by rw [Int.fdiv_eq_ediv_of_nonneg _ (by omega)]; rfl
  have q1 : 1 ≤ l / p := q.2.1
  have q2 : l / p < l := q.2.2
  cases n with
  | zero => simp [stopF] at hs; omega
  | succ n =>
    rw [stopF, if_pos hl, if_pos hm] at hs
    rw [symF, if_pos hl, if_pos hm, ← Int.mul_assoc] at e
    refine ⟨⟨by rw [hd]; omega, by rw [hd]; omega, c, d, ?_, n, hs, e⟩, by rw [hd]; omega, by rw [hd]; omega⟩
    rw [hd, Int.toNat_natCast]; simpa only [Int.toNat_natCast] using q.1
theorem cntSq_bounds {p r : Int} (h : 0 ≤ p) : 0 ≤ cntSq p r ∧ cntSq p r ≤ p := by
  have := cntF_bounds ((List.range p.toNat).map (sqG p)) r
  simp only [List.length_map, List.length_range] at this
  unfold cntSq
  omega
end
section
theorem calmLib : True := by w_top off; k_with_none; trivial
open PySem PySem.W PySem.Calls PyProof.Rows PyProof.Rows.TI
set_option maxRecDepth 100000
set_option maxHeartbeats 8000000
theorem all_ne {news : List (Addr × Obj)} {a b : Nat} (h : ∀ p ∈ news, p.1 < b) (hb : b ≤ a) : ∀ p ∈ news, p.1 ≠ a := fun p hp e => Nat.lt_irrefl _ (Nat.lt_of_lt_of_le (h p hp) (e ▸ hb))
theorem room_of {d : Nat} (h : d + 10 < recursionLimit) : d + 1 < recursionLimit := Nat.lt_of_le_of_lt (Nat.add_le_add_left (by decide) d) h
theorem smallInt_of {r : Int} (h : -5 ≤ r) (h2 : r ≤ 256) : smallInt r = true := by unfold smallInt; simp [h, h2]
theorem fmod_in {u p : Int} (h : 0 < p) : 0 ≤ u.fmod p ∧ u.fmod p < p := by
  rw [Int.fmod_eq_emod_of_nonneg _ (by omega)]
  exact ⟨Int.emod_nonneg _ (by omega), Int.emod_lt_of_pos _ h⟩
theorem TokInts.use {lo hi : Nat} {vs : List Value} {ns : List Int} {t : Nat} (h : TokInts lo hi vs ns) (ht : hi ≤ t) : ∀ v ∈ vs, ∃ n t', v = .int n t' ∧ t' ≠ 0 ∧ t' ≠ t := fun v hv => by
  obtain ⟨n, t', e, a, b⟩ := h.2 v hv
  exact ⟨n, t', e, Nat.ne_of_gt (Nat.lt_of_le_of_lt (Nat.zero_le _) a), Nat.ne_of_lt (Nat.lt_of_lt_of_le b ht)⟩
theorem map3 {a b c : PySem.Str} {m₁ m₀ : PySem.Str → Option Value} {va vb : Value} (ha : m₁ a = some va) (hb : m₁ b = some vb) (hm : ∀ z, z ≠ a → z ≠ b → z ≠ c → m₁ z = m₀ z) :
    m₁ = fun z => if z = a then some va else if z = b then some vb else if z = c then m₁ c else m₀ z := by
  funext z
  by_cases h1 : z = a
  · simp [h1, ha]
  · by_cases h2 : z = b
    · subst h2; simp [h1, hb]
    · by_cases h3 : z = c
      · subst h3; simp [h1, h2]
      · simp [h1, h2, h3, hm z h1 h2 h3]
theorem CompTok.sq {prog : Program} {w : World} {A : Around} {h₀ : Heap} {L : Addr} {m : PySem.Str → Option Value} {env : Env} {Fin : Shared → List (Addr × Obj) → List Int → Prop} {elt : PySem.Expr} {x : PySem.Str} {scope : Scope} {cl : List (PySem.Str × Addr)} {s₁ : Shared} {news : List (Addr × Obj)} {r : Addr} {b : Int} {t u v : Tok}
    (hh : A.handled = none) (F : Fr h₀ L s₁.heap m) (N : News h₀ L s₁.heap news) (hr : IsRange s₁.heap r 0 b 1 t u v) (h1 : 0 ≤ b) (h2 : b ≤ 1000)
    (turn : ∀ h, ∀ i t, i < b.toNat → TurnOf prog w A h₀ L m env elt x scope cl { s₁ with heap := h } news (.int (0 + (i : Int)) t) (sqG b i)) (fin : Fin s₁ news ((List.range b.toNat).map (sqG b))) : CompTok prog w A h₀ L m env elt x scope cl Fin (.ref r) s₁ :=
  CompTok.range (sqG b) hh F N hr (small_one (by decide) (by decide) (by omega) (by omega)) (by rw [rangeSize_nat, Int.sub_zero]) (by rw [sizeLine_eq]; omega) turn fin
theorem TokInts.ints {lo hi : Nat} {vs : List Value} {ns : List Int} (h : TokInts lo hi vs ns) : IntsAre vs ns := h.1
theorem smallInt_fmod {u p : Int} (h : 0 < p) (h2 : p ≤ 257) : smallInt (u.fmod p) = true := by
  have := fmod_in (u := u) h
  exact smallInt_of (by omega) (by omega)
theorem news_tail {h₀ h : Heap} {L : Addr} {p : Addr × Obj} {n : List (Addr × Obj)} (N : News h₀ L h (p :: n)) : News h₀ L h n := fun q hq => N q (.tail _ hq)
end
local macro_rules | `(tactic| walk_at "call ref") => `(tactic| (k_here; (with_reducible show wpAny _ _ (call (Value.ref 35) [Value.int _ _, Value.int _ _]) _ _ _); k_dflt ((with_unfolding_all refine' mod_call ?k1 ?k2 ?k3 ?k4 ?k5 ?k6 ?k7 (fun cT cH cK cL1 cL2 F' N' => ?_)); (case k6 => exact rfl); (case k1 => k_asm); (case k2 => k_asm); (case k3 => k_asm); (case k4 => k_asm); (case k5 => (first | exact Nat.le_of_ble_eq_true rfl | exact room_of (by assumption))); (case k7 => first | omega | l_fact); (try dsimp only at cL1 cL2 ⊢))))
local macro_rules | `(tactic| walk_at "call ref") => `(tactic| (k_here; (with_reducible show wpAny _ _ (call (Value.ref 42) [Value.int _ _, Value.int _ _]) _ _ _); k_dflt ((with_unfolding_all refine' mul_call ?k1 ?k2 ?k3 ?k4 ?k5 ?k6 ?k7 (fun cT cH cK cL1 cL2 F' N' => ?_)); (case k6 => exact rfl); (case k1 => k_asm); (case k2 => k_asm); (case k3 => k_asm); (case k4 => k_asm); (case k5 => (first | exact Nat.le_of_ble_eq_true rfl | exact room_of (by assumption))); (case k7 => mul_fits); (try dsimp only at cL1 cL2 ⊢))))
local macro_rules | `(tactic| walk_at "call ref") => `(tactic| (k_here; (with_reducible show wpAny _ _ (call (Value.ref 56) [Value.ref _, Value.int _ _]) _ _ _); (with_reducible rename TokInts _ _ _ _ => ctT); k_dflt ((with_unfolding_all refine' countOf_call ?k1 ?k2 ?k3 ?k4 ?k5 ?k6 ?k7 (TokInts.ints ctT) ?k9 ?k12 (TokInts.use ctT ?k11) ?k10 (fun cT cH cK cB1 cB2 F' N' => ?_)); (case k6 => exact rfl); (case k1 => k_asm); (case k2 => k_asm); (case k3 => k_asm); (case k4 => k_asm); (case k5 => (first | exact Nat.le_of_ble_eq_true rfl | exact room_of (by assumption))); (case k7 => k_mem); (case k9 => (first | rfl | exact smallInt_fmod (by omega) (by omega) | exact smallInt_of (by l_fact) (by l_fact))); (case k10 => first | omega | ((simp only [List.length_map, List.length_range]); omega) | l_fact); (case k11 => first | omega | l_fact); (case k12 => exact Nat.ne_of_gt (by omega)); (try dsimp only))))
local macro_rules | `(tactic| walk_at "exec Assign cons ListComp") => `(tactic| (k_here; (with_reducible show wpAny _ _ (exec (Stmt.Assign [Expr.Name "squares" _] _ _) _) _ _ _); k_dflt (refine Assign_ListComp_tok (_F₀ := by k_asm) (by rfl) (by with_unfolding_all rfl) (by with_unfolding_all rfl) (by decide) (by rfl) (by decide) (by rfl) (by rfl) (by rfl) ?_)))
local macro_rules | `(tactic| walk_at "FinTA") => `(tactic| ((unfold FinTA); intro D' h' tk' ys' F' N' lD' hk' hT'; (try dsimp only at hk' hT' ⊢)))
local macro_rules | `(tactic| walk_at "CompTok") => `(tactic| (k_here; k_dflt (refine' CompTok.sq ?k1 ?k2 ?k3 ?k4 ?k5 ?k6 (fun h' i' t' hi' => ?_) ?_; (case k1 => exact rfl); (case k2 => k_asm); (case k3 => k_asm); (case k4 => assumption); (case k5 => omega); (case k6 => omega))))
local macro_rules | `(tactic| walk_at "TurnOf") => `(tactic| ((unfold TurnOf); intro I' oI' C' oC' D' ys' m' h' tk' E' htk' hoC' hx' F' N' off' ne'; (try dsimp only at htk' ⊢)))
local macro_rules | `(tactic| walk_at "EltEnd") => `(tactic| (k_dflt (refine' ⟨_, _, _, rfl, rfl, ?e1, ?e2, ?e3, ?e4⟩; (case e1 => first | exact Nat.le_refl _ | ((try dsimp only); omega)); (case e2 => first | exact Nat.lt_succ_self _ | ((try dsimp only); omega)); (case e3 => k_asm); (case e4 => k_asm))))
section
theorem calmSqu : True := by w_top off; k_with_none; trivial
open PySem PySem.W PySem.Calls PyProof.Rows PyProof.Rows.TI
set_option maxRecDepth 100000
set_option maxHeartbeats 8000000
def SqJ (u total : Int) (cell : Addr) (tail : List (Addr × Obj)) (m₀ : PySem.Str → Option Value) (n : Nat) (m₁ : PySem.Str → Option Value) (nx : List (Addr × Obj)) : Prop :=
  ∃ l p σ tl tp ts o, nx = (cell, o) :: tail ∧ o.data = .cell (some (.int p tp)) ∧ m₁ "lower" = some (.int l tl) ∧ m₁ "symbol" = some (.int σ ts) ∧ (∀ z : PySem.Str, z ≠ "lower" → z ≠ "symbol" → z ≠ "squares" → m₁ z = m₀ z) ∧ SqI u total l p σ ∧ n = (25 * l - p).toNat
theorem while_sq {prog : Program} {w : World} {A : Around} {E : Value → Shared → Prop} {Q : Flow → Shared → Prop} {s : Shared} {env : Env} {h₀ : Heap} {L : Addr} {test : PySem.Expr} {body : List Stmt} {pos : Pos} {m : PySem.Str → Option Value} {tail : List (Addr × Obj)} {cell : Addr} {o : Obj} {u total l p σ : Int} {tl tp ts : Tok}
    (F : Fr h₀ L s.heap m) (N : News h₀ L s.heap ((cell, o) :: tail)) (ho : o.data = .cell (some (.int p tp))) (e1 : m "lower" = some (.int l tl)) (e2 : m "symbol" = some (.int σ ts)) (hI : SqI u total l p σ)
    (turn : ∀ l p σ tl tp ts o h₁ tk₁ sq, Fr h₀ L h₁ (fun z : PySem.Str => if z = "lower" then some (.int l tl) else if z = "symbol" then some (.int σ ts) else if z = "squares" then sq else m z) → News h₀ L h₁ ((cell, o) :: tail) → o.data = .cell (some (.int p tp)) → SqI u total l p σ →
      wpAny (model prog w) A (isTrue test env (eval test env)) (fun b s₂ => if b = true then wpAny (model prog w) A (execs body env) (WhileStep h₀ L s (SqJ u total cell tail m) (25 * l - p).toNat) E s₂ else Q .next s₂) E { s with heap := h₁, toks := tk₁ })
    (hE : PassesOwn (model prog w) A env E := by passes_own) : wpAny (model prog w) A (exec (.While test body [] pos) env) Q E s := by
  refine While_inv (SqJ u total cell tail m) F N ⟨l, p, σ, tl, tp, ts, o, rfl, ho, e1, e2, fun _ _ _ _ => rfl, hI, rfl⟩ ?_ hE
  rintro n m₁ news₁ h₁ tk₁ F3 N3 ⟨l, p, σ, tl, tp, ts, o, rfl, ho, e1, e2, e3, hI, rfl⟩
  rw [map3 e1 e2 e3] at F3
  exact turn l p σ tl tp ts o h₁ tk₁ _ F3 N3 ho hI
theorem SqJ.end {u total l p σ : Int} {tl tp ts : Tok} {o : Obj} {s : Shared} {h₀ h' : Heap} {L cell : Addr} {tail led : List (Addr × Obj)} {m m' : PySem.Str → Option Value} {n tk : Nat} (F : Fr h₀ L h' m') (N : News h₀ L h' led) (hs : ∀ q ∈ (cell, o) :: tail, q ∈ led) (ho : o.data = .cell (some (.int p tp)))
    (e1 : m' "lower" = some (.int l tl)) (e2 : m' "symbol" = some (.int σ ts)) (e3 : ∀ z : PySem.Str, z ≠ "lower" → z ≠ "symbol" → z ≠ "squares" → m' z = m z) (hI : SqI u total l p σ) (hn : (25 * l - p).toNat < n) :
    WhileStep h₀ L s (SqJ u total cell tail m) n .next { s with heap := h', toks := tk } :=
  WhileStep.intro F (fun q hq => N q (hs q hq)) hn ⟨l, p, σ, tl, tp, ts, o, rfl, ho, e1, e2, e3, hI, rfl⟩
section
variable {w : World} {mean : PySem.ExcName → Option Value} {mg mb : PySem.Str → Option Value} {A₀ A : Around} {env : Env} {outer : List Env} {base h₀ : Heap} {L : Addr} {m : PySem.Str → Option Value} {s : Shared} {Q E : Value → Shared → Prop} {news : List (Addr × Obj)}
local macro_rules | `(tactic| k_mem) => `(tactic| assumption)
local macro_rules | `(tactic| k_all) => `(tactic| exact all_ne (by assumption) (by (try dsimp only); omega))
theorem squares_call {u l0 : Int} {tu tl : Tok} (B : Below A₀ base outer h₀) (F : Fr h₀ L s.heap m) (X : (hd.heap_39 w.params).In h₀) (N : News h₀ L s.heap news) (T : Top hd.view_39 (looseW hd.view_39 []) mean mg mb h₀)
    (hA : A.frames = some (env :: outer)) (hfe : env.frame = some L) (hck : env.scope.kind = .function) (hroom : A.depth + 10 < recursionLimit) (hh : A.handled = none)
    (hl1 : 3 ≤ l0) (hl2 : l0 ≤ 21) (hl3 : l0 % 2 = 1)
    (ret : ∀ t h' tk', Fr h₀ L h' m → News h₀ L h' news → Q (.int (squaresF u l0) t) { s with heap := h', toks := tk' }) :
    wpAny (model PR w) A (call (.ref 68) [.int u tu, .int l0 tl]) Q E s := by
  revert X; unfold PR; k_fill; intro X
  obtain ⟨Ah, Ad, Af, Ag, Au⟩ := A
  obtain rfl : Ah = none := hh
  obtain rfl : Af = some (env :: outer) := hA
  refine wpAny_call ?_
  k_dflt (refine' code_defC B F X N T rfl hfe hck ?k6 ?k7 ?k8 ?k9 ?kB ?kD ?_ ?c2 ?c3 ?c4; (case k6 => k_is); (case k7 => k_is); (case k8 => exact Nat.lt_of_le_of_lt (Nat.le_add_right _ _) hroom); (case k9 => exact BindsTo.of_eq rfl); (case kB => exact rfl); (case kD => decide +kernel); (case c2 => exact rfl); (case c3 => exact rfl); (case c4 => exact rfl); k_whole; intro g' L' h' tk' cells' FG' F' N' Y' B' X' T' l1; (try k_lt l1); k_cells Y'; (try simp only [List.cons_append, List.nil_append] at N'); (try dsimp only); (try k_lift B'); (try k_fold))
  k_with "exec While Compare cons nil" => (fail "mine")
  clear F N
  iterate 9 walk1
  with_reducible rename Fr _ _ _ _ => F2
  with_reducible rename News _ _ _ _ => N2
  with_unfolding_all refine while_sq (u := u) (total := squaresF u l0) F2 N2 (by assumption) (by rfl) (by rfl) (SqI.start hl1 hl2 hl3) ?_
  intro l p σ tl tp ts o h₁ tk₁ sq F3 N3 ho hI
  have hb := hI.bounds
  obtain ⟨hb1, hb2, hb3, hb4⟩ := hb
  k_steps
  · have hd := hI.div (by omega) (by assumption)
    k_dflt (refine SqJ.end (led := _) (by k_asm) (by k_asm) (fun q hq => by first | exact hq | exact .tail _ hq) (by assumption) (by rfl) (by rfl) (fun z h1 h2 h3 => by simp [h1, h2, h3]) hd.1 ?_)
    have := hd.2.1
    omega
  · have hd := hI.next (by omega) (by assumption)
    k_dflt (refine SqJ.end (led := _) (by k_asm) (by k_asm) (fun q hq => by first | exact hq | exact .tail _ hq) (by assumption) (by rfl) (by rfl) (fun z h1 h2 h3 => by simp [h1, h2, h3]) hd ?_)
    omega
  · rw [hI.done (by assumption)]
    exact ret _ _ _ (by assumption) (news_tail (by assumption))
end
end
section
theorem calmSpp : True := by w_top off; k_with_none; trivial
open PySem PySem.W PySem.Calls PyProof.Rows PyProof.Rows.TI
set_option maxRecDepth 100000
set_option maxHeartbeats 8000000
def hsOf (u : Int) : List Int := rangeKs 1 (u.fdiv 2 + 1 - 1).toNat
def spotIn (u l n f : Int) (s : Int) (hs : List Int) : Int := hs.foldl (fun s h => s * cmp3 (l * h - n) (u * f - n)) s
def spotsG (u l n : Int) (fs : List Int) : Int := fs.foldl (fun s f => spotIn u l n f s (hsOf u)) 1
def spotsF (u l n : Int) : Int := spotsG u l n (hsOf l)
theorem spotIn_snoc (u l n f s : Int) (hs : List Int) (h : Int) : spotIn u l n f s (hs ++ [h]) = spotIn u l n f s hs * cmp3 (l * h - n) (u * f - n) := by simp [spotIn]
theorem spotsG_snoc (u l n : Int) (fs : List Int) (f : Int) : spotsG u l n (fs ++ [f]) = spotIn u l n f (spotsG u l n fs) (hsOf u) := by simp [spotsG]
theorem unit_mul {a b : Int} (h1 : -1 ≤ a) (h2 : a ≤ 1) (h3 : -1 ≤ b) (h4 : b ≤ 1) : -1 ≤ a * b ∧ a * b ≤ 1 := by
  have ha : a = -1 ∨ a = 0 ∨ a = 1 := by omega
  rcases ha with rfl | rfl | rfl
  · simp; omega
  · simp
  · simp; omega
theorem spI_step {u l n f s0 s h : Int} {hs : List Int} (a : -1 ≤ s) (b : s ≤ 1) (e : s = spotIn u l n f s0 hs) : -1 ≤ s * cmp3 (l * h - n) (u * f - n) ∧ s * cmp3 (l * h - n) (u * f - n) ≤ 1 ∧ s * cmp3 (l * h - n) (u * f - n) = spotIn u l n f s0 (hs ++ [h]) := by
  subst e
  have c := cmp3_le (l * h - n) (u * f - n)
  have d := unit_mul a b c.1 c.2
  exact ⟨d.1, d.2, (spotIn_snoc ..).symm⟩
theorem spW_step {u l n f s0 s : Int} {fs : List Int} (e : s0 = spotsG u l n fs) (c : -1 ≤ s) (d : s ≤ 1) (e2 : s = spotIn u l n f s0 (hsOf u)) : -1 ≤ s ∧ s ≤ 1 ∧ s = spotsG u l n (fs ++ [f]) := by
  subst e; subst e2
  exact ⟨c, d, (spotsG_snoc ..).symm⟩
section
variable {w : World} {mean : PySem.ExcName → Option Value} {mg mb : PySem.Str → Option Value} {A : Around} {h₀ : Heap} {L : Addr} {m : PySem.Str → Option Value} {s : Shared} {Q E : Value → Shared → Prop} {news : List (Addr × Obj)}
theorem cmp_call2 {x y : Int} {tx ty : Tok}
    (F : Fr h₀ L s.heap m) (X : (hd.heap_39 w.params).In h₀) (N : News h₀ L s.heap news)
    (T : Top hd.view_39 (looseW hd.view_39 []) mean mg mb h₀) (hroom : A.depth < recursionLimit) (hh : A.handled = none)
    (ret : ∀ t h' tk', -1 ≤ cmp3 x y → cmp3 x y ≤ 1 → s.toks ≤ t → t < tk' → Fr h₀ L h' m → News h₀ L h' news → Q (.int (cmp3 x y) t) { s with heap := h', toks := tk' }) :
    wpAny (model PR w) A (call (.ref 28) [.int x tx, .int y ty]) Q E s :=
  cmp_call F X N T hroom hh fun t h' tk' => ret t h' tk' (cmp3_le x y).1 (cmp3_le x y).2
end
end
local macro_rules | `(tactic| walk_at "call ref") => `(tactic| (k_here; (with_reducible show wpAny _ _ (call (Value.ref 49) [Value.int _ _, Value.int _ _]) _ _ _); k_dflt ((with_unfolding_all refine' sub_call ?k1 ?k2 ?k3 ?k4 ?k5 ?k6 (fun cT cH cK cL1 cL2 F' N' => ?_)); (case k6 => exact rfl); (case k1 => k_asm); (case k2 => k_asm); (case k3 => k_asm); (case k4 => k_asm); (case k5 => (first | exact Nat.le_of_ble_eq_true rfl | exact room_of (by assumption))); (try dsimp only at cL1 cL2 ⊢))))
local macro_rules | `(tactic| walk_at "call ref") => `(tactic| (k_here; (with_reducible show wpAny _ _ (call (Value.ref 28) [Value.int _ _, Value.int _ _]) _ _ _); k_dflt ((with_unfolding_all refine' cmp_call2 ?k1 ?k2 ?k3 ?k4 ?k5 ?k6 (fun cT cH cK cB1 cB2 cL1 cL2 F' N' => ?_)); (case k6 => exact rfl); (case k1 => k_asm); (case k2 => k_asm); (case k3 => k_asm); (case k4 => k_asm); (case k5 => (first | exact Nat.le_of_ble_eq_true rfl | exact room_of (by assumption))); (try dsimp only at cL1 cL2 ⊢))))
section
theorem calmSpo : True := by w_top off; k_with_none; trivial
open PySem PySem.W PySem.Calls PyProof.Rows PyProof.Rows.TI
set_option maxRecDepth 100000
set_option maxHeartbeats 8000000
section
variable {w : World} {mean : PySem.ExcName → Option Value} {mg mb : PySem.Str → Option Value} {A : Around} {h₀ : Heap} {L : Addr} {m : PySem.Str → Option Value} {s : Shared} {Q E : Value → Shared → Prop} {news : List (Addr × Obj)}
local macro_rules | `(tactic| k_mem) => `(tactic| assumption)
theorem spots_call {u l n : Int} {tu tl tn : Tok} (F : Fr h₀ L s.heap m) (X : (hd.heap_39 w.params).In h₀) (N : News h₀ L s.heap news) (T : Top hd.view_39 (looseW hd.view_39 []) mean mg mb h₀)
    (hroom : A.depth + 10 < recursionLimit) (hh : A.handled = none)
    (hu1 : 3 ≤ u) (hu2 : u ≤ 21) (hl1 : 3 ≤ l) (hl2 : l ≤ 21)
    (ret : ∀ t h' tk', Fr h₀ L h' m → News h₀ L h' news → Q (.int (spotsF u l n) t) { s with heap := h', toks := tk' }) :
    wpAny (model PR w) A (call (.ref 75) [.int u tu, .int l tl, .int n tn]) Q E s := by
  revert X; unfold PR; k_fill; intro X
  refine wpAny_call ?_
  refine enter_tk (env := anyEnv L) F X N T rfl rfl (by k_dflt k_is) (by k_dflt k_is) (Nat.lt_of_le_of_lt (Nat.le_add_right _ _) hroom) (BindsTo.of_eq rfl) (locs rfl) ?_ rfl rfl rfl (by decide)
  intro oL h' tk htk C' Fs' hoff F' N'
  clear F N
  obtain ⟨Ah, Ad, Af, Ag, Au⟩ := A
  obtain rfl : Ah = none := hh
  try dsimp only
  try k_fold
  k_with "pyIter ref" => (k_of "far" => k_state (fun (pre : List Int) (s : Int) => -1 ≤ s ∧ s ≤ 1 ∧ s = spotsG u l n pre) "symbol")
  k_with "pyIter ref" => (k_of "high" => k_state_given ["symbol!", "far"] (fun (s0 far : Int) (pre : List Int) (s : Int) => -1 ≤ s ∧ s ≤ 1 ∧ s = spotIn u l n far s0 pre) "symbol")
  k_with "state" => (first | exact spI_step (by assumption) (by assumption) (by assumption) | exact spW_step (by assumption) (by assumption) (by assumption) (by assumption) | exact ⟨by omega, by omega, rfl⟩)
  k_steps
  with_reducible rename Fr _ _ _ _ => zF
  with_reducible rename News _ _ _ _ => zN
  obtain ⟨zF', zN'⟩ := back2 C' hoff zF zN
  with_reducible rename (_ = spotsG _ _ _ _) => zE
  rw [zE]
  exact ret _ _ _ zF' zN'
end
end
section
theorem calmSor : True := by w_top off; k_with_none; trivial
open PySem PySem.W PySem.Calls PyProof.Rows PyProof.Rows.TI
set_option maxRecDepth 100000
set_option maxHeartbeats 8000000
def intKind : KeyKind where
  α := Int
  blt a b := decide (a < b)
  irrefl a := by simp
  trans a b c h1 h2 := by simp only [decide_eq_true_eq] at *; omega
  negTrans a b c h := by simp only [decide_eq_true_eq] at *; omega
  total a b h1 h2 := by simp only [decide_eq_false_iff_not] at *; omega
  keyOf v := match v with
    | .int n _ => some n
    | _ => none
  dflt := 0
theorem intKind_oneLt : intKind.OneLt := by
  intro prog w A E s x y a b Q hx hy h
  cases x <;> simp [intKind] at hx
  cases y <;> simp [intKind] at hy
  cases hx; cases hy
  exact oneLt_int h
theorem KK_int (xs : Array Keyed) (i : Nat) : KK intKind xs i = PyProof.Rows.K xs i := by
  unfold KK PyProof.Rows.K
  cases xs[i]? with
  | none => rfl
  | some p =>
    obtain ⟨v, q⟩ := p
    cases v <;> rfl
theorem sorted_tok {prog : Program} {w : World} {A : Around} {E : Value → Shared → Prop} {s : Shared} {h₀ : Heap} {L : Addr} {m : PySem.Str → Option Value} {news : List (Addr × Obj)} {l : Addr} {vs : List Value} {ns : List Int} {Q : Value → Shared → Prop}
    (F : Fr h₀ L s.heap m) (N : News h₀ L s.heap news) (hl : s.heap.IsList l vs.toArray) (hI : IntsAre vs ns) (h64 : vs.length < 64)
    (h : ∀ (D : Addr) (h' : Heap) (vs' : List Value) (ns' : List Int) (e : Nat), Fr h₀ L h' m → News h₀ L h' ((D, listOf vs'.toArray e) :: news) → (∀ p ∈ news, p.1 < D) →
      IntsAre vs' ns' → ns'.Perm ns → ns'.Pairwise (· ≤ ·) → (∀ v ∈ vs', v ∈ vs) → Q (.ref D) { s with heap := h' }) :
    wpAny (model prog w) A (call (.builtin "sorted") [.ref l]) Q E s := by
  refine sortedK intKind_oneLt hl ?_ (fun v₁ v₂ rest e => keyKind_ints (by rw [← e]; exact hI)) h64 fun st' hp hs => ?_
  · intro p hp
    obtain ⟨n, t, e⟩ := hI.intKeys p hp
    exact ⟨n, by rw [e]; rfl⟩
  · have hs' : SortedTo (arrOf st') (pairsOf vs).size := fun i j hij hj => by
      have q := hs i j hij hj
      rw [KK_int, KK_int] at q
      have q' : decide (PyProof.Rows.K (arrOf st') j < PyProof.Rows.K (arrOf st') i) = false := q
      simp only [decide_eq_false_iff_not] at q'
      omega
    obtain ⟨ns', h1, h2, h3⟩ := sorted_out hI hp hs'
    obtain ⟨e, he⟩ := sortedAll_at s.heap vs ((arrOf st').map (·.2))
    have hl2 : (arrOf st').toList.Perm (vs.zip vs) := by rw [← pairsOf_toList]; exact Array.perm_iff_toList_perm.mp hp
    refine h _ _ ((arrOf st').map (·.2)).toList ns' e (F.kept fun _ _ => sortedAll_old) (N.kept_cons F (fun _ _ => sortedAll_old) (Nat.le_succ _) he) (fun p hp => Nat.lt_succ_of_lt (Heap.lt_size (N p hp).1)) h1 h2 h3 fun v hv => ?_
    rw [Array.toList_map] at hv
    obtain ⟨p, hp', rfl⟩ := List.mem_map.mp hv
    have := mem_zip_self (hl2.mem_iff.mp hp')
    rw [← this.1]; exact this.2
end
section
theorem calmLawP : True := by w_top off; k_with_none; trivial
open PySem PySem.W PySem.Calls PyProof.Rows PyProof.Rows.TI
set_option maxRecDepth 100000
set_option maxHeartbeats 8000000
def ins (x : Int) : List Int → List Int
  | [] => [x]
  | y :: l => if x ≤ y then x :: y :: l else y :: ins x l
def isort : List Int → List Int
  | [] => []
  | x :: l => ins x (isort l)
theorem ins_perm (x : Int) : ∀ l, (ins x l).Perm (x :: l)
  | [] => .refl _
  | y :: l => by
    unfold ins
    by_cases h : x ≤ y
    · rw [if_pos h]
    · rw [if_neg h]
      exact ((ins_perm x l).cons y).trans (.swap x y l)
theorem isort_perm : ∀ l, (isort l).Perm l
  | [] => .refl _
  | x :: l => (ins_perm x _).trans ((isort_perm l).cons x)
theorem ins_sorted (x : Int) : ∀ l, l.Pairwise (· ≤ ·) → (ins x l).Pairwise (· ≤ ·)
  | [], _ => by simp [ins]
  | y :: l, h => by
    unfold ins
    by_cases hx : x ≤ y
    · rw [if_pos hx]
      refine List.pairwise_cons.mpr ⟨fun z hz => ?_, h⟩
      rcases List.mem_cons.mp hz with rfl | hz
      · exact hx
      · have := (List.pairwise_cons.mp h).1 z hz
        omega
    · rw [if_neg hx]
      have h2 := List.pairwise_cons.mp h
      refine List.pairwise_cons.mpr ⟨fun z hz => ?_, ins_sorted x l h2.2⟩
      rcases List.mem_cons.mp ((ins_perm x l).mem_iff.mp hz) with rfl | hz
      · omega
      · exact h2.1 z hz
theorem isort_sorted : ∀ l, (isort l).Pairwise (· ≤ ·)
  | [] => List.Pairwise.nil
  | x :: l => ins_sorted x _ (isort_sorted l)
theorem isort_unique {l l' : List Int} (p : l'.Perm l) (h : l'.Pairwise (· ≤ ·)) : l' = isort l :=
  List.Perm.eq_of_pairwise (le := (· ≤ ·)) (fun a b _ _ h1 h2 => Int.le_antisymm h1 h2) h (isort_sorted l) (p.trans (isort_perm l).symm)
section
variable {prog : Program} {w : World} {A : Around} {E : Value → Shared → Prop} {s : Shared} {h₀ : Heap} {L : Addr} {m : PySem.Str → Option Value} {news : List (Addr × Obj)} {l : Addr} {vs : List Value} {ns : List Int} {Q : Value → Shared → Prop}
theorem sorted_1 {k : Nat} (F : Fr h₀ L s.heap m) (N : News h₀ L s.heap news) (hl : (l, listOf vs.toArray k) ∈ news) (hI : IntsAre vs ns) (h64 : ns.length < 64)
    (h : ∀ (D : Addr) (h' : Heap) (vs' : List Value) (e : Nat), Fr h₀ L h' m → News h₀ L h' ((D, listOf vs'.toArray e) :: news) → (∀ p ∈ news, p.1 < D) → IntsAre vs' (isort ns) → Q (.ref D) { s with heap := h' }) :
    wpAny (model prog w) A (call (.builtin "sorted") [.ref l]) Q E s :=
  sorted_tok F N ⟨_, (N _ hl).1, rfl, k, rfl⟩ hI (by rw [hI.length]; exact h64) fun D h' vs' ns' e F' N' lD I' p' o' _ => h D h' vs' e F' N' lD (isort_unique p' o' ▸ I')
theorem sorted_2 {k lo hi : Nat} (F : Fr h₀ L s.heap m) (N : News h₀ L s.heap news) (hl : (l, listOf vs.toArray k) ∈ news) (hT : TokInts lo hi vs ns) (h64 : ns.length < 64)
    (h : ∀ (D : Addr) (h' : Heap) (vs' : List Value) (e : Nat), Fr h₀ L h' m → News h₀ L h' ((D, listOf vs'.toArray e) :: news) → (∀ p ∈ news, p.1 < D) → TokInts lo hi vs' (isort ns) → Q (.ref D) { s with heap := h' }) :
    wpAny (model prog w) A (call (.builtin "sorted") [.ref l]) Q E s :=
  sorted_tok F N ⟨_, (N _ hl).1, rfl, k, rfl⟩ hT.1 (by rw [hT.1.length]; exact h64) fun D h' vs' ns' e F' N' lD I' p' o' hm => h D h' vs' e F' N' lD ⟨isort_unique p' o' ▸ I', fun v hv => hT.2 v (hm v hv)⟩
end
def Since (n : Nat) (s' : Shared) (P : Nat → Prop) : Prop := n ≤ s'.toks → P s'.toks
theorem Since.intro {n : Nat} {s' : Shared} {P : Nat → Prop} (h : ∀ tk, n ≤ tk → P tk) : Since n s' P := fun hn => h _ hn
theorem execs_since {M : Model} {A : Around} {E : Value → Shared → Prop} {Q : Flow → Shared → Prop} {s : Shared} {st : Stmt} {rest : List Stmt} {env : Env}
    (h : wpAny M A (exec st env) (fun f s' => Since s.toks s' (fun tk => match f with | .next => wpAny M A (execs rest env) Q E { s' with toks := tk } | f => Q f { s' with toks := tk })) E s) : wpAny M A (execs (st :: rest) env) Q E s :=
  wpAny_execs_cons (wpAny_with_toks (Nat.le_refl _) (wpAny_mono h (fun f s' hs hn => hs hn) fun _ _ e _ => e))
theorem CompTok.map {prog : Program} {w : World} {A : Around} {h₀ : Heap} {L : Addr} {m : PySem.Str → Option Value} {env : Env} {Fin : Shared → List (Addr × Obj) → List Int → Prop} {elt : PySem.Expr} {x : PySem.Str} {scope : Scope} {cl : List (PySem.Str × Addr)} {s₁ : Shared} {news : List (Addr × Obj)} {ax : Addr} {vs : List Value} {ns : List Int} {k : Nat} (f : Int → Int)
    (hh : A.handled = none) (F : Fr h₀ L s₁.heap m) (N : News h₀ L s₁.heap news) (hm : (ax, listOf (List.toArray vs) k) ∈ news) (hI : IntsAre vs ns) (hsz : ns.length ≤ 1000)
    (turn : ∀ h, ∀ n t, n ∈ ns → TurnOf prog w A h₀ L m env elt x scope cl { s₁ with heap := h } news (.int n t) (f n)) (fin : Fin s₁ news (ns.map f)) : CompTok prog w A h₀ L m env elt x scope cl Fin (.ref ax) s₁ := by
  have hlen := hI.length
  refine CompTok.list (fun i => f (ns.getD i 0)) hh F N hm (by rw [sizeLine_eq]; omega) (fun h i v hv => ?_) ?_
  · obtain ⟨n, t, rfl, hn⟩ := IntsAre.at hI i v hv
    have e : ns.getD i 0 = n := by rw [List.getD_eq_getElem?_getD, hn]; rfl
    show TurnOf prog w A h₀ L m env elt x scope cl _ news _ (f (ns.getD i 0))
    rw [e]
    exact turn h n t (List.mem_of_getElem? hn)
  · have e : (List.range vs.length).map (fun i => f (ns.getD i 0)) = ns.map f := by
      rw [hlen]
      apply List.ext_getElem
      · simp
      · intro i h1 h2
        simp only [List.length_map] at h2
        simp [h2]
    rw [e]; exact fin
theorem bot_in (x : Int) : 3 ≤ 2 * x.fmod 10 + 3 ∧ 2 * x.fmod 10 + 3 ≤ 21 ∧ (2 * x.fmod 10 + 3) % 2 = 1 := by
  have := fmod_in (u := x) (p := 10) (by decide)
  omega
theorem gen_store {M : Model} {A : Around} {E : Value → Shared → Prop} {Q : Unit → Shared → Prop} {s : Shared} {env : Env} {name : PySem.Str} {x : Int} {t : Tok} (h : ∀ b, 3 ≤ b → b ≤ 21 → b % 2 = 1 → wpAny M A (storeName env name (.int b t)) Q E s) :
    wpAny M A (storeName env name (.int (2 * x.fmod 10 + 3) t)) Q E s := h _ (bot_in x).1 (bot_in x).2.1 (bot_in x).2.2
abbrev halfL (b : Int) : List Int := List.map (fun k' => k') (rangeKs 1 (b.fdiv 2 + 1 - 1).toNat)
theorem half_mem {b k : Int} (h1 : 3 ≤ b) (h2 : b ≤ 21) (h : k ∈ halfL b) : 1 ≤ k ∧ k ≤ 10 := by
  unfold halfL at h
  rw [List.map_id'] at h
  have q := mem_rangeKs h
  rw [Int.fdiv_eq_ediv_of_nonneg _ (by decide)] at q
  omega
theorem CompTok.half {prog : Program} {w : World} {A : Around} {h₀ : Heap} {L : Addr} {m : PySem.Str → Option Value} {env : Env} {Fin : Shared → List (Addr × Obj) → List Int → Prop} {elt : PySem.Expr} {x : PySem.Str} {scope : Scope} {cl : List (PySem.Str × Addr)} {s₁ : Shared} {news : List (Addr × Obj)} {ax : Addr} {vs : List Value} {k : Nat} {b : Int} (f : Int → Int)
    (hh : A.handled = none) (F : Fr h₀ L s₁.heap m) (N : News h₀ L s₁.heap news) (hm : (ax, listOf (List.toArray vs) k) ∈ news) (hI : IntsAre vs (List.map (fun k' => k') (rangeKs 1 (b.fdiv 2 + 1 - 1).toNat))) (h1 : 3 ≤ b) (h2 : b ≤ 21)
    (turn : ∀ h, ∀ n t, 1 ≤ n → n ≤ 10 → TurnOf prog w A h₀ L m env elt x scope cl { s₁ with heap := h } news (.int n t) (f n)) (fin : Fin s₁ news ((halfL b).map f)) : CompTok prog w A h₀ L m env elt x scope cl Fin (.ref ax) s₁ :=
  CompTok.map f hh F N hm hI (by
    rw [List.length_map, rangeKs_length, Int.fdiv_eq_ediv_of_nonneg _ (by decide)]
    omega) (fun h n t hn => let q := half_mem h1 h2 hn; turn h n t q.1 q.2) fin
theorem CompTok.rests {prog : Program} {w : World} {A : Around} {h₀ : Heap} {L : Addr} {m : PySem.Str → Option Value} {env : Env} {Fin : Shared → List (Addr × Obj) → List Int → Prop} {elt : PySem.Expr} {x : PySem.Str} {scope : Scope} {cl : List (PySem.Str × Addr)} {s₁ : Shared} {news : List (Addr × Obj)} {ax : Addr} {vs : List Value} {k : Nat} {b num : Int} {o : Obj} {tn : Tok}
    (_c : o.data = .cell (some (.int num tn))) (hh : A.handled = none) (F : Fr h₀ L s₁.heap m) (N : News h₀ L s₁.heap news) (hm : (ax, listOf (List.toArray vs) k) ∈ news) (hI : IntsAre vs (List.map (fun k' => k') (rangeKs 1 (b.fdiv 2 + 1 - 1).toNat))) (h1 : 3 ≤ b) (h2 : b ≤ 21)
    (turn : ∀ h, ∀ n t, 1 ≤ n → n ≤ 10 → TurnOf prog w A h₀ L m env elt x scope cl { s₁ with heap := h } news (.int n t) ((num * n).fmod b)) (fin : Fin s₁ news ((halfL b).map fun n => (num * n).fmod b)) : CompTok prog w A h₀ L m env elt x scope cl Fin (.ref ax) s₁ :=
  CompTok.half (fun n => (num * n).fmod b) hh F N hm hI h1 h2 turn fin
end
section
theorem calmLawQ : True := by w_top off; k_with_none; trivial
open PySem PySem.W PySem.Calls PyProof.Rows PyProof.Rows.TI
set_option maxRecDepth 100000
set_option maxHeartbeats 8000000
theorem mul_small {prog : Program} {w : World} {A : Around} {E : Value → Shared → Prop} {s : Shared} {a b : Int} {t u : Tok} {Q : Value → Shared → Prop} (h1 : 1 ≤ b ∧ b ≤ 10) (h : Q (.int (a * b) s.toks) { s with toks := s.toks + 1 }) : wpAny (model prog w) A (binaryOp .Mult (.int a t) (.int b u)) Q E s :=
  AutoIntOps.mul_0 h (IntMulOk.of_right (intBits_le_64 (by omega) (by omega)))
end
section
theorem calmLawF : True := by w_top off; k_with_none; trivial
open PySem PySem.W PySem.Calls PyProof.Rows PyProof.Rows.TI
set_option maxRecDepth 100000
set_option maxHeartbeats 8000000
def FltYes (h₀ : Heap) (L : Addr) (m : PySem.Str → Option Value) (s : Shared) (all : List (Addr × Obj)) (p : Bool) (k : Int) (y : Value) (s' : Shared) : Prop := ∃ h tk, s' = { s with heap := h, toks := tk } ∧ Fr h₀ L h m ∧ News h₀ L h all ∧ p = true ∧ ∃ t, y = .int k t
def FltNo (h₀ : Heap) (L : Addr) (m : PySem.Str → Option Value) (s : Shared) (all : List (Addr × Obj)) (p : Bool) (s' : Shared) : Prop := ∃ h tk, s' = { s with heap := h, toks := tk } ∧ Fr h₀ L h m ∧ News h₀ L h all ∧ p = false
theorem FltYes.intro {h₀ h : Heap} {L : Addr} {m : PySem.Str → Option Value} {s : Shared} {all : List (Addr × Obj)} {p : Bool} {k : Int} {t : Tok} {tk : Nat} (F : Fr h₀ L h m) (N : News h₀ L h all) (hp : p = true) : FltYes h₀ L m s all p k (.int k t) { s with heap := h, toks := tk } := ⟨h, tk, rfl, F, N, hp, t, rfl⟩
theorem FltNo.intro {h₀ h : Heap} {L : Addr} {m : PySem.Str → Option Value} {s : Shared} {all : List (Addr × Obj)} {p : Bool} {tk : Nat} (F : Fr h₀ L h m) (N : News h₀ L h all) (hp : p = false) : FltNo h₀ L m s all p { s with heap := h, toks := tk } := ⟨h, tk, rfl, F, N, hp⟩
theorem and_tt {a c : Int} (h : a = 0) (h' : c = 0) : (a == 0 && c == 0) = true := by rw [h, h']; rfl
theorem and_f1 {a c : Int} (h : ¬ a = 0) : (a == 0 && c == 0) = false := by rw [show (a == 0) = false from beq_false_of_ne h]; rfl
theorem and_f2 {a c : Int} (h : ¬ c = 0) : (a == 0 && c == 0) = false := by rw [show (c == 0) = false from beq_false_of_ne h]; cases (a == 0) <;> rfl
theorem foldl_filter (p : Int → Bool) : ∀ (ns l : List Int), ns.foldl (fun l k => if p k then l ++ [k] else l) l = l ++ ns.filter p
  | [], l => by simp
  | n :: ns, l => by
    rw [List.foldl_cons, foldl_filter p ns, List.filter_cons]
    cases p n <;> simp
section
variable {prog : Program} {w : World} {A : Around} {E : Value → Shared → Prop} {h₀ : Heap} {L : Addr} {m : PySem.Str → Option Value} {env : Env} {ct elt : PySem.Expr} {x : PySem.Str} {scope : Scope} {cl : List (PySem.Str × Addr)} {news : List (Addr × Obj)}
def FltTurn (prog : Program) (w : World) (A : Around) (h₀ : Heap) (L : Addr) (m : PySem.Str → Option Value) (env : Env) (ct elt : PySem.Expr) (x : PySem.Str) (scope : Scope) (cl : List (PySem.Str × Addr)) (s : Shared) (news : List (Addr × Obj)) (k : Int) (t : Tok) (p : Bool) : Prop :=
  ∀ I oI C oC D m₂ ys h tk (E' : Value → Shared → Prop), LCg.NsObj oC m₂ → m₂ x = some (.int k t) → Fr h₀ L h m → News h₀ L h ((I, oI) :: (C, oC) :: (D, LCg.lst ys) :: news) → LCg.Off3 I C D news → ((@Ne Nat I C) ∧ (@Ne Nat I D) ∧ (@Ne Nat C D)) →
    wpAny (model prog w) A (isTrue ct (compEnvC scope cl C env) (eval ct (compEnvC scope cl C env))) (fun b s' => if b = true then wpAny (model prog w) A (eval elt (compEnvC scope cl C env)) (FltYes h₀ L m { s with heap := h, toks := tk } ((I, oI) :: (C, oC) :: (D, LCg.lst ys) :: news) p k) E' s'
      else FltNo h₀ L m { s with heap := h, toks := tk } ((I, oI) :: (C, oC) :: (D, LCg.lst ys) :: news) p s') E' { s with heap := h, toks := tk }
theorem flt_rest {s : Shared} {S : List (Addr × Obj) → Prop} {P : Nat → Value → Prop} {Fin : List Value → List (Addr × Obj) → Prop} {n : Nat} {ks : List Int} (p : Int → Bool) (hks : ks.length = n) (hP : ∀ i v, i < n → P i v → ∃ k t, ks[i]? = some k ∧ v = .int k t)
    (hS : S news) (turn : ∀ k t, k ∈ ks → FltTurn prog w A h₀ L m env ct elt x scope cl s news k t (p k)) (fin : ∀ ys, IntsAre ys (ks.filter p) → Fin ys news) : LCt.CompRestT prog w A h₀ L m env ct elt x scope cl s S P Fin n 0 [] news := by
  refine kci_rest (fun l k => if p k then l ++ [k] else l) hks hP (fun k t I oI C oC D m₂ ys l h tk E' hk hy hC hx F N off ne _ => ?_) ?_ ?_
  · refine wpAny_mono (turn k t hk I oI C oC D m₂ ys h tk E' hC hx F N off ne) (fun b s₂ hq => ?_) fun _ _ e => e
    cases b with
    | true =>
      simp only [if_true] at hq ⊢
      refine wpAny_mono hq (fun y s₃ hr => ?_) fun _ _ e => e
      obtain ⟨h', tk', e, F', N', hp, t', hy'⟩ := hr
      exact ⟨h', tk', news, e, F', N', off, hS, rfl, k, t', hy', by rw [if_pos hp]⟩
    | false =>
      simp only [Bool.false_eq_true, if_false] at hq ⊢
      obtain ⟨h', tk', e, F', N', hp⟩ := hq
      exact ⟨h', tk', news, e, F', N', off, hS, rfl, by rw [if_neg (by rw [hp]; decide)]⟩
  · unfold KPfDone
    intro ys hI _
    rw [foldl_filter, List.nil_append] at hI
    exact fin ys hI
  · intro l k
    show (if p k then l ++ [k] else l).length ≤ l.length + 1
    split
    · simp
    · omega
theorem flt_ledger {Fin : Shared → List Value → List (Addr × Obj) → Prop} {ax : Addr} {vs : List Value} {ns : List Int} {k : Nat} {s₁ : Shared} (p : Int → Bool)
    (hh : A.handled = none) (F : Fr h₀ L s₁.heap m) (N : News h₀ L s₁.heap news) (hm : (ax, listOf vs.toArray k) ∈ news) (hI : IntsAre vs ns) (hsz : ns.length ≤ 1000)
    (turn : ∀ g n t, n ∈ ns → FltTurn prog w A h₀ L m env ct elt x scope cl { s₁ with heap := g } news n t (p n)) (fin : ∀ g ys, IntsAre ys (ns.filter p) → Fin { s₁ with heap := g } ys news) :
    LCt.CompSrcT prog w A h₀ L m env ct elt x scope cl Fin (.ref ax) s₁ :=
  LCt.CompSrcT.ledger hh F N hm (by rw [List.size_toArray, hI.length, sizeLine_eq]; omega) fun g =>
    flt_rest (ks := ns) p (by rw [List.size_toArray, hI.length]) (fun i v _ hv => by
      obtain ⟨k, t, e, hk⟩ := IntsAre.at hI i v (by simpa using hv)
      exact ⟨k, t, hk, e⟩) (.inr ⟨_, hm, rfl, _, rfl⟩) (fun k t hk => turn g k t hk) (fun ys h => fin g ys h)
theorem flt_range {Fin : Shared → List Value → List (Addr × Obj) → Prop} {r : Addr} {a b : Int} {t u v : Tok} {s₁ : Shared} (p : Int → Bool)
    (hh : A.handled = none) (F : Fr h₀ L s₁.heap m) (N : News h₀ L s₁.heap news) (hr : IsRange s₁.heap r a b 1 t u v) (h1 : 0 ≤ a) (h2 : a ≤ 1000) (h3 : 0 ≤ b) (h4 : b ≤ 1000)
    (turn : ∀ g n t, a ≤ n → n < b → FltTurn prog w A h₀ L m env ct elt x scope cl { s₁ with heap := g } news n t (p n)) (fin : ∀ g ys, IntsAre ys ((rangeKs a (b - a).toNat).filter p) → Fin { s₁ with heap := g } ys news) :
    LCt.CompSrcT prog w A h₀ L m env ct elt x scope cl Fin (.ref r) s₁ :=
  LCt.CompSrcT.range hh F N hr (small_one (by omega) (by omega) (by omega) (by omega)) (rangeSize_nat a b) (by rw [sizeLine_eq]; omega) fun g =>
    flt_rest (ks := rangeKs a (b - a).toNat) p (rangeKs_length a _) (fun i v hi hv => by
      obtain ⟨t, e⟩ := hv
      exact ⟨a + (i : Int), t, by simp [rangeKs, hi], e⟩) True.intro (fun k t hk => by
        have q := mem_rangeKs hk
        exact turn g k t q.1 (by omega)) (fun ys h => fin g ys h)
end
end
section
theorem calmLawG : True := by w_top off; k_with_none; trivial
open PySem PySem.W PySem.Calls PyProof.Rows PyProof.Rows.TI
set_option maxRecDepth 100000
set_option maxHeartbeats 8000000
abbrev plainL (num b : Int) : List Int := List.map (fun k' => (num * k').fmod b) (halfL b)
theorem half_len {b : Int} (h1 : 3 ≤ b) (h2 : b ≤ 21) : (halfL b).length ≤ 10 := by
  rw [List.length_map, rangeKs_length, Int.fdiv_eq_ediv_of_nonneg _ (by decide)]
  omega
theorem half_len64 {b : Int} {f : Int → Int} (h1 : 3 ≤ b) (h2 : b ≤ 21) : (List.map f (halfL b)).length < 64 := by
  rw [List.length_map]; have := half_len h1 h2; omega
theorem filt_len64 {b : Int} {f : Int → Int} {p : Int → Bool} (h1 : 3 ≤ b) (h2 : b ≤ 21) : (List.filter p (List.map f (halfL b))).length < 64 :=
  Nat.lt_of_le_of_lt (List.length_filter_le _ _) (half_len64 h1 h2)
theorem both_len64 {b : Int} {f g : Int → Int} (h1 : 3 ≤ b) (h2 : b ≤ 21) : (isort (List.map f (halfL b)) ++ List.map g (halfL b)).length < 64 := by
  have q := half_len h1 h2
  have a : (List.map f (halfL b)).length = (halfL b).length := List.length_map _
  have c : (List.map g (halfL b)).length = (halfL b).length := List.length_map _
  rw [List.length_append, (isort_perm _).length_eq, a, c]; omega
section
variable {prog : Program} {w : World} {A : Around} {E : Value → Shared → Prop} {h₀ : Heap} {L : Addr} {m : PySem.Str → Option Value} {env : Env} {ct elt : PySem.Expr} {x : PySem.Str} {scope : Scope} {cl : List (PySem.Str × Addr)} {news : List (Addr × Obj)}
theorem flt_notin {Fin : Shared → List Value → List (Addr × Obj) → Prop} {ax : Addr} {vs pvs : List Value} {ns pns : List Int} {k : Nat} {s₁ : Shared} (_hP : IntsAre pvs pns)
    (hh : A.handled = none) (F : Fr h₀ L s₁.heap m) (N : News h₀ L s₁.heap news) (hm : (ax, listOf vs.toArray k) ∈ news) (hI : IntsAre vs ns) (hsz : ns.length ≤ 1000)
    (turn : ∀ g n t, n ∈ ns → FltTurn prog w A h₀ L m env ct elt x scope cl { s₁ with heap := g } news n t (!(pns.any (· == n)))) (fin : ∀ g ys, IntsAre ys (ns.filter fun n => !(pns.any (· == n))) → Fin { s₁ with heap := g } ys news) :
    LCt.CompSrcT prog w A h₀ L m env ct elt x scope cl Fin (.ref ax) s₁ := flt_ledger (fun n => !(pns.any (· == n))) hh F N hm hI hsz turn fin
theorem flt_gt {Fin : Shared → List Value → List (Addr × Obj) → Prop} {ax : Addr} {vs : List Value} {num b : Int} {K : List Int} {k : Nat} {s₁ : Shared} (hI : IntsAre vs (List.map (fun k' => (num * k').fmod b) K))
    (hh : A.handled = none) (F : Fr h₀ L s₁.heap m) (N : News h₀ L s₁.heap news) (hm : (ax, listOf vs.toArray k) ∈ news) (hsz : K.length ≤ 1000)
    (turn : ∀ g n t, FltTurn prog w A h₀ L m env ct elt x scope cl { s₁ with heap := g } news n t (decide (n > b.fdiv 2))) (fin : ∀ g ys, IntsAre ys ((List.map (fun k' => (num * k').fmod b) K).filter fun n => decide (n > b.fdiv 2)) → Fin { s₁ with heap := g } ys news) :
    LCt.CompSrcT prog w A h₀ L m env ct elt x scope cl Fin (.ref ax) s₁ := flt_ledger (fun n => decide (n > b.fdiv 2)) hh F N hm hI (by rw [List.length_map]; exact hsz) (fun g n t _ => turn g n t) fin
theorem flt_shared {Fin : Shared → List Value → List (Addr × Obj) → Prop} {r : Addr} {b' : Int} {t u v : Tok} {num b : Int} {pvs : List Value} {K : List Int} {s₁ : Shared} (_hI : IntsAre pvs (List.map (fun k' => (num * k').fmod b) K))
    (hh : A.handled = none) (F : Fr h₀ L s₁.heap m) (N : News h₀ L s₁.heap news) (hr : IsRange s₁.heap r 1 b' 1 t u v) (h3 : 0 ≤ b') (h4 : b' ≤ 1000)
    (turn : ∀ g n t, 1 ≤ n → n < b' → FltTurn prog w A h₀ L m env ct elt x scope cl { s₁ with heap := g } news n t (b.fmod n == 0 && num.fmod n == 0)) (fin : ∀ g ys, IntsAre ys ((rangeKs 1 (b' - 1).toNat).filter (fun n => b.fmod n == 0 && num.fmod n == 0)) → Fin { s₁ with heap := g } ys news) :
    LCt.CompSrcT prog w A h₀ L m env ct elt x scope cl Fin (.ref r) s₁ := flt_range (fun n => b.fmod n == 0 && num.fmod n == 0) hh F N hr (by decide) (by decide) h3 h4 turn fin
end
end
section
theorem calmLawH : True := by w_top off; k_with_none; trivial
open PySem PySem.W PySem.Calls PyProof.Rows PyProof.Rows.TI
set_option maxRecDepth 100000
set_option maxHeartbeats 8000000
def beyL (P B : List Int) : List Int := if P.any (· == 0) = true then 0 :: B else B
theorem beyL_t {P B : List Int} (h : P.any (· == 0) = true) : beyL P B = 0 :: B := if_pos h
theorem beyL_f {P B : List Int} (h : ¬ P.any (· == 0) = true) : beyL P B = B := if_neg h
theorem beyL_f' {P B : List Int} (h : P.any (· == 0) = false) : beyL P B = B := if_neg (by rw [h]; decide)
def JoinB (h₀ : Heap) (L : Addr) (m : PySem.Str → Option Value) (news : List (Addr × Obj)) (bl : List Int) (Q : Flow → Shared → Prop) (s : Shared) : Prop :=
  ∀ D h tk ys k, Fr h₀ L h (fun z : PySem.Str => if z = "beyond" then some (.ref D) else m z) → News h₀ L h ((D, listOf (List.toArray ys) k) :: news) → IntsAre ys bl → Q .next { s with heap := h, toks := tk }
def JoinE (h₀ : Heap) (L : Addr) (m : PySem.Str → Option Value) (news : List (Addr × Obj)) (bl : List Int) (s : Shared) (f : Flow) (s' : Shared) : Prop :=
  f = .next ∧ ∃ D h tk ys k, s' = { s with heap := h, toks := tk } ∧ Fr h₀ L h (fun z : PySem.Str => if z = "beyond" then some (.ref D) else m z) ∧ News h₀ L h ((D, listOf (List.toArray ys) k) :: news) ∧ IntsAre ys bl
section
variable {prog : Program} {w : World} {A : Around} {E : Value → Shared → Prop} {s : Shared} {h₀ h : Heap} {L : Addr} {m : PySem.Str → Option Value} {env : Env} {news all : List (Addr × Obj)}
theorem if_join {c : PySem.Expr} {body : List Stmt} {pos : Pos} {Q : Flow → Shared → Prop} {D₀ D₁ : Addr} {o₀ o₁ : Obj} {pvs bvs : List Value} {P B : List Int} (_F : Fr h₀ L s.heap (fun z : PySem.Str => if z = "beyond" then some (.ref D₀) else m z)) (_N : News h₀ L s.heap ((D₀, o₀) :: (D₁, o₁) :: news))
    (_hP : IntsAre pvs P) (_hB : IntsAre bvs B) (h : wpAny (model prog w) A (exec (.If c body [] pos) env) (JoinE h₀ L m news (beyL P B) s) E s) (q : JoinB h₀ L m news (beyL P B) Q s) : wpAny (model prog w) A (exec (.If c body [] pos) env) Q E s :=
  wpAny_mono h (fun _ _ ⟨e, D, h, tk, ys, k, e', F, N, I⟩ => by rw [e, e']; exact q D h tk ys k F N I) fun _ _ e => e
theorem JoinE.no {D : Addr} {ys : List Value} {k tk : Nat} {P B : List Int} (F : Fr h₀ L h (fun z : PySem.Str => if z = "beyond" then some (.ref D) else m z)) (N : News h₀ L h all) (hm : (D, listOf (List.toArray ys) k) ∈ all) (I : IntsAre ys B) (c : P.any (· == 0) = false) (sub : ∀ p ∈ news, p ∈ all) :
    JoinE h₀ L m news (beyL P B) s .next { s with heap := h, toks := tk } :=
  ⟨rfl, D, h, tk, ys, k, rfl, F, fun p hp => (List.mem_cons.mp hp).elim (fun e => e ▸ N _ hm) fun hp => N _ (sub p hp), (beyL_f' c).symm ▸ I⟩
theorem JoinE.yes {D D₀ : Addr} {ys : List Value} {k tk : Nat} {P B : List Int} (F : Fr h₀ L h (fun z : PySem.Str => if z = "beyond" then some (.ref D) else (fun z : PySem.Str => if z = "beyond" then some (.ref D₀) else m z) z)) (N : News h₀ L h all) (hm : (D, listOf (List.toArray ys) k) ∈ all) (I : IntsAre ys (0 :: B)) (c : P.any (· == 0) = true) (sub : ∀ p ∈ news, p ∈ all) :
    JoinE h₀ L m news (beyL P B) s .next { s with heap := h, toks := tk } := by
  refine ⟨rfl, D, h, tk, ys, k, rfl, ?_, fun p hp => (List.mem_cons.mp hp).elim (fun e => e ▸ N _ hm) fun hp => N _ (sub p hp), (beyL_t c).symm ▸ I⟩
  have e : (fun z : PySem.Str => if z = "beyond" then some (Value.ref D) else (fun z : PySem.Str => if z = "beyond" then some (.ref D₀) else m z) z) = (fun z : PySem.Str => if z = "beyond" then some (.ref D) else m z) := by
    funext z
    by_cases hz : z = "beyond"
    · rw [if_pos hz, if_pos hz]
    · rw [if_neg hz, if_neg hz]; show (if z = "beyond" then _ else _) = _; rw [if_neg hz]
  rw [← e]; exact F
theorem pair_reads {t l1 l2 : Addr} {o : Obj} {xs ys : List Value} {ns ms : List Int} {k k1 k2 : Nat} (N : News h₀ L h news) (ht : (t, o) ∈ news) (hc : o.cls = .type "tuple") (hd : o.data = .seq #[.ref l1, .ref l2] k)
    (h1 : (l1, listOf (List.toArray xs) k1) ∈ news) (h2 : (l2, listOf (List.toArray ys) k2) ∈ news) (i1 : IntsAre xs ns) (i2 : IntsAre ys ms) : ∃ as, Reads h (.ref t) (.tuple [.list (ns.map PyData.int), .list (ms.map PyData.int)]) as :=
  ⟨_, reads_tuple_at (N.get ht) hc hd (.cons (reads_newData (News.isList N h1) (ke_carried i1)) (.cons (reads_newData (News.isList N h2) (ke_carried i2)) .nil))⟩
theorem pair_shaped (ns ms : List Int) : SeqAt.shaped (.tuple [.list (ns.map PyData.int), .list (ms.map PyData.int)]) = true := by
  simp [SeqAt.shaped, PyData.canLay0, PyData.canLayAll0, PyData.depth, PyData.depthAll, ke_canLayAll0, ke_depthAll]
theorem ne_pair {t t' l1 l2 l1' l2' : Addr} {o o' : Obj} {xs ys xs' ys' : List Value} {ns ms ns' ms' : List Int} {k k1 k2 k' k1' k2' : Nat} {Q : Value → Shared → Prop} (N : News h₀ L s.heap news) (ht : (t, o) ∈ news) (ht' : (t', o') ∈ news) (hc : o.cls = .type "tuple") (hd : o.data = .seq #[.ref l1, .ref l2] k) (hc' : o'.cls = .type "tuple") (hd' : o'.data = .seq #[.ref l1', .ref l2'] k')
    (h1 : (l1, listOf (List.toArray xs) k1) ∈ news) (h2 : (l2, listOf (List.toArray ys) k2) ∈ news) (h1' : (l1', listOf (List.toArray xs') k1') ∈ news) (h2' : (l2', listOf (List.toArray ys') k2') ∈ news)
    (i1 : IntsAre xs ns) (i2 : IntsAre ys ms) (i1' : IntsAre xs' ns') (i2' : IntsAre ys' ms') (hu : A.units + 64 < cLine) (h : Q (.bool (!decide ((ns, ms) = (ns', ms')))) s) :
    wpAny (model prog w) A (compareOp .NotEq (.ref t) (.ref t')) Q E s := by
  obtain ⟨as, ra⟩ := pair_reads N ht hc hd h1 h2 i1 i2
  obtain ⟨bs, rb⟩ := pair_reads N ht' hc' hd' h1' h2' i1' i2'
  refine ne_dataH ra rb (pair_shaped ..) (pair_shaped ..) hu ?_
  have e : PyData.eqv (.tuple [.list (ns.map PyData.int), .list (ms.map PyData.int)]) (.tuple [.list (ns'.map PyData.int), .list (ms'.map PyData.int)]) = decide ((ns, ms) = (ns', ms')) := by
    simp only [PyData.eqv, PyData.eqvAll, ked_eqvAll, Prod.mk.injEq]
    by_cases a : ns = ns' <;> by_cases b : ms = ms' <;> simp [a, b]
  rw [e]; exact h
def maxI : List Int → Int
  | [] => 0
  | x :: r => r.foldl max x
theorem foldl_max_le : ∀ (r : List Int) (x : Int), x ≤ r.foldl max x ∧ ∀ a ∈ r, a ≤ r.foldl max x
  | [], x => ⟨Int.le_refl _, fun _ h => nomatch h⟩
  | y :: r, x => by
    have q := foldl_max_le r (max x y)
    refine ⟨Int.le_trans (Int.le_max_left x y) q.1, fun a ha => ?_⟩
    rcases List.mem_cons.mp ha with e | ha
    · rw [e]; exact Int.le_trans (Int.le_max_right x y) q.1
    · exact q.2 a ha
theorem foldl_max_mem : ∀ (r : List Int) (x : Int), r.foldl max x = x ∨ r.foldl max x ∈ r
  | [], x => .inl rfl
  | y :: r, x => by
    rcases foldl_max_mem r (max x y) with e | e
    · rw [List.foldl_cons, e]
      rcases Int.le_total x y with h | h
      · rw [Int.max_eq_right h]; exact .inr (List.mem_cons_self ..)
      · rw [Int.max_eq_left h]; exact .inl rfl
    · exact .inr (List.mem_cons_of_mem _ e)
theorem maxI_eq {ns : List Int} {M : Int} (h : M ∈ ns) (hm : ∀ a, a ∈ ns → a ≤ M) : M = maxI ns := by
  cases ns with
  | nil => cases h
  | cons x r =>
    have q := foldl_max_le r x
    have z := foldl_max_mem r x
    show M = r.foldl max x
    refine Int.le_antisymm ?_ ?_
    · rcases List.mem_cons.mp h with e | h
      · rw [e]; exact q.1
      · exact q.2 M h
    · rcases z with e | e
      · rw [e]; exact hm x (List.mem_cons_self ..)
      · exact hm _ (List.mem_cons_of_mem _ e)
theorem max_call {l : Addr} {vs : List Value} {ns : List Int} {k : Nat} {Q : Value → Shared → Prop} (F : Fr h₀ L s.heap m) (N : News h₀ L s.heap news) (hl : (l, listOf (List.toArray vs) k) ∈ news) (hi : IntsAre vs ns) (hne : 0 < ns.length) (hh : A.handled = none)
    (h : ∀ h' (t : Tok) tk, Fr h₀ L h' m → News h₀ L h' news → Q (.int (maxI ns) t) { s with heap := h', toks := tk }) : wpAny (model prog w) A (call (.builtin "max") [.ref l]) Q E s :=
  kso_max F N (News.isList N hl) hi hne hh fun h' M t tk F' N' a b => maxI_eq a b ▸ h h' t tk F' N'
end
theorem shared_ne {b num : Int} (h1 : 3 ≤ b) : 0 < (List.filter (fun n => b.fmod n == 0 && num.fmod n == 0) (rangeKs 1 (b + 1 - 1).toNat)).length := by
  refine List.length_pos_of_mem (a := 1) (List.mem_filter.mpr ⟨?_, by simp⟩)
  have e : ∃ k, (b + 1 - 1).toNat = k + 1 := ⟨(b + 1 - 1).toNat - 1, by omega⟩
  obtain ⟨k, e⟩ := e
  rw [e]; simp only [rangeKs, List.mem_map, List.mem_range]; exact ⟨0, by omega, by simp⟩
theorem len_1 {b : Int} (h1 : 3 ≤ b) (h2 : b ≤ 21) : (halfL b).length < 1000 := by have := half_len h1 h2; omega
theorem len_2 {b : Int} {f : Int → Int} (h1 : 3 ≤ b) (h2 : b ≤ 21) : (isort (List.map f (halfL b))).length < 1000 := by rw [(isort_perm _).length_eq, List.length_map]; exact len_1 h1 h2
theorem len_3 {b : Int} {f g : Int → Int} (h1 : 3 ≤ b) (h2 : b ≤ 21) : (List.map g (isort (List.map f (halfL b)))).length < 1000 := by rw [List.length_map]; exact len_2 h1 h2
theorem len_4 {b : Int} {f : Int → Int} (h1 : 3 ≤ b) (h2 : b ≤ 21) : (List.map f (halfL b)).length < 1000 := by rw [List.length_map]; exact len_1 h1 h2
theorem len_5 {b : Int} {f g : Int → Int} (h1 : 3 ≤ b) (h2 : b ≤ 21) : (isort (isort (List.map f (halfL b)) ++ List.map g (halfL b))).length < 1000 := by rw [(isort_perm _).length_eq]; exact Nat.lt_trans (both_len64 h1 h2) (by decide)
theorem JoinE.yes2 {prog : Program} {s : Shared} {h₀ h : Heap} {L : Addr} {m : PySem.Str → Option Value} {news all : List (Addr × Obj)} {D : Addr} {ys : List Value} {k tk : Nat} {P B : List Int} (F : Fr h₀ L h (fun z : PySem.Str => if z = "beyond" then some (.ref D) else m z)) (N : News h₀ L h all) (hm : (D, listOf (List.toArray ys) k) ∈ all) (I : IntsAre ys (0 :: B)) (c : P.any (· == 0) = true) (sub : ∀ p ∈ news, p ∈ all) :
    JoinE h₀ L m news (beyL P B) s .next { s with heap := h, toks := tk } :=
  ⟨rfl, D, h, tk, ys, k, rfl, F, fun p hp => (List.mem_cons.mp hp).elim (fun e => e ▸ N _ hm) fun hp => N _ (sub p hp), (beyL_t c).symm ▸ I⟩
theorem sldN_len : ∀ (f : Nat) (xs ys : List Int), (sldN f xs ys).1.length ≤ xs.length ∧ (sldN f xs ys).2.length ≤ ys.length
  | 0, xs, ys => by unfold sldN; simp
  | f + 1, [], ys => by unfold sldN; simp
  | f + 1, x :: xs, [] => by unfold sldN; simp
  | f + 1, x :: xs, y :: ys => by
    have a := sldN_len f (sk x xs) (y :: ys)
    have b := sldN_len f (x :: xs) (sk y ys)
    have c := sldN_len f (sk x xs) (sk y ys)
    have d := sk_len x xs
    have e := sk_len y ys
    unfold sldN
    simp only [List.length_cons] at a b ⊢
    split
    · simp only [List.length_cons]; omega
    · split
      · simp only [List.length_cons]; omega
      · omega
theorem told_len {b : Int} {f : Int → Int} (h1 : 3 ≤ b) (h2 : b ≤ 21) : (sld (halfL b) (isort (List.map f (halfL b)))).2.length ≤ 1000 :=
  Nat.le_trans (sldN_len _ _ _).2 (Nat.le_of_lt (len_2 h1 h2))
theorem CompTok.again {prog : Program} {w : World} {A : Around} {h₀ : Heap} {L : Addr} {m : PySem.Str → Option Value} {env : Env} {Fin : Shared → List (Addr × Obj) → List Int → Prop} {elt : PySem.Expr} {x : PySem.Str} {scope : Scope} {cl : List (PySem.Str × Addr)} {s₁ : Shared} {news : List (Addr × Obj)} {ax : Addr} {vs pvs : List Value} {k : Nat} {b num : Int} {K : List Int}
    (_hP : IntsAre pvs (List.map (fun k' => (num * k').fmod b) K)) (hh : A.handled = none) (F : Fr h₀ L s₁.heap m) (N : News h₀ L s₁.heap news) (hm : (ax, listOf (List.toArray vs) k) ∈ news) (hI : IntsAre vs (List.map (fun k' => k') (rangeKs 1 (b.fdiv 2 + 1 - 1).toNat))) (h1 : 3 ≤ b) (h2 : b ≤ 21)
    (turn : ∀ h, ∀ n t, 1 ≤ n → n ≤ 10 → TurnOf prog w A h₀ L m env elt x scope cl { s₁ with heap := h } news (.int n t) (-(num * -n).fmod (-b))) (fin : Fin s₁ news ((halfL b).map fun n => -(num * -n).fmod (-b))) : CompTok prog w A h₀ L m env elt x scope cl Fin (.ref ax) s₁ :=
  CompTok.half (fun n => -(num * -n).fmod (-b)) hh F N hm hI h1 h2 turn fin
theorem CompTok.subs {prog : Program} {w : World} {A : Around} {h₀ : Heap} {L : Addr} {m : PySem.Str → Option Value} {env : Env} {Fin : Shared → List (Addr × Obj) → List Int → Prop} {elt : PySem.Expr} {x : PySem.Str} {scope : Scope} {cl : List (PySem.Str × Addr)} {s₁ : Shared} {news : List (Addr × Obj)} {ax : Addr} {vs pvs : List Value} {k : Nat} {b num : Int} {K ns : List Int}
    (_hP : IntsAre pvs (List.map (fun k' => (num * k').fmod b) K)) (hh : A.handled = none) (F : Fr h₀ L s₁.heap m) (N : News h₀ L s₁.heap news) (hm : (ax, listOf (List.toArray vs) k) ∈ news) (hI : IntsAre vs ns) (hsz : ns.length ≤ 1000)
    (turn : ∀ h, ∀ n t, TurnOf prog w A h₀ L m env elt x scope cl { s₁ with heap := h } news (.int n t) (b - n)) (fin : Fin s₁ news (ns.map fun n => b - n)) : CompTok prog w A h₀ L m env elt x scope cl Fin (.ref ax) s₁ :=
  CompTok.map (fun n => b - n) hh F N hm hI hsz (fun h n t _ => turn h n t) fin
theorem cat_1 {b x : Int} {f : Int → Int} {p : Int → Bool} (h1 : 3 ≤ b) (h2 : b ≤ 21) : [x].length + (isort (List.filter p (List.map f (halfL b)))).length ≤ sizeLine := by
  rw [(isort_perm _).length_eq, sizeLine_eq]
  have := filt_len64 (f := f) (p := p) h1 h2
  simp only [List.length_cons, List.length_nil]; omega
theorem cat_2 {b : Int} {f g : Int → Int} (h1 : 3 ≤ b) (h2 : b ≤ 21) : (isort (List.map f (halfL b))).length + (List.map g (halfL b)).length ≤ sizeLine := by
  have := both_len64 (f := f) (g := g) h1 h2
  rw [List.length_append] at this
  rw [sizeLine_eq]; omega
theorem bey_len {b : Int} {P : List Int} {f : Int → Int} {p : Int → Bool} (h1 : 3 ≤ b) (h2 : b ≤ 21) : (beyL P (isort (List.filter p (List.map f (halfL b))))).length ≤ 1000 := by
  have := filt_len64 (f := f) (p := p) h1 h2
  unfold beyL
  split
  · rw [List.length_cons, (isort_perm _).length_eq]; omega
  · rw [(isort_perm _).length_eq]; omega
theorem lack_len {b : Int} {p : Int → Bool} (h1 : 3 ≤ b) (h2 : b ≤ 21) : (List.filter p (halfL b)).length ≤ 1000 :=
  Nat.le_trans (List.length_filter_le _ _) (Nat.le_of_lt (len_1 h1 h2))
theorem CompTok.less {prog : Program} {w : World} {A : Around} {h₀ : Heap} {L : Addr} {m : PySem.Str → Option Value} {env : Env} {Fin : Shared → List (Addr × Obj) → List Int → Prop} {elt : PySem.Expr} {x : PySem.Str} {scope : Scope} {cl : List (PySem.Str × Addr)} {s₁ : Shared} {news : List (Addr × Obj)} {ax : Addr} {vs pvs : List Value} {k : Nat} {b num : Int} {K ns : List Int}
    (_hP : IntsAre pvs (List.map (fun k' => (num * k').fmod b) K)) (hh : A.handled = none) (F : Fr h₀ L s₁.heap m) (N : News h₀ L s₁.heap news) (hm : (ax, listOf (List.toArray vs) k) ∈ news) (hI : IntsAre vs ns) (hsz : ns.length ≤ 1000)
    (turn : ∀ h, ∀ n t, TurnOf prog w A h₀ L m env elt x scope cl { s₁ with heap := h } news (.int n t) (n - num)) (fin : Fin s₁ news (ns.map fun n => n - num)) : CompTok prog w A h₀ L m env elt x scope cl Fin (.ref ax) s₁ :=
  CompTok.map (fun n => n - num) hh F N hm hI hsz (fun h n t _ => turn h n t) fin
theorem post_true (args : List WData) : (PySem.Challenge.rw_tr0007_01.row.claim).post args (.bool true) args = true := by with_unfolding_all rfl
theorem none_raised (args : List WData) : ∀ cls, (PySem.Challenge.rw_tr0007_01.row.claim).raises args cls = false := by intro cls; with_unfolding_all rfl
theorem good_true {cl : PySem.Str → Option Addr} {mean : ExcName → Option Value} {args : List WData} {s₁ s' : Shared} {v : Bool} {L : Addr} {m : PySem.Str → Option Value} (e : v = true) (F : Fr s₁.heap L s'.heap m) (hg : s'.gens = #[]) (hos : s'.os = s₁.os) :
    GoodW (PySem.Challenge.rw_tr0007_01.row.claim) cl mean args s₁ (.ok (.ret (.bool v))) s' := by
  rw [e]; exact goodW_bool F hg (none_raised _) (post_true _) hos
section
variable {prog : Program} {w : World} {A : Around} {E : Value → Shared → Prop} {s : Shared} {h₀ : Heap} {L l : Addr} {m : PySem.Str → Option Value} {news : List (Addr × Obj)} {vs : List Value} {ns : List Int} {Q : Value → Shared → Prop}
theorem rev_slice {value slice : PySem.Expr} {vk : Value} {ops : List Value} {k : Nat} (F : Fr h₀ L s.heap m) (N : News h₀ L s.heap news) (hm : (l, listOf (List.toArray vs) k) ∈ news) (pk : IsPart vk (some (-1))) (hi : IntsAre vs ns) (hz : ns.length ≤ 1000)
    (h : ∀ D ws h', Fr h₀ L h' m → News h₀ L h' ((D, listOf (List.toArray ws) 0) :: news) → (∀ p ∈ news, p.1 < D) → IntsAre ws ns.reverse → Q (.ref D) { s with heap := h' })
    (hs : subscripted slice false (.ref l) (.ref s.heap.objs.size) = operate ops (getItem (.ref l) (.ref s.heap.objs.size))) (ht : ∀ r, letTemporaryGo value (.ref l) r = pure ()) :
    wpAny (model prog w) A (subscriptTail value slice (.ref l) (.ref s.heap.objs.size)) Q E { s with heap := s.heap.push { cls := .type "slice", data := .fields #[.none, .none, vk] } } :=
  krv_ints F N (News.isList N hm) pk hi (fun D ws h' F' N' l1 i' _ => h D ws h' F' N' l1 i') hs ht (by rw [List.size_toArray, hi.length, sizeLine_eq]; omega)
theorem pow_m1 {b : Int} {t u : Tok} (hb : 0 ≤ b) (h : Q (.int (if b % 2 = 0 then 1 else -1) s.toks) { s with toks := s.toks + 1 }) : wpAny (model prog w) A (binaryOp .Pow (.int (-1) t) (.int b u)) Q E s := by
  by_cases h0 : b = 0
  · subst h0
    exact AutoIntOps.pow_0 (by decide) (by decide) h
  · refine AutoIntOps.pow_2 hb (by simpa using h0) (by decide) (by decide) ?_
    have e : (if (b % 2 == 0) = true then (1 : Int) else -1) = if b % 2 = 0 then 1 else -1 := by
      by_cases h2 : b % 2 = 0
      · rw [if_pos h2, if_pos (by rw [h2]; rfl)]
      · rw [if_neg h2, if_neg (by simpa using h2)]
    rw [e]; exact h
end
end
section
theorem calmLawK : True := by w_top off; k_with_none; trivial
open PySem PySem.W PySem.Calls PyProof.Rows PyProof.Rows.TI
set_option maxRecDepth 100000
set_option maxHeartbeats 8000000
theorem cmp3_sub (x y n : Int) : cmp3 (x - n) (y - n) = cmp3 (x - 0) (y - 0) := by
  rw [cmp3_eq, cmp3_eq]
  have a : (y - n < x - n) ↔ (y - 0 < x - 0) := by omega
  have c : (x - n < y - n) ↔ (x - 0 < y - 0) := by omega
  simp only [a, c]
theorem spotIn_free (u l n f s : Int) (hs : List Int) : spotIn u l n f s hs = spotIn u l 0 f s hs := by
  unfold spotIn
  congr 1
  funext s h
  rw [cmp3_sub]
theorem spotsF_free (u l n : Int) : spotsF u l n = spotsF u l 0 := by
  unfold spotsF spotsG
  congr 1
  funext s f
  rw [spotIn_free]
theorem odd_of {b : Int} (h1 : 3 ≤ b) (h2 : b ≤ 21) (h3 : b % 2 = 1) : ∃ i : Fin 10, b = 2 * (i.val : Int) + 3 := by
  refine ⟨⟨((b - 3) / 2).toNat, by omega⟩, ?_⟩
  show b = 2 * (((b - 3) / 2).toNat : Int) + 3
  omega
theorem recip_dec : ∀ i j : Fin 10, spotsF (2 * (j.val : Int) + 3) (2 * (i.val : Int) + 3) 0 = squaresF (2 * (j.val : Int) + 3) (2 * (i.val : Int) + 3) := by decide +kernel
theorem recip {b t : Int} (n : Int) (h1 : 3 ≤ b) (h2 : b ≤ 21) (h3 : b % 2 = 1) (h4 : 3 ≤ t) (h5 : t ≤ 21) (h6 : t % 2 = 1) : spotsF t b n = squaresF t b := by
  obtain ⟨i, rfl⟩ := odd_of h1 h2 h3
  obtain ⟨j, rfl⟩ := odd_of h4 h5 h6
  rw [spotsF_free]
  exact recip_dec i j
theorem symF_mod (u v : Int) : ∀ (n : Nat) (l p : Int), 0 < l → 0 < p → l ∣ u - v → symF n u l p = symF n v l p
  | 0, _, _, _, _, _ => rfl
  | n + 1, l, p, hl, hp, hd => by
    unfold symF
    by_cases h1 : 1 < l
    · rw [if_pos h1, if_pos h1]
      by_cases h2 : l.fmod p = 0
      · rw [if_pos h2, if_pos h2]
        have e1 : l.fmod p = l % p := Int.fmod_eq_emod_of_nonneg _ (by omega)
        have d1 : p ∣ l := Int.dvd_of_emod_eq_zero (by rw [← e1]; exact h2)
        have d2 : l.fdiv p * p = l := by rw [Int.fdiv_eq_ediv_of_nonneg _ (by omega)]; exact Int.ediv_mul_cancel d1
        have d3 : l.fdiv p ∣ l := ⟨p, d2.symm⟩
        have p3 : 0 < l.fdiv p := by
          rw [Int.fdiv_eq_ediv_of_nonneg _ (by omega)]
          exact Int.ediv_pos_of_pos_of_dvd hl (by omega) d1
        rw [symF_mod u v n (l.fdiv p) p p3 hp (Int.dvd_trans d3 hd)]
        have e : u.fmod p = v.fmod p := by
          rw [Int.fmod_eq_emod_of_nonneg _ (by omega), Int.fmod_eq_emod_of_nonneg _ (by omega)]
          exact Int.emod_eq_emod_iff_emod_sub_eq_zero.mpr (Int.emod_eq_zero_of_dvd (Int.dvd_trans d1 hd))
        rw [e]
      · rw [if_neg h2, if_neg h2]
        exact symF_mod u v n l (p + 2) hl (by omega) hd
    · rw [if_neg h1, if_neg h1]
theorem rest_of (num : Int) {b : Int} (h : 0 < b) : ∃ r : Nat, (r : Int) < b ∧ num.fmod b = r ∧ b ∣ num - r := by
  have e : num.fmod b = num % b := Int.fmod_eq_emod_of_nonneg _ (by omega)
  have h0 := Int.emod_nonneg num (show b ≠ 0 by omega)
  have h1 := Int.emod_lt_of_pos num h
  obtain ⟨r, hr⟩ := Int.eq_ofNat_of_zero_le h0
  refine ⟨r, by omega, by rw [e, hr], ?_⟩
  refine ⟨num / b, ?_⟩
  have := Int.emod_add_mul_ediv num b
  omega
theorem mul_mod {num r b k : Int} (hb : 0 < b) (h : b ∣ num - r) : (num * k).fmod b = (r * k).fmod b := by
  rw [Int.fmod_eq_emod_of_nonneg _ (by omega), Int.fmod_eq_emod_of_nonneg _ (by omega)]
  refine Int.emod_eq_emod_iff_emod_sub_eq_zero.mpr (Int.emod_eq_zero_of_dvd ?_)
  rw [← Int.sub_mul]
  exact Int.dvd_trans h (Int.dvd_mul_right _ _)
theorem plainL_mod {num r b : Int} (hb : 0 < b) (h : b ∣ num - r) : plainL num b = plainL r b := by
  unfold plainL
  exact List.map_congr_left fun k _ => mul_mod hb h
theorem againL_mod {num r b : Int} (hb : 0 < b) (h : b ∣ num - r) : List.map (fun n => -(num * -n).fmod (-b)) (halfL b) = plainL r b := by
  rw [← plainL_mod hb h]
  unfold plainL
  refine List.map_congr_left fun k _ => ?_
  rw [Int.mul_neg, Int.neg_fmod_neg, Int.neg_neg]
theorem shared_mod {num r b : Int} (h : b ∣ num - r) : List.filter (fun n => b.fmod n == 0 && num.fmod n == 0) (rangeKs 1 (b + 1 - 1).toNat) = List.filter (fun n => b.fmod n == 0 && r.fmod n == 0) (rangeKs 1 (b + 1 - 1).toNat) := by
  refine List.filter_congr fun n hn => ?_
  have hn1 := (mem_rangeKs hn).1
  by_cases hd : b.fmod n = 0
  · have e : num.fmod n = r.fmod n := by
      rw [Int.fmod_eq_emod_of_nonneg _ (by omega)] at hd
      rw [Int.fmod_eq_emod_of_nonneg _ (by omega), Int.fmod_eq_emod_of_nonneg _ (by omega)]
      exact Int.emod_eq_emod_iff_emod_sub_eq_zero.mpr (Int.emod_eq_zero_of_dvd (Int.dvd_trans (Int.dvd_of_emod_eq_zero hd) h))
    rw [e]
  · rw [show (b.fmod n == 0) = false from beq_false_of_ne hd]; rfl
theorem sk_sub (c x : Int) : ∀ l : List Int, sk (x - c) (l.map fun n => n - c) = (sk x l).map fun n => n - c
  | [] => rfl
  | y :: l => by
    rw [List.map_cons]
    unfold sk
    by_cases h : y = x
    · rw [if_pos (by omega), if_pos h]; exact sk_sub c x l
    · rw [if_neg (by omega), if_neg h]; rfl
theorem sldN_sub (c : Int) : ∀ (f : Nat) (xs ys : List Int), sldN f (xs.map fun n => n - c) (ys.map fun n => n - c) = ((sldN f xs ys).1.map (fun n => n - c), (sldN f xs ys).2.map fun n => n - c)
  | 0, _, _ => rfl
  | _ + 1, [], _ => rfl
  | _ + 1, _ :: _, [] => rfl
  | f + 1, x :: xs, y :: ys => by
    have a := sldN_sub c f (sk x xs) (y :: ys)
    have d := sldN_sub c f (x :: xs) (sk y ys)
    have e := sldN_sub c f (sk x xs) (sk y ys)
    rw [List.map_cons] at a d
    rw [List.map_cons, List.map_cons]
    unfold sldN
    rw [sk_sub, sk_sub]
    by_cases h : x < y
    · rw [if_pos (by omega), if_pos h, a]; rfl
    · rw [if_neg (by omega), if_neg h]
      by_cases h2 : y < x
      · rw [if_pos (by omega), if_pos h2, d]; rfl
      · rw [if_neg (by omega), if_neg h2, e]
theorem sld_sub (c : Int) (xs ys : List Int) : sld (xs.map fun n => n - c) (ys.map fun n => n - c) = ((sld xs ys).1.map (fun n => n - c), (sld xs ys).2.map fun n => n - c) := by
  unfold sld
  rw [List.length_map, List.length_map]
  exact sldN_sub c _ xs ys
abbrev restsL (num b : Int) : List Int := isort (List.map (fun n => (num * n).fmod b) (halfL b))
abbrev lackL (num b : Int) : List Int := List.filter (fun n => !(plainL num b).any (· == n)) (halfL b)
abbrev beyondL (num b : Int) : List Int := beyL (plainL num b) (isort (List.filter (fun n => decide (n > b.fdiv 2)) (plainL num b)))
abbrev againL (num b : Int) : List Int := List.map (fun n => -(num * -n).fmod (-b)) (halfL b)
def okB (b r : Int) : Bool :=
  decide (sld (halfL b) (restsL r b) = (lackL r b, beyondL r b)) && decide (sld (restsL r b) (halfL b) = (beyondL r b, lackL r b))
  && decide (sld (restsL r b) (isort (restsL r b ++ plainL r b)) = ([], []))
  && decide (2 * cntF (restsL r b) 0 + 1 = maxI (List.filter (fun n => b.fmod n == 0 && r.fmod n == 0) (rangeKs 1 (b + 1 - 1).toNat)))
  && (if (plainL r b).any (· == 0) = true then squaresF r b == 0 else
    decide (List.map (fun n => b - n) (List.reverse (beyondL r b)) = lackL r b) && (squaresF r b == if ((beyondL r b).length : Int) % 2 = 0 then 1 else -1))
theorem ok_3 : ∀ r : Fin 3, okB 3 r.val = true := by decide +kernel
theorem ok_5 : ∀ r : Fin 5, okB 5 r.val = true := by decide +kernel
theorem ok_7 : ∀ r : Fin 7, okB 7 r.val = true := by decide +kernel
theorem ok_9 : ∀ r : Fin 9, okB 9 r.val = true := by decide +kernel
theorem ok_11 : ∀ r : Fin 11, okB 11 r.val = true := by decide +kernel
theorem ok_13 : ∀ r : Fin 13, okB 13 r.val = true := by decide +kernel
theorem ok_15 : ∀ r : Fin 15, okB 15 r.val = true := by decide +kernel
theorem ok_17 : ∀ r : Fin 17, okB 17 r.val = true := by decide +kernel
theorem ok_19 : ∀ r : Fin 19, okB 19 r.val = true := by decide +kernel
theorem ok_21 : ∀ r : Fin 21, okB 21 r.val = true := by decide +kernel
theorem ok_all {b : Int} {r : Nat} (h1 : 3 ≤ b) (h2 : b ≤ 21) (h3 : b % 2 = 1) (h : (r : Int) < b) : okB b r = true := by
  have q : b = 3 ∨ b = 5 ∨ b = 7 ∨ b = 9 ∨ b = 11 ∨ b = 13 ∨ b = 15 ∨ b = 17 ∨ b = 19 ∨ b = 21 := by omega
  rcases q with rfl | rfl | rfl | rfl | rfl | rfl | rfl | rfl | rfl | rfl
  · exact ok_3 ⟨r, by omega⟩
  · exact ok_5 ⟨r, by omega⟩
  · exact ok_7 ⟨r, by omega⟩
  · exact ok_9 ⟨r, by omega⟩
  · exact ok_11 ⟨r, by omega⟩
  · exact ok_13 ⟨r, by omega⟩
  · exact ok_15 ⟨r, by omega⟩
  · exact ok_17 ⟨r, by omega⟩
  · exact ok_19 ⟨r, by omega⟩
  · exact ok_21 ⟨r, by omega⟩
structure Res (b num : Int) : Prop where
  l1 : sld (halfL b) (restsL num b) = (lackL num b, beyondL num b)
  l2 : sld (restsL num b) (halfL b) = (beyondL num b, lackL num b)
  l3 : sld (restsL num b) (isort (restsL num b ++ againL num b)) = ([], [])
  l4 : 2 * cntF (restsL num b) 0 + 1 = maxI (List.filter (fun n => b.fmod n == 0 && num.fmod n == 0) (rangeKs 1 (b + 1 - 1).toNat))
  l5 : (plainL num b).any (· == 0) = true → (squaresF num b == 0) = true
  l6 : (plainL num b).any (· == 0) = false → List.map (fun n => b - n) (List.reverse (beyondL num b)) = lackL num b
  l7 : (plainL num b).any (· == 0) = false → (squaresF num b == if ((beyondL num b).length : Int) % 2 = 0 then 1 else -1) = true
theorem res {b num : Int} (h1 : 3 ≤ b) (h2 : b ≤ 21) (h3 : b % 2 = 1) : Res b num := by
  obtain ⟨r, hr, _, hd⟩ := rest_of num (show 0 < b by omega)
  have ok := ok_all h1 h2 h3 hr
  have eP : plainL num b = plainL r b := plainL_mod (by omega) hd
  have eR : restsL num b = restsL r b := congrArg isort eP
  have eA : againL num b = plainL r b := againL_mod (by omega) hd
  have eL : lackL num b = lackL r b := by show List.filter (fun n => !(plainL num b).any (· == n)) (halfL b) = _; rw [eP]
  have eB : beyondL num b = beyondL r b := by show beyL (plainL num b) (isort (List.filter (fun n => decide (n > b.fdiv 2)) (plainL num b))) = _; rw [eP]
  have eS := shared_mod hd
  have eF : squaresF num b = squaresF r b := symF_mod num r 12 b 3 (by omega) (by decide) hd
  unfold okB at ok
  rw [Bool.and_eq_true, Bool.and_eq_true, Bool.and_eq_true, Bool.and_eq_true] at ok
  obtain ⟨⟨⟨⟨o1, o2⟩, o3⟩, o4⟩, o5⟩ := ok
  refine ⟨?_, ?_, ?_, ?_, fun h => ?_, fun h => ?_, fun h => ?_⟩
  · rw [eR, eL, eB]; exact of_decide_eq_true o1
  · rw [eR, eL, eB]; exact of_decide_eq_true o2
  · rw [eR, eA]; exact of_decide_eq_true o3
  · rw [eR, eS]; exact of_decide_eq_true o4
  · rw [eP] at h
    rw [if_pos h] at o5
    rw [eF]; exact o5
  · rw [eP] at h
    rw [if_neg (by rw [h]; decide), Bool.and_eq_true] at o5
    rw [eB, eL]; exact of_decide_eq_true o5.1
  · rw [eP] at h
    rw [if_neg (by rw [h]; decide), Bool.and_eq_true] at o5
    rw [eB, eF]; exact o5.2
theorem law1 {b num : Int} (h1 : 3 ≤ b) (h2 : b ≤ 21) (h3 : b % 2 = 1) : ((sld (halfL b) (restsL num b)).1, (sld (halfL b) (restsL num b)).2) = (lackL num b, beyondL num b) := (res h1 h2 h3).l1
theorem law2 {b num : Int} (h1 : 3 ≤ b) (h2 : b ≤ 21) (h3 : b % 2 = 1) : ((sld (List.map (fun n => n - num) (restsL num b)) (List.map (fun n => n - num) (halfL b))).1, (sld (List.map (fun n => n - num) (restsL num b)) (List.map (fun n => n - num) (halfL b))).2) = (List.map (fun n => n - num) (beyondL num b), List.map (fun n => n - num) (lackL num b)) := by
  rw [sld_sub, (res h1 h2 h3).l2]
theorem law3 {b num : Int} (h1 : 3 ≤ b) (h2 : b ≤ 21) (h3 : b % 2 = 1) : ((sld (restsL num b) (isort (restsL num b ++ againL num b))).1, (sld (restsL num b) (isort (restsL num b ++ againL num b))).2) = ([], []) := (res h1 h2 h3).l3
theorem law4 {b num : Int} (h1 : 3 ≤ b) (h2 : b ≤ 21) (h3 : b % 2 = 1) : 2 * cntF (restsL num b) 0 + 1 = maxI (List.filter (fun n => b.fmod n == 0 && num.fmod n == 0) (rangeKs 1 (b + 1 - 1).toNat)) := (res h1 h2 h3).l4
theorem law5 {b num : Int} (h1 : 3 ≤ b) (h2 : b ≤ 21) (h3 : b % 2 = 1) (h : (plainL num b).any (· == 0) = true) : (squaresF num b == 0) = true := (res h1 h2 h3).l5 h
theorem law6 {b num : Int} (h1 : 3 ≤ b) (h2 : b ≤ 21) (h3 : b % 2 = 1) (h : (plainL num b).any (· == 0) = false) : List.map (fun n => b - n) (List.reverse (sld (halfL b) (restsL num b)).2) = (sld (halfL b) (restsL num b)).1 := by
  rw [(res h1 h2 h3).l1]; exact (res h1 h2 h3).l6 h
theorem law7 {b num : Int} (h1 : 3 ≤ b) (h2 : b ≤ 21) (h3 : b % 2 = 1) (h : (plainL num b).any (· == 0) = false) : (squaresF num b == if ((sld (halfL b) (restsL num b)).2.length : Int) % 2 = 0 then 1 else -1) = true := by
  rw [(res h1 h2 h3).l1]; exact (res h1 h2 h3).l7 h
end
section
theorem calmLawM : True := by w_top off; k_with_none; trivial
open PySem PySem.W PySem.Calls PyProof.Rows PyProof.Rows.TI
set_option maxRecDepth 100000
set_option maxHeartbeats 8000000
theorem len_told {prog : Program} {w : World} {A : Around} {E : Value → Shared → Prop} {s : Shared} {h₀ : Heap} {L D : Addr} {news : List (Addr × Obj)} {vs : List Value} {ns : List Int} {c : Nat} {Q : Value → Shared → Prop} (N : News h₀ L s.heap news) (hm : (D, listOf (List.toArray vs) c) ∈ news) (hi : IntsAre vs ns) (hz : ns.length ≤ 1000) (h : Q (.int (ns.length : Int) (s.toks + 1)) { s with toks := s.toks + 1 + 1 }) :
    wpAny (model prog w) A (call (.builtin "len") [.ref D]) Q E s :=
  kun_lenL (News.isList N hm) (by rw [List.size_toArray, hi.length]) (by omega) h
end
section
theorem calmLaw : True := by w_top off; k_with_none; trivial
local macro_rules | `(tactic| walk_at "call ref") => `(tactic| (k_here; (with_reducible show wpAny _ _ (call (Value.ref 75) [Value.int _ _, Value.int _ _, Value.int _ _]) _ _ _); k_dflt ((with_unfolding_all refine' spots_call ?k1 ?k2 ?k3 ?k4 ?k5 ?k6 ?k7 ?k8 ?k9 ?k10 (fun cT cH cK F' N' => ?_)); (case k6 => exact rfl); (case k1 => k_asm); (case k2 => k_asm); (case k3 => k_asm); (case k4 => k_asm); (case k5 => exact Nat.le_of_ble_eq_true rfl); (case k7 => omega); (case k8 => omega); (case k9 => omega); (case k10 => omega); (try dsimp only))))
local macro_rules | `(tactic| walk_at "call ref") => `(tactic| (k_here; (with_reducible show wpAny _ _ (call (Value.ref 68) [Value.int _ _, Value.int _ _]) _ _ _); k_dflt ((with_unfolding_all refine' squares_call ?k1 ?k2 ?k3 ?k4 ?k5 ?k6 ?k7 ?k8 ?k9 ?k10 ?k11 ?k12 ?k13 (fun cT cH cK F' N' => ?_)); (case k6 => exact rfl); (case k7 => exact rfl); (case k8 => exact rfl); (case k1 => k_asm); (case k2 => k_asm); (case k3 => k_asm); (case k4 => k_asm); (case k5 => k_asm); (case k9 => exact Nat.le_of_ble_eq_true rfl); (case k10 => exact rfl); (case k11 => omega); (case k12 => omega); (case k13 => omega); (try dsimp only))))
local macro_rules | `(tactic| walk_at "storeName int") => `(tactic| (k_here; (with_reducible refine gen_store ?_); intro gb gb1 gb2 gb3))
local macro_rules | `(tactic| walk_at "eval ListComp") => `(tactic| (k_here; (with_reducible show wpAny _ _ (eval (Expr.ListComp (Expr.Call (Expr.Name "mod" _) _ _ _) _ _ _) _) _ _ _); k_dflt (refine ListComp_tok (_F₀ := by k_asm) (by with_unfolding_all rfl) (by decide) (by rfl) (by decide) (by rfl) ?_)))
local macro_rules | `(tactic| walk_at "CompTok") => `(tactic| (k_here; k_dflt (refine' CompTok.rests ?k0 ?k1 ?k2 ?k3 ?k4 ?k5 ?k6 ?k7 (fun h' n' t' hn1 hn2 => ?_) ?_; (case k0 => assumption); (case k1 => exact rfl); (case k2 => k_asm); (case k3 => k_asm); (case k4 => k_mem); (case k5 => assumption); (case k6 => assumption); (case k7 => assumption))))
local macro_rules | `(tactic| walk_at "FinTE") => `(tactic| ((unfold FinTE); intro D' h' tk' ys' F' N' lD' hk' hT'; (try dsimp only at hk' hT' ⊢); (try k_lt lD')))
local macro_rules | `(tactic| walk_at "call builtin:sorted") => `(tactic| (k_here; (with_reducible show wpAny _ _ (call (Value.builtin _) [Value.ref _]) _ _ _); k_dflt (refine' sorted_1 ?k1 ?k2 ?k3 ?k4 ?k5 (fun D' h' vs' e' F' N' lD' hI' => ?_); (case k1 => k_asm); (case k2 => k_asm); (case k3 => k_mem); (case k4 => l_ints); (case k5 => l_fact); (try dsimp only); (try k_lt lD'); (try k_sweep))))
local macro_rules | `(tactic| walk_at "call builtin:sorted") => `(tactic| (k_here; (with_reducible show wpAny _ _ (call (Value.builtin _) [Value.ref _]) _ _ _); k_dflt (refine' sorted_2 ?k1 ?k2 ?k3 ?k4 ?k5 (fun D' h' vs' e' F' N' lD' hT' => ?_); (case k1 => k_asm); (case k2 => k_asm); (case k3 => k_mem); (case k4 => assumption); (case k5 => ((simp only [List.length_map, rangeKs_length]); first | omega | l_fact)); (try dsimp only); (try k_lt lD'); (try k_sweep); have hI' := TokInts.ints hT')))
local macro_rules | `(tactic| walk_at "Since") => `(tactic| (refine Since.intro (fun tk' htk' => ?_); (try dsimp only at htk' ⊢)))
local macro_rules | `(tactic| walk_at "execs cons") => `(tactic| (k_here; (with_reducible rename TokInts _ _ _ _ => ctT); (with_reducible refine execs_since ?_)))
local macro_rules | `(tactic| walk_at "binaryOp Mult int int") => `(tactic| (k_here; (with_reducible rename _ ∈ List.map (fun k' => k') (rangeKs 1 _) => hkm); k_dflt (refine mul_small (half_mem (by assumption) (by assumption) hkm) ?_)))
local macro_rules | `(tactic| walk_at "exec Assign cons ListComp") => `(tactic| (k_here; (with_reducible show wpAny _ _ (exec (Stmt.Assign _ (Expr.ListComp _ [⟨_, _, [_], _⟩] _ _) _) _) _ _ _); k_dflt (refine LCt.Assign_ListComp_T (F₀ := by k_asm) (by rfl) (by with_unfolding_all rfl) (by with_unfolding_all rfl) (by decide) (by rfl) (by decide) (by rfl) (by rfl) (by rfl) ?_)))
local macro_rules | `(tactic| walk_at "eval ListComp") => `(tactic| (k_here; (with_reducible show wpAny _ _ (eval (Expr.ListComp _ [⟨_, _, [_], _⟩] _ _) _) _ _ _); k_dflt (refine LCt.ListComp_T (F₀ := by k_asm) (by with_unfolding_all rfl) (by decide) (by rfl) (by decide) (by rfl) ?_)))
local macro_rules | `(tactic| walk_at "CompSrcT") => `(tactic| (k_here; (with_reducible show LCt.CompSrcT _ _ _ _ _ _ _ (Expr.Compare _ [CmpOp.NotIn] _ _) _ _ _ _ _ _ _); (with_reducible rename IntsAre _ (List.map (fun k' => Int.fmod _ _) (List.map _ (rangeKs _ _))) => hPl); k_dflt (refine' flt_notin hPl ?k1 ?k2 ?k3 ?k4 ?k5 ?k6 (fun g' n' t' hn' => ?_) (fun g' ys' hI' => ?_); (case k1 => exact rfl); (case k2 => k_asm); (case k3 => k_asm); (case k4 => k_mem); (case k5 => assumption); (case k6 => exact Nat.le_trans (half_len (by assumption) (by assumption)) (by decide)))))
local macro_rules | `(tactic| walk_at "CompSrcT") => `(tactic| (k_here; (with_reducible show LCt.CompSrcT _ _ _ _ _ _ _ (Expr.Compare _ [CmpOp.Gt] _ _) _ _ _ _ _ _ _); (with_reducible rename IntsAre _ (List.map (fun k' => Int.fmod _ _) (List.map _ (rangeKs _ _))) => hPl); k_dflt (refine' flt_gt hPl ?k1 ?k2 ?k3 ?k4 ?k6 (fun g' n' t' => ?_) (fun g' ys' hI' => ?_); (case k1 => exact rfl); (case k2 => k_asm); (case k3 => k_asm); (case k4 => k_mem); (case k6 => exact Nat.le_trans (half_len (by assumption) (by assumption)) (by decide)))))
local macro_rules | `(tactic| walk_at "CompSrcT") => `(tactic| (k_here; (with_reducible show LCt.CompSrcT _ _ _ _ _ _ _ (Expr.BoolOp _ _ _) _ _ _ _ _ _ _); (with_reducible rename IntsAre _ (List.map (fun k' => Int.fmod _ _) (List.map _ (rangeKs _ _))) => hPl); k_dflt (refine' flt_shared hPl ?k1 ?k2 ?k3 ?k4 ?k5 ?k6 (fun g' n' t' hn1 hn2 => ?_) (fun g' ys' hI' => ?_); (case k1 => exact rfl); (case k2 => k_asm); (case k3 => k_asm); (case k4 => assumption); (case k5 => omega); (case k6 => omega))))
local macro_rules | `(tactic| walk_at "FltTurn") => `(tactic| ((unfold FltTurn); intro I' oI' C' oC' D' m' ys' h' tk' E' hC' hx' F' N' off' ne'; (try simp only [LCg.Off3, and_true] at off'); (try dsimp only)))
local macro_rules | `(tactic| walk_at "compareOp NotIn int ref") => `(tactic| (k_here; (with_reducible show wpAny _ _ (compareOp CmpOp.NotIn (Value.int _ _) (Value.ref _)) _ _ _); k_dflt (refine' notin_list_ints ?k1 ?k2 ?_; (case k1 => exact News.isList (by k_asm) (by k_mem)); (case k2 => assumption))))
local macro_rules | `(tactic| walk_at "compareOp In int ref") => `(tactic| (k_here; (with_reducible show wpAny _ _ (compareOp CmpOp.In (Value.int _ _) (Value.ref _)) _ _ _); k_dflt (refine' in_list_ints ?k1 ?k2 ?_; (case k1 => exact News.isList (by k_asm) (by k_mem)); (case k2 => assumption))))
local macro_rules | `(tactic| walk_at "FltYes") => `(tactic| (k_dflt (refine' FltYes.intro ?k1 ?k2 ?k3; (case k1 => k_asm); (case k2 => k_asm); (case k3 => first | assumption | exact decide_eq_true (by assumption) | exact congrArg Bool.not (by assumption) | exact and_tt (by assumption) (by assumption)))))
local macro_rules | `(tactic| walk_at "FltNo") => `(tactic| (k_dflt (refine' FltNo.intro ?k1 ?k2 ?k3; (case k1 => k_asm); (case k2 => k_asm); (case k3 => first | assumption | exact decide_eq_false (by assumption) | exact congrArg Bool.not (by assumption) | exact and_f1 (by assumption) | exact and_f2 (by assumption)))))
local macro_rules | `(tactic| walk_at "call builtin:sorted") => `(tactic| (k_here; (with_reducible show wpAny _ _ (call (Value.builtin _) [Value.ref _]) _ _ _); k_dflt (refine' sorted_1 ?k1 ?k2 ?k3 ?k4 ?k5 (fun D' h' vs' e' F' N' lD' hI' => ?_); (case k1 => k_asm); (case k2 => k_asm); (case k3 => k_mem); (case k4 => assumption); (case k5 => first | exact filt_len64 (by assumption) (by assumption) | exact both_len64 (by assumption) (by assumption)); (try dsimp only); (try k_lt lD'); (try k_sweep))))
local macro_rules | `(tactic| walk_at "exec If") => `(tactic| (k_here; (with_reducible show wpAny _ _ (exec (Stmt.If _ [Stmt.Assign _ _ _] [] _) _) _ _ _); (fail_if_success (with_reducible show wpAny _ _ _ (JoinE _ _ _ _ _ _) _ _)); (with_reducible rename IntsAre _ (List.map (fun k' => Int.fmod _ _) (List.map _ (rangeKs _ _))) => hPl); (with_reducible rename IntsAre _ (isort (List.filter _ _)) => hBe); k_dflt (refine' if_join ?k1 ?k2 hPl hBe ?_ ?_; (case k1 => k_asm); (case k2 => k_asm))))
local macro_rules | `(tactic| walk_at "JoinE") => `(tactic| (k_dflt (first
  | (refine' JoinE.no ?k1 ?k2 ?k3 ?k4 ?k5 ?k6; (case k5 => assumption); (case k1 => k_asm); (case k2 => k_asm); (case k3 => k_mem); (case k4 => assumption); (case k6 => lcg_sub))
  | (refine' JoinE.yes ?k1 ?k2 ?k3 ?k4 ?k5 ?k6; (case k5 => assumption); (case k1 => k_asm); (case k2 => k_asm); (case k3 => k_mem); (case k4 => assumption); (case k6 => lcg_sub))
  | (refine' JoinE.yes2 ?k1 ?k2 ?k3 ?k4 ?k5 ?k6; (case k5 => assumption); (case k1 => k_asm); (case k2 => k_asm); (case k3 => k_mem); (case k4 => assumption); (case k6 => lcg_sub)))))
local macro_rules | `(tactic| walk_at "JoinB") => `(tactic| ((unfold JoinB); intro D' h' tk' ys' k' F' N' hI'; (try dsimp only)))
local macro_rules | `(tactic| walk_at "call ref") => `(tactic| (k_here; (with_reducible show wpAny _ _ (call (Value.ref 21) [Value.ref _, Value.ref _]) _ _ _); k_dflt ((with_unfolding_all refine' sld_call ?k1 ?k2 ?k3 ?k4 ?k5 ?k6 ?k7 ?k8 ?k9 ?k10 ?k11 ?k12 ?k13 ?k14 ?k15 (fun dT dL1 dL2 dU dV dN1 dN2 dH dK F' N' dI1 dI2 l1 l2 l3 => ?_)); (case k5 => exact rfl); (case k6 => exact rfl); (case k7 => exact rfl); (case k8 => exact Nat.le_of_ble_eq_true rfl); (case k9 => exact rfl); (case k1 => k_asm); (case k2 => k_asm); (case k3 => k_asm); (case k4 => k_asm); (case k10 => k_mem); (case k11 => k_mem); (case k12 => assumption); (case k13 => assumption); (case k14 => first | exact len_1 (by assumption) (by assumption) | exact len_2 (by assumption) (by assumption) | exact len_3 (by assumption) (by assumption) | exact len_4 (by assumption) (by assumption) | exact len_5 (by assumption) (by assumption)); (case k15 => first | exact len_1 (by assumption) (by assumption) | exact len_2 (by assumption) (by assumption) | exact len_3 (by assumption) (by assumption) | exact len_4 (by assumption) (by assumption) | exact len_5 (by assumption) (by assumption)); (try dsimp only); (try k_lt l1); (replace l2 := PySem.W.ltN l2); (replace l3 := PySem.W.ltN l3); (try k_sweep))))
local macro_rules | `(tactic| walk_at "compareOp NotEq ref ref") => `(tactic| (k_here; (with_reducible show wpAny _ _ (compareOp CmpOp.NotEq (Value.ref _) (Value.ref _)) _ _ _); k_dflt (refine' ne_pair ?k1 ?k2 ?k3 ?c1 ?d1 ?c2 ?d2 ?m1 ?m2 ?m3 ?m4 ?i1 ?i2 ?i3 ?i4 ?u ?_; (case k1 => k_asm); (case k2 => k_mem); (case k3 => k_mem); (case c1 => rfl); (case d1 => rfl); (case c2 => rfl); (case d2 => rfl); (case m1 => k_mem); (case m2 => k_mem); (case m3 => k_mem); (case m4 => k_mem); (case i1 => first | assumption | exact .nil); (case i2 => first | assumption | exact .nil); (case i3 => first | assumption | exact .nil); (case i4 => first | assumption | exact .nil); (case u => ke_room))))
local macro_rules | `(tactic| walk_at "exec Assign cons ListComp") => `(tactic| (k_here; (with_reducible show wpAny _ _ (exec (Stmt.Assign _ (Expr.ListComp (Expr.UnaryOp _ (Expr.Call (Expr.Name "mod" _) _ _ _) _) _ _ _) _) _) _ _ _); k_dflt (refine Assign_ListComp_tok (_F₀ := by k_asm) (by rfl) (by with_unfolding_all rfl) (by with_unfolding_all rfl) (by decide) (by rfl) (by decide) (by rfl) (by rfl) (by rfl) ?_)))
local macro_rules | `(tactic| walk_at "eval ListComp") => `(tactic| (k_here; (with_reducible show wpAny _ _ (eval (Expr.ListComp (Expr.Call (Expr.Name "sub" _) _ _ _) _ _ _) _) _ _ _); k_dflt (refine ListComp_tok (_F₀ := by k_asm) (by with_unfolding_all rfl) (by decide) (by rfl) (by decide) (by rfl) ?_)))
local macro_rules | `(tactic| walk_at "CompTok") => `(tactic| (k_here; (with_reducible show CompTok _ _ _ _ _ _ _ (Expr.UnaryOp _ _ _) _ _ _ _ _ _); (with_reducible rename IntsAre _ (List.map (fun k' => Int.fmod _ _) (List.map _ (rangeKs _ _))) => hPl); k_dflt (refine' CompTok.again hPl ?k1 ?k2 ?k3 ?k4 ?k5 ?k6 ?k7 (fun h' n' t' hn1 hn2 => ?_) ?_; (case k1 => exact rfl); (case k2 => k_asm); (case k3 => k_asm); (case k4 => k_mem); (case k5 => assumption); (case k6 => assumption); (case k7 => assumption))))
local macro_rules | `(tactic| walk_at "CompTok") => `(tactic| (k_here; (with_reducible show CompTok _ _ _ _ _ _ _ (Expr.Call (Expr.Name "sub" _) _ _ _) _ _ _ _ _ _); (with_reducible rename IntsAre _ (List.map (fun k' => Int.fmod _ _) (List.map _ (rangeKs _ _))) => hPl); k_dflt (refine' CompTok.subs hPl ?k1 ?k2 ?k3 ?k4 ?k5 ?k6 (fun h' n' t' => ?_) ?_; (case k1 => exact rfl); (case k2 => k_asm); (case k3 => k_asm); (case k4 => k_mem); (case k5 => assumption); (case k6 => first | exact told_len (by assumption) (by assumption) | ((rw [List.length_reverse]); exact told_len (by assumption) (by assumption))))))
local macro_rules | `(tactic| walk_at "FinTA") => `(tactic| ((with_reducible show FinTA _ _ _ "again" _ _ _ _); (unfold FinTA); intro D' h' tk' ys' F' N' lD' hk' hT'; (try dsimp only at hk' hT' ⊢); (have hI' := TokInts.ints hT'); clear hT'; (try k_lt lD')))
local macro_rules | `(tactic| walk_at "call ref") => `(tactic| (k_here; (with_reducible show wpAny _ _ (call (Value.ref 56) [Value.ref _, Value.int _ _]) _ _ _); (with_reducible rename TokInts _ _ _ (isort _) => ctT); k_dflt ((with_unfolding_all refine' countOf_call ?k1 ?k2 ?k3 ?k4 ?k5 ?k6 ?k7 (TokInts.ints ctT) ?k9 ?k12 (TokInts.use ctT ?k11) ?k10 (fun cT cH cK cB1 cB2 F' N' => ?_)); (case k6 => exact rfl); (case k1 => k_asm); (case k2 => k_asm); (case k3 => k_asm); (case k4 => k_asm); (case k5 => (first | exact Nat.le_of_ble_eq_true rfl | exact room_of (by assumption))); (case k7 => k_mem); (case k9 => rfl); (case k10 => exact len_2 (by assumption) (by assumption)); (case k11 => first | omega | l_fact); (case k12 => exact Nat.ne_of_gt (by omega)); (try dsimp only))))
local macro_rules | `(tactic| walk_at "call builtin:max") => `(tactic| (k_here; (with_reducible show wpAny _ _ (call (Value.builtin _) [Value.ref _]) _ _ _); k_dflt (refine' max_call ?k1 ?k2 ?k3 ?k4 ?k5 ?k6 (fun h' t' tk' F' N' => ?_); (case k1 => k_asm); (case k2 => k_asm); (case k3 => k_mem); (case k4 => assumption); (case k5 => exact shared_ne (by assumption)); (case k6 => with_unfolding_all rfl))))
local macro_rules | `(tactic| walk_at "binaryOp Add ref ref") => `(tactic| (k_here; (with_reducible show wpAny _ _ (binaryOp _ (Value.ref _) (Value.ref _)) _ _ _); k_dflt (refine' kmk_add_ints ?F ?N ?a ?b ?i ?j ?_ ?z; (case F => k_asm); (case N => k_asm); (case a => exact News.isList (by k_asm) (by k_mem)); (case b => exact News.isList (by k_asm) (by k_mem)); (case i => first | assumption | exact .cons _ _ .nil); (case j => assumption); (case z => first | exact cat_1 (by assumption) (by assumption) | exact cat_2 (by assumption) (by assumption))); intro D' ws' h' F' N' l1 hI'; (try k_lt l1); (try k_sweep)))
local macro_rules | `(tactic| walk_at "eval ListComp") => `(tactic| (k_here; (with_reducible show wpAny _ _ (eval (Expr.ListComp (Expr.BinOp _ Operator.Sub _ _) _ _ _) _) _ _ _); k_dflt (refine ListComp_tok (_F₀ := by k_asm) (by with_unfolding_all rfl) (by decide) (by rfl) (by decide) (by rfl) ?_)))
local macro_rules | `(tactic| walk_at "CompTok") => `(tactic| (k_here; (with_reducible show CompTok _ _ _ _ _ _ _ (Expr.BinOp _ Operator.Sub _ _) _ _ _ _ _ _); (with_reducible rename IntsAre _ (List.map (fun k' => Int.fmod _ _) (List.map _ (rangeKs _ _))) => hPl); k_dflt (refine' CompTok.less hPl ?k1 ?k2 ?k3 ?k4 ?k5 ?k6 (fun h' n' t' => ?_) ?_; (case k1 => exact rfl); (case k2 => k_asm); (case k3 => k_asm); (case k4 => k_mem); (case k5 => assumption); (case k6 => first | exact Nat.le_of_lt (len_1 (by assumption) (by assumption)) | exact Nat.le_of_lt (len_2 (by assumption) (by assumption)) | exact bey_len (by assumption) (by assumption) | exact lack_len (by assumption) (by assumption)))))
local macro_rules | `(tactic| walk_at "FinTE") => `(tactic| ((with_reducible show FinTE _ _ _ _ _ _ (List.map (fun n => n - _) _)); (unfold FinTE); intro D' h' tk' ys' F' N' lD' hk' hT'; (try dsimp only at hk' hT' ⊢); (have hI' := TokInts.ints hT'); clear hT'; (try k_lt lD')))
local macro_rules | `(tactic| walk_at "FinTE") => `(tactic| ((with_reducible show FinTE _ _ _ _ _ _ (List.map (fun n => _ - n) _)); (unfold FinTE); intro D' h' tk' ys' F' N' lD' hk' hT'; (try dsimp only at hk' hT' ⊢); (have hI' := TokInts.ints hT'); clear hT'; (try k_lt lD')))
local macro_rules | `(tactic| wrow_close) => `(tactic| ((with_reducible rename (¬ ((_, _) = (_, _))) => hz); first | with_reducible exact absurd (law1 (by assumption) (by assumption) (by assumption)) hz | with_reducible exact absurd (law2 (by assumption) (by assumption) (by assumption)) hz | with_reducible exact absurd (law3 (by assumption) (by assumption) (by assumption)) hz))
local macro_rules | `(tactic| wrow_close) => `(tactic| ((with_reducible rename (¬ (_ = maxI _)) => hz); with_reducible exact absurd (law4 (by assumption) (by assumption) (by assumption)) hz))
local macro_rules | `(tactic| wrow_close) => `(tactic| ((with_reducible rename (¬ (spotsF _ _ _ = squaresF _ _)) => hz); with_reducible exact absurd (recip _ (by assumption) (by assumption) (by assumption) (by assumption) (by assumption) (by assumption)) hz))
local macro_rules | `(tactic| wrow_close) => `(tactic| (w_end; (with_reducible rename (List.any (List.map (fun k' => Int.fmod _ _) _) _ = true) => hz); exact good_true (law5 (by assumption) (by assumption) (by assumption) hz) (by assumption) (by assumption) rfl))
local macro_rules | `(tactic| wrow_close) => `(tactic| ((with_reducible rename (¬ (List.map (fun n => _ - n) (List.reverse _) = _)) => hz); (with_reducible rename (List.any (List.map (fun k' => Int.fmod _ _) _) _ = false) => hy); with_reducible exact absurd (law6 (by assumption) (by assumption) (by assumption) hy) hz))
local macro_rules | `(tactic| walk_at "compareOp NotEq ref ref") => `(tactic| (k_here; (with_reducible show wpAny _ _ (compareOp CmpOp.NotEq (Value.ref _) (Value.ref _)) _ _ _); k_dflt (refine' ke_ne_ints ?kna ?knb ?kni ?knj ?knu ?_; (case kna => exact News.isList (by k_asm) (by k_mem)); (case knb => exact News.isList (by k_asm) (by k_mem)); (case kni => assumption); (case knj => assumption); (case knu => ke_room))))
local macro_rules | `(tactic| walk_at "binaryOp Pow int int") => `(tactic| (k_here; (with_reducible show wpAny _ _ (binaryOp Operator.Pow (Value.int _ _) (Value.int _ _)) _ _ _); k_dflt (refine' pow_m1 ?pwb ?_; (case pwb => first | omega | exact Int.natCast_nonneg _ | exact Int.ofNat_nonneg _))))
local macro_rules | `(tactic| walk_at "subscriptTail Subscript") => `(tactic| (k_here; (with_reducible show wpAny _ _ (subscriptTail _ (PySem.Expr.Slice none none (some _) _) (Value.ref _) (Value.ref _)) _ _ _); k_dflt (refine kba_turn (value' := PySem.Expr.Name (PySem.Str.ofString "_") ⟨0, 0, 0, 0⟩) (fun _ => rfl) ?_; refine' rev_slice ?rsF ?rsN ?rsl ?rsk ?rsi ?rsz ?_ ?rss ?rst; (case rsF => k_asm); (case rsN => k_asm); (case rsl => k_mem); (case rsk => exact IsPart.int _ _); (case rsi => assumption); (case rsz => exact told_len (by assumption) (by assumption)); (case rss => with_unfolding_all rfl); (case rst => kmk_pure)); intro D' ws' h' F' N' l1 hI'; (try k_lt l1); (try k_sweep)))
local macro_rules | `(tactic| walk_at "call builtin:len") => `(tactic| (k_here; (with_reducible show wpAny _ _ (call (Value.builtin "len") [Value.ref _]) _ _ _); k_dflt (refine' len_told ?ltN ?ltm ?lti ?ltz ?_; (case ltN => k_asm); (case ltm => k_mem); (case lti => assumption); (case ltz => exact told_len (by assumption) (by assumption)))))
local macro_rules | `(tactic| wrow_close) => `(tactic| (w_end; (with_reducible rename (List.any (List.map (fun k' => Int.fmod _ _) _) _ = false) => hy); exact good_true (law7 (by assumption) (by assumption) (by assumption) hy) (by assumption) (by assumption) rfl))
theorem mainT : PySem.Challenge.rw_tr0007_01.Holds := hd (by
  k_with "pyIter ref" => k_state (fun (pre : List Int) (cells : List Int) => cells.length = 3) "cells"
  k_go0; (all_goals try k_fold)
  iterate 40 (iterate 25 (first | done | (k_unfold; (try dsimp only)) | (k_end; wrow_close) | walk1 | (dsimp only; walk1) | (leave1; (try dsimp only)))))
end
end Mine
theorem PySem.Challenge.cw_tr0007_01_holds : PySem.Challenge.rw_tr0007_01.Holds := by
  exact Mine.mainT
