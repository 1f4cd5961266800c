import PyProof.Rows.All
import Wide.All
import OpenK.AllK
import Wide.FinOn
import Lean
import PySem.Challenge.RW_ik0184_01
set_option Elab.async false
local macro_rules | `(tactic| walk_at $s:str) => `(tactic| k_extra $s)
local macro_rules | `(tactic| k_ne) => `(tactic| walk_at "KNE")
local macro_rules | `(tactic| k_mem) => `(tactic| assumption)
section
open PySem PySem.Calls PySem.Spec PySem.W PyProof.Rows
set_option maxRecDepth 100000
set_option maxHeartbeats 4000000
set_option linter.all false
namespace Mine
noncomputable def lexL (f : Str → Str → Bool) (e1 e2 : Bool) : List Str → List Str → Bool
  | [], [] => false
  | [], _ :: _ => e1
  | _ :: _, [] => e2
  | x :: xs, y :: ys => if x = y then lexL f e1 e2 xs ys else f x y
noncomputable def ltC (x y : Str) : Bool := decide (x.cps.toList < y.cps.toList)
noncomputable def gtC (x y : Str) : Bool := decide (y.cps.toList < x.cps.toList)
theorem strs_get : ∀ {vs : List Value} {ss : List Str}, StrsAre vs ss → ∀ i (h : i < ss.length), ∃ t, vs[i]? = some (.str ss[i] t)
  | _, _, .nil, i, h => absurd h (Nat.not_lt_zero _)
  | _, _, .cons y t r, 0, h => ⟨t, rfl⟩
  | _, _, .cons y t r, i + 1, h => by
    obtain ⟨t, e⟩ := strs_get r i (by simpa using h)
    exact ⟨t, by simpa using e⟩
theorem strsLen : ∀ {vs : List Value} {ss : List Str}, StrsAre vs ss → vs.length = ss.length
  | _, _, .nil => rfl
  | _, _, .cons y t r => by simp [strsLen r]
theorem cmp_lt_str {prog : Program} {w : World} {A : Around} {E : Value → Shared → Prop} {s : Shared} {x y : Str} {t u : Tok} {Q : Value → Shared → Prop} (h : Q (.bool (ltC x y)) s) : wpAny (model prog w) A (richCompare .Lt (.str x t) (.str y u)) Q E s :=
  richCompare_gives (op := .Lt) (typeIs_str s x t) (typeIs_str s y u) F.slot_str_lt F.entry_str_lt (F.args_str_lt_2 _ _) (gives_str_lt x y t u) (fun e => nomatch e) h
theorem lt_loop (l b : Addr) (items items2 : Array Value) (n n2 : Nat) (xs ys : List Str) (hx : StrsAre items.toList xs) (hy : StrsAre items2.toList ys) (k : Nat) :
    ∀ i : Nat, xs.length - i = k → i ≤ xs.length → i ≤ ys.length → Meets (Builtin.«list.__eq__.loop» ⟨[.ref l, .ref b, rawInt i, rawInt 0], []⟩)
      (fun _ R s => s.heap.get? l = some { cls := .type "list", dict := none, data := .seq items n, slots := #[] } ∧ s.heap.get? b = some { cls := .type "list", dict := none, data := .seq items2 n2, slots := #[] } ∧
        R (.ok (.ret (.bool (lexL ltC true false (xs.drop i) (ys.drop i))))) s) := by
  have l1 : items.size = xs.length := by simpa using strsLen hx
  have l2 : items2.size = ys.length := by simpa using strsLen hy
  induction k with
  | zero =>
    intro i hk hi1' hi2' prog w A R s h
    obtain ⟨hp, g, d, tk, os⟩ := s; obtain ⟨hl, hb, h⟩ := h
    wp_walk using AutoSeq1.wpAny_loadPart' hl, AutoSeq1.wpAny_loadPart' hb
    have hi1 : items[((i : Nat) : Int).toNat]? = none := by simp; omega
    have hd : xs.drop i = [] := by simp; omega
    rw [hd] at h
    rw [hi1]
    wp_walk using AutoSeq1.wpAny_loadPart' hl, AutoSeq1.wpAny_loadPart' hb
    show R (.ok (.ret (.bool (decide (items.size < items2.size))))) _
    have e : decide (items.size < items2.size) = lexL ltC true false [] (ys.drop i) := by
      by_cases hlt : i < ys.length
      · rw [List.drop_eq_getElem_cons hlt]
        show _ = true
        simp; omega
      · rw [List.drop_of_length_le (by omega)]
        show _ = false
        simp; omega
    rw [e]
    exact h
  | succ k ih =>
    intro i hk hi1' hi2' prog w A R s h
    obtain ⟨hp, g, d, tk, os⟩ := s; obtain ⟨hl, hb, h⟩ := h
    wp_walk using AutoSeq1.wpAny_loadPart' hl, AutoSeq1.wpAny_loadPart' hb
    have hlt : i < xs.length := by omega
    obtain ⟨t, et⟩ := strs_get hx i hlt
    have hi1 : items[((i : Nat) : Int).toNat]? = some (.str xs[i] t) := by rw [← et]; simp
    rw [List.drop_eq_getElem_cons hlt] at h
    rw [hi1]
    by_cases hlt2 : i < ys.length
    · obtain ⟨u, eu⟩ := strs_get hy i hlt2
      have hi2 : items2[((i : Nat) : Int).toNat]? = some (.str ys[i] u) := by rw [← eu]; simp
      rw [List.drop_eq_getElem_cons hlt2] at h
      rw [hi2]
      have hc : ((i : Int) + 1) = ((i + 1 : Nat) : Int) := by push_cast; rfl
      refine wpAny_bind (wpAny_eqBool_str ?_)
      by_cases he : xs[i] = ys[i]
      · rw [decide_eq_true he]
        rw [show lexL ltC true false (xs[i] :: xs.drop (i + 1)) (ys[i] :: ys.drop (i + 1)) = lexL ltC true false (xs.drop (i + 1)) (ys.drop (i + 1)) from if_pos he] at h
        wp_walk
        rw [hc]
        exact ⟨plainId_quiet MeetsSeq3.plain_eq_loop _, codeAny_builtin MeetsSeq3.entry_eq_loop (by
          rw [Around.under_plainId MeetsSeq3.plain_eq_loop _]
          exact ih (i + 1) (by omega) (by omega) (by omega) prog w A R _ ⟨hl, hb, h⟩)⟩
      · rw [decide_eq_false he]
        rw [show lexL ltC true false (xs[i] :: xs.drop (i + 1)) (ys[i] :: ys.drop (i + 1)) = ltC xs[i] ys[i] from if_neg he] at h
        wp_walk using AutoSeq1.wpAny_loadPart' hl, AutoSeq1.wpAny_loadPart' hb
        rw [hi1, hi2]
        refine wpAny_bind (cmp_lt_str ?_)
        wp_walk
        exact h
    · have hi2 : items2[((i : Nat) : Int).toNat]? = none := by simp; omega
      rw [hi2]
      wp_walk using AutoSeq1.wpAny_loadPart' hl, AutoSeq1.wpAny_loadPart' hb
      show R (.ok (.ret (.bool (decide (items.size < items2.size))))) _
      rw [show ys.drop i = [] from List.drop_of_length_le (by omega)] at h
      have e : decide (items.size < items2.size) = false := by simp; omega
      rw [e]
      exact h
theorem lt_list (l b : Addr) (items items2 : Array Value) (n n2 : Nat) (xs ys : List Str) (hx : StrsAre items.toList xs) (hy : StrsAre items2.toList ys) :
    Meets (Builtin.«list.__lt__» ⟨[.ref l, .ref b], []⟩)
      (fun _ R s => s.heap.get? l = some { cls := .type "list", dict := none, data := .seq items n, slots := #[] } ∧ s.heap.get? b = some { cls := .type "list", dict := none, data := .seq items2 n2, slots := #[] } ∧
        R (.ok (.ret (.bool (lexL ltC true false xs ys)))) s) := by
  intro prog w A R s h
  obtain ⟨hp, g, d, tk, os⟩ := s; obtain ⟨hl, hb, h⟩ := h
  have f3 := AutoSeq1.sub_list_list
  wp_walk using AutoSeq1.wpAny_loadPart' hl, AutoSeq1.wpAny_loadPart' hb
  exact ⟨plainId_quiet MeetsSeq3.plain_eq_loop _, codeAny_builtin MeetsSeq3.entry_eq_loop (by
    rw [Around.under_plainId MeetsSeq3.plain_eq_loop _]
    exact lt_loop l b items items2 n n2 xs ys hx hy _ 0 rfl (Nat.zero_le _) (Nat.zero_le _) prog w A R _ ⟨hl, hb, h⟩)⟩
section
variable {prog : Program} {w : World} {A : Around} {E : Value → Shared → Prop} {s : Shared}
theorem lt_lists {l b : Addr} {items items2 : Array Value} {n n2 : Nat} {xs ys : List Str} {Q : Value → Shared → Prop} (hu : A.units < cLine) (hx : StrsAre items.toList xs) (hy : StrsAre items2.toList ys)
    (hl : s.heap.get? l = some { cls := .type "list", dict := none, data := .seq items n, slots := #[] }) (hb : s.heap.get? b = some { cls := .type "list", dict := none, data := .seq items2 n2, slots := #[] })
    (h : Q (.bool (lexL ltC true false xs ys)) s) : wpAny (model prog w) A (richCompare .Lt (.ref l) (.ref b)) Q E s := by
  have e1 : s.TypeIs (.ref l) "list" := ⟨_, hl, rfl⟩
  have e2 : s.TypeIs (.ref b) "list" := ⟨_, hb, rfl⟩
  refine wpAny_richCompare_same_or (T := "list") (id := "list.__lt__") e1 e2 F.slot_list_lt ?_ (.inr hu)
  exact call_meets F.slot_list_lt e1 F.entry_list_lt (F.args_list_lt_2 _ _) (lt_list l b items items2 n n2 xs ys hx hy) ⟨hl, hb, fun e => (nomatch e), h⟩
end
section
variable {prog : Program} {w : World} {A : Around} {R : Result → Shared → Prop} {I : Addr} {fp wr : List Addr} {n : Nat} {P : Nat → Value → Prop} {St : Nat → Heap → Prop}
theorem min_loopH (W : Walks prog w A.in1 I fp wr n P St) (bt : Nat → Nat → Bool) (S : Addr) (hSf : S ∉ fp)
    (hcmp : ∀ i j vi vj (s : Shared) (Q : Value → Shared → Prop) (E : Value → Shared → Prop) k, St k s.heap → P i vi → P j vj → Q (.bool (bt i j)) s → wpAny (model prog w) A.in1 (richCompare .Lt vi vj) Q E s) :
    ∀ (k j : Nat) (s : Shared) (vb : Value) (c : Nat), n - (j + 1) = k → j + 1 ≤ n → St (j + 1) s.heap → P (argBest bt j) vb →
    s.heap.get? S = some { cls := .type "list", dict := none, data := .seq #[vb, vb] c, slots := #[] } →
    (∀ v h' tk, P (argBest bt (n - 1)) v → (∀ b o, b ∉ wr → b ≠ S → s.heap.get? b = some o → h'.get? b = some o) → R (.ok (.ret v)) { s with heap := h', toks := tk }) →
    codeAny (model prog w) A (.builtin "min.loop" ⟨[.ref I, .none, .ref S], []⟩) R s := by
  have hSw : S ∉ wr := fun h => hSf (W.sub _ h)
  have hname : (toString "min" ++ toString ".loop" : String) = "min.loop" := by decide
  intro k
  induction k with
  | zero =>
    intro j s vb c hk hj hst hPb hS hR
    have hin : j + 1 = n := by omega
    refine codeAny_builtin F.entry_min_loop ?_
    rw [Around.under_plainId F.plain_min_loop _]
    show wpAny _ A.in1 (seqItems? (.ref S) >>= _) _ _ s
    refine wpAny_bind (wpAny_seqItems hS rfl ?_)
    show wpAny _ A.in1 (tryCatch (pyNext (.ref I)) _ >>= _) _ _ s
    refine wpAny_bind (wpAny_tryCatch (W.done s _ _ (hin ▸ hst) fun h' tk hk' => ?_))
    have hS' := hk' S _ hSw hS
    show wpAny _ A.in1 (updateSeq S (fun _ => #[]) >>= _) _ _ _
    refine wpAny_bind ?_
    refine wpAny_updateSeq hS' rfl (wpAny_bind (wpAny_letGo (wpAny_pure ?_)))
    refine hR vb _ tk (by rw [← hin]; exact hPb) fun b o hbw hbS e => (Heap.get?_update_other _ _ (Ne.symm hbS)).trans (hk' b o hbw e)
  | succ k ih =>
    intro j s vb c hk hj hst hPb hS hR
    have hlt : j + 1 < n := by omega
    refine codeAny_builtin F.entry_min_loop ?_
    rw [Around.under_plainId F.plain_min_loop _]
    show wpAny _ A.in1 (seqItems? (.ref S) >>= _) _ _ s
    refine wpAny_bind (wpAny_seqItems hS rfl ?_)
    show wpAny _ A.in1 (tryCatch (pyNext (.ref I)) _ >>= _) _ _ s
    refine wpAny_bind (wpAny_tryCatch (W.item (j + 1) s _ _ hlt hst fun v h' tk hP hst' hk' => ?_))
    have hS' := hk' S _ hSw hS
    show wpAny _ A.in1 (tryCatch (holding [v, v] (richCompare .Lt v vb >>= _)) _ >>= _) _ _ _
    refine wpAny_bind (wpAny_tryCatch (wpAny_holding (wpAny_bind (hcmp (j + 1) (argBest bt j) v vb _ _ _ _ hst' hP hPb ?_))))
    refine wpAny_bind (wpAny_holding (wpAny_truthy_bool ?_))
    refine wpAny_bind (wpAny_letGo (wpAny_pure ?_))
    cases hb : bt (j + 1) (argBest bt j) with
    | true =>
      simp only [if_true]
      refine wpAny_bind ?_
      refine wpAny_updateSeq hS' rfl (wpAny_bind (wpAny_letGo ?_))
      rw [hname]
      refine wpAny_pure ⟨plainId_quiet F.plain_min_loop _, ih (j + 1) _ v _ (by omega) hlt (W.frame _ _ _ hst' fun b hbf o e => ?_) (by simp only [argBest, hb, if_true]; exact hP) (Heap.get?_update_self _ hS' rfl)
        fun v' h'' tk'' hP' hk'' => ?_⟩
      · exact (Heap.get?_update_other _ _ (fun h : S = b => hSf (by rw [h]; exact hbf))).trans e
      · exact hR v' h'' tk'' hP' fun b o hbw hbS e => hk'' b o hbw hbS ((Heap.get?_update_other _ _ (Ne.symm hbS)).trans (hk' b o hbw e))
    | false =>
      simp only [Bool.false_eq_true, if_false]
      refine wpAny_bind (wpAny_letGo ?_)
      rw [hname]
      refine wpAny_pure ⟨plainId_quiet F.plain_min_loop _, ih (j + 1) _ vb c (by omega) hlt hst' (by simp only [argBest, hb, Bool.false_eq_true, if_false]; exact hPb) hS' fun v' h'' tk'' hP' hk'' => ?_⟩
      exact hR v' h'' tk'' hP' fun b o hbw hbS e => hk'' b o hbw hbS (hk' b o hbw e)
theorem min_firstH (W : Walks prog w A.in1 I fp wr n P St) (bt : Nat → Nat → Bool) (S : Addr) (hSf : S ∉ fp)
    (hcmp : ∀ i j vi vj (s : Shared) (Q : Value → Shared → Prop) (E : Value → Shared → Prop) k, St k s.heap → P i vi → P j vj → Q (.bool (bt i j)) s → wpAny (model prog w) A.in1 (richCompare .Lt vi vj) Q E s) (hn : 0 < n) {s : Shared} {c : Nat} (hst : St 0 s.heap)
    (hS : s.heap.get? S = some { cls := .type "list", dict := none, data := .seq #[] c, slots := #[] })
    (hR : ∀ v h' tk, P (argBest bt (n - 1)) v → (∀ b o, b ∉ wr → b ≠ S → s.heap.get? b = some o → h'.get? b = some o) → R (.ok (.ret v)) { s with heap := h', toks := tk }) :
    codeAny (model prog w) A (.builtin "min.loop" ⟨[.ref I, .none, .ref S], []⟩) R s := by
  have hSw : S ∉ wr := fun h => hSf (W.sub _ h)
  have hname : (toString "min" ++ toString ".loop" : String) = "min.loop" := by decide
  refine codeAny_builtin F.entry_min_loop ?_
  rw [Around.under_plainId F.plain_min_loop _]
  show wpAny _ A.in1 (seqItems? (.ref S) >>= _) _ _ s
  refine wpAny_bind (wpAny_seqItems hS rfl ?_)
  show wpAny _ A.in1 (tryCatch (pyNext (.ref I)) _ >>= _) _ _ s
  refine wpAny_bind (wpAny_tryCatch (W.item 0 s _ _ hn hst fun v h' tk hP hst' hk' => ?_))
  have hS' := hk' S _ hSw hS
  show wpAny _ A.in1 (updateSeq S (fun _ => #[v, v]) >>= _) _ _ _
  refine wpAny_bind ?_
  refine wpAny_updateSeq hS' rfl ?_
  rw [hname]
  refine wpAny_pure ⟨plainId_quiet F.plain_min_loop _, min_loopH W bt S hSf hcmp _ 0 _ v _ rfl hn (W.frame _ _ _ hst' fun b hbf o e => ?_) hP (Heap.get?_update_self _ hS' rfl) fun v' h'' tk'' hP' hk'' => ?_⟩
  · exact (Heap.get?_update_other _ _ (fun h : S = b => hSf (by rw [h]; exact hbf))).trans e
  · exact hR v' h'' tk'' hP' fun b o hbw hbS e => hk'' b o hbw hbS ((Heap.get?_update_other _ _ (Ne.symm hbS)).trans (hk' b o hbw e))
end
section
variable {prog : Program} {w : World} {A : Around} {E : Value → Shared → Prop} {s : Shared}
/-- min of a list of lists of texts -/
theorem call_min_lists {l : Addr} {vs : List Value} {xss : List (List Str)} {Q : Value → Shared → Prop} (hh : A.handled = none) (hu : A.in1.units < cLine) (hl : s.heap.IsList l vs.toArray) (hne : 0 < xss.length) (hlen : vs.length = xss.length)
    (hrow : ∀ i v, vs[i]? = some v → ∃ r it n, v = .ref r ∧ s.heap.get? r = some { cls := .type "list", dict := none, data := .seq it n, slots := #[] } ∧ StrsAre it.toList (xss.getD i []))
    (h : ∀ v h' tk, vs[argBest (fun i j => lexL ltC true false (xss.getD i []) (xss.getD j [])) (xss.length - 1)]? = some v → (∀ b o, s.heap.get? b = some o → h'.get? b = some o) → Q v { s with heap := h', toks := tk }) :
    wpAny (model prog w) A (call (.builtin "min") [.ref l]) Q E s := by
  have hname : (toString "min" ++ toString ".loop" : String) = "min.loop" := by decide
  have hlt : l < s.heap.objs.size := by obtain ⟨o, e, _⟩ := hl; exact Heap.lt_size e
  refine call_function_tree F.kind_min F.plain_min F.entry_min (F.args_min1 _) ?_
  show wpAny _ A.in1 (Builtin.Builtins.bindParams "min" ["key", "default"] 0 ⟨[], []⟩ >>= _) _ _ s
  refine wpAny_bind (wpAny_of_eq (show Builtin.Builtins.bindParams "min" ["key", "default"] 0 ⟨[], []⟩ = pure [none, none] from rfl) ?_)
  refine wpAny_bind (wpAny_pure ?_)
  refine wpAny_bind (wpAny_pyIter_list hl ?_)
  refine wpAny_bind (wpAny_newObj_type ?_)
  rw [hname]
  have hneI : l ≠ s.heap.objs.size := Nat.ne_of_lt hlt
  have W0 := Walks.list (prog := prog) (w := w) (A := A.in1) hh s.heap.objs.size l hneI vs.toArray
  let G : Heap → Prop := fun h => ∀ b o, b < s.heap.objs.size → s.heap.get? b = some o → h.get? b = some o
  have up0 : ∀ b o, s.heap.get? b = some o → (s.heap.push { cls := .type "list_iterator", data := .fields #[.ref l, .int 0 0] }).get? b = some o := fun b o e => Heap.get?_push_of_some _ e
  have W : Walks prog w A.in1 s.heap.objs.size (s.heap.objs.size :: List.range s.heap.objs.size) [s.heap.objs.size] vs.toArray.size (fun i v => vs.toArray[i]? = some v) (fun i h => (h.IsListIter s.heap.objs.size l i ∧ h.IsList l vs.toArray) ∧ G h) :=
    { sub := fun b hb => by rw [List.mem_singleton.mp hb]; exact List.mem_cons_self
      frame := fun i h h' st hk => ⟨W0.frame i h h' st.1 fun b hb o e => hk b (by
          rcases List.mem_cons.mp hb with rfl | hb
          · exact List.mem_cons_self
          · rw [List.mem_singleton.mp hb]; exact List.mem_cons_of_mem _ (List.mem_range.mpr hlt)) o e, fun b o hb e => hk b (List.mem_cons_of_mem _ (List.mem_range.mpr hb)) o (st.2 b o hb e)⟩
      item := fun i s₁ Q E hi st hq => W0.item i s₁ Q E hi st.1 fun v h' tk hP st' hk => hq v h' tk hP ⟨st', fun b o hb e => hk b o (fun q => by rw [List.mem_singleton.mp q] at hb; exact Nat.lt_irrefl _ hb) (st.2 b o hb e)⟩ hk
      done := fun s₁ Q E st hq => W0.done s₁ Q E st.1 hq
      self := fun i s₁ Q E st hq => W0.self i s₁ Q E st.1 hq }
  have sz : (s.heap.push { cls := .type "list_iterator", data := .fields #[.ref l, .int 0 0] }).objs.size = s.heap.objs.size + 1 := Heap.size_push ..
  refine wpAny_pure ⟨plainId_quiet F.plain_min_loop _, min_firstH W (fun i j => lexL ltC true false (xss.getD i []) (xss.getD j [])) (s.heap.push { cls := .type "list_iterator", data := .fields #[.ref l, .int 0 0] }).objs.size (fun hm => ?_) (fun i j vi vj s₁ Q' E' k st hi hj hq => ?_) (by simpa [hlen] using hne)
    ⟨⟨⟨_, Heap.get?_push_of_some _ (Heap.get?_push_size _ rfl), rfl, rfl⟩, hl.at fun o e => Heap.get?_push_of_some _ (up0 _ o e)⟩, fun b o _ e => Heap.get?_push_of_some _ (up0 _ o e)⟩ (Heap.get?_push_size _ rfl) fun v h' tk hP hk => ?_⟩
  · rw [sz] at hm
    rcases List.mem_cons.mp hm with e | hm
    · exact Nat.succ_ne_self _ e
    · exact Nat.not_lt.mpr (Nat.le_succ _) (List.mem_range.mp hm)
  · obtain ⟨r, it, n, rfl, er, hr⟩ := hrow i vi (by simpa using hi)
    obtain ⟨r', it', n', rfl, er', hr'⟩ := hrow j vj (by simpa using hj)
    exact lt_lists hu hr hr' (st.2 _ _ (Heap.lt_size er) er) (st.2 _ _ (Heap.lt_size er') er') hq
  · refine h v h' tk (by simpa [hlen] using hP) fun b o e => hk b o (fun q => ?_) (by rw [sz]; exact Nat.ne_of_lt (Nat.lt_succ_of_lt (Heap.lt_size e))) (Heap.get?_push_of_some _ (up0 _ o e))
    have := Heap.lt_size e
    rw [List.mem_singleton.mp q] at this
    exact Nat.lt_irrefl _ this
end
theorem cmp_gt_str {prog : Program} {w : World} {A : Around} {E : Value → Shared → Prop} {s : Shared} {x y : Str} {t u : Tok} {Q : Value → Shared → Prop} (h : Q (.bool (gtC x y)) s) : wpAny (model prog w) A (richCompare .Gt (.str x t) (.str y u)) Q E s :=
  richCompare_gives (op := .Gt) (typeIs_str s x t) (typeIs_str s y u) F.slot_str_gt F.entry_str_gt (F.args_str_gt_2 _ _) (gives_str_gt x y t u) (fun e => nomatch e) h
theorem gt_loop (l b : Addr) (items items2 : Array Value) (n n2 : Nat) (xs ys : List Str) (hx : StrsAre items.toList xs) (hy : StrsAre items2.toList ys) (k : Nat) :
    ∀ i : Nat, xs.length - i = k → i ≤ xs.length → i ≤ ys.length → Meets (Builtin.«list.__eq__.loop» ⟨[.ref l, .ref b, rawInt i, rawInt 4], []⟩)
      (fun _ R s => s.heap.get? l = some { cls := .type "list", dict := none, data := .seq items n, slots := #[] } ∧ s.heap.get? b = some { cls := .type "list", dict := none, data := .seq items2 n2, slots := #[] } ∧
        R (.ok (.ret (.bool (lexL gtC false true (xs.drop i) (ys.drop i))))) s) := by
  have l1 : items.size = xs.length := by simpa using strsLen hx
  have l2 : items2.size = ys.length := by simpa using strsLen hy
  induction k with
  | zero =>
    intro i hk hi1' hi2' prog w A R s h
    obtain ⟨hp, g, d, tk, os⟩ := s; obtain ⟨hl, hb, h⟩ := h
    wp_walk using AutoSeq1.wpAny_loadPart' hl, AutoSeq1.wpAny_loadPart' hb
    have hi1 : items[((i : Nat) : Int).toNat]? = none := by simp; omega
    have hd : xs.drop i = [] := by simp; omega
    rw [hd] at h
    rw [hi1]
    wp_walk using AutoSeq1.wpAny_loadPart' hl, AutoSeq1.wpAny_loadPart' hb
    show R (.ok (.ret (.bool (decide (items.size > items2.size))))) _
    have e : decide (items.size > items2.size) = lexL gtC false true [] (ys.drop i) := by
      by_cases hlt : i < ys.length
      · rw [List.drop_eq_getElem_cons hlt]
        show _ = false
        simp; omega
      · rw [List.drop_of_length_le (by omega)]
        show _ = false
        simp; omega
    rw [e]
    exact h
  | succ k ih =>
    intro i hk hi1' hi2' prog w A R s h
    obtain ⟨hp, g, d, tk, os⟩ := s; obtain ⟨hl, hb, h⟩ := h
    wp_walk using AutoSeq1.wpAny_loadPart' hl, AutoSeq1.wpAny_loadPart' hb
    have hlt : i < xs.length := by omega
    obtain ⟨t, et⟩ := strs_get hx i hlt
    have hi1 : items[((i : Nat) : Int).toNat]? = some (.str xs[i] t) := by rw [← et]; simp
    rw [List.drop_eq_getElem_cons hlt] at h
    rw [hi1]
    by_cases hlt2 : i < ys.length
    · obtain ⟨u, eu⟩ := strs_get hy i hlt2
      have hi2 : items2[((i : Nat) : Int).toNat]? = some (.str ys[i] u) := by rw [← eu]; simp
      rw [List.drop_eq_getElem_cons hlt2] at h
      rw [hi2]
      have hc : ((i : Int) + 1) = ((i + 1 : Nat) : Int) := by push_cast; rfl
      refine wpAny_bind (wpAny_eqBool_str ?_)
      by_cases he : xs[i] = ys[i]
      · rw [decide_eq_true he]
        rw [show lexL gtC false true (xs[i] :: xs.drop (i + 1)) (ys[i] :: ys.drop (i + 1)) = lexL gtC false true (xs.drop (i + 1)) (ys.drop (i + 1)) from if_pos he] at h
        wp_walk
        rw [hc]
        exact ⟨plainId_quiet MeetsSeq3.plain_eq_loop _, codeAny_builtin MeetsSeq3.entry_eq_loop (by
          rw [Around.under_plainId MeetsSeq3.plain_eq_loop _]
          exact ih (i + 1) (by omega) (by omega) (by omega) prog w A R _ ⟨hl, hb, h⟩)⟩
      · rw [decide_eq_false he]
        rw [show lexL gtC false true (xs[i] :: xs.drop (i + 1)) (ys[i] :: ys.drop (i + 1)) = gtC xs[i] ys[i] from if_neg he] at h
        wp_walk using AutoSeq1.wpAny_loadPart' hl, AutoSeq1.wpAny_loadPart' hb
        rw [hi1, hi2]
        refine wpAny_bind (cmp_gt_str ?_)
        wp_walk
        exact h
    · have hi2 : items2[((i : Nat) : Int).toNat]? = none := by simp; omega
      rw [hi2]
      wp_walk using AutoSeq1.wpAny_loadPart' hl, AutoSeq1.wpAny_loadPart' hb
      show R (.ok (.ret (.bool (decide (items.size > items2.size))))) _
      rw [show ys.drop i = [] from List.drop_of_length_le (by omega)] at h
      have e : decide (items.size > items2.size) = true := by simp; omega
      rw [e]
      exact h
theorem gt_list (l b : Addr) (items items2 : Array Value) (n n2 : Nat) (xs ys : List Str) (hx : StrsAre items.toList xs) (hy : StrsAre items2.toList ys) :
    Meets (Builtin.«list.__gt__» ⟨[.ref l, .ref b], []⟩)
      (fun _ R s => s.heap.get? l = some { cls := .type "list", dict := none, data := .seq items n, slots := #[] } ∧ s.heap.get? b = some { cls := .type "list", dict := none, data := .seq items2 n2, slots := #[] } ∧
        R (.ok (.ret (.bool (lexL gtC false true xs ys)))) s) := by
  intro prog w A R s h
  obtain ⟨hp, g, d, tk, os⟩ := s; obtain ⟨hl, hb, h⟩ := h
  have f3 := AutoSeq1.sub_list_list
  wp_walk using AutoSeq1.wpAny_loadPart' hl, AutoSeq1.wpAny_loadPart' hb
  exact ⟨plainId_quiet MeetsSeq3.plain_eq_loop _, codeAny_builtin MeetsSeq3.entry_eq_loop (by
    rw [Around.under_plainId MeetsSeq3.plain_eq_loop _]
    exact gt_loop l b items items2 n n2 xs ys hx hy _ 0 rfl (Nat.zero_le _) (Nat.zero_le _) prog w A R _ ⟨hl, hb, h⟩)⟩
section
variable {prog : Program} {w : World} {A : Around} {E : Value → Shared → Prop} {s : Shared}
theorem gt_lists {l b : Addr} {items items2 : Array Value} {n n2 : Nat} {xs ys : List Str} {Q : Value → Shared → Prop} (hu : A.units < cLine) (hx : StrsAre items.toList xs) (hy : StrsAre items2.toList ys)
    (hl : s.heap.get? l = some { cls := .type "list", dict := none, data := .seq items n, slots := #[] }) (hb : s.heap.get? b = some { cls := .type "list", dict := none, data := .seq items2 n2, slots := #[] })
    (h : Q (.bool (lexL gtC false true xs ys)) s) : wpAny (model prog w) A (richCompare .Gt (.ref l) (.ref b)) Q E s := by
  have e1 : s.TypeIs (.ref l) "list" := ⟨_, hl, rfl⟩
  have e2 : s.TypeIs (.ref b) "list" := ⟨_, hb, rfl⟩
  refine wpAny_richCompare_same_or (T := "list") (id := "list.__gt__") e1 e2 F.slot_list_gt ?_ (.inr hu)
  exact call_meets F.slot_list_gt e1 F.entry_list_gt (F.args_list_gt_2 _ _) (gt_list l b items items2 n n2 xs ys hx hy) ⟨hl, hb, fun e => (nomatch e), h⟩
end
section
variable {prog : Program} {w : World} {A : Around} {R : Result → Shared → Prop} {I : Addr} {fp wr : List Addr} {n : Nat} {P : Nat → Value → Prop} {St : Nat → Heap → Prop}
theorem max_loopH (W : Walks prog w A.in1 I fp wr n P St) (bt : Nat → Nat → Bool) (S : Addr) (hSf : S ∉ fp)
    (hcmp : ∀ i j vi vj (s : Shared) (Q : Value → Shared → Prop) (E : Value → Shared → Prop) k, St k s.heap → P i vi → P j vj → Q (.bool (bt i j)) s → wpAny (model prog w) A.in1 (richCompare .Gt vi vj) Q E s) :
    ∀ (k j : Nat) (s : Shared) (vb : Value) (c : Nat), n - (j + 1) = k → j + 1 ≤ n → St (j + 1) s.heap → P (argBest bt j) vb →
    s.heap.get? S = some { cls := .type "list", dict := none, data := .seq #[vb, vb] c, slots := #[] } →
    (∀ v h' tk, P (argBest bt (n - 1)) v → (∀ b o, b ∉ wr → b ≠ S → s.heap.get? b = some o → h'.get? b = some o) → R (.ok (.ret v)) { s with heap := h', toks := tk }) →
    codeAny (model prog w) A (.builtin "max.loop" ⟨[.ref I, .none, .ref S], []⟩) R s := by
  have hSw : S ∉ wr := fun h => hSf (W.sub _ h)
  have hname : (toString "max" ++ toString ".loop" : String) = "max.loop" := by decide
  intro k
  induction k with
  | zero =>
    intro j s vb c hk hj hst hPb hS hR
    have hin : j + 1 = n := by omega
    refine codeAny_builtin F.entry_max_loop ?_
    rw [Around.under_plainId F.plain_max_loop _]
    show wpAny _ A.in1 (seqItems? (.ref S) >>= _) _ _ s
    refine wpAny_bind (wpAny_seqItems hS rfl ?_)
    show wpAny _ A.in1 (tryCatch (pyNext (.ref I)) _ >>= _) _ _ s
    refine wpAny_bind (wpAny_tryCatch (W.done s _ _ (hin ▸ hst) fun h' tk hk' => ?_))
    have hS' := hk' S _ hSw hS
    show wpAny _ A.in1 (updateSeq S (fun _ => #[]) >>= _) _ _ _
    refine wpAny_bind ?_
    refine wpAny_updateSeq hS' rfl (wpAny_bind (wpAny_letGo (wpAny_pure ?_)))
    refine hR vb _ tk (by rw [← hin]; exact hPb) fun b o hbw hbS e => (Heap.get?_update_other _ _ (Ne.symm hbS)).trans (hk' b o hbw e)
  | succ k ih =>
    intro j s vb c hk hj hst hPb hS hR
    have hlt : j + 1 < n := by omega
    refine codeAny_builtin F.entry_max_loop ?_
    rw [Around.under_plainId F.plain_max_loop _]
    show wpAny _ A.in1 (seqItems? (.ref S) >>= _) _ _ s
    refine wpAny_bind (wpAny_seqItems hS rfl ?_)
    show wpAny _ A.in1 (tryCatch (pyNext (.ref I)) _ >>= _) _ _ s
    refine wpAny_bind (wpAny_tryCatch (W.item (j + 1) s _ _ hlt hst fun v h' tk hP hst' hk' => ?_))
    have hS' := hk' S _ hSw hS
    show wpAny _ A.in1 (tryCatch (holding [v, v] (richCompare .Gt v vb >>= _)) _ >>= _) _ _ _
    refine wpAny_bind (wpAny_tryCatch (wpAny_holding (wpAny_bind (hcmp (j + 1) (argBest bt j) v vb _ _ _ _ hst' hP hPb ?_))))
    refine wpAny_bind (wpAny_holding (wpAny_truthy_bool ?_))
    refine wpAny_bind (wpAny_letGo (wpAny_pure ?_))
    cases hb : bt (j + 1) (argBest bt j) with
    | true =>
      simp only [if_true]
      refine wpAny_bind ?_
      refine wpAny_updateSeq hS' rfl (wpAny_bind (wpAny_letGo ?_))
      rw [hname]
      refine wpAny_pure ⟨plainId_quiet F.plain_max_loop _, ih (j + 1) _ v _ (by omega) hlt (W.frame _ _ _ hst' fun b hbf o e => ?_) (by simp only [argBest, hb, if_true]; exact hP) (Heap.get?_update_self _ hS' rfl)
        fun v' h'' tk'' hP' hk'' => ?_⟩
      · exact (Heap.get?_update_other _ _ (fun h : S = b => hSf (by rw [h]; exact hbf))).trans e
      · exact hR v' h'' tk'' hP' fun b o hbw hbS e => hk'' b o hbw hbS ((Heap.get?_update_other _ _ (Ne.symm hbS)).trans (hk' b o hbw e))
    | false =>
      simp only [Bool.false_eq_true, if_false]
      refine wpAny_bind (wpAny_letGo ?_)
      rw [hname]
      refine wpAny_pure ⟨plainId_quiet F.plain_max_loop _, ih (j + 1) _ vb c (by omega) hlt hst' (by simp only [argBest, hb, Bool.false_eq_true, if_false]; exact hPb) hS' fun v' h'' tk'' hP' hk'' => ?_⟩
      exact hR v' h'' tk'' hP' fun b o hbw hbS e => hk'' b o hbw hbS (hk' b o hbw e)
theorem max_firstH (W : Walks prog w A.in1 I fp wr n P St) (bt : Nat → Nat → Bool) (S : Addr) (hSf : S ∉ fp)
    (hcmp : ∀ i j vi vj (s : Shared) (Q : Value → Shared → Prop) (E : Value → Shared → Prop) k, St k s.heap → P i vi → P j vj → Q (.bool (bt i j)) s → wpAny (model prog w) A.in1 (richCompare .Gt vi vj) Q E s) (hn : 0 < n) {s : Shared} {c : Nat} (hst : St 0 s.heap)
    (hS : s.heap.get? S = some { cls := .type "list", dict := none, data := .seq #[] c, slots := #[] })
    (hR : ∀ v h' tk, P (argBest bt (n - 1)) v → (∀ b o, b ∉ wr → b ≠ S → s.heap.get? b = some o → h'.get? b = some o) → R (.ok (.ret v)) { s with heap := h', toks := tk }) :
    codeAny (model prog w) A (.builtin "max.loop" ⟨[.ref I, .none, .ref S], []⟩) R s := by
  have hSw : S ∉ wr := fun h => hSf (W.sub _ h)
  have hname : (toString "max" ++ toString ".loop" : String) = "max.loop" := by decide
  refine codeAny_builtin F.entry_max_loop ?_
  rw [Around.under_plainId F.plain_max_loop _]
  show wpAny _ A.in1 (seqItems? (.ref S) >>= _) _ _ s
  refine wpAny_bind (wpAny_seqItems hS rfl ?_)
  show wpAny _ A.in1 (tryCatch (pyNext (.ref I)) _ >>= _) _ _ s
  refine wpAny_bind (wpAny_tryCatch (W.item 0 s _ _ hn hst fun v h' tk hP hst' hk' => ?_))
  have hS' := hk' S _ hSw hS
  show wpAny _ A.in1 (updateSeq S (fun _ => #[v, v]) >>= _) _ _ _
  refine wpAny_bind ?_
  refine wpAny_updateSeq hS' rfl ?_
  rw [hname]
  refine wpAny_pure ⟨plainId_quiet F.plain_max_loop _, max_loopH W bt S hSf hcmp _ 0 _ v _ rfl hn (W.frame _ _ _ hst' fun b hbf o e => ?_) hP (Heap.get?_update_self _ hS' rfl) fun v' h'' tk'' hP' hk'' => ?_⟩
  · exact (Heap.get?_update_other _ _ (fun h : S = b => hSf (by rw [h]; exact hbf))).trans e
  · exact hR v' h'' tk'' hP' fun b o hbw hbS e => hk'' b o hbw hbS ((Heap.get?_update_other _ _ (Ne.symm hbS)).trans (hk' b o hbw e))
end
section
variable {prog : Program} {w : World} {A : Around} {E : Value → Shared → Prop} {s : Shared}
/-- max of a list of lists of texts -/
theorem call_max_lists {l : Addr} {vs : List Value} {xss : List (List Str)} {Q : Value → Shared → Prop} (hh : A.handled = none) (hu : A.in1.units < cLine) (hl : s.heap.IsList l vs.toArray) (hne : 0 < xss.length) (hlen : vs.length = xss.length)
    (hrow : ∀ i v, vs[i]? = some v → ∃ r it n, v = .ref r ∧ s.heap.get? r = some { cls := .type "list", dict := none, data := .seq it n, slots := #[] } ∧ StrsAre it.toList (xss.getD i []))
    (h : ∀ v h' tk, vs[argBest (fun i j => lexL gtC false true (xss.getD i []) (xss.getD j [])) (xss.length - 1)]? = some v → (∀ b o, s.heap.get? b = some o → h'.get? b = some o) → Q v { s with heap := h', toks := tk }) :
    wpAny (model prog w) A (call (.builtin "max") [.ref l]) Q E s := by
  have hname : (toString "max" ++ toString ".loop" : String) = "max.loop" := by decide
  have hlt : l < s.heap.objs.size := by obtain ⟨o, e, _⟩ := hl; exact Heap.lt_size e
  refine call_function_tree F.kind_max F.plain_max F.entry_max (F.args_max1 _) ?_
  show wpAny _ A.in1 (Builtin.Builtins.bindParams "max" ["key", "default"] 0 ⟨[], []⟩ >>= _) _ _ s
  refine wpAny_bind (wpAny_of_eq (show Builtin.Builtins.bindParams "max" ["key", "default"] 0 ⟨[], []⟩ = pure [none, none] from rfl) ?_)
  refine wpAny_bind (wpAny_pure ?_)
  refine wpAny_bind (wpAny_pyIter_list hl ?_)
  refine wpAny_bind (wpAny_newObj_type ?_)
  rw [hname]
  have hneI : l ≠ s.heap.objs.size := Nat.ne_of_lt hlt
  have W0 := Walks.list (prog := prog) (w := w) (A := A.in1) hh s.heap.objs.size l hneI vs.toArray
  let G : Heap → Prop := fun h => ∀ b o, b < s.heap.objs.size → s.heap.get? b = some o → h.get? b = some o
  have up0 : ∀ b o, s.heap.get? b = some o → (s.heap.push { cls := .type "list_iterator", data := .fields #[.ref l, .int 0 0] }).get? b = some o := fun b o e => Heap.get?_push_of_some _ e
  have W : Walks prog w A.in1 s.heap.objs.size (s.heap.objs.size :: List.range s.heap.objs.size) [s.heap.objs.size] vs.toArray.size (fun i v => vs.toArray[i]? = some v) (fun i h => (h.IsListIter s.heap.objs.size l i ∧ h.IsList l vs.toArray) ∧ G h) :=
    { sub := fun b hb => by rw [List.mem_singleton.mp hb]; exact List.mem_cons_self
      frame := fun i h h' st hk => ⟨W0.frame i h h' st.1 fun b hb o e => hk b (by
          rcases List.mem_cons.mp hb with rfl | hb
          · exact List.mem_cons_self
          · rw [List.mem_singleton.mp hb]; exact List.mem_cons_of_mem _ (List.mem_range.mpr hlt)) o e, fun b o hb e => hk b (List.mem_cons_of_mem _ (List.mem_range.mpr hb)) o (st.2 b o hb e)⟩
      item := fun i s₁ Q E hi st hq => W0.item i s₁ Q E hi st.1 fun v h' tk hP st' hk => hq v h' tk hP ⟨st', fun b o hb e => hk b o (fun q => by rw [List.mem_singleton.mp q] at hb; exact Nat.lt_irrefl _ hb) (st.2 b o hb e)⟩ hk
      done := fun s₁ Q E st hq => W0.done s₁ Q E st.1 hq
      self := fun i s₁ Q E st hq => W0.self i s₁ Q E st.1 hq }
  have sz : (s.heap.push { cls := .type "list_iterator", data := .fields #[.ref l, .int 0 0] }).objs.size = s.heap.objs.size + 1 := Heap.size_push ..
  refine wpAny_pure ⟨plainId_quiet F.plain_max_loop _, max_firstH W (fun i j => lexL gtC false true (xss.getD i []) (xss.getD j [])) (s.heap.push { cls := .type "list_iterator", data := .fields #[.ref l, .int 0 0] }).objs.size (fun hm => ?_) (fun i j vi vj s₁ Q' E' k st hi hj hq => ?_) (by simpa [hlen] using hne)
    ⟨⟨⟨_, Heap.get?_push_of_some _ (Heap.get?_push_size _ rfl), rfl, rfl⟩, hl.at fun o e => Heap.get?_push_of_some _ (up0 _ o e)⟩, fun b o _ e => Heap.get?_push_of_some _ (up0 _ o e)⟩ (Heap.get?_push_size _ rfl) fun v h' tk hP hk => ?_⟩
  · rw [sz] at hm
    rcases List.mem_cons.mp hm with e | hm
    · exact Nat.succ_ne_self _ e
    · exact Nat.not_lt.mpr (Nat.le_succ _) (List.mem_range.mp hm)
  · obtain ⟨r, it, n, rfl, er, hr⟩ := hrow i vi (by simpa using hi)
    obtain ⟨r', it', n', rfl, er', hr'⟩ := hrow j vj (by simpa using hj)
    exact gt_lists hu hr hr' (st.2 _ _ (Heap.lt_size er) er) (st.2 _ _ (Heap.lt_size er') er') hq
  · refine h v h' tk (by simpa [hlen] using hP) fun b o e => hk b o (fun q => ?_) (by rw [sz]; exact Nat.ne_of_lt (Nat.lt_succ_of_lt (Heap.lt_size e))) (Heap.get?_push_of_some _ (up0 _ o e))
    have := Heap.lt_size e
    rw [List.mem_singleton.mp q] at this
    exact Nat.lt_irrefl _ this
end
end Mine
end
section
open PySem PySem.Calls PySem.Spec PySem.W PyProof.Rows
set_option maxRecDepth 100000
set_option maxHeartbeats 8000000
set_option hygiene false
namespace Mine
/-- the end of one turn of a comprehension: fix, what must stand as it did -/
noncomputable def XEnd (h₀ : Heap) (L : Addr) (m : Str → Option Value) (s₁ : Shared) (fix : List (Addr × Obj)) (S T : List (Addr × Obj) → Prop) (s₂ : Shared) : Prop :=
  ∃ h' tk news', s₂ = { s₁ with heap := h', toks := tk } ∧ Fr h₀ L h' m ∧ News h₀ L h' (fix ++ news') ∧ (∀ p ∈ news', p.1 ∉ fix.map (·.1)) ∧ S news' ∧ T news'
theorem XEnd.intro {h₀ : Heap} {L : Addr} {m : Str → Option Value} {s₁ : Shared} {fix : List (Addr × Obj)} {S T : List (Addr × Obj) → Prop} {h' : Heap} {tk : Nat} {all : List (Addr × Obj)} (F : Fr h₀ L h' m) (N : News h₀ L h' all) (news' : List (Addr × Obj)) (sub : ∀ p ∈ fix ++ news', p ∈ all)
    (off : ∀ p ∈ news', p.1 ∉ fix.map (·.1)) (hS : S news') (hT : T news') : XEnd h₀ L m s₁ fix S T { s₁ with heap := h', toks := tk } := ⟨h', tk, news', rfl, F, fun p hp => N p (sub p hp), off, hS, hT⟩
section
variable {prog : Program} {w : World} {A : Around} {E : Value → Shared → Prop} {s : Shared} {h₀ : Heap} {L : Addr} {m : Str → Option Value} {env : Env}
theorem compLoop_go {elt target iter : Expr} {ifs : List Expr} {scope : Scope} {pos : Pos} {it acc : Value} {env : Env} {R : Result → Shared → Prop} (I : Nat → Shared → Prop)
    (turn : ∀ n s, I n s → wpAny (model prog w) A (pyNext it) (fun r s₁ => match r with
      | none => R (.ok .next) s₁
      | some v => wpAny (model prog w) A (letOwnedTupleGo target it v) (fun _ s₀ => wpAny (model prog w) A (assign target env v) (fun _ s₂ =>
          wpAny (model prog w) A (forIn ifs true fun c r => if r = true then do let ok ← isTrue c env (eval c env); pure (ForInStep.yield ok) else pure (ForInStep.yield r)) (fun ok s₃ =>
            if ok = true then wpAny (model prog w) A (eval elt env) (fun x s₄ =>
              wpAny (model prog w) A (call (.builtin "list.append") [acc, x]) (fun _ s₅ => ∃ m, m < n ∧ I m s₅) (notedBy (model prog w) A env fun e s' => R (.error e) s') s₄) (notedBy (model prog w) A env fun e s' => R (.error e) s') s₃
            else ∃ m, m < n ∧ I m s₃) (notedBy (model prog w) A env fun e s' => R (.error e) s') s₂) (notedBy (model prog w) A env fun e s' => R (.error e) s') s₀) (notedBy (model prog w) A env fun e s' => R (.error e) s') s₁) (notedBy (model prog w) A env fun e s' => R (.error e) s') s)
    (n : Nat) (h : I n s) : codeAny (model prog w) A (.compLoop (.ListComp elt [⟨target, iter, ifs, 0⟩] scope pos) 0 it acc env) R s := by
  refine codeAny_loop rfl I (fun n s hI => ?_) n h
  show wpAny _ A ((compTurn (.ListComp elt [⟨target, iter, ifs, 0⟩] scope pos) 0 it acc env).onRaise (fun x => do noteFrame x env; theTreesLotGoes x)) _ _ s
  refine wpAny_noted ?_
  rw [compTurn_list]
  refine wpAny_bind (wpAny_standAt (wpAny_bind (wpAny_mono (turn n s hI) (fun r s₁ h₁ => ?_) fun _ _ h' => h')))
  cases r with
  | none => exact wpAny_pure h₁
  | some v =>
    refine wpAny_bind (wpAny_mono h₁ (fun _ s₀ h₀' => ?_) fun _ _ h' => h')
    refine wpAny_bind (wpAny_mono h₀' (fun _ s₂ h₂ => ?_) fun _ _ h' => h')
    refine wpAny_bind (wpAny_mono h₂ (fun ok s₃ h₃ => ?_) fun _ _ h' => h')
    cases ok with
    | true =>
      simp only [if_true] at h₃ ⊢
      exact wpAny_bind (wpAny_bind (wpAny_mono h₃ (fun x s₄ h₄ => wpAny_bind (wpAny_mono h₄ (fun _ s₅ h₅ => wpAny_pure (wpAny_pure ⟨rfl, h₅⟩)) fun _ _ h' => h')) fun _ _ h' => h'))
    | false =>
      simp only [Bool.false_eq_true, if_false] at h₃ ⊢
      exact wpAny_bind (wpAny_pure (wpAny_pure ⟨rfl, h₃⟩))

noncomputable abbrev testsOf (ifs : List Expr) (env : Env) : Sem Bool := forIn ifs true fun c r => if r = true then do let ok ← isTrue c env (eval c env); pure (ForInStep.yield ok) else pure (ForInStep.yield r)

theorem compLoopX {target elt iter : Expr} {ifs : List Expr} {scope : Scope} {cl : List (Str × Addr)} {pos : Pos} {I C D : Addr} {fp wr cadd : List Addr} {n : Nat} {P Md : Nat → Value → Heap → Prop} {St : Nat → Heap → Prop} {S : List (Addr × Obj) → Prop} {J : Nat → List Value → List (Addr × Obj) → Prop}
    {X : Nat → Value → (Str → Option Value) → List (Addr × Obj) → Prop} {R : Result → Shared → Prop} {m₀ : Str → Option Value} {cells₀ news : List (Addr × Obj)}
    (W : KTurns prog w A target I fp wr n P Md St) (hsz : n ≤ sizeLine)
    (hIo : ∀ i h, St i h → ∃ own : List (Addr × Obj), own.map (·.1) = wr ∧ ∀ p ∈ own, h.get? p.1 = some p.2)
    (hSt : ∀ i h h' nw, St i h → (∀ b ∈ wr, ∀ o, h.get? b = some o → h'.get? b = some o) → (∀ b o, h₀.get? b = some o → h'.get? b = some o) → News h₀ L h' nw → S nw → St i h')
    (hCf : C ∉ fp) (hDf : D ∉ fp) (hcf : ∀ c ∈ cadd, c ∉ fp) (hCD : C ≠ D) (hcC : C ∉ cadd) (hcD : D ∉ cadd) (hCL : C ≠ L) (hDL : D ≠ L) (hcL : L ∉ cadd)
    (hwL : L ∉ wr) (hC₀ : h₀.get? C = none) (hD₀ : h₀.get? D = none) (hc₀ : ∀ c ∈ cadd, h₀.get? c = none) (hw₀ : ∀ b ∈ wr, h₀.get? b = none)
    (hstore : ∀ (i : Nat) (v : Value) (h : Heap) (m₁ : Str → Option Value) (cells₁ : List (Addr × Obj)) (tk : Nat) (Q : Unit → Shared → Prop) (E : Value → Shared → Prop), P i v h → h.Ns C m₁ → (∀ p ∈ cells₁, h.get? p.1 = some p.2 ∧ ∃ v, p.2.data = .cell v) → cells₁.map (·.1) = cadd →
      (∀ (h' : Heap) (tk' : Nat) (m₂ : Str → Option Value) (cells₂ : List (Addr × Obj)), h'.Ns C m₂ → (∀ p ∈ cells₂, h'.get? p.1 = some p.2 ∧ ∃ v, p.2.data = .cell v) → cells₂.map (·.1) = cadd → X i v m₂ cells₂ → (∀ b o, b ≠ C → b ∉ cadd → h.get? b = some o → h'.get? b = some o) → Q () { s with heap := h', toks := tk' }) →
      wpAny (model prog w) A (assign target (compEnvC scope cl C env) v) Q E { s with heap := h, toks := tk })
    (turn : ∀ (i : Nat) (v : Value) (m₂ : Str → Option Value) (own : List (Addr × Obj)) (oC : Obj) (cells : List (Addr × Obj)) (ys : List Value) (news : List (Addr × Obj)) (h : Heap) (tk : Nat) (E' : Value → Shared → Prop), i < n → J i ys news → X i v m₂ cells → LCg.NsObj oC m₂ → own.map (·.1) = wr → cells.map (·.1) = cadd → (∀ p ∈ cells, ∃ v, p.2.data = .cell v) → Fr h₀ L h m → News h₀ L h ((own ++ (C, oC) :: (D, LCg.lst ys) :: cells) ++ news) →
      (∀ p ∈ news, p.1 ∉ (own ++ (C, oC) :: (D, LCg.lst ys) :: cells).map (·.1)) →
      wpAny (model prog w) A (testsOf ifs (compEnvC scope cl C env)) (fun ok s₃ =>
        if ok = true then wpAny (model prog w) A (eval elt (compEnvC scope cl C env)) (fun y s₄ => XEnd h₀ L m { s with heap := h, toks := tk } (own ++ (C, oC) :: (D, LCg.lst ys) :: cells) S (J (i + 1) (ys ++ [y])) s₄) E' s₃
        else XEnd h₀ L m { s with heap := h, toks := tk } (own ++ (C, oC) :: (D, LCg.lst ys) :: cells) S (J (i + 1) ys) s₃) E' { s with heap := h, toks := tk })
    (hst : St 0 s.heap) (F : Fr h₀ L s.heap m) (N : News h₀ L s.heap ((D, LCg.lst []) :: cells₀ ++ news)) (hn : s.heap.Ns C m₀) (hcells : cells₀.map (·.1) = cadd) (hcd : ∀ p ∈ cells₀, ∃ v, p.2.data = .cell v)
    (off : ∀ p ∈ news, p.1 ∉ wr ∧ p.1 ≠ C ∧ p.1 ≠ D ∧ p.1 ∉ cadd) (hS : S news) (h0 : J 0 [] news)
    (done : ∀ h tk ys news m', J n ys news → Fr h₀ L h m → News h₀ L h ((D, LCg.lst ys) :: news) → LCg.Off1 D news → h.Ns C m' → (∀ p ∈ news, p.1 ≠ C) → R (.ok .next) { s with heap := h, toks := tk }) :
    codeAny (model prog w) A (.compLoop (.ListComp elt [⟨target, iter, ifs, 0⟩] scope pos) 0 (.ref I) (.ref D) (compEnvC scope cl C env)) R s := by
  refine compLoop_go
    (fun k s' => ∃ h' tk i ys m' cells news', s' = { s with heap := h', toks := tk } ∧ i ≤ n ∧ k = n + 1 - i ∧ ys.length ≤ i ∧ St i h' ∧ Fr h₀ L h' m ∧ h'.Ns C m' ∧ News h₀ L h' ((D, LCg.lst ys) :: cells ++ news') ∧ cells.map (·.1) = cadd ∧ (∀ p ∈ cells, ∃ v, p.2.data = .cell v) ∧
      (∀ p ∈ news', p.1 ∉ wr ∧ p.1 ≠ C ∧ p.1 ≠ D ∧ p.1 ∉ cadd) ∧ S news' ∧ J i ys news') ?_ (n + 1)
    ⟨s.heap, s.toks, 0, [], _, cells₀, news, rfl, Nat.zero_le _, rfl, Nat.le_refl _, hst, F, hn, N, hcells, hcd, off, hS, h0⟩
  rintro k s' ⟨h', tk, i, ys, m', cells, news', rfl, hi, rfl, hyl, hst', F', hn', N', hcl, hcd', off', hS', hJ⟩
  have hDw : D ∉ wr := fun h => hDf (W.sub _ h)
  have hCw : C ∉ wr := fun h => hCf (W.sub _ h)
  have hcw : ∀ c ∈ cadd, c ∉ wr := fun c hc h => hcf c hc (W.sub _ h)
  have inC : ∀ p ∈ cells, p.1 ∈ cadd := fun p hp => hcl ▸ List.mem_map_of_mem hp
  by_cases hlt : i < n
  · refine W.item i _ _ _ hlt hst' fun v h₁ tk₁ hMd hk₁ => ?_
    refine W.go i v _ _ _ hMd fun h₂ hP hst₂ hk₂ => ?_
    have up2 : ∀ b o, b ∉ wr → h'.get? b = some o → h₂.get? b = some o := fun b o hb e => hk₂ b o hb (hk₁ b o hb e)
    refine hstore i v h₂ m' cells tk₁ _ _ hP (hn'.at' fun o e => up2 _ o hCw e) (fun p hp => ⟨up2 _ _ (hcw _ (inC p hp)) (N' p (List.mem_cons_of_mem _ (List.mem_append_left _ hp))).1, hcd' p hp⟩) hcl fun h₃ tk₃ m₃ cells₃ hn₃ hc₃ hcl₃ hX hk₃ => ?_
    have hst₃ : St (i + 1) h₃ := W.frame _ _ _ hst₂ fun b hb o e => hk₃ b o (fun q => hCf (q ▸ hb)) (fun q => hcf b q hb) e
    have up3 : ∀ b o, b ∉ wr → b ≠ C → b ∉ cadd → h'.get? b = some o → h₃.get? b = some o := fun b o h1 h2 h3 e => hk₃ b o h2 h3 (up2 b o h1 e)
    obtain ⟨own, how, hown⟩ := hIo _ _ hst₃
    obtain ⟨oC, heC, hoC⟩ := LCg.ns_obj hn₃
    have F₃ : Fr h₀ L h₃ m := ⟨F'.ns.at' fun o e => up3 _ o hwL (Ne.symm hCL) hcL e, fun b o e => up3 b o (fun q => by rw [hw₀ b q] at e; cases e) (fun q => by rw [q, hC₀] at e; cases e) (fun q => by rw [hc₀ b q] at e; cases e) (F'.keep b o e), F'.above⟩
    have inC₃ : ∀ p ∈ cells₃, p.1 ∈ cadd := fun p hp => hcl₃ ▸ List.mem_map_of_mem hp
    have inW : ∀ p ∈ own, p.1 ∈ wr := fun p hp => how ▸ List.mem_map_of_mem hp
    have N₃ : News h₀ L h₃ ((own ++ (C, oC) :: (D, LCg.lst ys) :: cells₃) ++ news') := by
      intro p hp
      rcases List.mem_append.mp hp with hp | hp
      · rcases List.mem_append.mp hp with hp | hp
        · exact ⟨hown p hp, fun q => hwL (q ▸ inW p hp), hw₀ _ (inW p hp)⟩
        · rcases List.mem_cons.mp hp with rfl | hp
          · exact ⟨heC, hCL, hC₀⟩
          · rcases List.mem_cons.mp hp with rfl | hp
            · exact ⟨up3 _ _ hDw (Ne.symm hCD) hcD (N' _ List.mem_cons_self).1, hDL, hD₀⟩
            · exact ⟨(hc₃ p hp).1, fun q => hcL (q ▸ inC₃ p hp), hc₀ _ (inC₃ p hp)⟩
      · have z := N' p (List.mem_cons_of_mem _ (List.mem_append_right _ hp))
        have o := off' p hp
        exact ⟨up3 _ _ o.1 o.2.1 o.2.2.2 z.1, z.2⟩
    have offX : ∀ {nw : List (Addr × Obj)}, (∀ p ∈ nw, p.1 ∉ (own ++ (C, oC) :: (D, LCg.lst ys) :: cells₃).map (·.1)) → ∀ p ∈ nw, p.1 ∉ wr ∧ p.1 ≠ C ∧ p.1 ≠ D ∧ p.1 ∉ cadd := by
      intro nw h p hp
      have z := h p hp
      rw [List.map_append, how, List.map_cons, List.map_cons, hcl₃] at z
      simp only [List.mem_append, List.mem_cons, not_or] at z
      exact z
    have turnEnd : ∀ {ys' : List Value} {s₄ : Shared}, ys'.length ≤ i + 1 → XEnd h₀ L m { s with heap := h₃, toks := tk₃ } (own ++ (C, oC) :: (D, LCg.lst ys) :: cells₃) S (J (i + 1) ys') s₄ →
        ∃ h₄ tk₄ news₄, s₄ = { s with heap := h₄, toks := tk₄ } ∧ St (i + 1) h₄ ∧ Fr h₀ L h₄ m ∧ h₄.Ns C m₃ ∧ News h₀ L h₄ ((D, LCg.lst ys) :: cells₃ ++ news₄) ∧ (∀ p ∈ news₄, p.1 ∉ wr ∧ p.1 ≠ C ∧ p.1 ≠ D ∧ p.1 ∉ cadd) ∧ S news₄ ∧ J (i + 1) ys' news₄ := by
      rintro ys' s₄ - ⟨h₄, tk₄, news₄, rfl, F₄, N₄, off₄, hS₄, hJ₄⟩
      refine ⟨h₄, tk₄, news₄, rfl, ?_, F₄, hoC.ns (N₄ (C, oC) (List.mem_append_left _ (List.mem_append_right _ List.mem_cons_self))).1, fun p hp => ?_, offX off₄, hS₄, hJ₄⟩
      · refine hSt _ _ _ _ hst₃ (fun b hb o e => ?_) F₄.keep (fun p hp => N₄ p (List.mem_append_right _ hp)) hS₄
        obtain ⟨p, hp, rfl⟩ := List.mem_map.mp (how.symm ▸ hb)
        have e' := hown p hp
        rw [e] at e'
        cases e'
        exact (N₄ p (List.mem_append_left _ (List.mem_append_left _ hp))).1
      · refine N₄ p ?_
        rcases List.mem_cons.mp hp with rfl | hp
        · exact List.mem_append_left _ (List.mem_append_right _ (List.mem_cons_of_mem _ List.mem_cons_self))
        · rcases List.mem_append.mp hp with hp | hp
          · exact List.mem_append_left _ (List.mem_append_right _ (List.mem_cons_of_mem _ (List.mem_cons_of_mem _ hp)))
          · exact List.mem_append_right _ hp
    refine wpAny_mono (turn i v m₃ own oC cells₃ ys news' h₃ tk₃ _ hlt hJ hX hoC how hcl₃ (fun p hp => (hc₃ p hp).2) F₃ N₃ (fun p hp => ?_)) (fun ok s₄ h₄ => ?_) fun _ _ e => e
    · rw [List.map_append, how, List.map_cons, List.map_cons, hcl₃]
      simp only [List.mem_append, List.mem_cons, not_or]
      exact off' p hp
    cases ok with
    | true =>
      simp only [if_true] at h₄ ⊢
      refine wpAny_mono h₄ (fun y s₅ h₅ => ?_) fun _ _ e => e
      obtain ⟨h₄, tk₄, news₄, rfl, hst₄, F₄, hn₄, N₄, off₄, hS₄, hJ₄⟩ := turnEnd (by rw [List.length_append]; exact Nat.succ_le_succ hyl) h₅
      refine append_at (hsz := by show ys.toArray.size ≤ sizeLine; rw [List.size_toArray]; omega) (N₄ _ List.mem_cons_self).1 fun h₅ hs₅ hD₅ => ?_
      refine ⟨n + 1 - (i + 1), by omega, h₅, tk₄, i + 1, ys ++ [y], m₃, cells₃, news₄, rfl, hlt, rfl, by rw [List.length_append]; exact Nat.succ_le_succ hyl, W.frame _ _ _ hst₄ fun b hb o e => hs₅.extBut b o (fun q => hDf (q ▸ hb)) e, F₄.change hs₅ hDL hD₀,
        hn₄.sameBut hs₅ hCD, fun p hp => ?_, hcl₃, fun p hp => (hc₃ p hp).2, off₄, hS₄, hJ₄⟩
      rcases List.mem_cons.mp hp with rfl | hp'
      · exact ⟨hD₅.trans (congrArg some (LCg.lst_snoc ys y)), hDL, hD₀⟩
      · have z := N₄ p (List.mem_cons_of_mem _ hp')
        refine ⟨hs₅.extBut _ _ ?_ z.1, z.2⟩
        rcases List.mem_append.mp hp' with hp | hp
        · exact fun q => hcD (q ▸ inC₃ p hp)
        · exact (off₄ p hp).2.2.1
    | false =>
      simp only [Bool.false_eq_true, if_false] at h₄ ⊢
      obtain ⟨h₅, tk₄, news₄, rfl, hst₄, F₄, hn₄, N₄, off₄, hS₄, hJ₄⟩ := turnEnd (Nat.le_succ_of_le hyl) h₄
      exact ⟨n + 1 - (i + 1), by omega, h₅, tk₄, i + 1, ys, m₃, cells₃, news₄, rfl, hlt, rfl, Nat.le_succ_of_le hyl, hst₄, F₄, hn₄, N₄, hcl₃, fun p hp => (hc₃ p hp).2, off₄, hS₄, hJ₄⟩
  · obtain rfl : i = n := Nat.le_antisymm hi (Nat.not_lt.mp hlt)
    refine W.done _ _ _ hst' fun h₂ tk₂ hk₂ => ?_
    refine done h₂ tk₂ ys news' m' hJ ⟨F'.ns.at' fun o e => hk₂ _ o hwL e, fun b o e => hk₂ b o (fun q => by rw [hw₀ b q] at e; cases e) (F'.keep b o e), F'.above⟩ (fun p hp => ?_) ?_ (hn'.at' fun o e => hk₂ _ o hCw e) fun p hp => (off' p hp).2.1
    · rcases List.mem_cons.mp hp with rfl | hp
      · have z := N' _ List.mem_cons_self
        exact ⟨hk₂ _ _ hDw z.1, z.2⟩
      · have z := N' p (List.mem_cons_of_mem _ (List.mem_append_right _ hp))
        exact ⟨hk₂ _ _ (off' p hp).1 z.1, z.2⟩
    · have key : ∀ l : List (Addr × Obj), (∀ p ∈ l, p.1 ≠ D) → LCg.Off1 D l := by
        intro l
        induction l with
        | nil => exact fun _ => trivial
        | cons q l ih => exact fun h => ⟨h q (.head _), ih fun x hx => h x (.tail _ hx)⟩
      exact key _ fun p hp => (off' p hp).2.2.1

noncomputable def oneAdd (one : Option Str) (c : Addr) : List Addr := match one with | none => [] | some _ => [c]
noncomputable def oneCl (one : Option Str) (cl : List (Str × Addr)) (c : Addr) : List (Str × Addr) := match one with | none => cl | some x => (x, c) :: cl
noncomputable def onePush (one : Option Str) (h : Heap) : Heap := match one with | none => h | some _ => h.push { cls := .type "cell", data := .cell none }
/-- what stands at a comprehension's iterator -/
structure CompX (prog : Program) (w : World) (A : Around) (h₀ : Heap) (L : Addr) (m : Str → Option Value) (env : Env) (target elt : Expr) (ifs : List Expr) (scope : Scope) (one : Option Str) (cl : List (Str × Addr)) (it : Value) (s₂ : Shared)
    (I : Addr) (fp wr : List Addr) (n : Nat) (P Md : Nat → Value → Heap → Prop) (St : Nat → Heap → Prop) (S : List (Addr × Obj) → Prop) (J : Nat → List Value → List (Addr × Obj) → Prop) (X : Addr → Nat → Value → (Str → Option Value) → List (Addr × Obj) → Prop) (news : List (Addr × Obj)) : Prop where
  hit : it = .ref I
  W : KTurns prog w A target I fp wr n P Md St
  self : ∀ i (s : Shared) (Q : Value → Shared → Prop) (E : Value → Shared → Prop), St i s.heap → Q (.ref I) s → wpAny (model prog w) A (pyIter (.ref I)) Q E s
  hsz : n ≤ sizeLine
  hIo : ∀ i h, St i h → ∃ own : List (Addr × Obj), own.map (·.1) = wr ∧ ∀ p ∈ own, h.get? p.1 = some p.2
  hSt : ∀ i h h' nw, St i h → (∀ b ∈ wr, ∀ o, h.get? b = some o → h'.get? b = some o) → (∀ b o, h₀.get? b = some o → h'.get? b = some o) → News h₀ L h' nw → S nw → St i h'
  hfp : ∀ b ∈ fp, b < s₂.heap.objs.size
  hwL : L ∉ wr
  hw₀ : ∀ b ∈ wr, h₀.get? b = none
  hstore : ∀ (C : Addr) (i : Nat) (v : Value) (h : Heap) (m₁ : Str → Option Value) (cells₁ : List (Addr × Obj)) (tk : Nat) (Q : Unit → Shared → Prop) (E : Value → Shared → Prop), P i v h → h.Ns C m₁ → (∀ p ∈ cells₁, h.get? p.1 = some p.2 ∧ ∃ v, p.2.data = .cell v) → cells₁.map (·.1) = oneAdd one (C + 1) →
      (∀ (h' : Heap) (tk' : Nat) (m₂ : Str → Option Value) (cells₂ : List (Addr × Obj)), h'.Ns C m₂ → (∀ p ∈ cells₂, h'.get? p.1 = some p.2 ∧ ∃ v, p.2.data = .cell v) → cells₂.map (·.1) = oneAdd one (C + 1) → X C i v m₂ cells₂ → (∀ b o, b ≠ C → b ∉ oneAdd one (C + 1) → h.get? b = some o → h'.get? b = some o) → Q () { s₂ with heap := h', toks := tk' }) →
      wpAny (model prog w) A (assign target (compEnvC scope (oneCl one cl (C + 1)) C env) v) Q E { s₂ with heap := h, toks := tk }
  turn : ∀ (C D : Addr) (i : Nat) (v : Value) (m₂ : Str → Option Value) (own : List (Addr × Obj)) (oC : Obj) (cells : List (Addr × Obj)) (ys : List Value) (news : List (Addr × Obj)) (h : Heap) (tk : Nat) (E' : Value → Shared → Prop), i < n → J i ys news → X C i v m₂ cells → LCg.NsObj oC m₂ → own.map (·.1) = wr → cells.map (·.1) = oneAdd one (C + 1) → (∀ p ∈ cells, ∃ v, p.2.data = .cell v) → Fr h₀ L h m → News h₀ L h ((own ++ (C, oC) :: (D, LCg.lst ys) :: cells) ++ news) →
      (∀ p ∈ news, p.1 ∉ (own ++ (C, oC) :: (D, LCg.lst ys) :: cells).map (·.1)) → (own ++ (C, oC) :: (D, LCg.lst ys) :: cells).Pairwise (fun x y => x.1 ≠ y.1) →
      wpAny (model prog w) A (testsOf ifs (compEnvC scope (oneCl one cl (C + 1)) C env)) (fun ok s₃ =>
        if ok = true then wpAny (model prog w) A (eval elt (compEnvC scope (oneCl one cl (C + 1)) C env)) (fun y s₄ => XEnd h₀ L m { s₂ with heap := h, toks := tk } (own ++ (C, oC) :: (D, LCg.lst ys) :: cells) S (J (i + 1) (ys ++ [y])) s₄) E' s₃
        else XEnd h₀ L m { s₂ with heap := h, toks := tk } (own ++ (C, oC) :: (D, LCg.lst ys) :: cells) S (J (i + 1) ys) s₃) E' { s₂ with heap := h, toks := tk }
  wrd : wr.Pairwise (· ≠ ·)
  hst : St 0 s₂.heap
  F : Fr h₀ L s₂.heap m
  N : News h₀ L s₂.heap news
  off : ∀ p ∈ news, p.1 ∉ wr
  hS : S news
  h0 : J 0 [] news

theorem compMakeX {target elt iter : Expr} {ifs : List Expr} {scope : Scope} {one : Option Str} {cl : List (Str × Addr)} {pos : Pos} {it : Value} {s₂ : Shared} {RR : Value → Addr → Result → Shared → Prop}
    {I : Addr} {fp wr : List Addr} {n : Nat} {P Md : Nat → Value → Heap → Prop} {St : Nat → Heap → Prop} {S : List (Addr × Obj) → Prop} {J : Nat → List Value → List (Addr × Obj) → Prop} {X : Addr → Nat → Value → (Str → Option Value) → List (Addr × Obj) → Prop} {news : List (Addr × Obj)}
    (hpc : ∀ h, pushCells h scope.names = onePush one h)
    (hcf : ∀ k, cellsFrom k scope.names cl = oneCl one cl k)
    (c : CompX prog w A h₀ L m env target elt ifs scope one cl it s₂ I fp wr n P Md St S J X news)
    (hRR : ∀ D C h tk m' ys news', J n ys news' → Fr h₀ L h m → News h₀ L h ((D, LCg.lst ys) :: news') → LCg.Off1 D news' → h.Ns C m' → h₀.get? C = none → h₀.get? D = none → C ≠ L → D ≠ L → C ≠ D → (∀ p ∈ news', p.1 ≠ C) → RR (.ref D) C (.ok .next) { s₂ with heap := h, toks := tk }) :
    wpAny (model prog w) A (newList []) (fun acc s₃ => wpAny (model prog w) A (newFunctionEnv scope env.globals cl [] env.qual none .none (some env)) (fun cenv s₄ =>
      codeAny (model prog w) A (.compStart (.ListComp elt [⟨target, iter, ifs, 0⟩] scope pos) 0 it acc { cenv with scope := relabel scope env }) (RR acc cenv.locals) s₄) E s₃) E s₂ := by
  obtain rfl := c.hit
  refine wpAny_newObj_type ?_
  have wl := fun (s : Shared) (Q : List (Str × Addr) → Shared → Prop) (E : Value → Shared → Prop) (f : Str × NameKind → List (Str × Addr) → Sem (ForInStep (List (Str × Addr)))) (hf) => wpAny_layCells (M := model prog w) (A := A) (E := E) f hf scope.names cl s Q
  simp only [newFunctionEnv, Option.isSome_some, if_true]
  refine wpAny_bind (wpAny_alloc ?_)
  refine wpAny_bind (wpAny_layCells _ (fun name kind cells => by cases hkc : kind == NameKind.cell <;> simp [hkc]) _ _ _ _ ?_)
  simp only [List.forIn_nil]
  refine wpAny_bind (wpAny_pure (wpAny_pure ?_))
  rw [hpc, hcf]
  generalize hD : s₂.heap.objs.size = D
  have sz2 : (s₂.heap.push { cls := .type "list", dict := none, data := .seq ([] : List Value).toArray } |>.push { cls := .type "dict", data := .dict #[] }).objs.size = D + 1 + 1 := by rw [Heap.size_push, Heap.size_push, hD]
  have sz1 : (s₂.heap.push { cls := .type "list", dict := none, data := .seq ([] : List Value).toArray }).objs.size = D + 1 := by rw [Heap.size_push, hD]
  dsimp only
  rw [sz2, sz1]
  have fresh : ∀ a, D ≤ a → s₂.heap.get? a = none := fun a ha => by
    cases e : s₂.heap.get? a with
    | none => rfl
    | some o' => exact absurd (Heap.lt_size e) (Nat.not_lt.mpr (hD ▸ ha))
  have fresh₀ : ∀ a, D ≤ a → h₀.get? a = none := fun a ha => by
    cases e : h₀.get? a with
    | none => rfl
    | some o' => have := c.F.keep a o' e; rw [fresh a ha] at this; cases this
  have hL : @LT.lt Nat _ L D := hD ▸ c.F.ns.lt
  have hfp : ∀ b ∈ fp, @LT.lt Nat _ b D := fun b hb => hD ▸ c.hfp b hb
  have hn : ∀ p ∈ news, @LT.lt Nat _ p.1 D := fun p hp => hD ▸ Heap.lt_size (c.N p hp).1
  have key : ∀ (g : Heap) (cells₀ : List (Addr × Obj)), cells₀.map (·.1) = oneAdd one (D + 1 + 1) → (∀ p ∈ cells₀, g.get? p.1 = some p.2 ∧ ∃ v, p.2.data = .cell v) →
      (∀ b o, s₂.heap.get? b = some o → g.get? b = some o) → g.get? D = some (LCg.lst []) → g.Ns (D + 1) (fun _ => none) →
      codeAny (model prog w) A (.compStart (.ListComp elt [⟨target, iter, ifs, 0⟩] scope pos) 0 (.ref I) (.ref D) (compEnvC scope (oneCl one cl (D + 1 + 1)) (D + 1) env)) (RR (.ref D) (D + 1)) { s₂ with heap := g } := by
    intro g cells₀ hc0 hc1 hk hgD hgC
    have hcadd : ∀ x ∈ oneAdd one (D + 1 + 1), @Eq Nat x (D + 1 + 1) := by
      intro x hx
      cases one with
      | none => cases hx
      | some y => simpa [oneAdd] using hx
    have loop : codeAny (model prog w) A (.compLoop (.ListComp elt [⟨target, iter, ifs, 0⟩] scope pos) 0 (.ref I) (.ref D) (compEnvC scope (oneCl one cl (D + 1 + 1)) (D + 1) env)) (RR (.ref D) (D + 1)) { s₂ with heap := g } := by
      refine compLoopX (cadd := oneAdd one (D + 1 + 1)) (X := X (D + 1)) (J := J) (cells₀ := cells₀) (news := news) c.W c.hsz c.hIo c.hSt ?_ ?_ ?_ (Nat.succ_ne_self D) ?_ ?_ (Nat.ne_of_gt (Nat.lt_succ_of_lt hL)) (Nat.ne_of_gt hL) ?_ c.hwL (fresh₀ _ (Nat.le_succ D)) (fresh₀ _ (Nat.le_refl D)) ?_ c.hw₀ (c.hstore (D + 1)) ?_ (c.W.frame _ _ _ c.hst fun b _ o e => hk b o e) (c.F.keeps hk) ?_ hgC hc0 (fun p hp => (hc1 p hp).2) ?_ c.hS c.h0 ?_
      · intro h; have := hfp _ h; omega
      · intro h; have := hfp _ h; omega
      · intro x hx h; have := hfp _ h; have := hcadd x hx; omega
      · intro h; have := hcadd _ h; omega
      · intro h; have := hcadd _ h; omega
      · intro h; have := hcadd _ h; omega
      · intro x hx; rw [hcadd x hx]; exact fresh₀ _ (Nat.le_succ_of_le (Nat.le_succ D))
      · intro i v m₂ own oC cells ys nw h tk E' hi hJ hX hoC how hcl hcd F' N' off'
        refine c.turn (D + 1) D i v m₂ own oC cells ys nw h tk E' hi hJ hX hoC how hcl hcd F' N' off' ?_
        have inW : ∀ p ∈ own, p.1 ∈ wr := fun p hp => how ▸ List.mem_map_of_mem hp
        have inC : ∀ p ∈ cells, p.1 = D + 1 + 1 := fun p hp => hcadd _ (hcl ▸ List.mem_map_of_mem hp)
        rw [List.pairwise_append]
        refine ⟨List.pairwise_map.mp (how ▸ c.wrd), ?_, ?_⟩
        · rw [List.pairwise_cons, List.pairwise_cons]
          refine ⟨?_, ?_, ?_⟩
          · intro p hp
            rcases List.mem_cons.mp hp with rfl | hp
            · exact Nat.succ_ne_self D
            · rw [inC p hp]; exact Nat.ne_of_lt (Nat.lt_succ_self _)
          · intro p hp; rw [inC p hp]; exact Nat.ne_of_lt (Nat.lt_succ_of_lt (Nat.lt_succ_self _))
          · have : cells.map (·.1) = [] ∨ cells.map (·.1) = [D + 1 + 1] := by rw [hcl]; cases one <;> simp [oneAdd]
            rcases this with e | e
            · rw [List.map_eq_nil_iff.mp e]; exact List.Pairwise.nil
            · have hl : cells.length = 1 := by rw [← List.length_map (f := (·.1)), e]; rfl
              obtain ⟨x, rfl⟩ := List.length_eq_one_iff.mp hl
              exact List.pairwise_singleton _ _
        · intro p hp q hq
          have h1 := hfp _ (c.W.sub _ (inW p hp))
          rcases List.mem_cons.mp hq with rfl | hq
          · exact Nat.ne_of_lt (Nat.lt_succ_of_lt h1)
          · rcases List.mem_cons.mp hq with rfl | hq
            · exact Nat.ne_of_lt h1
            · rw [inC q hq]; exact Nat.ne_of_lt (Nat.lt_succ_of_lt (Nat.lt_succ_of_lt h1))
      · intro p hp
        rcases List.mem_append.mp hp with hp | hp
        · rcases List.mem_cons.mp hp with rfl | hp
          · exact ⟨hgD, Nat.ne_of_gt hL, fresh₀ _ (Nat.le_refl _)⟩
          · have e := hcadd _ (hc0 ▸ List.mem_map_of_mem hp)
            exact ⟨(hc1 p hp).1, by rw [e]; exact Nat.ne_of_gt (Nat.lt_succ_of_lt (Nat.lt_succ_of_lt hL)), by rw [e]; exact fresh₀ _ (Nat.le_succ_of_le (Nat.le_succ D))⟩
        · exact ⟨hk _ _ (c.N p hp).1, (c.N p hp).2⟩
      · intro p hp
        have := hn p hp
        refine ⟨c.off p hp, Nat.ne_of_lt (Nat.lt_succ_of_lt this), Nat.ne_of_lt this, fun h => by have := hcadd _ h; omega⟩
      · intro h tk ys nw m' hJ F' N' o1 hns offC
        exact hRR D (D + 1) h tk m' ys nw hJ F' N' o1 hns (fresh₀ _ (Nat.le_succ D)) (fresh₀ _ (Nat.le_refl D)) (Nat.ne_of_gt (Nat.lt_succ_of_lt hL)) (Nat.ne_of_gt hL) (Nat.succ_ne_self D) offC
    exact codeAny_compStart_list loop (c.self 0 _ _ _ (c.W.frame _ _ _ c.hst fun b _ o e => hk b o e) loop)
  have base : ∀ b o, s₂.heap.get? b = some o → (s₂.heap.push { cls := .type "list", dict := none, data := .seq ([] : List Value).toArray } |>.push { cls := .type "dict", data := .dict #[] }).get? b = some o := fun b o e => Heap.get?_push_of_some _ (Heap.get?_push_of_some _ e)
  have bD : (s₂.heap.push { cls := .type "list", dict := none, data := .seq ([] : List Value).toArray } |>.push { cls := .type "dict", data := .dict #[] }).get? D = some (LCg.lst []) := Heap.get?_push_of_some _ (hD ▸ Heap.get?_push_size _ rfl)
  have bC : (s₂.heap.push { cls := .type "list", dict := none, data := .seq ([] : List Value).toArray } |>.push { cls := .type "dict", data := .dict #[] }).Ns (D + 1) (fun _ => none) := sz1 ▸ Heap.Ns.new _ (.type "dict")
  cases one with
  | none => exact key _ [] rfl (fun _ h => nomatch h) base bD bC
  | some x =>
    refine key _ [(D + 1 + 1, { cls := .type "cell", data := .cell none })] rfl (fun p hp => ?_) (fun b o e => Heap.get?_push_of_some _ (base b o e)) (Heap.get?_push_of_some _ bD) (bC.keeps fun b o e => Heap.get?_push_of_some _ e)
    rw [List.mem_singleton.mp hp]
    exact ⟨sz2 ▸ Heap.get?_push_size _ rfl, none, rfl⟩

noncomputable def FinX (h₀ : Heap) (L : Addr) (m : Str → Option Value) (Q : Value → Shared → Prop) (s₂ : Shared) (n : Nat) (J : Nat → List Value → List (Addr × Obj) → Prop) : Prop :=
  ∀ D h tk ys news, J n ys news → Fr h₀ L h m → News h₀ L h ((D, LCg.lst ys) :: news) → LCg.Off1 D news → Q (.ref D) { s₂ with heap := h, toks := tk }
noncomputable def FinY (h₀ : Heap) (L : Addr) (m : Str → Option Value) (y : Str) (Q : Flow → Shared → Prop) (s₂ : Shared) (n : Nat) (J : Nat → List Value → List (Addr × Obj) → Prop) : Prop :=
  ∀ D h tk ys news, J n ys news → Fr h₀ L h (fun z => if z = y then some (.ref D) else m z) → News h₀ L h ((D, LCg.lst ys) :: news) → LCg.Off1 D news → Q .next { s₂ with heap := h, toks := tk }
/-- what stands at a comprehension's iterable -/
noncomputable def CompAt (prog : Program) (w : World) (A : Around) (h₀ : Heap) (L : Addr) (m : Str → Option Value) (env : Env) (target elt : Expr) (ifs : List Expr) (scope : Scope) (one : Option Str) (cl : List (Str × Addr)) (E : Value → Shared → Prop) (Fin : Shared → Nat → (Nat → List Value → List (Addr × Obj) → Prop) → Prop) (xv : Value) (s₁ : Shared) : Prop :=
  wpAny (model prog w) A (pyIter xv) (fun it s₂ => ∃ I fp wr n P Md St S J X news, CompX prog w A h₀ L m env target elt ifs scope one cl it s₂ I fp wr n P Md St S J X news ∧ Fin s₂ n J) E s₁
theorem ListCompX {target elt iter : Expr} {ifs : List Expr} {scope : Scope} (one : Option Str) {cl : List (Str × Addr)} {pos : Pos} {Q : Value → Shared → Prop} (_F : Fr h₀ L s.heap m)
    (hclos : closureFor scope env = pure cl) (hkind : scope.kind = .function) (hnames : ∀ x ∈ scope.names, x.2 = .local → scope.names.lookup x.1 = some .local)
    (hpc : ∀ h, pushCells h scope.names = onePush one h) (hcf : ∀ k, cellsFrom k scope.names cl = oneCl one cl k)
    (h : wpAny (model prog w) A (eval iter env) (CompAt prog w A h₀ L m env target elt ifs scope one cl E (FinX h₀ L m Q)) E s)
    (hs : ∀ x, foldedSetIterable iter env x = pure x := by intro _; rfl) :
    wpAny (model prog w) A (eval (.ListComp elt [⟨target, iter, ifs, 0⟩] scope pos) env) Q E s := by
  rw [eval_ListComp]
  refine wpAny_comprehension_free (use := none) rfl hs hclos hkind hnames (wpAny_mono h (fun xv s₁ h₁ => wpAny_mono h₁ (fun it s₂ h₂ => ?_) fun _ _ e => e) fun _ _ e => e)
  obtain ⟨I, fp, wr, n, P, Md, St, S, J, X, news, c, fin⟩ := h₂
  refine compMakeX hpc hcf c ?_
  intro D C h tk m' ys news' hJ F' N' o1 hn hC₀ hD₀ hCL hDL hCD offC
  refine ⟨m', hn, fun h'' hs'' => fin D h'' tk ys news' hJ (F'.change hs'' hCL hC₀) (fun p hp => ?_) o1⟩
  refine ⟨hs''.extBut _ _ ?_ (N' p hp).1, (N' p hp).2⟩
  rcases List.mem_cons.mp hp with rfl | hp
  · exact Ne.symm hCD
  · exact offC p hp

theorem Assign_ListCompX {target elt iter : Expr} {ifs : List Expr} {scope : Scope} (one : Option Str) {cl : List (Str × Addr)} {y : Str} {pos py spos : Pos} {Q : Flow → Shared → Prop} (_F : Fr h₀ L s.heap m) (hLe : env.locals = L)
    (hsw : swapsWith (.ListComp elt [⟨target, iter, ifs, 0⟩] scope pos) (some (.Name y py)) spos.line env = pure true)
    (hclos : closureFor scope env = pure cl) (hkind : scope.kind = .function) (hnames : ∀ x ∈ scope.names, x.2 = .local → scope.names.lookup x.1 = some .local)
    (hpc : ∀ h, pushCells h scope.names = onePush one h) (hcf : ∀ k, cellsFrom k scope.names cl = oneCl one cl k)
    (hy : env.kindOf y = some .local) (hp : (env.scope.kind == .class || (env.scope.kind == .module && env.locals != env.globals)) = false)
    (h : wpAny (model prog w) A (eval iter env) (CompAt prog w A h₀ L m env target elt ifs scope one cl E (FinY h₀ L m y Q)) E s)
    (hs : ∀ x, foldedSetIterable iter env x = pure x := by intro _; rfl) :
    wpAny (model prog w) A (exec (.Assign [.Name y py] (.ListComp elt [⟨target, iter, ifs, 0⟩] scope pos) spos) env) Q E s := by
  subst hLe
  rw [exec_Assign_Name_used _ _ _ _ hsw]
  refine wpAny_bind (wpAny_standAt (wpAny_bind ?_))
  show wpAny _ A (do let _ ← comprehension (.ListComp elt [⟨target, iter, ifs, 0⟩] scope pos) scope env _ (newList []) false (eval iter env) (some (assign (.Name y py) env))) _ _ s
  refine wpAny_bind (wpAny_mono (wpAny_comprehension_free (use := some (assign (.Name y py) env)) (Q := fun _ s' => Q .next s') rfl hs hclos hkind hnames
    (wpAny_mono h (fun xv s₁ h₁ => wpAny_mono h₁ (fun it s₂ h₂ => ?_) fun _ _ e => e) fun _ _ e => e)) (fun _ s' hq => wpAny_pure (wpAny_pure hq)) fun _ _ e => e)
  obtain ⟨I, fp, wr, n, P, Md, St, S, J, X, news, c, fin⟩ := h₂
  refine compMakeX hpc hcf c ?_
  intro D C h' tk m' ys news' hJ F' N' o1 hn hC₀ hD₀ hCL hDL hCD offC
  show wpAny _ A (assign (.Name y py) env (.ref D)) _ _ _
  refine wpAny_assign_Name (wpAny_storeName_local hy F'.ns (fun h₂ hn₂ hs₂ => ?_) hp)
  have hL₀ : h₀.get? env.locals = none := Heap.get?_none_of_le F'.above
  have F₂ : Fr h₀ env.locals h₂ (fun z => if z = y then some (.ref D) else m z) := ⟨hn₂, fun b o e => hs₂.extBut b o (fun q => by rw [q, hL₀] at e; cases e) (F'.keep b o e), F'.above⟩
  refine ⟨m', hn.sameBut hs₂ hCL, fun h'' hs'' => fin D h'' _ ys news' hJ (F₂.change hs'' hCL hC₀) (fun p hp => ?_) o1⟩
  have z : h₂.get? p.1 = some p.2 := hs₂.extBut _ _ (N' p hp).2.1 (N' p hp).1
  refine ⟨hs''.extBut _ _ ?_ z, (N' p hp).2⟩
  rcases List.mem_cons.mp hp with rfl | hp
  · exact Ne.symm hCD
  · exact offC p hp

/-- target: a cell of the block; source: a range -/
theorem CompAt.cellRange {x : Str} {px : Pos} {elt : Expr} {scope : Scope} {cl : List (Str × Addr)} {s₁ : Shared} {r : Addr} {a b : Int} {t u v : Tok} {n : Nat} {news : List (Addr × Obj)} {J : Nat → List Value → List (Addr × Obj) → Prop} {Fin : Shared → Nat → (Nat → List Value → List (Addr × Obj) → Prop) → Prop}
    (hh : A.handled = none) (F : Fr h₀ L s₁.heap m) (N : News h₀ L s₁.heap news) (hr : IsRange s₁.heap r a b 1 t u v) (hsm : Builtin.Range.small a b 1 = true) (hn : Builtin.Range.rangeSize a b 1 = ((n : Nat) : Int)) (hsz : n ≤ sizeLine)
    (hkind : scope.kind = .function) (hx : ∀ C : Addr, (compEnvC scope ((x, C + 1) :: cl) C env).kindOf x = some .cell)
    (h0 : J 0 [] news)
    (turn : ∀ (C D I : Addr) (i : Nat) (t : Tok) (m₂ : Str → Option Value) (oI oC oc : Obj) (ys : List Value) (nw : List (Addr × Obj)) (h : Heap) (tk : Nat) (E' : Value → Shared → Prop), i < n → J i ys nw → oc.data = .cell (some (.int (a + (i : Int)) t)) → LCg.NsObj oC m₂ → Fr h₀ L h m →
      News h₀ L h ((I, oI) :: (C, oC) :: (D, LCg.lst ys) :: (C + 1, oc) :: nw) → LCg.Off3 I C D nw → LCg.Off1 (C + 1) nw → ((@Ne Nat I C) ∧ (@Ne Nat I D) ∧ (@Ne Nat I (C + 1)) ∧ (@Ne Nat C D) ∧ (@Ne Nat C (C + 1)) ∧ (@Ne Nat D (C + 1))) →
      wpAny (model prog w) A (eval elt (compEnvC scope ((x, C + 1) :: cl) C env)) (fun y s₄ => XEnd h₀ L m { s₁ with heap := h, toks := tk } [(I, oI), (C, oC), (D, LCg.lst ys), (C + 1, oc)] (fun _ => True) (J (i + 1) (ys ++ [y])) s₄) E' { s₁ with heap := h, toks := tk })
    (fin : ∀ g, Fin { s₁ with heap := g } n J) :
    CompAt prog w A h₀ L m env (.Name x px) elt [] scope (some x) cl E Fin (.ref r) s₁ := by
  unfold CompAt
  refine wpAny_pyIter_range hr hsm ?_
  refine ⟨s₁.heap.objs.size, [s₁.heap.objs.size], [s₁.heap.objs.size], n, _, _, _, fun _ => True, J, fun C i v _ cells => ∃ t oc, v = .int (a + (i : Int)) t ∧ cells = [(C + 1, oc)] ∧ oc.data = .cell (some v), news,
    { hit := rfl, W := KTurns.ofWalks (LCg.range_walks hh a n) (fun _ _ _ _ _ _ q => wpAny_pure q), self := (LCg.range_walks hh a n).self, hsz := hsz, hIo := fun i h st => ⟨[(s₁.heap.objs.size, _)], rfl, fun p hp => by rw [List.mem_singleton.mp hp]; exact st⟩,
      hSt := fun i h h' nw st k _ _ _ => k _ (List.mem_singleton.mpr rfl) _ st, hfp := fun b hb => ?_, hwL := ?_, hw₀ := fun b hb => ?_, hstore := ?_, turn := ?_, wrd := List.pairwise_singleton _ _, hst := ?_,
      F := F.keeps fun _ _ e => Heap.get?_push_of_some _ e, N := N.grown fun _ _ e => Heap.get?_push_of_some _ e, off := fun p hp => ?_, hS := trivial, h0 := h0 }, fin _⟩
  · rw [List.mem_singleton.mp hb]
    show s₁.heap.objs.size < (s₁.heap.push _).objs.size
    rw [Heap.size_push]; exact Nat.lt_succ_self _
  · rw [List.mem_singleton]; exact Nat.ne_of_lt F.ns.lt
  · rw [List.mem_singleton.mp hb]; exact next_is_new F
  · rintro C i v h m₁ cells₁ tk Q' E' ⟨t, rfl⟩ hns hc hcl hq
    obtain ⟨oc, rfl⟩ : ∃ oc, cells₁ = [(C + 1, oc)] := by
      have hl : cells₁.length = 1 := by rw [← List.length_map (f := (·.1)), hcl]; rfl
      obtain ⟨⟨c, oc⟩, rfl⟩ := List.length_eq_one_iff.mp hl
      cases hcl
      exact ⟨oc, rfl⟩
    obtain ⟨hco, v₀, hv₀⟩ := hc _ (List.mem_singleton.mpr rfl)
    have hne : C ≠ C + 1 := Nat.ne_of_lt (Nat.lt_succ_self C)
    refine wpAny_assign_Name (wpAny_storeName_cell hkind (hx C) (c := C + 1) (by simp [compEnvC, oneCl]) ⟨oc, hco, hv₀⟩ fun h' hv hs => ?_)
    obtain ⟨o', ho', hd'⟩ := hv
    refine hq h' _ m₁ [(C + 1, o')] (hns.sameBut hs hne) (fun p hp => ?_) rfl ⟨t, o', rfl, rfl, hd'⟩ fun b o _ hb e => hs.extBut b o (fun q => hb (by rw [q]; exact List.mem_singleton.mpr rfl)) e
    rw [List.mem_singleton.mp hp]
    exact ⟨ho', _, hd'⟩
  · rintro C D i v m₂ own oC cells ys nw h tk E' hi hJ ⟨t, oc, rfl, rfl, hoc⟩ hoC how _ _ F' N' off pw
    obtain ⟨oI, rfl⟩ : ∃ oI, own = [(s₁.heap.objs.size, oI)] := by
      have hl : own.length = 1 := by rw [← List.length_map (f := (·.1)), how]; rfl
      obtain ⟨⟨c, oc⟩, rfl⟩ := List.length_eq_one_iff.mp hl
      cases how
      exact ⟨oc, rfl⟩
    refine wpAny_tests_nil ?_
    simp only [if_true]
    simp only [List.cons_append, List.nil_append, List.pairwise_cons, List.mem_cons, List.not_mem_nil, or_false, forall_eq_or_imp, forall_eq, List.map_cons, List.map_nil, not_or] at pw off
    obtain ⟨⟨q1, q2, q3⟩, ⟨q4, q5⟩, q6, -⟩ := pw
    refine turn C D _ i t m₂ oI oC oc ys nw h tk E' hi hJ hoc hoC F' N' (LCg.Off3.of fun p hp => ⟨(off p hp).1, (off p hp).2.1, (off p hp).2.2.1⟩) ?_ ⟨q1, q2, q3, q4, q5, q6⟩
    have key : ∀ l : List (Addr × Obj), (∀ p ∈ l, p.1 ≠ C + 1) → LCg.Off1 (C + 1) l := by
      intro l
      induction l with
      | nil => exact fun _ => trivial
      | cons q l ih => exact fun h => ⟨h q (.head _), ih fun x hx => h x (.tail _ hx)⟩
    exact key _ fun p hp => (off p hp).2.2.2
  · show IsRangeIter _ _ _ _ _; rw [hn]; simpa using Heap.get?_push_size _ rfl
  · rw [List.mem_singleton]; exact Nat.ne_of_lt (Heap.lt_size (N p hp).1)
end
end Mine
end
section
open PySem PySem.Calls PySem.Spec PySem.W PyProof.Rows
set_option maxRecDepth 100000
set_option maxHeartbeats 8000000
namespace Mine
/-- the walk halts here -/
noncomputable def Halt (P : Prop) : Prop := P
theorem Halt.out {P : Prop} (h : Halt P) : P := h
section
variable {prog : Program} {w : World} {A : Around} {E : Value → Shared → Prop} {s : Shared} {env : Env} {h₀ : Heap}

/-- what a turn of a loop leaves -/
noncomputable def TurnEnd (h₀ : Heap) (L I : Addr) (oI : Obj) (J : (Str → Option Value) → List (Addr × Obj) → Prop) (s₁ s₂ : Shared) : Prop :=
  ∃ h' tk' m' news', s₂ = { s₁ with heap := h', toks := tk' } ∧ Fr h₀ L h' m' ∧ News h₀ L h' ((I, oI) :: news') ∧ (∀ p ∈ news', p.1 ≠ I) ∧ J m' news'
noncomputable def TurnPost (h₀ : Heap) (L I : Addr) (oI : Obj) (J : (Str → Option Value) → List (Addr × Obj) → Prop) (Q : Flow → Shared → Prop) (s₁ : Shared) (f : Flow) (s₂ : Shared) : Prop :=
  match f with
  | .next => TurnEnd h₀ L I oI J s₁ s₂
  | .cont => TurnEnd h₀ L I oI J s₁ s₂
  | .brk => Q .next s₂
  | .ret v => Q (.ret v) s₂

theorem turn_next {h' : Heap} {L I : Addr} {oI : Obj} {J : (Str → Option Value) → List (Addr × Obj) → Prop} {Q : Flow → Shared → Prop} {s₁ : Shared} {tk' : Nat} {m' : Str → Option Value} {news' : List (Addr × Obj)}
    (F : Fr h₀ L h' m') (N : News h₀ L h' ((I, oI) :: news')) (off : ∀ p ∈ news', p.1 ≠ I) (hJ : J m' news') : TurnPost h₀ L I oI J Q s₁ .next { s₁ with heap := h', toks := tk' } := ⟨h', tk', m', news', rfl, F, N, off, hJ⟩
theorem turn_cont {h' : Heap} {L I : Addr} {oI : Obj} {J : (Str → Option Value) → List (Addr × Obj) → Prop} {Q : Flow → Shared → Prop} {s₁ : Shared} {tk' : Nat} {m' : Str → Option Value} {news' : List (Addr × Obj)}
    (F : Fr h₀ L h' m') (N : News h₀ L h' ((I, oI) :: news')) (off : ∀ p ∈ news', p.1 ≠ I) (hJ : J m' news') : TurnPost h₀ L I oI J Q s₁ .cont { s₁ with heap := h', toks := tk' } := ⟨h', tk', m', news', rfl, F, N, off, hJ⟩

theorem forR_core {Q : Flow → Shared → Prop} {R : Result → Shared → Prop} {target : Expr} {body orelse : List Stmt} {I : Addr} {fp : List Addr} {n : Nat} {P : Nat → Value → Prop} {St : Nat → Heap → Prop} {m : Str → Option Value} {news : List (Addr × Obj)}
    (W : Walks prog w A I fp [I] n P St) (hgo : ∀ i v (s' : Shared) (Q : Unit → Shared → Prop) (E : Value → Shared → Prop), St (i + 1) s'.heap → Q () s' → wpAny (model prog w) A (letOwnedTupleGo target (.ref I) v) Q E s')
    (hIL : env.locals ≠ I) (hI₀ : h₀.get? I = none) (J : Nat → (Str → Option Value) → List (Addr × Obj) → Prop)
    (hIo : ∀ i h, St i h → ∃ o, h.get? I = some o)
    (hSt : ∀ i h h' o m nw, St i h → h.get? I = some o → h'.get? I = some o → (∀ b o, h₀.get? b = some o → h'.get? b = some o) → News h₀ env.locals h' nw → J i m nw → St i h')
    (hst : St 0 s.heap) (F : Fr h₀ env.locals s.heap m) (N : News h₀ env.locals s.heap news) (off : ∀ p ∈ news, p.1 ≠ I) (h0 : J 0 m news)
    (turn : ∀ i v m₁ news₁ h tk oI, i < n → P i v → J i m₁ news₁ → Fr h₀ env.locals h m₁ → News h₀ env.locals h ((I, oI) :: news₁) → (∀ p ∈ news₁, p.1 ≠ I) →
      wpAny (model prog w) A (assign target env v) (fun _ s₂ => wpAny (model prog w) A (execs body env) (TurnPost h₀ env.locals I oI (J (i + 1)) Q { s with heap := h, toks := tk }) (notedBy (model prog w) A env fun e s' => R (.error e) s') s₂) (notedBy (model prog w) A env fun e s' => R (.error e) s') { s with heap := h, toks := tk })
    (done : ∀ m₁ news₁ h tk, J n m₁ news₁ → Fr h₀ env.locals h m₁ → News h₀ env.locals h news₁ → wpAny (model prog w) A (execs orelse env) Q (notedBy (model prog w) A env fun e s' => R (.error e) s') { s with heap := h, toks := tk })
    (hQ : ∀ f s', Q f s' → R (.ok f) s') :
    codeAny (model prog w) A (.forLoop target (.ref I) body orelse env) R s := by
  have offI : ∀ b o, h₀.get? b = some o → b ≠ I := fun b o e q => by rw [q, hI₀] at e; cases e
  refine codeAny_forLoop_any
    (fun k s' => ∃ h' tk m' news' i, s' = { s with heap := h', toks := tk } ∧ St i h' ∧ Fr h₀ env.locals h' m' ∧ News h₀ env.locals h' news' ∧ (∀ p ∈ news', p.1 ≠ I) ∧ J i m' news' ∧ i ≤ n ∧ k = n + 1 - i) ?_ (n + 1)
    ⟨s.heap, s.toks, m, news, 0, rfl, hst, F, N, off, h0, Nat.zero_le _, rfl⟩
  rintro k s' ⟨h', tk, m', news', i, rfl, hst', F', N', off', hJ, hi, rfl⟩
  have next : ∀ h₁ : Heap, (∀ b o, b ∉ [I] → h'.get? b = some o → h₁.get? b = some o) → Fr h₀ env.locals h₁ m' ∧ News h₀ env.locals h₁ news' := fun h₁ hk₁ =>
    ⟨⟨F'.ns.at' fun o e => hk₁ _ o (by simpa using hIL) e, fun b o e => hk₁ b o (by simpa using offI b o e) (F'.keep b o e), F'.above⟩, fun p hp => ⟨hk₁ _ _ (by simpa using off' p hp) (N' p hp).1, (N' p hp).2⟩⟩
  by_cases hlt : i < n
  · refine W.item i _ _ _ hlt hst' fun v h₁ tk₁ hP hst₁ hk₁ => ?_
    obtain ⟨F₁, N₁⟩ := next h₁ hk₁
    obtain ⟨oI, hoI⟩ := hIo _ _ hst₁
    have N₂ : News h₀ env.locals h₁ ((I, oI) :: news') := fun p hp => by
      rcases List.mem_cons.mp hp with rfl | hp
      · exact ⟨hoI, Ne.symm hIL, hI₀⟩
      · exact N₁ p hp
    refine hgo i v _ _ _ hst₁ (wpAny_mono (turn i v m' news' h₁ tk₁ oI hlt hP hJ F₁ N₂ off') (fun _ s₂ h₂ => wpAny_mono h₂ (fun f s₃ h₃ => ?_) fun _ _ e => e) fun _ _ e => e)
    have fin : TurnEnd h₀ env.locals I oI (J (i + 1)) { s with heap := h₁, toks := tk₁ } s₃ → ∃ m, m < n + 1 - i ∧ ∃ h' tk m' news' i, s₃ = { s with heap := h', toks := tk } ∧ St i h' ∧ Fr h₀ env.locals h' m' ∧ News h₀ env.locals h' news' ∧ (∀ p ∈ news', p.1 ≠ I) ∧ J i m' news' ∧ i ≤ n ∧ m = n + 1 - i := by
      rintro ⟨h₃', tk₃, m₃, news₃, rfl, F₃, N₃, off₃, hJ₃⟩
      have N₃' : News h₀ env.locals h₃' news₃ := fun p hp => N₃ p (.tail _ hp)
      exact ⟨n + 1 - (i + 1), by omega, h₃', tk₃, m₃, news₃, i + 1, rfl, hSt _ _ _ _ _ _ hst₁ hoI (N₃ _ (.head _)).1 F₃.keep N₃' hJ₃, F₃, N₃', off₃, hJ₃, hlt, rfl⟩
    cases f with
    | next => exact fin h₃
    | cont => exact fin h₃
    | brk => exact hQ _ _ h₃
    | ret v => exact hQ _ _ h₃
  · obtain rfl : i = n := by omega
    refine W.done _ _ _ hst' fun h₁ tk₁ hk₁ => ?_
    obtain ⟨F₁, N₁⟩ := next h₁ hk₁
    exact wpAny_mono (done m' news' h₁ tk₁ hJ F₁ N₁) (fun f s₃ h₃ => hQ _ _ h₃) fun _ _ e => e

/-- a while by an invariant of the frame and the ledger; k, a measure -/
noncomputable def WTurnEnd (h₀ : Heap) (L : Addr) (J : Nat → (Str → Option Value) → List (Addr × Obj) → Prop) (k : Nat) (s₁ s₂ : Shared) : Prop :=
  ∃ h' tk' m' news' j, s₂ = { s₁ with heap := h', toks := tk' } ∧ Fr h₀ L h' m' ∧ News h₀ L h' news' ∧ j < k ∧ J j m' news'
noncomputable def WTurnPost (h₀ : Heap) (L : Addr) (J : Nat → (Str → Option Value) → List (Addr × Obj) → Prop) (Q : Flow → Shared → Prop) (k : Nat) (s₁ : Shared) (f : Flow) (s₂ : Shared) : Prop :=
  match f with
  | .next => WTurnEnd h₀ L J k s₁ s₂
  | .cont => WTurnEnd h₀ L J k s₁ s₂
  | .brk => Q .next s₂
  | .ret v => Q (.ret v) s₂
theorem wturn_next {h' : Heap} {L : Addr} {k j : Nat} {J : Nat → (Str → Option Value) → List (Addr × Obj) → Prop} {Q : Flow → Shared → Prop} {s₁ : Shared} {tk' : Nat} {m' : Str → Option Value} {news' : List (Addr × Obj)}
    (F : Fr h₀ L h' m') (N : News h₀ L h' news') (hj : j < k) (hJ : J j m' news') : WTurnPost h₀ L J Q k s₁ .next { s₁ with heap := h', toks := tk' } := ⟨h', tk', m', news', j, rfl, F, N, hj, hJ⟩
theorem wturn_cont {h' : Heap} {L : Addr} {k j : Nat} {J : Nat → (Str → Option Value) → List (Addr × Obj) → Prop} {Q : Flow → Shared → Prop} {s₁ : Shared} {tk' : Nat} {m' : Str → Option Value} {news' : List (Addr × Obj)}
    (F : Fr h₀ L h' m') (N : News h₀ L h' news') (hj : j < k) (hJ : J j m' news') : WTurnPost h₀ L J Q k s₁ .cont { s₁ with heap := h', toks := tk' } := ⟨h', tk', m', news', j, rfl, F, N, hj, hJ⟩
theorem whileR {Q : Flow → Shared → Prop} {test : Expr} {body orelse : List Stmt} {pos : Pos} {m : Str → Option Value} {news : List (Addr × Obj)} (k₀ : Nat) (J : Nat → (Str → Option Value) → List (Addr × Obj) → Prop)
    (F : Fr h₀ env.locals s.heap m) (N : News h₀ env.locals s.heap news) (h0 : J k₀ m news)
    (turn : ∀ k m₁ news₁ h tk, J k m₁ news₁ → Fr h₀ env.locals h m₁ → News h₀ env.locals h news₁ →
      wpAny (model prog w) A (isTrue test env (eval test env)) (fun b s₂ => if b then wpAny (model prog w) A (execs body env) (WTurnPost h₀ env.locals J Q k { s with heap := h, toks := tk }) E s₂
        else wpAny (model prog w) A (execs orelse env) Q E s₂) E { s with heap := h, toks := tk })
    (hE : PassesOwn (model prog w) A env E := by passes_own) : wpAny (model prog w) A (exec (.While test body orelse pos) env) Q E s := by
  refine wpAny_While (codeAny_whileLoop (R := fun r s' => match r with | .ok f => Q f s' | .error e => cameBackBy (model prog w) A env E e s')
    (fun k s' => ∃ h' tk m' news', s' = { s with heap := h', toks := tk } ∧ Fr h₀ env.locals h' m' ∧ News h₀ env.locals h' news' ∧ J k m' news') ?_ k₀ ⟨s.heap, s.toks, m, news, rfl, F, N, h0⟩)
  rintro k s' ⟨h', tk, m', news', rfl, F', N', hJ⟩
  refine wpAny_mono (wpAny_passesOwn hE (turn k m' news' h' tk hJ F' N')) (fun b s₂ h₂ => ?_) fun _ _ e => e
  cases b with
  | false => exact wpAny_mono (wpAny_passesOwn hE h₂) (fun _ _ q => q) fun _ _ e => e
  | true =>
    refine wpAny_mono (wpAny_passesOwn hE h₂) (fun f s₃ h₃ => ?_) fun _ _ e => e
    have fin : WTurnEnd h₀ env.locals J k { s with heap := h', toks := tk } s₃ → ∃ m, m < k ∧ ∃ h' tk m' news', s₃ = { s with heap := h', toks := tk } ∧ Fr h₀ env.locals h' m' ∧ News h₀ env.locals h' news' ∧ J m m' news' := by
      rintro ⟨g₃, tk₃, m₃, news₃, j, rfl, F₃, N₃, hj, hJ₃⟩
      exact ⟨j, hj, g₃, tk₃, m₃, news₃, rfl, F₃, N₃, hJ₃⟩
    cases f with
    | next => exact fin h₃
    | cont => exact fin h₃
    | brk => exact h₃
    | ret v => exact h₃

/-- what stands at a loop's iterable -/
noncomputable def ForAt (prog : Program) (w : World) (A : Around) (h₀ : Heap) (env : Env) (target : Expr) (body orelse : List Stmt) (Q : Flow → Shared → Prop) (E : Value → Shared → Prop) (xv : Value) (s₁ : Shared) : Prop :=
  ∃ (n : Nat) (P : Nat → Value → Prop) (m : Str → Option Value) (news : List (Addr × Obj)) (J : Nat → (Str → Option Value) → List (Addr × Obj) → Prop),
    J 0 m news ∧ Fr h₀ env.locals s₁.heap m ∧ News h₀ env.locals s₁.heap news ∧ A.handled = none ∧
    ((∃ r a b t u v x px, target = .Name x px ∧ xv = .ref r ∧ IsRange s₁.heap r a b 1 t u v ∧ Builtin.Range.small a b 1 = true ∧ Builtin.Range.rangeSize a b 1 = n ∧ P = (fun i v => ∃ t, v = .int (a + (i : Int)) t)) ∨
     (∃ I a c x px, target = .Name x px ∧ xv = .ref I ∧ IsRangeIter s₁.heap I a n c ∧ env.locals ≠ I ∧ h₀.get? I = none ∧ (∀ p ∈ news, p.1 ≠ I) ∧ P = (fun i v => ∃ t, v = .int (a + (i : Int) * c) t)) ∨
     (∃ l its, ((∃ x px, target = .Name x px) ∨ ∃ elts k pos, target = .Tuple elts k pos) ∧ xv = .ref l ∧ its.size = n ∧ P = (fun i v => its[i]? = some v) ∧ s₁.heap.IsList l its ∧ (h₀.IsList l its ∨ ∃ lo k, lo.cls = .type "list" ∧ lo.data = .seq its k ∧ ∀ i m nw, J i m nw → (l, lo) ∈ nw))) ∧
    (∀ i v m₁ news₁ h tk I oI, i < n → P i v → J i m₁ news₁ → Fr h₀ env.locals h m₁ → News h₀ env.locals h ((I, oI) :: news₁) → (∀ p ∈ news₁, p.1 ≠ I) →
      wpAny (model prog w) A (assign target env v) (fun _ s₂ => wpAny (model prog w) A (execs body env) (TurnPost h₀ env.locals I oI (J (i + 1)) Q { s₁ with heap := h, toks := tk }) E s₂) E { s₁ with heap := h, toks := tk }) ∧
    (∀ m₁ news₁ h tk, J n m₁ news₁ → Fr h₀ env.locals h m₁ → News h₀ env.locals h news₁ → wpAny (model prog w) A (execs orelse env) Q E { s₁ with heap := h, toks := tk })

theorem For_R {Q : Flow → Shared → Prop} {target : Expr} {pos : Pos} {iter : Expr} {body orelse : List Stmt} {m : Str → Option Value} (_F : Fr h₀ env.locals s.heap m)
    (h : wpAny (model prog w) A (eval iter env) (ForAt prog w A h₀ env target body orelse Q E) E s)
    (hs : ∀ x, foldedSetIterable iter env x = pure x := by intro _; rfl) (hE : PassesOwn (model prog w) A env E := by passes_own) :
    wpAny (model prog w) A (exec (.For target iter body orelse pos) env) Q E s := by
  refine wpAny_For (wpAny_mono h (fun xv s₁ h₁ => ?_) fun _ _ e => e) hs
  obtain ⟨n, P, m, news, J, h0, F, N, hh, src, turn, done⟩ := h₁
  have turn' : ∀ I (R : Result → Shared → Prop), (R = fun r s' => match r with | .ok f => Q f s' | .error e => cameBackBy (model prog w) A env E e s') → ∀ i v m₁ news₁ h tk oI, i < n → P i v → J i m₁ news₁ → Fr h₀ env.locals h m₁ → News h₀ env.locals h ((I, oI) :: news₁) → (∀ p ∈ news₁, p.1 ≠ I) →
      wpAny (model prog w) A (assign target env v) (fun _ s₂ => wpAny (model prog w) A (execs body env) (TurnPost h₀ env.locals I oI (J (i + 1)) Q { s₁ with heap := h, toks := tk }) (notedBy (model prog w) A env fun e s' => R (.error e) s') s₂) (notedBy (model prog w) A env fun e s' => R (.error e) s') { s₁ with heap := h, toks := tk } := by
    intro I R hR i v m₁ news₁ h tk oI hi hP hJ F' N' off'
    rw [hR]
    exact wpAny_passesOwn hE (wpAny_mono (turn i v m₁ news₁ h tk I oI hi hP hJ F' N' off') (fun _ _ h₂ => wpAny_passesOwn hE h₂) fun _ _ e => e)
  have done' : ∀ (R : Result → Shared → Prop), (R = fun r s' => match r with | .ok f => Q f s' | .error e => cameBackBy (model prog w) A env E e s') → ∀ m₁ news₁ h tk, J n m₁ news₁ → Fr h₀ env.locals h m₁ → News h₀ env.locals h news₁ → wpAny (model prog w) A (execs orelse env) Q (notedBy (model prog w) A env fun e s' => R (.error e) s') { s₁ with heap := h, toks := tk } := by
    intro R hR m₁ news₁ h tk hJ F' N'
    rw [hR]
    exact wpAny_passesOwn hE (done m₁ news₁ h tk hJ F' N')
  rcases src with ⟨r, a, b, t, u, v, x, px, rfl, rfl, hr, hsm, hn, rfl⟩ | ⟨I, a, c, x, px, rfl, rfl, hit, hIL, hI₀, off, rfl⟩ | ⟨l, its, htg, rfl, rfl, rfl, hl, hsrc⟩
  · refine wpAny_pyIter_range hr hsm ?_
    refine forR_core (h₀ := h₀) (n := n) (m := m) (news := news) (LCg.range_walks hh a n) (fun _ _ _ _ _ _ q => wpAny_pure q) (Nat.ne_of_lt F.ns.lt) (next_is_new F) J (fun i h st => ⟨_, st⟩) (fun i h h' o m nw st e e' _ _ _ => ?_) ?_ (F.keeps fun _ _ e => Heap.get?_push_of_some _ e) (N.grown fun _ _ e => Heap.get?_push_of_some _ e)
      (fun p hp => Nat.ne_of_lt (Heap.lt_size (N p hp).1)) h0 (by exact turn' _ _ rfl) (by exact done' _ rfl) (fun _ _ q => q)
    · rw [show h.get? s₁.heap.objs.size = _ from st] at e; rw [← e] at e'; exact e'
    · show IsRangeIter _ _ _ _ _
      rw [hn]
      simpa using Heap.get?_push_size _ rfl
  · have W := Walks.range (prog := prog) (w := w) hh I a c n
    have hit0 : IsRangeIter s₁.heap I (a + (0 : Nat) * c) ((n : Int) - (0 : Nat)) c := by simpa using hit
    refine W.self 0 _ _ _ hit0 ?_
    refine forR_core (h₀ := h₀) (n := n) (m := m) (news := news) W (fun _ _ _ _ _ _ q => wpAny_pure q) hIL hI₀ J (fun i h st => ⟨_, st⟩) (fun i h h' o m nw st e e' _ _ _ => ?_) hit0 F N off h0 (by exact turn' _ _ rfl) (by exact done' _ rfl) (fun _ _ q => q)
    rw [show h.get? I = _ from st] at e; rw [← e] at e'; exact e'
  · obtain ⟨ol, hol, hcl, nl, hdl⟩ := id hl
    have hlt : l < s₁.heap.objs.size := Heap.lt_size hol
    refine wpAny_pyIter_list hl ?_
    refine forR_core (h₀ := h₀) (m := m) (news := news) (Walks.list hh s₁.heap.objs.size l (Nat.ne_of_lt hlt) its) (fun i v s' Q E st q => ?_) (Nat.ne_of_lt F.ns.lt) (next_is_new F) J (fun i h st => by obtain ⟨o, e, _⟩ := st.1; exact ⟨o, e⟩)
      (fun i h h' o m nw st e e' k N' hJ => ⟨?_, ?_⟩) ⟨⟨_, Heap.get?_push_size _ rfl, rfl, rfl⟩, hl.push _⟩ (F.keeps fun _ _ e => Heap.get?_push_of_some _ e) (N.grown fun _ _ e => Heap.get?_push_of_some _ e)
      (fun p hp => Nat.ne_of_lt (Heap.lt_size (N p hp).1)) h0 (by exact turn' _ _ rfl) (by exact done' _ rfl) (fun _ _ q => q)
    · rcases htg with ⟨x, px, rfl⟩ | ⟨elts, k, pos, rfl⟩
      · exact wpAny_pure q
      · cases v with
        | ref T => exact wpAny_letOwnedTupleGo_listiter st.1 q
        | _ => exact wpAny_pure q
    · obtain ⟨o1, e1, r1⟩ := st.1
      rw [e] at e1; cases e1
      exact ⟨o, e', r1⟩
    · rcases hsrc with hb | ⟨lo, k', hc', hd', hm⟩
      · obtain ⟨o1, e1, r1⟩ := hb
        exact ⟨o1, k _ _ e1, r1⟩
      · exact ⟨lo, (N' _ (hm _ _ _ hJ)).1, hc', k', hd'⟩
end

inductive Rels {α : Type} (R : α → Value → Prop) : List α → List Value → Prop
  | nil : Rels R [] []
  | cons {a : α} {v : Value} {as : List α} {vs : List Value} : R a v → Rels R as vs → Rels R (a :: as) (v :: vs)
theorem Rels.append {α : Type} {R : α → Value → Prop} {as bs : List α} {vs ws : List Value} (h : Rels R as vs) (h' : Rels R bs ws) : Rels R (as ++ bs) (vs ++ ws) := by
  induction h with
  | nil => exact h'
  | cons r _ ih => exact .cons r ih
theorem Rels.strs {α : Type} {f : α → Str} {as : List α} {vs : List Value} (h : Rels (fun a y => ∃ t, y = .str (f a) t) as vs) : StrsAre vs (as.map f) := by
  induction h with
  | nil => exact .nil
  | cons r _ ih => obtain ⟨t, rfl⟩ := r; exact .cons _ t ih
theorem Rels.ints {α : Type} {f : α → Int} {as : List α} {vs : List Value} (h : Rels (fun a y => ∃ t, y = .int (f a) t) as vs) : IntsAre vs (as.map f) := by
  induction h with
  | nil => exact .nil
  | cons r _ ih => obtain ⟨t, rfl⟩ := r; exact .cons _ t ih
theorem Rels.length {α : Type} {R : α → Value → Prop} {as : List α} {vs : List Value} (h : Rels R as vs) : vs.length = as.length := by
  induction h with
  | nil => rfl
  | cons _ _ ih => simp [ih]

section
variable {prog : Program} {w : World} {A : Around} {h₀ : Heap} {L : Addr} {m : Str → Option Value} {env : Env} {elt : Expr} {x : Str} {scope : Scope} {cl : List (Str × Addr)} {s : Shared} {S : List (Addr × Obj) → Prop} {P : Nat → Value → Prop} {Fin : List Value → List (Addr × Obj) → Prop} {news : List (Addr × Obj)}
/-- a comprehension whose element is the same kind of thing at every turn and leaves the ledger as it was -/
theorem comp_gen {α : Type} {n : Nat} {xs : List α} (V Rel : α → Value → Prop) (hn : xs.length = n) (hP : ∀ i v, i < n → P i v → ∃ a, xs[i]? = some a ∧ V a v)
    (turn : ∀ a v I oI C oC D m₂ ys h tk (E' : Value → Shared → Prop), a ∈ xs → V a v → LCg.NsObj oC m₂ → m₂ x = some v → Fr h₀ L h m → News h₀ L h ((I, oI) :: (C, oC) :: (D, LCg.lst ys) :: news) → LCg.Off3 I C D news → ((@Ne Nat I C) ∧ (@Ne Nat I D) ∧ (@Ne Nat C D)) →
      wpAny (model prog w) A (eval elt (compEnvC scope cl C env)) (LCg.CompEnd h₀ L m { s with heap := h, toks := tk } I oI C oC D (LCg.lst ys) S (fun y news' => news' = news ∧ Rel a y)) E' { s with heap := h, toks := tk })
    (fin : ∀ ys, Rels Rel xs ys → Fin ys news) : LCg.CompRest prog w A h₀ L m env elt x scope cl s S P Fin n 0 [] news := by
  have key : ∀ (j i : Nat) (ys : List Value), i + j = n → Rels Rel (xs.take i) ys → LCg.CompRest prog w A h₀ L m env elt x scope cl s S P Fin j i ys news := by
    intro j
    induction j with
    | zero =>
      intro i ys hi hy
      rw [List.take_of_length_le (by omega)] at hy
      exact LCg.CompRest.zero (fin ys hy)
    | succ j ih =>
      intro i ys hi hy
      refine LCg.CompRest.succ fun v I oI C oC D m₂ h tk E' hv hC hx F N off ne => ?_
      obtain ⟨a, ha, hav⟩ := hP i v (by omega) hv
      refine wpAny_mono (turn a v I oI C oC D m₂ ys h tk E' (List.mem_of_getElem? ha) hav hC hx F N off ne) (fun y s₂ hq => ?_) fun _ _ e => e
      obtain ⟨h', tk', nw, e, F', N', off', hS, hn', hr⟩ := hq
      rw [hn'] at N' off' hS
      refine ⟨h', tk', news, e, F', N', off', hS, ih (i + 1) _ (by omega) ?_⟩
      rw [List.take_add_one, ha]
      exact hy.append (.cons hr .nil)
  exact key n 0 [] (by omega) .nil
end
end Mine
end
section
open PySem PySem.Calls PySem.Spec PySem.W PyProof.Rows
set_option maxRecDepth 100000
set_option maxHeartbeats 4000000
set_option linter.all false
namespace Mine
/-- an element that leaves the ledger as it was -/
noncomputable def KeptE (h₀ : Heap) (L : Addr) (m : Str → Option Value) (all : List (Addr × Obj)) (R : Value → Prop) (s₁ : Shared) (y : Value) (s₂ : Shared) : Prop := ∃ h' tk, s₂ = { s₁ with heap := h', toks := tk } ∧ Fr h₀ L h' m ∧ News h₀ L h' all ∧ R y
theorem KeptE.intro {h₀ h' : Heap} {L : Addr} {m : Str → Option Value} {all : List (Addr × Obj)} {R : Value → Prop} {s₁ : Shared} {y : Value} {tk : Nat} (F : Fr h₀ L h' m) (N : News h₀ L h' all) (r : R y) : KeptE h₀ L m all R s₁ y { s₁ with heap := h', toks := tk } := ⟨h', tk, rfl, F, N, r⟩
noncomputable def Off4 (E I C D : Addr) (l : List (Addr × Obj)) : Prop := ∀ p ∈ l, (@Ne Nat p.1 E) ∧ (@Ne Nat p.1 I) ∧ (@Ne Nat p.1 C) ∧ (@Ne Nat p.1 D)
section
variable {prog : Program} {w : World} {A : Around} {E : Value → Shared → Prop} {s : Shared} {h₀ : Heap} {L : Addr} {m : Str → Option Value} {env : Env}
theorem enumComp {l : Addr} {lo : Obj} {vs : List Value} {k : Nat} {elt : Expr} {x x₂ : Str} {px px₂ tp : Pos} {tk} {scope : Scope} {cl : List (Str × Addr)} {news : List (Addr × Obj)} {Fin : Shared → Nat → (Nat → List Value → List (Addr × Obj) → Prop) → Prop}
    (hh : A.handled = none) (F : Fr h₀ L s.heap m) (N : News h₀ L s.heap news) (hm : (l, lo) ∈ news) (hc : lo.cls = .type "list") (hd : lo.data = .seq vs.toArray k) (hsz : vs.length ≤ sizeLine)
    (hkind : scope.kind = .function) (hx : scope.names.lookup x = some .local) (hx₂ : scope.names.lookup x₂ = some .local) (hxx : x ≠ x₂) (Rel : Nat → Value → Prop)
    (turn : ∀ (C D I E1 : Addr) (i : Nat) (t : Tok) (v : Value) (m₂ : Str → Option Value) (oE oI oC : Obj) (ys : List Value) (h : Heap) (tk : Nat) (E' : Value → Shared → Prop), i < vs.length → vs[i]? = some v → LCg.NsObj oC m₂ → m₂ x = some (.int (i : Int) t) → m₂ x₂ = some v → Fr h₀ L h m →
      News h₀ L h ((E1, oE) :: (I, oI) :: (C, oC) :: (D, LCg.lst ys) :: news) →
      wpAny (model prog w) A (eval elt (compEnvC scope cl C env)) (KeptE h₀ L m ((E1, oE) :: (I, oI) :: (C, oC) :: (D, LCg.lst ys) :: news) (Rel i) { s with heap := h, toks := tk }) E' { s with heap := h, toks := tk })
    (fin : ∀ s₂, (∃ g, s₂ = { s with heap := g }) → Fin s₂ vs.length (fun i ys nw => nw = news ∧ Rels Rel (List.range i) ys)) :
    wpAny (model prog w) A (call (.type "enumerate") [.ref l]) (CompAt prog w A h₀ L m env (.Tuple [.Name x px, .Name x₂ px₂] tk tp) elt [] scope none cl E Fin) E s := by
  have hax := N _ hm
  have hl : s.heap.IsList l vs.toArray := ⟨lo, hax.1, hc, k, hd⟩
  have hlt : l < s.heap.objs.size := Heap.lt_size hax.1
  have hLs : L < s.heap.objs.size := F.ns.lt
  refine call_enumerate_list hl fun h' hE hI hsz' hk => ?_
  refine wpAny_pyIter_enum hE ?_
  have nE : s.heap.objs.size + 1 ≠ s.heap.objs.size := Nat.succ_ne_self _
  have lE : l ≠ s.heap.objs.size + 1 := Nat.ne_of_lt (Nat.lt_succ_of_lt hlt)
  have lI : l ≠ s.heap.objs.size := Nat.ne_of_lt hlt
  have old : ∀ b o, s.heap.get? b = some o → b ≠ s.heap.objs.size + 1 ∧ b ≠ s.heap.objs.size := fun b o e => ⟨Nat.ne_of_lt (Nat.lt_succ_of_lt (Heap.lt_size e)), Nat.ne_of_lt (Heap.lt_size e)⟩
  have new₀ : ∀ b, s.heap.objs.size ≤ b → h₀.get? b = none := fun b hb => by
    cases q : h₀.get? b with
    | none => rfl
    | some o => exact absurd (Heap.lt_size (F.keep _ _ q)) (Nat.not_lt.mpr hb)
  have W := WalksT.enumerate (prog := prog) (w := w) hh (s.heap.objs.size + 1) s.heap.objs.size l nE lE lI vs.toArray
  rw [List.size_toArray] at W
  refine ⟨s.heap.objs.size + 1, [s.heap.objs.size + 1, s.heap.objs.size, l], [s.heap.objs.size + 1, s.heap.objs.size], vs.length, _, _, _, fun nw => (l, lo) ∈ nw, fun i ys nw => nw = news ∧ Rels Rel (List.range i) ys,
    fun C i v m₂ cells => ∃ t x0, vs[i]? = some x0 ∧ m₂ x = some (.int (i : Int) t) ∧ m₂ x₂ = some x0, news,
    { hit := rfl, W := KTurns.ofWalksU (elts := [.Name x px, .Name x₂ px₂]) (k := tk) (pos := tp) W.toU,
      self := fun i s' Q E st q => W.self i s' Q E st q,
      hsz := hsz, hIo := ?_, hSt := ?_, hfp := ?_, hwL := ?_, hw₀ := ?_, hstore := ?_, turn := ?_, wrd := ?_, hst := ?_, F := F.keeps hk, N := N.grown hk, off := ?_, hS := hm, h0 := ⟨rfl, .nil⟩ }, fin _ ⟨_, rfl⟩⟩
  · rintro i h ⟨⟨old, he⟩, ⟨oi, hoi, _⟩, _⟩
    exact ⟨[(s.heap.objs.size + 1, _), (s.heap.objs.size, oi)], rfl, fun p hp => by
      rcases List.mem_cons.mp hp with rfl | hp
      · exact he
      · rw [List.mem_singleton.mp hp]; exact hoi⟩
  · rintro i h g nw ⟨⟨old, he⟩, ⟨oi, hoi, hr⟩, _⟩ kw _ N' hS
    exact ⟨⟨old, kw _ (by simp) _ he⟩, ⟨oi, kw _ (by simp) _ hoi, hr⟩, ⟨lo, (N' _ hS).1, hc, k, hd⟩⟩
  · intro b hb
    show b < h'.objs.size
    rw [hsz']
    simp only [List.mem_cons, List.not_mem_nil, or_false] at hb
    rcases hb with rfl | rfl | rfl
    · exact Nat.lt_succ_self _
    · exact Nat.lt_succ_of_lt (Nat.lt_succ_self _)
    · exact Nat.lt_succ_of_lt (Nat.lt_succ_of_lt hlt)
  · simp only [List.mem_cons, List.not_mem_nil, or_false, not_or]
    exact ⟨Nat.ne_of_lt (Nat.lt_succ_of_lt hLs), Nat.ne_of_lt hLs⟩
  · intro b hb
    simp only [List.mem_cons, List.not_mem_nil, or_false] at hb
    rcases hb with rfl | rfl
    · exact new₀ _ (Nat.le_succ _)
    · exact new₀ _ (Nat.le_refl _)
  · rintro C i v h m₁ cells₁ tk Q' E' ⟨T, vals, rfl, ⟨t, x0, hx0, rfl⟩, hT⟩ hns hcl hcm hq
    obtain rfl : cells₁ = [] := List.map_eq_nil_iff.mp hcm
    refine assign_Tuple_tuple hh hT rfl rfl fun h₅ he => ?_
    have he' : ∀ b o, h.get? b = some o → h₅.get? b = some o := fun b o e => he b o (Nat.ne_of_lt (Heap.lt_size e)) e
    refine assignInOrder_cons (wpAny_assign_Name (wpAny_storeName_local (lookup_relabel_local hx) (hns.at' fun o e => he' _ o e) (fun h₆ hn₆ hs₆ => ?_) (by simp [compEnvC, relabel, hkind])))
    refine assignInOrder_cons (wpAny_assign_Name (wpAny_storeName_local (lookup_relabel_local hx₂) hn₆ (fun h₃ hn₃ hs₃ => ?_) (by simp [compEnvC, relabel, hkind])))
    refine assignInOrder_nil ?_
    exact hq h₃ _ _ [] hn₃ (fun _ h => nomatch h) rfl ⟨t, x0, by simpa using hx0, by simp [hxx], by simp⟩ fun b o hb _ e => hs₃.extBut b o hb (hs₆.extBut b o hb (he' b o e))
  · rintro C D i v m₂ own oC cells ys nw h tk E' hi ⟨rfl, hJ⟩ ⟨t, x0, hx0, hX1, hX2⟩ hoC how hcm _ F' N' off pw
    obtain rfl : cells = [] := List.map_eq_nil_iff.mp hcm
    obtain ⟨oE, oI, rfl⟩ : ∃ oE oI, own = [(s.heap.objs.size + 1, oE), (s.heap.objs.size, oI)] := by
      have hl : own.length = 2 := by rw [← List.length_map (f := (·.1)), how]; rfl
      obtain ⟨p, q, rfl⟩ : ∃ p q, own = [p, q] := by
        cases own with
        | nil => cases hl
        | cons p r => cases r with
          | nil => cases hl
          | cons q r => cases r with
            | nil => exact ⟨p, q, rfl⟩
            | cons _ _ => cases hl
      have h1 : p.1 = s.heap.objs.size + 1 := (List.cons.inj how).1
      have h2 : q.1 = s.heap.objs.size := (List.cons.inj (List.cons.inj how).2).1
      exact ⟨p.2, q.2, by rw [← h1, ← h2]⟩
    refine wpAny_tests_nil ?_
    simp only [if_true]
    refine wpAny_mono (turn C D s.heap.objs.size (s.heap.objs.size + 1) i t x0 m₂ oE oI oC ys h tk E' hi hx0 hoC hX1 hX2 F' N') (fun y s₄ hy => ?_) fun _ _ e => e
    obtain ⟨h₄, tk₄, rfl, F₄, N₄, r⟩ := hy
    refine ⟨h₄, tk₄, nw, rfl, F₄, N₄, off, hm, rfl, ?_⟩
    rw [List.range_succ]
    exact hJ.append (.cons r .nil)
  · simp [nE]
  · exact ⟨⟨_, hE⟩, hI, hl.at fun o e => hk _ o e⟩
  · intro p hp
    have z := old _ _ (N p hp).1
    simp only [List.mem_cons, List.not_mem_nil, or_false, not_or]
    exact z
end
end Mine
end
section
open PySem PySem.Calls PySem.Spec PySem.W PyProof.Rows
set_option maxRecDepth 100000
set_option maxHeartbeats 4000000
set_option linter.all false
namespace Mine
/-- an element that makes one list of texts -/
noncomputable def ListE (h₀ : Heap) (L : Addr) (m : Str → Option Value) (all : List (Addr × Obj)) (ss : List Str) (s₁ : Shared) (y : Value) (s₂ : Shared) : Prop :=
  ∃ h' tk r it n, s₂ = { s₁ with heap := h', toks := tk } ∧ y = .ref r ∧ Fr h₀ L h' m ∧ News h₀ L h' ((r, W.listOf it n) :: all) ∧ (∀ p ∈ all, (@Ne Nat p.1 r)) ∧ StrsAre it.toList ss
noncomputable def RowsS (news : List (Addr × Obj)) (xss : List (List Str)) (ys : List Value) (nw : List (Addr × Obj)) : Prop :=
  (∀ p ∈ news, p ∈ nw) ∧ ys.length = xss.length ∧ ∀ i v, ys[i]? = some v → ∃ r it n, v = .ref r ∧ (r, W.listOf it n) ∈ nw ∧ StrsAre it.toList (xss.getD i [])
theorem RowsS.nil {news : List (Addr × Obj)} : RowsS news [] [] news := ⟨fun _ h => h, rfl, fun i v h => by simp at h⟩
theorem RowsS.snoc {news nw : List (Addr × Obj)} {xss : List (List Str)} {ys : List Value} {ss : List Str} {r : Addr} {it : Array Value} {n : Nat} (h : RowsS news xss ys nw) (hs : StrsAre it.toList ss) : RowsS news (xss ++ [ss]) (ys ++ [.ref r]) ((r, W.listOf it n) :: nw) := by
  refine ⟨fun p hp => .tail _ (h.1 p hp), by simp [h.2.1], fun i v hv => ?_⟩
  by_cases hi : i < ys.length
  · rw [List.getElem?_append_left hi] at hv
    obtain ⟨r', it', n', e, hm, hs'⟩ := h.2.2 i v hv
    refine ⟨r', it', n', e, .tail _ hm, ?_⟩
    have : (xss ++ [ss]).getD i [] = xss.getD i [] := by
      rw [List.getD_eq_getElem?_getD, List.getD_eq_getElem?_getD, List.getElem?_append_left (by rw [← h.2.1]; exact hi)]
    rw [this]; exact hs'
  · have hlt : i < (ys ++ [Value.ref r]).length := (List.getElem?_eq_some_iff.mp hv).1
    rw [List.length_append, List.length_singleton] at hlt
    obtain rfl : i = ys.length := by omega
    have e : v = .ref r := by simpa using hv.symm
    refine ⟨r, it, n, e, .head _, ?_⟩
    have : (xss ++ [ss]).getD ys.length [] = ss := by rw [h.2.1, List.getD_eq_getElem?_getD]; simp
    rw [this]; exact hs
section
variable {prog : Program} {w : World} {A : Around} {E : Value → Shared → Prop} {s : Shared} {h₀ : Heap} {L : Addr} {m : Str → Option Value} {env : Env}
theorem compRows {elt : Expr} {x : Str} {px : Pos} {scope : Scope} {cl : List (Str × Addr)} {s₂ : Shared} {I : Addr} {fp : List Addr} {n : Nat} {P : Nat → Value → Prop} {St : Nat → Heap → Prop} {S : List (Addr × Obj) → Prop} {news : List (Addr × Obj)} (xss : List (List Str))
    (W : Walks prog w A I fp [I] n P St) (hgo : ∀ i v (s : Shared) (Q : Unit → Shared → Prop) (E : Value → Shared → Prop), St i s.heap → Q () s → wpAny (model prog w) A (letOwnedTupleGo (.Name x px) (.ref I) v) Q E s) (hsz : n ≤ sizeLine) (hxn : xss.length = n)
    (hIo : ∀ i h, St i h → ∃ o, h.get? I = some o) (hSt : ∀ i h h' nw, St i h → (∀ o, h.get? I = some o → h'.get? I = some o) → News h₀ L h' nw → S nw → St i h') (hSs : ∀ nw, (∀ p ∈ news, p ∈ nw) → S nw)
    (hkind : scope.kind = .function) (hx : scope.names.lookup x = some .local) (hst : St 0 s₂.heap) (hfp : ∀ b ∈ fp, b < s₂.heap.objs.size)
    (F : Fr h₀ L s₂.heap m) (N : News h₀ L s₂.heap news) (hIL : L ≠ I) (hI₀ : h₀.get? I = none) (off : ∀ p ∈ news, p.1 ≠ I)
    (turn : ∀ (C D : Addr) (i : Nat) (v : Value) (m₂ : Str → Option Value) (oI oC : Obj) (ys : List Value) (nw : List (Addr × Obj)) (h : Heap) (tk : Nat) (E' : Value → Shared → Prop), i < n → P i v → (∀ p ∈ news, p ∈ nw) → LCg.NsObj oC m₂ → m₂ x = some v → Fr h₀ L h m →
      News h₀ L h ((I, oI) :: (C, oC) :: (D, LCg.lst ys) :: nw) →
      wpAny (model prog w) A (eval elt (compEnvC scope cl C env)) (ListE h₀ L m ((I, oI) :: (C, oC) :: (D, LCg.lst ys) :: nw) (xss.getD i []) { s₂ with heap := h, toks := tk }) E' { s₂ with heap := h, toks := tk }) :
    CompX prog w A h₀ L m env (.Name x px) elt [] scope none cl (.ref I) s₂ I fp [I] n (fun i v _ => P i v) (fun i v h => P i v ∧ St (i + 1) h) St S (fun i ys nw => RowsS news (xss.take i) ys nw) (fun C i v m₂ _ => P i v ∧ m₂ x = some v) news where
  hit := rfl
  W := KTurns.ofWalks W hgo
  self := W.self
  hsz := hsz
  hIo := fun i h st => by obtain ⟨o, e⟩ := hIo i h st; exact ⟨[(I, o)], rfl, fun p hp => by rw [List.mem_singleton.mp hp]; exact e⟩
  hSt := fun i h h' nw st k _ N' hS => hSt i h h' nw st (k I (List.mem_singleton.mpr rfl)) N' hS
  hfp := hfp
  hwL := fun h => hIL (List.mem_singleton.mp h)
  hw₀ := fun b hb => by rw [List.mem_singleton.mp hb]; exact hI₀
  hstore := by
    rintro C i v h m₁ cells₁ tk Q' E' hP hns hc hcl hq
    obtain rfl : cells₁ = [] := List.map_eq_nil_iff.mp hcl
    refine wpAny_assign_Name (wpAny_storeName_local (lookup_relabel_local hx) hns (fun h' hn' hs' => ?_) (by simp [compEnvC, relabel, hkind]))
    exact hq h' _ _ [] hn' (fun _ h => nomatch h) rfl ⟨hP, by simp⟩ fun b o hb _ e => hs'.extBut b o hb e
  turn := by
    rintro C D i v m₂ own oC cells ys nw h tk E' hi hJ ⟨hP, hm₂⟩ hoC how hcm _ F' N' off' pw
    obtain rfl : cells = [] := List.map_eq_nil_iff.mp hcm
    obtain ⟨oI, rfl⟩ : ∃ oI, own = [(I, oI)] := by
      have hl : own.length = 1 := by rw [← List.length_map (f := (·.1)), how]; rfl
      obtain ⟨⟨c, oc⟩, rfl⟩ := List.length_eq_one_iff.mp hl
      cases how
      exact ⟨oc, rfl⟩
    refine wpAny_tests_nil ?_
    simp only [if_true]
    refine wpAny_mono (turn C D i v m₂ oI oC ys nw h tk E' hi hP hJ.1 hoC hm₂ F' N') (fun y s₄ hy => ?_) fun _ _ e => e
    obtain ⟨h₄, tk₄, r, it, k, rfl, rfl, F₄, N₄, ne, hs⟩ := hy
    refine ⟨h₄, tk₄, (r, PySem.W.listOf it k) :: nw, rfl, F₄, fun p hp => N₄ p ?_, fun p hp => ?_, hSs _ fun p hp => .tail _ (hJ.1 p hp), ?_⟩
    · simp only [List.cons_append, List.nil_append, List.mem_cons] at hp ⊢
      rcases hp with h | h | h | h | h <;> simp [h]
    · rcases List.mem_cons.mp hp with rfl | hp
      · intro hm
        obtain ⟨q, hq, e⟩ := List.mem_map.mp hm
        exact ne q (List.mem_append_left nw hq) e
      · exact off' p hp
    · have e : xss.take (i + 1) = xss.take i ++ [xss.getD i []] := by
        rw [List.take_add_one, List.getElem?_eq_getElem (by omega), List.getD_eq_getElem?_getD, List.getElem?_eq_getElem (by omega)]; rfl
      show RowsS news (xss.take (i + 1)) _ _
      rw [e]
      exact hJ.snoc hs
  wrd := List.pairwise_singleton _ _
  hst := hst
  F := F
  N := N
  off := fun p hp h => off p hp (List.mem_singleton.mp h)
  hS := hSs _ fun _ h => h
  h0 := by rw [List.take_zero]; exact RowsS.nil
theorem fresh_at {h : Heap} {a : Addr} (F : Fr h₀ L h m) (ha : @LE.le Nat _ h.objs.size a) : h₀.get? a = none := by
  cases q : h₀.get? a with
  | none => rfl
  | some o => exact absurd (Heap.lt_size (F.keep _ _ q)) (Nat.not_lt.mpr ha)
/-- source: a tuple of the ledger -/
theorem CompAt.tuple {elt : Expr} {x : Str} {px : Pos} {scope : Scope} {cl : List (Str × Addr)} {T : Addr} {oT : Obj} {k : Nat} {vs : List Value} {news : List (Addr × Obj)} {Fin : Shared → Nat → (Nat → List Value → List (Addr × Obj) → Prop) → Prop} (xss : List (List Str))
    (hh : A.handled = none) (F : Fr h₀ L s.heap m) (N : News h₀ L s.heap news) (hm : (T, oT) ∈ news) (hc : oT.cls = .type "tuple") (hd : oT.data = .seq vs.toArray k) (hsz : vs.length ≤ sizeLine) (hxn : xss.length = vs.length)
    (hkind : scope.kind = .function) (hx : scope.names.lookup x = some .local)
    (turn : ∀ (C D I : Addr) (i : Nat) (v : Value) (m₂ : Str → Option Value) (oI oC : Obj) (ys : List Value) (nw : List (Addr × Obj)) (h : Heap) (tk : Nat) (E' : Value → Shared → Prop), vs[i]? = some v → (∀ p ∈ news, p ∈ nw) → LCg.NsObj oC m₂ → m₂ x = some v → Fr h₀ L h m →
      News h₀ L h ((I, oI) :: (C, oC) :: (D, LCg.lst ys) :: nw) →
      wpAny (model prog w) A (eval elt (compEnvC scope cl C env)) (ListE h₀ L m ((I, oI) :: (C, oC) :: (D, LCg.lst ys) :: nw) (xss.getD i []) { s with heap := h, toks := tk }) E' { s with heap := h, toks := tk })
    (fin : ∀ s₂, (∃ g, s₂ = { s with heap := g }) → Fin s₂ vs.length (fun i ys nw => RowsS news (xss.take i) ys nw)) :
    CompAt prog w A h₀ L m env (.Name x px) elt [] scope none cl E Fin (.ref T) s := by
  have ht : s.heap.IsTuple T vs.toArray := ⟨oT, (N _ hm).1, hc, k, hd⟩
  have hlt : T < s.heap.objs.size := Heap.lt_size (N _ hm).1
  refine wpAny_pyIter_tuple ht ?_
  have hne : T ≠ s.heap.objs.size := Nat.ne_of_lt hlt
  have W := Walks.tuple (prog := prog) (w := w) hh s.heap.objs.size T hne vs.toArray
  rw [List.size_toArray] at W
  refine ⟨s.heap.objs.size, _, _, vs.length, _, _, _, fun nw => (T, oT) ∈ nw, _, _, news, compRows xss W (fun i v s' Q' E' st hq => letGo_tupleiter st.1 hq) hsz hxn ?_ ?_ ?_ hkind hx ⟨⟨_, Heap.get?_push_size _ rfl, rfl, rfl⟩, ht.at fun o e => Heap.get?_push_of_some _ e⟩ ?_
    (F.push _) (N.grown fun b o e => Heap.get?_push_of_some _ e) (Nat.ne_of_lt F.ns.lt) (fresh_at F (Nat.le_refl _)) ?_ ?_, fin _ ⟨_, rfl⟩⟩
  · rintro i h ⟨⟨o, e, _⟩, _⟩; exact ⟨o, e⟩
  · rintro i h h' nw ⟨st, _⟩ k1 N' hS
    exact ⟨st.at k1, ⟨oT, (N' _ hS).1, hc, k, hd⟩⟩
  · exact fun nw h => h _ hm
  · intro b hb
    show b < (s.heap.push _).objs.size
    rw [Heap.size_push]
    rcases List.mem_cons.mp hb with rfl | hb
    · exact Nat.lt_succ_self _
    · rw [List.mem_singleton.mp hb]; exact Nat.lt_succ_of_lt hlt
  · exact fun p hp => Nat.ne_of_lt (Heap.lt_size (N p hp).1)
  · intro C D i v m₂ oI oC ys nw h tk E' _ hv
    exact turn C D _ i v m₂ oI oC ys nw h tk E' (by simpa using hv)
/-- source: a list of the ledger -/
theorem CompAt.rows {elt : Expr} {x : Str} {px : Pos} {scope : Scope} {cl : List (Str × Addr)} {T : Addr} {oT : Obj} {k : Nat} {vs : List Value} {news : List (Addr × Obj)} {Fin : Shared → Nat → (Nat → List Value → List (Addr × Obj) → Prop) → Prop} (xss : List (List Str))
    (hh : A.handled = none) (F : Fr h₀ L s.heap m) (N : News h₀ L s.heap news) (hm : (T, oT) ∈ news) (hc : oT.cls = .type "list") (hd : oT.data = .seq vs.toArray k) (hsz : vs.length ≤ sizeLine) (hxn : xss.length = vs.length)
    (hkind : scope.kind = .function) (hx : scope.names.lookup x = some .local)
    (turn : ∀ (C D I : Addr) (i : Nat) (v : Value) (m₂ : Str → Option Value) (oI oC : Obj) (ys : List Value) (nw : List (Addr × Obj)) (h : Heap) (tk : Nat) (E' : Value → Shared → Prop), vs[i]? = some v → (∀ p ∈ news, p ∈ nw) → LCg.NsObj oC m₂ → m₂ x = some v → Fr h₀ L h m →
      News h₀ L h ((I, oI) :: (C, oC) :: (D, LCg.lst ys) :: nw) →
      wpAny (model prog w) A (eval elt (compEnvC scope cl C env)) (ListE h₀ L m ((I, oI) :: (C, oC) :: (D, LCg.lst ys) :: nw) (xss.getD i []) { s with heap := h, toks := tk }) E' { s with heap := h, toks := tk })
    (fin : ∀ s₂, (∃ g, s₂ = { s with heap := g }) → Fin s₂ vs.length (fun i ys nw => RowsS news (xss.take i) ys nw)) :
    CompAt prog w A h₀ L m env (.Name x px) elt [] scope none cl E Fin (.ref T) s := by
  have ht : s.heap.IsList T vs.toArray := ⟨oT, (N _ hm).1, hc, k, hd⟩
  have hlt : T < s.heap.objs.size := Heap.lt_size (N _ hm).1
  refine wpAny_pyIter_list ht ?_
  have hne : T ≠ s.heap.objs.size := Nat.ne_of_lt hlt
  have W := Walks.list (prog := prog) (w := w) hh s.heap.objs.size T hne vs.toArray
  rw [List.size_toArray] at W
  refine ⟨s.heap.objs.size, _, _, vs.length, _, _, _, fun nw => (T, oT) ∈ nw, _, _, news, compRows xss W (fun i v s' Q' E' st hq => wpAny_pure hq) hsz hxn ?_ ?_ ?_ hkind hx ⟨⟨_, Heap.get?_push_size _ rfl, rfl, rfl⟩, ht.at fun o e => Heap.get?_push_of_some _ e⟩ ?_
    (F.push _) (N.grown fun b o e => Heap.get?_push_of_some _ e) (Nat.ne_of_lt F.ns.lt) (fresh_at F (Nat.le_refl _)) ?_ ?_, fin _ ⟨_, rfl⟩⟩
  · rintro i h ⟨⟨o, e, _⟩, _⟩; exact ⟨o, e⟩
  · rintro i h h' nw ⟨st, _⟩ k1 N' hS
    exact ⟨st.at k1, ⟨oT, (N' _ hS).1, hc, k, hd⟩⟩
  · exact fun nw h => h _ hm
  · intro b hb
    show b < (s.heap.push _).objs.size
    rw [Heap.size_push]
    rcases List.mem_cons.mp hb with rfl | hb
    · exact Nat.lt_succ_self _
    · rw [List.mem_singleton.mp hb]; exact Nat.lt_succ_of_lt hlt
  · exact fun p hp => Nat.ne_of_lt (Heap.lt_size (N p hp).1)
  · intro C D i v m₂ oI oC ys nw h tk E' _ hv
    exact turn C D _ i v m₂ oI oC ys nw h tk E' (by simpa using hv)
end
end Mine
end
section
open PySem PySem.Calls PySem.Spec PySem.W PyProof.Rows
set_option maxRecDepth 100000
set_option maxHeartbeats 4000000
set_option linter.all false
namespace Mine
/-- what a turn of an enumeration leaves: a break, or the ledger as it was -/
noncomputable def BrkPost (h₀ : Heap) (L : Addr) (all : List (Addr × Obj)) (Jn : (Str → Option Value) → Prop) (s₁ : Shared) (Q : Flow → Shared → Prop) (f : Flow) (s₃ : Shared) : Prop :=
  match f with
  | .brk => Q .next s₃
  | .next => ∃ h' tk' m', s₃ = { s₁ with heap := h', toks := tk' } ∧ Fr h₀ L h' m' ∧ News h₀ L h' all ∧ Jn m'
  | _ => False
section
variable {prog : Program} {w : World} {A : Around} {E : Value → Shared → Prop} {s : Shared} {env : Env} {h₀ : Heap} {body : List Stmt} {Q : Flow → Shared → Prop}
theorem enumFor {elts : List Expr} {k : Nat} {pos : Pos} {l : Addr} {lo : Obj} {vs : List Value} {n : Nat} {m₀ : Str → Option Value} {news : List (Addr × Obj)} (J : Nat → (Str → Option Value) → Prop)
    (hh : A.handled = none) (F : Fr h₀ env.locals s.heap m₀) (N : News h₀ env.locals s.heap news) (hm : (l, lo) ∈ news) (hc : lo.cls = .type "list") (hd : lo.data = .seq vs.toArray n) (h0 : J 0 m₀)
    (turn : ∀ (E1 I : Addr) (i : Nat) (x : Value) (T : Addr) (t : Tok) (oE oI : Obj) (m₁ : Str → Option Value) (h : Heap) (tk : Nat), vs[i]? = some x → IsTup h T #[.int (i : Int) t, x] → J i m₁ → Fr h₀ env.locals h m₁ → News h₀ env.locals h ((E1, oE) :: (I, oI) :: news) → (∀ p ∈ news, (@LT.lt Nat _ p.1 I)) →
      wpAny (model prog w) A (assign (.Tuple elts k pos) env (.ref T)) (fun _ s₂ => wpAny (model prog w) A (execs body env) (BrkPost h₀ env.locals ((E1, oE) :: (I, oI) :: news) (J (i + 1)) { s with heap := h, toks := tk } Q) E s₂) E { s with heap := h, toks := tk })
    (done : ∀ h tk m', J vs.length m' → Fr h₀ env.locals h m' → News h₀ env.locals h news → Q .next { s with heap := h, toks := tk }) :
    wpAny (model prog w) A (call (.type "enumerate") [.ref l]) (fun xv s₁ => wpAny (model prog w) A (pyIter xv) (fun it s₂ => TurnsAt prog w A h₀ env (.Tuple elts k pos) body Q E it s₂) E s₁) E s := by
  refine ktu_enum (n := n) hh F N hm hc hd rfl fun I hI => ?_
  have key : ∀ r i m₁, vs.length - i = r → J i m₁ → i ≤ vs.length → ItemsRest prog w A E h₀ env (.Tuple elts k pos) body Q s [(I + 1, "enumerate"), (I, "list_iterator")] [(l, lo)] ((enumItems 0 vs).drop i) m₁ news := by
    intro r
    induction r with
    | zero =>
      intro i m₁ hr hJ hi
      obtain rfl : i = vs.length := by omega
      rw [List.drop_of_length_le (by rw [enumItems_length]; exact Nat.le_refl _)]
      exact ItemsRest.zero fun h tk F' N' => done h tk m₁ hJ F' N'
    | succ r ih =>
      intro i m₁ hr hJ hi
      have hlt : i < vs.length := by omega
      have hg := enumItems_get vs 0 i (v := vs[i]) (List.getElem?_eq_getElem hlt)
      have hlt' : i < (enumItems 0 vs).length := by rw [enumItems_length]; exact hlt
      rw [List.drop_eq_getElem_cons hlt', Option.some.inj ((List.getElem?_eq_getElem hlt').symm.trans hg)]
      refine ItemsRest.pair fun T t h tk hT F' => ?_
      refine AllObj.cons fun oE hoE => AllObj.cons fun oI hoI => AllObj.nil fun N' => ?_
      rw [Nat.zero_add] at hT
      refine wpAny_mono (turn (I + 1) I i vs[i] T t oE oI m₁ h tk (List.getElem?_eq_getElem hlt) hT hJ F' N' hI) (fun _ s₂ h₂ => wpAny_mono h₂ (fun f s₃ h₃ => ?_) fun _ _ e => e) fun _ _ e => e
      cases f with
      | brk => exact h₃
      | next =>
        obtain ⟨h', tk', m', rfl, F₃, N₃, hJ₃⟩ := h₃
        refine ⟨h', tk', m', news, rfl, F₃, N₃, fun p hp q hq e => ?_, ⟨hm, trivial⟩, ih (i + 1) m' (by omega) hJ₃ hlt⟩
        have hlt2 : @LT.lt Nat _ p.1 I := hI p hp
        rcases List.mem_cons.mp hq with rfl | hq
        · have e' : @Eq Nat p.1 (I + 1) := e
          omega
        · rw [List.mem_singleton.mp hq] at e
          have e' : @Eq Nat p.1 I := e
          omega
      | cont => exact h₃.elim
      | ret v => exact h₃.elim
  have := key _ 0 m₀ rfl h0 (Nat.zero_le _)
  rwa [List.drop_zero] at this
end
section
variable {prog : Program} {w : World} {A : Around} {E : Value → Shared → Prop} {s : Shared} {h₀ : Heap} {L S : Addr} {m : Str → Option Value} {news nw : List (Addr × Obj)} {xss : List (List Str)} {ys : List Value} {ep : Nat}
noncomputable abbrev loRow (xss : List (List Str)) : List Str := xss.getD (argBest (fun i j => lexL ltC true false (xss.getD i []) (xss.getD j [])) (xss.length - 1)) []
noncomputable abbrev hiRow (xss : List (List Str)) : List Str := xss.getD (argBest (fun i j => lexL gtC false true (xss.getD i []) (xss.getD j [])) (xss.length - 1)) []
theorem min_rows {Q : Value → Shared → Prop} (hh : A.handled = none) (F : Fr h₀ L s.heap m) (N : News h₀ L s.heap nw) (hu : A.in1.units < cLine) (hm : (S, W.listOf ys.toArray ep) ∈ nw) (hR : RowsS news xss ys nw) (hn : 0 < xss.length)
    (h : ∀ r it n h' tk, (r, W.listOf it n) ∈ nw → StrsAre it.toList (loRow xss) → Fr h₀ L h' m → News h₀ L h' nw → Q (.ref r) { s with heap := h', toks := tk }) : wpAny (model prog w) A (call (.builtin "min") [.ref S]) Q E s := by
  refine call_min_lists (vs := ys) (xss := xss) hh hu ⟨_, (N _ hm).1, rfl, _, rfl⟩ hn hR.2.1 (fun i v hv => ?_) fun v h' tk hv hk => ?_
  · obtain ⟨r, it, n, e, hm', hs⟩ := hR.2.2 i v hv
    exact ⟨r, it, n, e, (N _ hm').1, hs⟩
  · obtain ⟨r, it, n, rfl, hm', hs⟩ := hR.2.2 _ v hv
    exact h r it n h' tk hm' hs (F.keeps hk) (N.grown hk)
theorem max_rows {Q : Value → Shared → Prop} (hh : A.handled = none) (F : Fr h₀ L s.heap m) (N : News h₀ L s.heap nw) (hu : A.in1.units < cLine) (hm : (S, W.listOf ys.toArray ep) ∈ nw) (hR : RowsS news xss ys nw) (hn : 0 < xss.length)
    (h : ∀ r it n h' tk, (r, W.listOf it n) ∈ nw → StrsAre it.toList (hiRow xss) → Fr h₀ L h' m → News h₀ L h' nw → Q (.ref r) { s with heap := h', toks := tk }) : wpAny (model prog w) A (call (.builtin "max") [.ref S]) Q E s := by
  refine call_max_lists (vs := ys) (xss := xss) hh hu ⟨_, (N _ hm).1, rfl, _, rfl⟩ hn hR.2.1 (fun i v hv => ?_) fun v h' tk hv hk => ?_
  · obtain ⟨r, it, n, e, hm', hs⟩ := hR.2.2 i v hv
    exact ⟨r, it, n, e, (N _ hm').1, hs⟩
  · obtain ⟨r, it, n, rfl, hm', hs⟩ := hR.2.2 _ v hv
    exact h r it n h' tk hm' hs (F.keeps hk) (N.grown hk)
end
/-! pure: the least and the greatest row part at the first place at which two rows part -/
theorem cps_lt_trans {a b c : Str} (h1 : a.cps.toList < b.cps.toList) (h2 : b.cps.toList < c.cps.toList) : a.cps.toList < c.cps.toList := List.lt_trans h1 h2
theorem best_le (xss : List (List Str)) (c : Nat → Str) (bt : Nat → Nat → Bool) (R : Str → Str → Prop) (irr : ∀ a, ¬ R a a) (tr : ∀ a b c, R a b → ¬ R c b → R a c ∨ a = c → True) 
    (nt : ∀ a b d, ¬ R a b → (R d b ∨ d = b) → ¬ R a d) (n : Nat) (h1 : ∀ i j, i ≤ n → j ≤ n → c i ≠ c j → (bt i j = true ↔ R (c i) (c j))) : ∀ k, k ≤ n → argBest bt k ≤ k ∧ ∀ j, j ≤ k → ¬ R (c j) (c (argBest bt k))
  | 0, _ => ⟨Nat.le_refl _, fun j hj => by
      obtain rfl : j = 0 := Nat.le_zero.mp hj
      exact irr _⟩
  | k + 1, hk => by
    obtain ⟨hle, ih⟩ := best_le xss c bt R irr tr nt n h1 k (by omega)
    unfold argBest
    by_cases hb : bt (k + 1) (argBest bt k) = true
    · rw [if_pos hb]
      refine ⟨Nat.le_refl _, fun j hj => ?_⟩
      rcases Nat.lt_or_ge k j with q | q
      · obtain rfl : j = k + 1 := by omega
        exact irr _
      · refine nt _ (c (argBest bt k)) _ (ih j q) ?_
        by_cases e : c (k + 1) = c (argBest bt k)
        · exact .inr e
        · exact .inl ((h1 _ _ hk (by omega) e).mp hb)
    · rw [if_neg hb]
      refine ⟨by omega, fun j hj => ?_⟩
      rcases Nat.lt_or_ge k j with q | q
      · obtain rfl : j = k + 1 := by omega
        by_cases e : c (k + 1) = c (argBest bt k)
        · rw [e]; exact irr _
        · exact fun hR => hb ((h1 _ _ hk (by omega) e).mpr hR)
      · exact ih j q
theorem lex_pre (f : Str → Str → Bool) (e1 e2 : Bool) : ∀ (P : List Str) (a b : Str) (r r' : List Str), a ≠ b → lexL f e1 e2 (P ++ a :: r) (P ++ b :: r') = f a b
  | [], a, b, r, r', h => if_neg h
  | x :: P, a, b, r, r', h => by
    show lexL f e1 e2 (x :: (P ++ a :: r)) (x :: (P ++ b :: r')) = _
    rw [show lexL f e1 e2 (x :: (P ++ a :: r)) (x :: (P ++ b :: r')) = lexL f e1 e2 (P ++ a :: r) (P ++ b :: r') from if_pos rfl]
    exact lex_pre f e1 e2 P a b r r' h
theorem rows_part {xss : List (List Str)} {P : List Str} (hn : 0 < xss.length) (hpre : ∀ ws ∈ xss, ∃ c r, ws = P ++ c :: r) (hdif : ∃ ws ∈ xss, ∃ ws' ∈ xss, ws[P.length]? ≠ ws'[P.length]?) :
    ∃ a r b r', loRow xss = P ++ a :: r ∧ hiRow xss = P ++ b :: r' ∧ a ≠ b := by
  have hrow : ∀ i, i ≤ xss.length - 1 → ∃ c r, xss.getD i [] = P ++ c :: r := fun i hi => by
    have hlt : i < xss.length := by omega
    rw [List.getD_eq_getElem?_getD, List.getElem?_eq_getElem hlt]
    exact hpre _ (List.getElem_mem hlt)
  let c : Nat → Str := fun i => ((xss.getD i [])[P.length]?).getD Str.empty
  have hc : ∀ i, i ≤ xss.length - 1 → ∃ r, xss.getD i [] = P ++ c i :: r := fun i hi => by
    obtain ⟨d, r, e⟩ := hrow i hi
    refine ⟨r, ?_⟩
    show _ = P ++ ((xss.getD i [])[P.length]?).getD Str.empty :: r
    rw [e]
    simp
  have L1 := best_le xss c (fun i j => lexL ltC true false (xss.getD i []) (xss.getD j [])) (fun a b => a.cps.toList < b.cps.toList) (fun a => List.lt_irrefl _) (fun _ _ _ _ _ _ => trivial)
    (fun a b d h1 h2 h3 => h2.elim (fun q => h1 (cps_lt_trans h3 q)) fun q => h1 (q ▸ h3)) (xss.length - 1) (fun i j hi hj hne => by
      obtain ⟨r, e⟩ := hc i hi
      obtain ⟨r', e'⟩ := hc j hj
      show lexL ltC true false (xss.getD i []) (xss.getD j []) = true ↔ _
      rw [e, e', lex_pre _ _ _ _ _ _ _ _ hne]
      simp [ltC]) (xss.length - 1) (Nat.le_refl _)
  have L2 := best_le xss c (fun i j => lexL gtC false true (xss.getD i []) (xss.getD j [])) (fun a b => b.cps.toList < a.cps.toList) (fun a => List.lt_irrefl _) (fun _ _ _ _ _ _ => trivial)
    (fun a b d h1 h2 h3 => h2.elim (fun q => h1 (cps_lt_trans q h3)) fun q => h1 (q ▸ h3)) (xss.length - 1) (fun i j hi hj hne => by
      obtain ⟨r, e⟩ := hc i hi
      obtain ⟨r', e'⟩ := hc j hj
      show lexL gtC false true (xss.getD i []) (xss.getD j []) = true ↔ _
      rw [e, e', lex_pre _ _ _ _ _ _ _ _ hne]
      simp [gtC]) (xss.length - 1) (Nat.le_refl _)
  obtain ⟨r, e⟩ := hc _ L1.1
  obtain ⟨r', e'⟩ := hc _ L2.1
  refine ⟨_, r, _, r', e, e', fun he => ?_⟩
  obtain ⟨ws, hw, ws', hw', hne⟩ := hdif
  obtain ⟨i, hi, rfl⟩ := List.mem_iff_getElem.mp hw
  obtain ⟨j, hj, rfl⟩ := List.mem_iff_getElem.mp hw'
  have hx : ∀ i (h : i < xss.length), xss[i][P.length]? = some (c i) := fun i h => by
    obtain ⟨r, e⟩ := hc i (by omega)
    have : xss.getD i [] = xss[i] := by rw [List.getD_eq_getElem?_getD, List.getElem?_eq_getElem h]; rfl
    rw [← this, e]; simp
  rw [hx i hi, hx j hj] at hne
  have same : ∀ i, i ≤ xss.length - 1 → c i = c (argBest (fun i j => lexL ltC true false (xss.getD i []) (xss.getD j [])) (xss.length - 1)) := fun i hi => by
    have h1 := L1.2 i hi
    have h2 := L2.2 i hi
    rw [← he] at h2
    have h3 : (c i).cps.toList = _ := List.le_antisymm (List.not_lt.mp h2) (List.not_lt.mp h1)
    exact Str.ext' (Array.toList_inj.mp h3)
  exact hne (by rw [same i (by omega), same j (by omega)])
end Mine
end
section
open PySem PySem.Calls PySem.Spec PySem.W PyProof.Rows
set_option linter.all false
namespace Mine
theorem cut_inj : ∀ (x y r r' : List Nat), 47 ∉ x → 47 ∉ y → x ++ 47 :: r = y ++ 47 :: r' → x = y ∧ r = r'
  | [], [], r, r', _, _, h => ⟨rfl, (List.cons.inj h).2⟩
  | [], b :: y, r, r', _, hy, h => absurd (List.cons.inj h).1 (fun e => hy (e ▸ .head _))
  | a :: x, [], r, r', hx, _, h => absurd (List.cons.inj h).1 (fun e => hx (e ▸ .head _))
  | a :: x, b :: y, r, r', hx, hy, h => by
    have z := cut_inj x y r r' (fun q => hx (.tail _ q)) (fun q => hy (.tail _ q)) (List.cons.inj h).2
    exact ⟨by rw [(List.cons.inj h).1, z.1], z.2⟩
theorem slash_list : (Str.ofString "/").cps.toList = [47] := by decide +kernel
theorem str_ext {a b : Str} (h : a.cps.toList = b.cps.toList) : a = b := Str.ext' (Array.toList_inj.mp h)
theorem join_one (x : Str) : Str.join (Str.ofString "/") [x] = x := rfl
theorem join_cons (x y : Str) (l : List Str) : (Str.join (Str.ofString "/") (x :: y :: l)).cps.toList = x.cps.toList ++ 47 :: (Str.join (Str.ofString "/") (y :: l)).cps.toList := by
  show (x ++ Str.ofString "/" ++ Str.join (Str.ofString "/") (y :: l)).cps.toList = _
  rw [Str.cps_append, Array.toList_append, Str.cps_append, Array.toList_append, slash_list, List.append_assoc]
  rfl
theorem join_inj : ∀ (a b : List Str), a ≠ [] → b ≠ [] → (∀ x ∈ a, 47 ∉ x.cps.toList) → (∀ x ∈ b, 47 ∉ x.cps.toList) → Str.join (Str.ofString "/") a = Str.join (Str.ofString "/") b → a = b
  | [], _, h, _, _, _, _ => absurd rfl h
  | _ :: _, [], _, h, _, _, _ => absurd rfl h
  | [x], [y], _, _, _, _, h => by rw [join_one, join_one] at h; rw [h]
  | [x], y :: y' :: l, _, _, hx, _, h => by
    exfalso
    have := congrArg (fun s : Str => s.cps.toList) h
    rw [join_one, join_cons] at this
    exact hx x (.head _) (by rw [this]; simp)
  | x :: x' :: l, [y], _, _, _, hy, h => by
    exfalso
    have := congrArg (fun s : Str => s.cps.toList) h
    rw [join_one, join_cons] at this
    exact hy y (.head _) (by rw [← this]; simp)
  | x :: x' :: l, y :: y' :: l', _, _, hx, hy, h => by
    have := congrArg (fun s : Str => s.cps.toList) h
    rw [join_cons, join_cons] at this
    have z := cut_inj _ _ _ _ (hx x (.head _)) (hy y (.head _)) this
    rw [str_ext z.1, join_inj (x' :: l) (y' :: l') (by simp) (by simp) (fun q hq => hx q (.tail _ hq)) (fun q hq => hy q (.tail _ hq)) (str_ext z.2)]
theorem split_cp {ws : List Str} (hne : ws ≠ []) (hf : ∀ c ∈ ws, 47 ∉ c.cps.toList) : Txt.split (Str.ofString "/" ++ Txt.join (Str.ofString "/") ws) (Str.ofString "/") = Str.empty :: ws := by
  have e1 : Str.ofString "/" ++ Txt.join (Str.ofString "/") ws = Str.join (Str.ofString "/") (Str.empty :: ws) := by
    show Str.ofString "/" ++ Builtin.Str.glued (Str.ofString "/") ws = _
    rw [StrLaws.glued_eq_join]
    cases ws with
    | nil => exact absurd rfl hne
    | cons a l =>
      refine str_ext ?_
      rw [join_cons, Str.cps_append, Array.toList_append, slash_list]
      rfl
  have e2 := StrLaws.join_split (Str.ofString "/" ++ Txt.join (Str.ofString "/") ws) (Str.ofString "/")
  have hs : Str.ofString "/" = ⟨#[47]⟩ := by decide +kernel
  have e3 := StrLaws.split_free (Str.ofString "/" ++ Txt.join (Str.ofString "/") ws) 47
  rw [← hs] at e3
  refine join_inj _ _ ?_ (by simp) e3 ?_ (e2.trans e1)
  · intro h
    rw [h] at e2
    have := congrArg (fun s : Str => s.cps.toList) e2
    rw [Str.cps_append, Array.toList_append, slash_list] at this
    exact absurd this (by intro q; cases q)
  · intro x hx
    rcases List.mem_cons.mp hx with rfl | hx
    · exact fun q => by cases q
    · exact hf x hx
end Mine
end
section
open PySem PySem.Calls PySem.Spec PySem.W PyProof.Rows
set_option maxRecDepth 100000
set_option maxHeartbeats 4000000
set_option linter.all false
namespace Mine
/-! the table of a set: its places rise -/
noncomputable def Rise (xs : Array Nat) : Prop := xs.toList.Pairwise (· < ·)
theorem rise_get {xs : Array Nat} (h : Rise xs) {i k : Nat} (hi : i < k) (hk : k < xs.size) : xs.getD i 0 < xs.getD k 0 := by
  have z := List.pairwise_iff_getElem.mp h i k (by simp; omega) (by simpa using hk) hi
  simp only [Array.getElem_toList] at z
  rw [Array.getD_eq_getD_getElem?, Array.getD_eq_getD_getElem?, Array.getElem?_eq_getElem (by omega), Array.getElem?_eq_getElem hk]
  exact z
theorem getD_any {xs : Array Nat} {i : Nat} (d e : Nat) (h : i < xs.size) : xs.getD i d = xs.getD i e := by
  rw [Array.getD_eq_getD_getElem?, Array.getD_eq_getD_getElem?, Array.getElem?_eq_getElem h]; rfl
theorem go_spec {xs : Array Nat} (h : Rise xs) (j : Nat) : ∀ fuel lo hi, hi - lo ≤ fuel → lo ≤ hi → hi ≤ xs.size → (∀ i, i < lo → xs.getD i 0 < j) → (∀ i, hi ≤ i → i < xs.size → j ≤ xs.getD i 0) →
    lo ≤ SetTable.below.go xs j fuel lo hi ∧ SetTable.below.go xs j fuel lo hi ≤ hi ∧ (∀ i, i < SetTable.below.go xs j fuel lo hi → xs.getD i 0 < j) ∧ (∀ i, SetTable.below.go xs j fuel lo hi ≤ i → i < xs.size → j ≤ xs.getD i 0)
  | 0, lo, hi, hf, hl, hs, h1, h2 => by
    obtain rfl : lo = hi := by omega
    unfold SetTable.below.go
    exact ⟨Nat.le_refl _, Nat.le_refl _, h1, h2⟩
  | fuel + 1, lo, hi, hf, hl, hs, h1, h2 => by
    unfold SetTable.below.go
    by_cases hlt : lo < hi
    · have hm : (lo + hi) / 2 < xs.size := by omega
      simp only [if_pos hlt, getD_any j 0 hm]
      by_cases hc : xs.getD ((lo + hi) / 2) 0 < j
      · simp only [if_pos hc]
        have z := go_spec h j fuel ((lo + hi) / 2 + 1) hi (by omega) (by omega) hs (fun i hi' => ?_) h2
        · exact ⟨by omega, z.2.1, z.2.2⟩
        · rcases Nat.lt_or_ge i ((lo + hi) / 2) with q | q
          · exact Nat.lt_trans (rise_get h q hm) hc
          · obtain rfl : i = (lo + hi) / 2 := by omega
            exact hc
      · simp only [if_neg hc]
        have z := go_spec h j fuel lo ((lo + hi) / 2) (by omega) (by omega) (by omega) h1 (fun i hi' hs' => ?_)
        · exact ⟨z.1, by omega, z.2.2⟩
        · rcases Nat.lt_or_ge ((lo + hi) / 2) i with q | q
          · exact Nat.le_of_lt (Nat.lt_of_le_of_lt (Nat.le_of_not_lt hc) (rise_get h q hs'))
          · obtain rfl : i = (lo + hi) / 2 := by omega
            exact Nat.le_of_not_lt hc
    · simp only [if_neg hlt]
      obtain rfl : lo = hi := by omega
      exact ⟨Nat.le_refl _, Nat.le_refl _, h1, h2⟩
theorem below_spec {xs : Array Nat} (h : Rise xs) (j : Nat) : SetTable.below xs j ≤ xs.size ∧ (∀ i, i < SetTable.below xs j → xs.getD i 0 < j) ∧ (∀ i, SetTable.below xs j ≤ i → i < xs.size → j ≤ xs.getD i 0) := by
  have z := go_spec h j xs.size 0 xs.size (by omega) (by omega) (Nat.le_refl _) (fun i hi => absurd hi (by omega)) (fun i hi hs => absurd hi (by omega))
  exact z.2
/-- the place below which n places stand -/
theorem below_is {xs : Array Nat} (h : Rise xs) {j n : Nat} (hn : n ≤ xs.size) (h1 : ∀ i, i < n → xs.getD i 0 < j) (h2 : n < xs.size → j ≤ xs.getD n 0) : SetTable.below xs j = n := by
  obtain ⟨a, b, c⟩ := below_spec h j
  rcases Nat.lt_trichotomy (SetTable.below xs j) n with q | q | q
  · have := c _ (Nat.le_refl _) (by omega)
    have := h1 _ q
    omega
  · exact q
  · have := b n q
    have := h2 (by omega)
    omega
theorem rise_insert {xs : Array Nat} (h : Rise xs) {j : Nat} (hj : xs[SetTable.below xs j]? ≠ some j) : Rise (SetTable.insertAt xs (SetTable.below xs j) j) := by
  obtain ⟨a, b, c⟩ := below_spec h j
  unfold Rise
  rw [SetTable.toList_insertAt]
  generalize SetTable.below xs j = p at *
  have lt : ∀ y ∈ xs.toList.take p, y < j := fun y hy => by
    obtain ⟨i, hi, rfl⟩ := List.getElem_of_mem hy
    rw [List.length_take] at hi
    have := b i (by omega)
    rw [Array.getD_eq_getD_getElem?, Array.getElem?_eq_getElem (by simp at hi; omega)] at this
    simpa using this
  have gt : ∀ y ∈ xs.toList.drop p, j < y := fun y hy => by
    obtain ⟨i, hi, rfl⟩ := List.getElem_of_mem hy
    rw [List.length_drop] at hi
    have hs : p + i < xs.size := by simp at hi; omega
    have hp : p < xs.size := by omega
    have z := c p (Nat.le_refl _) hp
    have y : xs.getD p 0 ≤ xs.getD (p + i) 0 := by
      rcases Nat.eq_zero_or_pos i with rfl | q
      · exact Nat.le_refl _
      · exact Nat.le_of_lt (rise_get h (by omega) hs)
    have x : xs.getD p 0 ≠ j := fun e => hj (by rw [Array.getElem?_eq_getElem hp, ← e, Array.getD_eq_getD_getElem?, Array.getElem?_eq_getElem hp]; rfl)
    have : j < xs.getD (p + i) 0 := by omega
    rw [Array.getD_eq_getD_getElem?, Array.getElem?_eq_getElem hs] at this
    simpa using this
  rw [List.pairwise_append]
  refine ⟨List.Pairwise.sublist (List.take_sublist ..) h, List.pairwise_cons.mpr ⟨gt, List.Pairwise.sublist (List.drop_sublist ..) h⟩, fun y hy z hz => ?_⟩
  rcases List.mem_cons.mp hz with rfl | hz
  · exact lt y hy
  · exact Nat.lt_trans (lt y hy) (gt z hz)

theorem rise_has {xs : Array Nat} (h : Rise xs) : ∀ n, (∀ j, j < n → j ∈ xs.toList) → ∀ j, j < n → ∃ i, j ≤ i ∧ i < xs.size ∧ xs.getD i 0 = j
  | 0, _, j, hj => absurd hj (by omega)
  | n + 1, hn, j, hj => by
    have at' : ∀ j, j ∈ xs.toList → ∃ i, i < xs.size ∧ xs.getD i 0 = j := fun j hj => by
      obtain ⟨i, hi, rfl⟩ := List.getElem_of_mem hj
      have hi' : i < xs.size := by simpa using hi
      exact ⟨i, hi', by rw [Array.getD_eq_getD_getElem?, Array.getElem?_eq_getElem hi']; simp⟩
    obtain ⟨i, hi, e⟩ := at' j (hn j hj)
    refine ⟨i, ?_, hi, e⟩
    cases j with
    | zero => exact Nat.zero_le _
    | succ j =>
      obtain ⟨i', hi1, hi2, e'⟩ := rise_has h n (fun j hj => hn j (by omega)) j (by omega)
      rcases Nat.lt_or_ge i' i with q | q
      · omega
      · rcases Nat.eq_or_lt_of_le q with q | q
        · rw [q] at e; omega
        · have := rise_get h q hi2; omega
theorem slot_of {t : SetTable} (hd : t.dummies = #[]) (j : Nat) : (t.slot j = .empty ∧ t.place[SetTable.below t.place j]? ≠ some j) ∨ ((∃ i, t.slot j = .live i) ∧ j ∈ t.place.toList) := by
  unfold SetTable.slot
  dsimp only
  by_cases e : t.place[SetTable.below t.place j]? = some j
  · refine .inr ⟨⟨_, by rw [e]; simp; rfl⟩, ?_⟩
    have := Array.mem_of_getElem? e
    exact Array.mem_toList_iff.mpr this
  · refine .inl ⟨?_, e⟩
    rw [if_neg (by simpa using e), if_neg (by rw [hd]; simp [SetTable.has])]
theorem slot_free {t : SetTable} (hd : t.dummies = #[]) (h : Rise t.place) {n : Nat} (hn : t.place.size < n) : ∃ e, e < n ∧ t.slot e = .empty := by
  apply Classical.byContradiction
  intro hc
  have all : ∀ j, j < n → j ∈ t.place.toList := fun j hj => by
    rcases slot_of hd j with q | q
    · exact absurd ⟨j, hj, q.1⟩ hc
    · exact q.2
  obtain ⟨i, h1, h2, _⟩ := rise_has h n all (n - 1) (by omega)
  omega
noncomputable def stp (m : Nat) (x : Nat × Nat) : Nat × Nat := ((x.1 * 5 + 1 + x.2 / 32) % (m + 1), x.2 / 32)
noncomputable def stpN (m : Nat) : Nat → Nat × Nat → Nat × Nat
  | 0, x => x
  | n + 1, x => stpN m n (stp m x)
theorem stpN_add (m : Nat) : ∀ a b x, stpN m (a + b) x = stpN m b (stpN m a x)
  | 0, b, x => by rw [Nat.zero_add]; rfl
  | a + 1, b, x => by rw [Nat.add_right_comm]; exact stpN_add m a b _
theorem stpN_zero (m : Nat) : ∀ n x, x.2 < 32 ^ n → (stpN m n x).2 = 0
  | 0, x, h => by simp at h; simpa [stpN] using h
  | n + 1, x, h => stpN_zero m n _ (by show x.2 / 32 < 32 ^ n; rw [Nat.pow_succ] at h; omega)
theorem stp_lt (m : Nat) (x : Nat × Nat) : (stp m x).1 < m + 1 := Nat.mod_lt _ (Nat.succ_pos _)
theorem stpN_lt (m : Nat) : ∀ n x, x.1 < m + 1 → (stpN m n x).1 < m + 1
  | 0, _, h => h
  | n + 1, x, _ => stpN_lt m n _ (stp_lt m x)
theorem orbit7 : ∀ j, j < 8 → ∀ e, e < 8 → ∃ k, k < 8 ∧ (stpN 7 k (j, 0)).1 = e := by decide +kernel
theorem orbit31 : ∀ j, j < 32 → ∀ e, e < 32 → ∃ k, k < 32 ∧ (stpN 31 k (j, 0)).1 = e := by decide +kernel
theorem meets {m : Nat} (ho : ∀ j, j < m + 1 → ∀ e, e < m + 1 → ∃ k, k < m + 1 ∧ (stpN m k (j, 0)).1 = e) {x : Nat × Nat} (h1 : x.1 < m + 1) (h2 : x.2 < 2 ^ 64) {e : Nat} (he : e < m + 1) : ∃ n, n < m + 14 ∧ (stpN m n x).1 = e := by
  have z := stpN_zero m 13 x (Nat.lt_of_lt_of_le h2 (by decide))
  obtain ⟨k, hk, ek⟩ := ho _ (stpN_lt m 13 x h1) e he
  refine ⟨13 + k, by omega, ?_⟩
  rw [stpN_add]
  have : stpN m 13 x = ((stpN m 13 x).1, 0) := by rw [← z]
  rw [this]; exact ek
theorem bits_lt (h : Int) : SetTable.bits h < 2 ^ 64 := by
  unfold SetTable.bits
  have := Int.emod_nonneg h (b := (2 ^ 64 : Int)) (by decide)
  have := Int.emod_lt_of_pos h (b := (2 ^ 64 : Int)) (by decide)
  omega
theorem probe7 {t : SetTable} (hm : t.mask = 7) (hd : t.dummies = #[]) {ha : Nat → Int} {h : Int} (hne : ∀ i, ha i ≠ h) : ∀ fuel (x : Nat × Nat), (∃ n, n < fuel ∧ t.slot (stpN 7 n x).1 = .empty) →
    ∃ j, SetTable.probe.go t ha h fuel { j := x.1, more := 0, i := x.1, perturb := x.2, dummy := none } = some (.empty j none) ∧ t.place[SetTable.below t.place j]? ≠ some j
  | 0, _, ⟨n, hn, _⟩ => absurd hn (by omega)
  | fuel + 1, x, ⟨n, hn, hs⟩ => by
    unfold SetTable.probe.go
    dsimp only
    rcases slot_of hd x.1 with ⟨q, q'⟩ | ⟨⟨i, q⟩, _⟩
    · rw [q]; exact ⟨_, rfl, q'⟩
    · rw [q]
      dsimp only
      rw [if_neg (by simpa using hne i)]
      have ad : t.advance { j := x.1, more := 0, i := x.1, perturb := x.2, dummy := none } = { j := (stp 7 x).1, more := 0, i := (stp 7 x).1, perturb := (stp 7 x).2, dummy := none } := by
        unfold SetTable.advance
        rw [if_neg (by simp), hm]
        have lt := stp_lt 7 x
        show ({ j := (stp 7 x).1, more := SetTable.runEnd 7 (stp 7 x).1 - (stp 7 x).1, i := (stp 7 x).1, perturb := (stp 7 x).2, dummy := none } : SetTable.Probe) = _
        unfold SetTable.runEnd
        rw [if_neg (by omega), Nat.sub_self]
      rw [ad]
      refine probe7 hm hd hne fuel _ ?_
      cases n with
      | zero => rw [show stpN 7 0 x = x from rfl, q] at hs; cases hs
      | succ n => exact ⟨n, by omega, hs⟩
theorem freeSlot7 {t : SetTable} (hm : t.mask = 7) (hd : t.dummies = #[]) (hr : Rise t.place) (hn : t.place.size < 8) (h : Int) : ∃ j, t.freeSlot h = some (j, false) ∧ t.place[SetTable.below t.place j]? ≠ some j := by
  obtain ⟨e, he, hs⟩ := slot_free hd hr hn
  obtain ⟨n, hn', en⟩ := meets (m := 7) orbit7 (x := (SetTable.bits h % 8, SetTable.bits h)) (Nat.mod_lt _ (by decide)) (bits_lt h) he
  obtain ⟨j, e1, e2⟩ := probe7 hm hd (ha := fun _ => h + 1) (h := h) (fun _ => by omega) 220 (SetTable.bits h % 8, SetTable.bits h) ⟨n, by omega, by rw [en]; exact hs⟩
  refine ⟨j, ?_, e2⟩
  unfold SetTable.freeSlot SetTable.probe SetTable.probeStart
  rw [hm]
  have : SetTable.runEnd 7 (SetTable.bits h % (7 + 1)) - SetTable.bits h % (7 + 1) = 0 := by
    unfold SetTable.runEnd
    rw [if_neg (by omega), Nat.sub_self]
  dsimp only
  rw [this]
  rw [show 10 * SetTable.turns 7 = 220 from rfl, show (7 + 1 : Nat) = 8 from rfl, e1]
  rfl
structure TOk (t : SetTable) (n : Nat) (led : Bool) : Prop where
  d : t.dummies = #[]
  r : Rise t.place
  l : t.led = led
  p : t.plain = true
  s : t.place.size = n
  m : n ≤ 4 → t.mask = 7
  f : n ≤ t.mask
theorem TOk.fits {t : SetTable} {n : Nat} {led : Bool} (h : TOk t n led) : t.fits n = true := by
  simp [SetTable.fits, SetTable.fill, h.s, h.d, h.f]
theorem TOk.fresh (led : Bool) : TOk (.fresh 0 0 led) 0 led := ⟨rfl, by unfold Rise; exact List.Pairwise.nil, rfl, rfl, rfl, fun _ => rfl, Nat.zero_le _⟩
theorem insert_size {α : Type} {xs : Array α} {p : Nat} {x : α} : (SetTable.insertAt xs p x).size = xs.size + 1 := by
  have := (SetTable.insertAt_perm xs p x).length_eq
  simpa using this
theorem lay_ok {t : SetTable} {n : Nat} {led : Bool} (h : TOk t n led) (hn : n ≤ 4) {es : Array (Int × Value)} (hs : es.size = n) (hh : Int) (x : Value) :
    ∃ t1, (layNew t es hh x).2 = (t1, false, false) ∧ t1.dummies = #[] ∧ Rise t1.place ∧ t1.led = led ∧ t1.plain = true ∧ t1.place.size = n + 1 ∧ t1.mask = 7 ∧ (layNew t es hh x).1.size = n + 1 := by
  obtain ⟨j, e, hj⟩ := freeSlot7 (h.m hn) h.d h.r (by rw [h.s]; omega) hh
  have hp : t.put j = ({ t with place := SetTable.insertAt t.place (SetTable.below t.place j) j }, SetTable.below t.place j) := by
    unfold SetTable.put
    have : SetTable.has t.dummies j = false := by rw [h.d]; simp [SetTable.has]
    simp [this]
  have f : ({ t with place := SetTable.insertAt t.place (SetTable.below t.place j) j } : SetTable).fits (SetTable.insertAt es (SetTable.below t.place j) (hh, x)).size = true := by
    simp only [SetTable.fits, SetTable.fill, insert_size, hs, h.s, h.d, h.m hn]
    simp; omega
  have o : ({ t with place := SetTable.insertAt t.place (SetTable.below t.place j) j } : SetTable).orStandIn (SetTable.insertAt es (SetTable.below t.place j) (hh, x)).size = { t with place := SetTable.insertAt t.place (SetTable.below t.place j) j } := by
    unfold SetTable.orStandIn; rw [if_pos f]
  have hl : layNew t es hh x = (SetTable.insertAt es (SetTable.below t.place j) (hh, x), { t with place := SetTable.insertAt t.place (SetTable.below t.place j) j }, false, false) := by
    unfold layNew
    rw [e]
    dsimp only
    rw [hp]
    dsimp only
    rw [o, f]
    rfl
  rw [hl]
  exact ⟨_, rfl, h.d, rise_insert h.r hj, h.l, h.p, by show (SetTable.insertAt _ _ _).size = _; rw [insert_size, h.s], h.m hn, by rw [insert_size, hs]⟩

theorem fmc {α β : Type} {f g : α → Option β} : ∀ {l : List α}, (∀ a ∈ l, f a = g a) → l.filterMap f = l.filterMap g
  | [], _ => rfl
  | a :: l, h => by rw [List.filterMap_cons, List.filterMap_cons, h a (.head _), fmc fun b hb => h b (.tail _ hb)]
noncomputable def ownL (owner : Array (Option Nat)) : List Nat := (List.range 32).filterMap fun j => owner.getD j none
theorem free31 {owner : Array (Option Nat)} : ∀ fuel (x : Nat × Nat), (∃ n, n < fuel ∧ (owner.getD (stpN 31 n x).1 (some 0)).isNone = true) →
    ∃ j, SetTable.layClean.free 31 owner fuel x.1 x.2 = some j ∧ (owner.getD j (some 0)).isNone = true
  | 0, _, ⟨n, hn, _⟩ => absurd hn (by omega)
  | fuel + 1, x, ⟨n, hn, hs⟩ => by
    unfold SetTable.layClean.free
    cases q : (List.range (SetTable.runEnd 31 x.1 + 1 - x.1)).find? fun k => (owner.getD (x.1 + k) (some 0)).isNone with
    | some k => exact ⟨_, rfl, List.find?_some (p := fun k => (owner.getD (x.1 + k) (some 0)).isNone) q⟩
    | none =>
      dsimp only
      refine free31 fuel (stp 31 x) ?_
      cases n with
      | zero =>
        have z := List.find?_eq_none.mp q 0 (List.mem_range.mpr (by unfold SetTable.runEnd; split <;> omega))
        rw [Nat.add_zero] at z
        exact absurd hs z
      | succ n => exact ⟨n, by omega, hs⟩
structure OwnOk (owner : Array (Option Nat)) (k : Nat) : Prop where
  s : owner.size = 32
  p : (ownL owner).Perm (List.range k)
theorem own_free {owner : Array (Option Nat)} {k : Nat} (h : OwnOk owner k) (hk : k < 32) : ∃ e, e < 32 ∧ (owner.getD e (some 0)).isNone = true := by
  apply Classical.byContradiction
  intro hc
  have e : ownL owner = (List.range 32).map fun j => (owner.getD j none).getD 0 := by
    unfold ownL
    rw [← List.filterMap_eq_map]
    refine fmc fun j hj => ?_
    have hj' := List.mem_range.mp hj
    have z : ¬ (owner.getD j (some 0)).isNone = true := fun q => hc ⟨j, hj', q⟩
    rw [Array.getD_eq_getD_getElem?, Array.getElem?_eq_getElem (by rw [h.s]; exact hj')] at z ⊢
    simp only [Option.getD_some] at z ⊢
    cases q : owner[j]'(by rw [h.s]; exact hj') with
    | none => rw [q] at z; exact absurd rfl z
    | some v =>
      show some v = some ((owner.getD j none).getD 0)
      rw [Array.getD_eq_getD_getElem?, Array.getElem?_eq_getElem (by rw [h.s]; exact hj'), Option.getD_some, q]; rfl
  have := h.p.length_eq
  rw [e] at this
  simp at this
  omega
theorem own_set {owner : Array (Option Nat)} {k j : Nat} (h : OwnOk owner k) (hj : (owner.getD j (some 0)).isNone = true) : OwnOk (owner.setIfInBounds j (some k)) (k + 1) := by
  have hjs : j < owner.size := by
    apply Classical.byContradiction
    intro hc
    rw [Array.getD_eq_getD_getElem?, Array.getElem?_eq_none (by omega)] at hj
    cases hj
  have hj0 : owner.getD j none = none := by
    rw [Array.getD_eq_getD_getElem?, Array.getElem?_eq_getElem hjs] at hj ⊢
    simpa using hj
  refine ⟨by rw [Array.size_setIfInBounds]; exact h.s, ?_⟩
  have hj32 : j < 32 := by rw [h.s] at hjs; exact hjs
  have sp : List.range 32 = List.range' 0 j ++ j :: List.range' (j + 1) (31 - j) := by
    rw [List.range_eq_range', ← List.range'_succ]
    have := List.range'_append (s := 0) (m := j) (n := 32 - j) (step := 1)
    simp only [Nat.one_mul, Nat.zero_add] at this
    rw [show 31 - j + 1 = 32 - j by omega, this]
    congr 1
    omega
  have ne : ∀ l : List Nat, (∀ i ∈ l, i ≠ j) → l.filterMap (fun i => (owner.setIfInBounds j (some k)).getD i none) = l.filterMap fun i => owner.getD i none := fun l hl => by
    refine fmc fun i hi => ?_
    rw [Array.getD_eq_getD_getElem?, Array.getD_eq_getD_getElem?, Array.getElem?_setIfInBounds_ne (Ne.symm (hl i hi))]
  have hp := h.p
  unfold ownL at hp ⊢
  rw [sp, List.filterMap_append, List.filterMap_cons] at hp ⊢
  rw [hj0] at hp
  have e2 : (owner.setIfInBounds j (some k)).getD j none = some k := by
    rw [Array.getD_eq_getD_getElem?, Array.getElem?_setIfInBounds_self_of_lt hjs]; rfl
  rw [e2, ne _ (fun i hi => by have := List.mem_range'_1.mp hi; omega), ne _ (fun i hi => by have := List.mem_range'_1.mp hi; omega)]
  dsimp only at hp ⊢
  rw [List.range_succ]
  refine List.perm_middle.trans ?_
  exact ((List.Perm.cons k hp).trans (List.perm_append_singleton k _).symm)
theorem layClean_go : ∀ (l : List Int) (owner : Array (Option Nat)) (k : Nat), OwnOk owner k → k + l.length ≤ 31 →
    ∃ owner', l.foldl (fun acc h => do
      let (owner, k) ← acc
      let j ← SetTable.layClean.free 31 owner (SetTable.turns 31) (SetTable.bits h % (31 + 1)) (SetTable.bits h)
      pure (owner.setIfInBounds j (some k), k + 1)) (some (owner, k)) = some (owner', k + l.length) ∧ OwnOk owner' (k + l.length)
  | [], owner, k, h, _ => ⟨owner, rfl, h⟩
  | x :: l, owner, k, h, hk => by
    rw [List.length_cons] at hk
    obtain ⟨e, he, hs⟩ := own_free h (by omega)
    obtain ⟨n, hn', en⟩ := meets (m := 31) orbit31 (x := (SetTable.bits x % 32, SetTable.bits x)) (Nat.mod_lt _ (by decide)) (bits_lt x) he
    obtain ⟨j, e1, e2⟩ := free31 (owner := owner) 46 (SetTable.bits x % 32, SetTable.bits x) ⟨n, by omega, by rw [en]; exact hs⟩
    obtain ⟨owner', z1, z2⟩ := layClean_go l _ (k + 1) (own_set h e2) (by omega)
    refine ⟨owner', ?_, by rw [List.length_cons, show k + (l.length + 1) = k + 1 + l.length by omega]; exact z2⟩
    rw [List.foldl_cons, List.length_cons, show k + (l.length + 1) = k + 1 + l.length by omega, ← z1]
    congr 1
    show (SetTable.layClean.free 31 owner 46 (SetTable.bits x % 32) (SetTable.bits x)).bind _ = _
    rw [e1]
    rfl
theorem layClean_ok (hs : Array Int) (hn : hs.size ≤ 31) : ∃ owner, SetTable.layClean 31 hs = some owner ∧ OwnOk owner hs.size := by
  have h0 : OwnOk (Array.replicate 32 none) 0 := ⟨by simp, by decide⟩
  obtain ⟨owner, z1, z2⟩ := layClean_go hs.toList _ 0 h0 (by simpa using hn)
  simp only [Array.length_toList, Nat.zero_add] at z1 z2
  refine ⟨owner, ?_, z2⟩
  unfold SetTable.layClean
  rw [← Array.foldl_toList]
  exact congrArg (Option.map (·.1)) z1
theorem relay_ok {t : SetTable} {es : Array (Int × Value)} {led : Bool} (hs : es.size = 5) (hl : t.led = led) (hp : t.plain = true) :
    ∃ t2, (relayAll t es (SetTable.grown es.size)).2 = (t2, false) ∧ TOk t2 5 led ∧ (relayAll t es (SetTable.grown es.size)).1.size = 5 := by
  have e20 : SetTable.sizeAbove (SetTable.grown es.size) - 1 = 31 := by rw [hs]; decide
  obtain ⟨owner, ho, hok⟩ := layClean_ok (es.map (·.1)) (by rw [Array.size_map, hs]; decide)
  rw [Array.size_map, hs] at hok
  have hrel : t.relaid (es.map (·.1)) (SetTable.grown es.size) = some ({ mask := 31, place := (((List.range 32).filterMap fun j => (owner.getD j none).map (j, ·)).map (·.1)).toArray, dummies := #[], finger := t.finger, led := t.led, moves := t.movedTo 31, plain := t.plain }, (((List.range 32).filterMap fun j => (owner.getD j none).map (j, ·)).map (·.2)).toArray) := by
    unfold SetTable.relaid SetTable.laid
    rw [e20, ho]
    rfl
  have snd : ((List.range 32).filterMap fun j => (owner.getD j none).map (j, ·)).map (·.2) = ownL owner := by
    unfold ownL
    rw [List.map_filterMap]
    refine fmc fun j _ => ?_
    cases owner.getD j none <;> rfl
  have rise : (((List.range 32).filterMap fun j => (owner.getD j none).map (j, ·)).map (·.1)).Pairwise (· < ·) := by
    rw [List.map_filterMap]
    have : (fun j => Option.map (fun x : Nat × Nat => x.1) ((owner.getD j none).map (j, ·))) = fun j => if (owner.getD j none).isSome then some j else none := by
      funext j; cases owner.getD j none <;> rfl
    rw [this]
    have f : (List.range 32).filterMap (fun j => if (owner.getD j none).isSome then some j else none) = (List.range 32).filter fun j => (owner.getD j none).isSome := by
      generalize List.range 32 = l
      induction l with
      | nil => rfl
      | cons a l ih =>
        rw [List.filterMap_cons, List.filter_cons, ih]
        by_cases q : (owner.getD a none).isSome = true
        · rw [if_pos q, if_pos q]
        · rw [if_neg q, if_neg q]
    rw [f]
    exact List.Pairwise.sublist List.filter_sublist (List.pairwise_lt_range)
  have len : ((List.range 32).filterMap fun j => (owner.getD j none).map (j, ·)).length = 5 := by
    rw [← List.length_map (f := (·.2)), snd, hok.p.length_eq, List.length_range]
  have cov : coversAll (ownL owner).toArray es.size = true := by
    unfold coversAll
    rw [hs]
    exact List.isPerm_iff.mpr hok.p
  have sz : ((ownL owner).toArray.filterMap (es[·]?)).size = 5 := by
    rw [← Array.length_toList, Array.toList_filterMap]
    have q := (hok.p.filterMap (fun i => es[i]?)).length_eq
    rw [show List.range 5 = List.range es.size by rw [hs], filterMap_getElem?_range] at q
    exact q.trans (by simp [hs])
  have ok : TOk { mask := 31, place := (((List.range 32).filterMap fun j => (owner.getD j none).map (j, ·)).map (·.1)).toArray, dummies := #[], finger := t.finger, led := t.led, moves := t.movedTo 31, plain := t.plain } 5 led :=
    ⟨rfl, rise, hl, hp, by show (List.toArray _).size = 5; rw [List.size_toArray, List.length_map]; exact len, fun h => absurd h (by decide), (by decide : 5 ≤ 31)⟩
  have whole : relayAll t es (SetTable.grown es.size) = ((ownL owner).toArray.filterMap (es[·]?), { mask := 31, place := (((List.range 32).filterMap fun j => (owner.getD j none).map (j, ·)).map (·.1)).toArray, dummies := #[], finger := t.finger, led := t.led, moves := t.movedTo 31, plain := t.plain }, false) := by
    unfold relayAll
    rw [hrel]
    dsimp only
    rw [snd, cov, sz, ok.fits]
    rfl
  rw [whole]
  exact ⟨_, rfl, ok, sz⟩
end Mine
end
section
open PySem PySem.Calls PySem.Spec PySem.W PyProof.Rows
set_option maxRecDepth 100000
set_option maxHeartbeats 4000000
set_option linter.all false


namespace Mine
noncomputable def keyOf (e : Int × Value) : Int := match e.2 with | .int k _ => k | _ => 0
noncomputable def keys (es : Array (Int × Value)) : List Int := es.toList.map keyOf
noncomputable def SetAt (h : Heap) (a : Addr) (led : Bool) (es : Array (Int × Value)) : Prop := ∃ o ep t, h.get? a = some o ∧ o.ExactSet ∧ o.data = .set es ep t ∧ TOk t es.size led
section
variable {prog : Program} {w : World} {A : Around} {E : Value → Shared → Prop} {s : Shared}
noncomputable def IntEls (prog : Program) (w : World) (es : List (Int × Value)) : Prop := ∀ e ∈ es, ∃ k t, e = ((intKind prog w).hash k, .int k t)
theorem IntEls.els {es : List (Int × Value)} (h : IntEls prog w es) : ElemsOf (intKind prog w) es := fun e he => by
  obtain ⟨k, t, rfl⟩ := h e he
  exact ⟨⟨k, intKind_is _ _ _ _, rfl⟩, rfl⟩
theorem IntEls.perm {l l' : List (Int × Value)} (h : IntEls prog w l) (p : l'.Perm l) : IntEls prog w l' := fun e he => h e (p.mem_iff.mp he)
theorem isKey {es : List (Int × Value)} (h : IntEls prog w es) {k : Int} {e : Int × Value} (he : e ∈ es) : (intKind prog w).is k e.2 = true ↔ keyOf e = k := by
  obtain ⟨k', t, rfl⟩ := h e he
  constructor
  · intro q; exact (intKind prog w).inj _ k' k (intKind_is _ _ _ _) q
  · intro q
    have q' : k' = k := q
    subst q'
    exact intKind_is _ _ _ _
theorem setStore {h : Heap} {a : Addr} {o : Obj} {es es' : Array (Int × Value)} {ep : Nat} {t t' : SetTable} {led : Bool} (ho : h.get? a = some o) (hex : o.ExactSet) (hd : o.data = .set es ep t) (hT : TOk t' es'.size led) :
    (h.update a (Obj.putSet es' t')).get? a = some { o with data := .set es' (ep + 1) t' } ∧ SetAt (h.update a (Obj.putSet es' t')) a led es' := by
  have hg : (h.update a (Obj.putSet es' t')).get? a = some { o with data := .set es' (ep + 1) t' } := by
    have := Heap.get?_update_self (Obj.putSet es' t') ho (by rw [putSet_of es' t' hd]; rfl)
    rw [putSet_of es' t' hd] at this; exact this
  exact ⟨hg, _, ep + 1, t', hg, hex, rfl, hT⟩
theorem setAdd_L {a : Addr} {led : Bool} {es : Array (Int × Value)} {k : Int} {tk : Tok} {Q : Bool → Shared → Prop} (hS : SetAt s.heap a led es) (hi : IntEls prog w es.toList) (hn : es.size ≤ 4)
    (h : ∀ b h' es', Heap.SameBut a s.heap h' → SetAt h' a led es' → IntEls prog w es'.toList → (keys es').Perm (if k ∈ keys es then keys es else keys es ++ [k]) → Q b { s with heap := h' }) :
    wpAny (model prog w) A (setAddHashed a (.int k tk) ((intKind prog w).hash k)) Q E s := by
  obtain ⟨o, ep, t, ho, hex, hd, hT⟩ := id hS
  have hkey : (intKind prog w).is k (.int k tk) = true := intKind_is _ _ _ _
  unfold setAddHashed setAddHashedIn
  refine wpAny_holding (wpAny_bind (wpAny_setState_of ho hd hT.fits ?_))
  dsimp only
  rw [byScan_of rfl (by unfold scanBound; omega) hi.els]
  simp only [↓reduceIte]
  unfold setAddByScan
  refine wpAny_bind ?_
  refine wpAny_bind (wpAny_rule ?_)
  refine wpAny_bind (wpAny_setScan_of hkey ho hd hT.fits hi.els ?_)
  cases hr : List.findIdx? (fun e => (intKind prog w).is k e.2) es.toList with
  | some j =>
    dsimp only
    obtain ⟨hj, hpj, _⟩ := List.findIdx?_eq_some_iff_getElem.mp hr
    have hk : k ∈ keys es := List.mem_map.mpr ⟨_, List.getElem_mem hj, (isKey hi (List.getElem_mem hj)).mp hpj⟩
    refine wpAny_pure (wpAny_pure ?_)
    have e : s = { s with heap := s.heap } := by cases s; rfl
    rw [e]
    exact h _ _ es (Heap.SameBut.refl a s.heap) hS hi (by rw [if_pos hk])
  | none =>
    dsimp only
    have hk : k ∉ keys es := fun hm => by
      obtain ⟨e, he, q⟩ := List.mem_map.mp hm
      have := List.findIdx?_eq_none_iff.mp hr e he
      rw [(isKey hi he).mpr q] at this; exact Bool.noConfusion this
    have hperm := layNew_perm t es ((intKind prog w).hash k) (.int k tk)
    obtain ⟨t1, e1, d1, r1, l1, p1, s1, m1, z1⟩ := lay_ok hT hn rfl ((intKind prog w).hash k) (.int k tk)
    generalize hL : layNew t es ((intKind prog w).hash k) (.int k tk) = L at hperm e1 z1 ⊢
    obtain ⟨es1, L2⟩ := L
    dsimp only at hperm e1 z1
    subst e1
    dsimp only
    rw [Array.toList_push] at hperm
    have hi1 : IntEls prog w es1.toList := IntEls.perm (fun e he => by
      rcases List.mem_append.mp he with he | he
      · exact hi e he
      · rw [List.mem_singleton.mp he]; exact ⟨k, tk, rfl⟩) hperm
    have hk1 : (keys es1).Perm (if k ∈ keys es then keys es else keys es ++ [k]) := by
      rw [if_neg hk]
      have := hperm.map keyOf
      rw [List.map_append] at this
      exact this
    refine wpAny_bind (wpAny_pure ?_)
    rw [p1]
    simp only [↓reduceIte]
    refine wpAny_bind ?_
    rw [hashByValue_scannable 8 rfl]
    refine wpAny_pure ?_
    simp only [plainKind, ↓reduceIte]
    refine wpAny_bind (wpAny_storeSet_of ho hd ?_ (by rw [z1, sizeLine_eq]; omega))
    by_cases h5 : es.size = 4
    · have tf : (!false && t1.tooFull) = true := by
        simp [SetTable.tooFull, SetTable.fill, s1, d1, m1, h5]
      rw [if_pos tf]
      have hz : es1.size = 5 := by rw [z1, h5]
      obtain ⟨t2, e2, T2, z2⟩ := relay_ok hz l1 p1
      have hp2 := relayAll_perm t1 es1 (SetTable.grown es1.size)
      generalize hR : relayAll t1 es1 (SetTable.grown es1.size) = R at hp2 e2 z2 ⊢
      obtain ⟨es2, R2⟩ := R
      dsimp only at hp2 e2 z2
      subst e2
      dsimp only
      refine wpAny_bind (wpAny_pure ?_)
      have hg1 : (s.heap.update a (Obj.putSet es1 t1)).get? a = some { o with data := .set es1 (ep + 1) t1 } := by
        have := Heap.get?_update_self (Obj.putSet es1 t1) ho (by rw [putSet_of es1 t1 hd]; rfl)
        rw [putSet_of es1 t1 hd] at this; exact this
      refine wpAny_bind (wpAny_storeSet_of hg1 rfl ?_ (by rw [z2, sizeLine_eq]; omega))
      have st := setStore (es' := es2) (t' := t2) hg1 hex rfl (by rw [z2]; exact T2)
      exact wpAny_pure (wpAny_pure (h _ _ es2 ((Heap.SameBut.update s.heap a _).trans (Heap.SameBut.update _ a _)) st.2 (hi1.perm hp2) ((hp2.map keyOf).trans hk1)))
    · have tf : ¬ (!false && t1.tooFull) = true := by
        simp [SetTable.tooFull, SetTable.fill, s1, d1, m1]; omega
      rw [if_neg tf]
      have st := setStore (es' := es1) (t' := t1) ho hex hd (by rw [z1]; exact ⟨d1, r1, l1, p1, s1, fun _ => m1, by rw [m1]; omega⟩)
      exact wpAny_pure (wpAny_pure (h _ _ es1 (Heap.SameBut.update s.heap a _) st.2 hi1 hk1))

noncomputable abbrev sLed (w : World) : Bool := !(w.params.followText "set-order")
theorem setAt_up {h h' : Heap} {a : Addr} {led : Bool} {es : Array (Int × Value)} (x : SetAt h a led es) (k : ∀ o, h.get? a = some o → h'.get? a = some o) : SetAt h' a led es := let ⟨o, ep, t, e, r⟩ := x; ⟨o, ep, t, k _ e, r⟩
theorem setLoop {R : Result → Shared → Prop} {I : Addr} {fp wr : List Addr} {n : Nat} {P : Nat → Value → Prop} {St : Nat → Heap → Prop} {led : Bool} (W : Walks prog w A.in1 I fp wr n P St) (S : Addr) (hSf : S ∉ fp) (val : Nat → Int) (hval : ∀ i v, P i v → ∃ t, v = .int (val i) t) (hn : n ≤ 5) :
    ∀ (k i : Nat) (s : Shared) (es : Array (Int × Value)), n - i = k → i ≤ n → St i s.heap → SetAt s.heap S led es → IntEls prog w es.toList → es.size ≤ i → (keys es).Nodup → (∀ x, x ∈ keys es ↔ ∃ j, j < i ∧ val j = x) →
      (∀ h' tk es, (∀ b o, b ≠ S → b ∉ wr → s.heap.get? b = some o → h'.get? b = some o) → SetAt h' S led es → IntEls prog w es.toList → es.size ≤ 5 → (keys es).Nodup → (∀ x, x ∈ keys es ↔ ∃ j, j < n ∧ val j = x) → R (.ok (.ret .none)) { s with heap := h', toks := tk }) →
      codeAny (model prog w) A (.builtin "set.update.loop" ⟨[.ref S, .ref I], []⟩) R s := by
  have hSw : S ∉ wr := fun h => hSf (W.sub _ h)
  intro k
  induction k with
  | zero =>
    intro i s es hk hi hst hS hE hz hd hm hR
    obtain rfl : i = n := by omega
    refine codeAny_builtin F.entry_set_update_loop ?_
    rw [Around.under_plainId F.plain_set_update_loop _]
    show wpAny _ A.in1 (pyNext (.ref I) >>= _) _ _ s
    refine wpAny_bind (W.done s _ _ hst fun h' tk hk' => ?_)
    exact wpAny_pure (hR h' tk es (fun b o _ hb e => hk' b o hb e) (setAt_up hS fun o e => hk' _ o hSw e) hE (by omega) hd hm)
  | succ k ih =>
    intro i s es hk hi hst hS hE hz hd hm hR
    have hlt : i < n := by omega
    refine codeAny_builtin F.entry_set_update_loop ?_
    rw [Around.under_plainId F.plain_set_update_loop _]
    show wpAny _ A.in1 (pyNext (.ref I) >>= _) _ _ s
    refine wpAny_bind (W.item i s _ _ hlt hst fun v h₁ tk₁ hP hst' hk₁ => ?_)
    obtain ⟨t, rfl⟩ := hval i v hP
    have hS' : SetAt h₁ S led es := setAt_up hS fun o e => hk₁ _ o hSw e
    show wpAny _ A.in1 (holding [Value.int (val i) t] (setAdd S (.int (val i) t)) >>= _) _ _ _
    refine wpAny_bind (wpAny_holding ?_)
    unfold setAdd
    refine wpAny_holding ?_
    refine wpAny_bind ((intKind prog w).pyHash (k := val i) (intKind_is _ _ _ _) ?_)
    refine setAdd_L (s := { s with heap := h₁, toks := tk₁ + 1 }) hS' hE (by omega) fun b h₂ es₂ hsb hS₂ hE₂ hp => ?_
    have hz2 : es₂.size = (keys es₂).length := by simp [keys]
    have hz1 : es.size = (keys es).length := by simp [keys]
    refine wpAny_pure ⟨plainId_quiet F.plain_set_update_loop _, ih (i + 1) _ es₂ (by omega) hlt (W.frame _ _ _ hst' fun b hb o e => ?_) hS₂ hE₂ ?_ ?_ ?_ fun h' tk es' hk' => ?_⟩
    · exact hsb.extBut b o (fun q => hSf (q ▸ hb)) e
    · rw [hz2, hp.length_eq]; split
      · omega
      · rw [List.length_append, List.length_singleton]; omega
    · refine (hp.nodup_iff).mpr ?_
      split
      · exact hd
      · next q =>
        rw [List.nodup_append]
        refine ⟨hd, by simp, fun x hx y hy e => ?_⟩
        rw [List.mem_singleton.mp hy] at e
        exact q (e ▸ hx)
    · intro x
      rw [hp.mem_iff]
      have : (∃ j, j < i + 1 ∧ val j = x) ↔ (∃ j, j < i ∧ val j = x) ∨ val i = x := by
        constructor
        · rintro ⟨j, hj, e⟩
          rcases Nat.lt_or_ge j i with q | q
          · exact .inl ⟨j, q, e⟩
          · obtain rfl : j = i := by omega
            exact .inr e
        · rintro (⟨j, hj, e⟩ | e)
          · exact ⟨j, by omega, e⟩
          · exact ⟨i, by omega, e⟩
      rw [this, ← hm x]
      split
      · next q => exact ⟨.inl, fun z => z.elim id fun e => e ▸ q⟩
      · rw [List.mem_append, List.mem_singleton]
        exact ⟨fun z => z.imp id Eq.symm, fun z => z.imp id Eq.symm⟩
    · exact hR h' tk es' fun b o hb hw e => hk' b o hb hw (hsb.extBut b o hb (hk₁ b o hw e))
theorem set_new_1 (a : Value) {Q₁ : Value → Shared → Prop}
    (h : Q₁ (.ref s.heap.objs.size) { s with heap := s.heap.push { cls := .type "set", dict := none, data := .set #[] 0 (.fresh 0 0 (sLed w)) } }) :
    codeAny (model prog w) A (.call (.builtin "set.__new__") ⟨[.type "set", a], []⟩) (wants Q₁ E) s := by
  refine codeAny_of_tree ?_
  show wpAny _ A.in1 (do checkBuiltinCall "set.__new__" ⟨[.type "set", a], []⟩; again (.builtin "set.__new__" ⟨[.type "set", a], []⟩)) _ _ s
  refine wpAny_bind (wpAny_of_eq (F.newCall_set_1 a) (wpAny_pure ⟨plainId_quiet F.plain_set_new _, codeAny_builtin F.entry_set_new ?_⟩))
  rw [Around.under_plainId F.plain_set_new _]
  unfold Builtin.«set.__new__» Builtin.Frozenset.newClass
  have hsub := sub_set_self
  obtain ⟨hp, g, d, tk, os⟩ := s
  dsimp only
  wp_walk
  refine wpAny_askSetting (wpAny_pure ?_)
  dsimp only
  simp only [newObj]
  refine wpAny_bind (wpAny_alloc (wpAny_pure ?_))
  exact wpAny_pure h
/-- set(l), l a list of at most five ints -/
theorem mkSet {l : Addr} {items : Array Value} {ns : List Int} {Q : Value → Shared → Prop} (hh : A.handled = none) (hl : s.heap.IsList l items) (hi : IntsAre items.toList ns) (hb : items.size ≤ 5)
    (h : ∀ (h' : Heap) (tk : Nat) (es : Array (Int × Value)), SetAt h' s.heap.objs.size (sLed w) es → IntEls prog w es.toList → es.size ≤ 5 → (keys es).Nodup → (∀ x, x ∈ keys es ↔ x ∈ ns) →
      (∀ b o, b < s.heap.objs.size → s.heap.get? b = some o → h'.get? b = some o) → Q (.ref s.heap.objs.size) { s with heap := h', toks := tk }) :
    wpAny (model prog w) A (call (.type "set") [.ref l]) Q E s := by
  obtain ⟨c, tl, hmro⟩ := F.called_set.mro
  have hmade := F.called_set.made
  have hsub := F.called_set.sub
  refine wpAny_call (codeAny_of_tree ?_)
  show wpAny _ _ (callAny (.type "set") _) _ _ _
  refine wpAny_pure ⟨Code.quiet_builtin _ (by decide +kernel), codeAny_builtin F.entry_type_call ?_⟩
  rw [Around.under_plain (weight_type_call_type "set" [.ref l] []) rfl]
  have h1 := F.called_set.notType
  have h2 := F.called_set.canCreate
  have hct := F.typeCall_set_1 (.ref l)
  repeat (any_goals (first | assumption | wp_step))
  refine codeAny_mono (set_new_1 (.ref l) (E := E) (Q₁ := fun obj s₁ => obj = .ref s.heap.objs.size ∧ s₁ = { s with heap := s.heap.push { cls := .type "set", dict := none, data := .set #[] 0 (.fresh 0 0 (sLed w)) } }) ⟨rfl, rfl⟩) fun r s₁ hr => ?_
  cases r with
  | error e => exact hr
  | ok fl =>
    cases fl with
    | ret obj =>
      obtain ⟨rfl, rfl⟩ := hr
      clear hct h2 h1 hmade hmro
      generalize hled : sLed w = led at *
      have hS : (s.heap.push { cls := .type "set", dict := none, data := .set #[] 0 (.fresh 0 0 led) }).get? s.heap.objs.size = some { cls := .type "set", dict := none, data := .set #[] 0 (.fresh 0 0 led) } := Heap.get?_push_size _ rfl
      have hT : Shared.TypeIs { s with heap := s.heap.push { cls := .type "set", dict := none, data := .set #[] 0 (.fresh 0 0 led) } } (.ref s.heap.objs.size) "set" := ⟨_, hS, rfl⟩
      have hli := F.called_set.init.lookup
      have hbi := F.called_set.init.bind (.ref s.heap.objs.size)
      repeat (any_goals (first | assumption | wp_step))
      refine codeAny_mono (codeAny_call_builtin (R := wants (fun r s₂ => r = .none ∧ ∃ h' tk es, s₂ = { s with heap := h', toks := tk } ∧ SetAt h' s.heap.objs.size led es ∧ IntEls prog w es.toList ∧ es.size ≤ 5 ∧ (keys es).Nodup ∧ (∀ x, x ∈ keys es ↔ x ∈ ns) ∧
          (∀ b o, b < s.heap.objs.size → s.heap.get? b = some o → h'.get? b = some o)) E) F.called_set.init.plain F.entry_set_init (check_set_init_1 hT ?_)) fun r₂ s₂ hr₂ => ?_
      · obtain ⟨ol, hol, hcl, nl, hdl⟩ := hl
        obtain ⟨ocls, odict, odata, oslots⟩ := ol
        simp only at hcl hdl
        subst hcl; subst hdl
        have hol' : (s.heap.push { cls := .type "set", dict := none, data := .set #[] 0 (.fresh 0 0 led) }).get? l = some { cls := .type "list", dict := odict, data := .seq items nl, slots := oslots } := Heap.get?_push_of_some _ hol
        have hsls := F.sub_list_set
        have hslf := F.sub_list_frozenset
        have hne : (Value.type "list" == Value.type "dict") = false := by decide
        have hl1 : (s.heap.push { cls := .type "set", dict := none, data := .set #[] 0 (.fresh 0 0 led) }).IsList l items := ⟨_, hol', rfl, nl, rfl⟩
        unfold Builtin.«set.__init__» noKeywords Builtin.Frozenset.updateFrom
        generalize hPI : pyIter = PI
        wp_walk
        subst hPI
        refine wpAny_pyIter_list hl1 ?_
        refine wpAny_bind (wpAny_runValue ?_)
        have hlS : l < s.heap.objs.size := Heap.lt_size hol
        have hh3 : A.in1.in1.in1.handled = none := by simp [hh]
        have hneI : l ≠ (s.heap.push { cls := .type "set", dict := none, data := .set #[] 0 (.fresh 0 0 led) }).objs.size := by
          rw [Heap.size_push]; exact Nat.ne_of_lt (Nat.lt_succ_of_lt hlS)
        have hSf : s.heap.objs.size ∉ [(s.heap.push { cls := .type "set", dict := none, data := .set #[] 0 (.fresh 0 0 led) }).objs.size, l] := by
          rw [Heap.size_push]; simp only [List.mem_cons, List.mem_singleton, List.not_mem_nil, or_false, not_or]
          exact ⟨Nat.ne_of_lt (Nat.lt_succ_self _), Nat.ne_of_gt hlS⟩
        have hval : ∀ (i : Nat) (v : Value), items[i]? = some v → ∃ t, v = .int ((fun i => ns.getD i 0) i) t := fun i v hv => IntsAre.int_at hi i v (by rw [Array.getElem?_toList]; exact hv)
        have hlen : items.size = ns.length := by have := IntsAre.length hi; simpa using this
        refine setLoop (led := led) (Walks.list hh3 _ l hneI items) s.heap.objs.size hSf (fun i => ns.getD i 0) hval hb (items.size - 0) 0 _ #[] (by omega) (Nat.zero_le _)
          ⟨⟨_, Heap.get?_push_size _ rfl, rfl, rfl⟩, (hl1.push _)⟩ ⟨_, _, _, Heap.get?_push_of_some _ hS, ⟨rfl, rfl, rfl⟩, rfl, TOk.fresh led⟩ (fun e he => by simp at he) (Nat.le_refl _) (by simp [keys]) (fun x => by simp [keys]) ?hR
        case hR =>
          intro h' tk es hk hS' hE hz hd hm
          refine wpAny_pure ?_
          show wpAny _ _ (ret Value.none) _ _ _
          refine wpAny_pure ⟨rfl, h', tk, es, rfl, hS', hE, hz, hd, fun x => (hm x).trans ?_, fun b o hb e => ?_⟩
          · rw [hlen]
            constructor
            · rintro ⟨j, hj, rfl⟩
              have : ns.getD j 0 = ns[j] := by simp [List.getD_eq_getElem?_getD, List.getElem?_eq_getElem hj]
              show ns.getD j 0 ∈ ns
              rw [this]; exact List.getElem_mem hj
            · intro hx
              obtain ⟨j, hj, rfl⟩ := List.getElem_of_mem hx
              exact ⟨j, hj, by simp [List.getD_eq_getElem?_getD, List.getElem?_eq_getElem hj]⟩
          · have hb2 : b ≠ (s.heap.push { cls := .type "set", dict := none, data := .set #[] 0 (.fresh 0 0 led) }).objs.size := by
              rw [Heap.size_push]; exact Nat.ne_of_lt (Nat.lt_succ_of_lt hb)
            exact hk b o (Nat.ne_of_lt hb) (by simpa using hb2) (Heap.get?_push_of_some _ (Heap.get?_push_of_some _ e))
      · cases r₂ with
        | error e => exact hr₂
        | ok fl₂ =>
          cases fl₂ with
          | ret r =>
            obtain ⟨rfl, h', tk, es, rfl, hS', hE, hz, hd, hm, hk'⟩ := hr₂
            repeat (any_goals (first | assumption | wp_step))
            exact h _ _ es hS' hE hz hd hm hk'
          | _ => exact hr₂.elim
    | _ => exact hr.elim
end
end Mine
end
section
open PySem PySem.Calls PySem.Spec PySem.W PyProof.Rows
set_option maxRecDepth 100000
set_option maxHeartbeats 4000000
set_option linter.all false
namespace Mine
theorem slot_si_next : Slot "set_iterator" "__next__" "set_iterator.__next__" :=
  .of (owner := "set_iterator") (n := "__next__") (by rw [typeLookup_type, builtinLookup_eq_fast]; kernel_rfl) (by decide +kernel) (by decide +kernel) (by decide +kernel)
    (by first | exact .inl (by decide +kernel) | exact .inr (by decide +kernel)) (by rw [isSubtype_type]; kernel_rfl)
theorem entry_si_next : entryFor table "set_iterator.__next__" = some Builtin.«set_iterator.__next__» := entryFor_of_tree (by kernel_rfl)
theorem entry_set_iter : entryFor table "set.__iter__" = some Builtin.«frozenset.__iter__» := entryFor_alias (id' := "frozenset.__iter__") (by kernel_rfl) rfl (by decide +kernel) (by kernel_rfl)
theorem args_si_next (a : Value) : argsOk "set_iterator.__next__" ⟨[a], []⟩ := by unfold argsOk; kernel_rfl
theorem nolen_si : typeLookup (.type "set_iterator") "__len__" = pure none := by rw [typeLookup_type, builtinLookup_eq_fast]; kernel_rfl
theorem hint_si : typeLookup (.type "set_iterator") "__length_hint__" = pure (some (.builtin "set_iterator.__length_hint__")) := by rw [typeLookup_type, builtinLookup_eq_fast]; kernel_rfl
theorem erase_perm {α : Type} {l : List α} {i : Nat} (h : i < l.length) : (l[i] :: l.eraseIdx i).Perm l := by
  rw [List.eraseIdx_eq_take_drop_succ]
  refine List.perm_middle.symm.trans ?_
  rw [List.getElem_cons_drop, List.take_append_drop]
theorem pick_go {α : Type} (f : Nat → Nat) : ∀ (fuel k : Nat) (l : List α) (out : Array α), l.length = fuel → (pickOrder.go f fuel k l out).toList.Perm (out.toList ++ l)
  | 0, k, l, out, h => by
    obtain rfl := List.eq_nil_of_length_eq_zero h
    unfold pickOrder.go; simp
  | fuel + 1, k, l, out, h => by
    unfold pickOrder.go
    have hlt : f k % l.length < l.length := Nat.mod_lt _ (by omega)
    rw [List.getElem?_eq_getElem hlt]
    dsimp only
    refine (pick_go f fuel (k + 1) _ _ (by rw [List.length_eraseIdx]; simp [hlt]; omega)).trans ?_
    rw [Array.toList_push, List.append_assoc]
    refine List.Perm.append_left _ ?_
    exact erase_perm hlt
theorem pick_perm {α : Type} (f : Nat → Nat) (xs : Array α) : (pickOrder f xs).toList.Perm xs.toList := by
  have := pick_go f xs.size 0 xs.toList #[] (by simp)
  simpa [pickOrder] using this
noncomputable def ordOf (w : World) (a : Addr) (ep : Nat) (es : Array (Int × Value)) : Array (Int × Value) := if sLed w = true then es else pickOrder (w.params.setOrder a ep) es
theorem ord_perm (w : World) (a : Addr) (ep : Nat) (es : Array (Int × Value)) : (ordOf w a ep es).toList.Perm es.toList := by
  unfold ordOf; split
  · exact .rfl
  · exact pick_perm ..
theorem ord_size (w : World) (a : Addr) (ep : Nat) (es : Array (Int × Value)) : (ordOf w a ep es).size = es.size := by
  have := (ord_perm w a ep es).length_eq; simpa using this
noncomputable abbrev siO (slot i : Nat) (a : Addr) (n ep : Nat) : Obj := { cls := .type "set_iterator", data := .fields #[rawInt slot, rawInt i, .ref a, rawInt n, rawInt ep] }
section
variable {prog : Program} {w : World} {A : Around} {E : Value → Shared → Prop} {s : Shared} {a I : Addr} {o : Obj} {es : Array (Int × Value)} {ep : Nat} {t : SetTable}
noncomputable def SiSt (w : World) (a I : Addr) (o : Obj) (es : Array (Int × Value)) (ep : Nat) (t : SetTable) (i : Nat) (h : Heap) : Prop :=
  h.get? a = some o ∧ ∃ slot, h.get? I = some (siO slot i a es.size ep) ∧ (sLed w = true → SetTable.below t.place slot = i)
theorem wpAny_byText {Q : Bool → Shared → Prop} (h : Q (!sLed w) s) : wpAny (model prog w) A setsByText Q E s := by
  unfold setsByText
  refine wpAny_bind (wpAny_askSetting (wpAny_pure ?_))
  show Q (w.params.followText "set-order") s
  simpa [sLed] using h
theorem setWalk_txt {Q : Array (Int × Value) → Shared → Prop} (ho : s.heap.get? a = some o) (hd : o.data = .set es ep t) (hT : TOk t es.size (sLed w)) (hs : sLed w = false) (h : Q (ordOf w a ep es) s) :
    wpAny (model prog w) A (setWalk a) Q E s := by
  unfold setWalk
  refine wpAny_bind (wpAny_setState_of ho hd hT.fits ?_)
  dsimp only
  refine wpAny_bind (wpAny_byText ?_)
  rw [hs]
  simp only [Bool.not_false, if_true]
  refine wpAny_bind (wpAny_askSetting (wpAny_pure ?_))
  unfold ordOf at h
  rw [hs] at h
  show Q (pickOrder (w.params.setOrder a ep) es) s
  simpa using h
theorem setNext_ok {slot i : Nat} {Q : Option (Value × Nat) → Shared → Prop} (ho : s.heap.get? a = some o) (hd : o.data = .set es ep t) (hT : TOk t es.size (sLed w)) (hb : sLed w = true → SetTable.below t.place slot = i)
    (h : ∀ next, (sLed w = true → i < es.size → SetTable.below t.place next = i + 1) → Q (((ordOf w a ep es)[i]?).map fun e => (e.2, next)) s) :
    wpAny (model prog w) A (setNext a slot i ep) Q E s := by
  unfold setNext
  refine wpAny_bind (wpAny_setState_of ho hd hT.fits ?_)
  dsimp only
  refine wpAny_bind (wpAny_byText ?_)
  cases hs : sLed w with
  | false =>
    simp only [Bool.not_false, if_true, bne_self_eq_false, Bool.false_eq_true, if_false]
    refine wpAny_bind (setWalk_txt ho hd hT hs ?_)
    exact wpAny_pure (h slot fun q => by rw [hs] at q; cases q)
  | true =>
    simp only [Bool.not_true, Bool.false_eq_true, if_false]
    rw [if_neg (by intro h; change (!t.plain && decide (es.size > 1)) = true at h; rw [hT.p] at h; simp at h)]
    refine wpAny_bind (wpAny_of_eq (a := ()) (by show (if (!t.led && !es.isEmpty) = true then unsupported _ else pure ()) = pure (); rw [hT.l, hs]; rfl) ?_)
    rw [hb hs]
    have eo : ordOf w a ep es = es := by unfold ordOf; rw [if_pos hs]
    rw [eo] at h
    by_cases hi : i < es.size
    · have hp : i < t.place.size := by rw [hT.s]; exact hi
      have g1 : es[i]? = some (es[i].1, es[i].2) := Array.getElem?_eq_getElem hi
      rw [g1, Array.getElem?_eq_getElem hp]
      refine wpAny_pure ?_
      have z := h (t.place[i] + 1) fun _ _ => ?_
      · rw [g1] at z; exact z
      · have gd : t.place.getD i 0 = t.place[i] := by rw [Array.getD_eq_getD_getElem?, Array.getElem?_eq_getElem hp]; rfl
        refine below_is hT.r (by omega) (fun j hj => ?_) (fun hj => ?_)
        · rw [← gd]
          rcases Nat.lt_or_ge j i with q | q
          · have := rise_get hT.r q hp; omega
          · obtain rfl : j = i := by omega
            omega
        · rw [← gd]
          have := rise_get hT.r (Nat.lt_add_one i) hj; omega
    · have g1 : es[i]? = none := Array.getElem?_eq_none (by omega)
      rw [g1]
      refine wpAny_pure ?_
      have z := h 0 fun _ q => absurd q hi
      rw [g1] at z; exact z
theorem si_typeIs {h : Heap} {i : Nat} (st : SiSt w a I o es ep t i s.heap) : s.TypeIs (.ref I) "set_iterator" := by
  obtain ⟨_, slot, e, _⟩ := st
  exact ⟨_, e, rfl⟩
/-- a step of a set's iterator -/
theorem si_item {i : Nat} {Q : Option Value → Shared → Prop} (hd : o.data = .set es ep t) (hT : TOk t es.size (sLed w)) (hne : a ≠ I) (st : SiSt w a I o es ep t i s.heap) (hi : i < es.size)
    (h : ∀ v h', ((ordOf w a ep es)[i]?).map (·.2) = some v → SiSt w a I o es ep t (i + 1) h' → Heap.SameBut I s.heap h' → Q (some v) { s with heap := h' }) : wpAny (model prog w) A (pyNext (.ref I)) Q E s := by
  have hTy := si_typeIs (s := s) (h := s.heap) st
  obtain ⟨ho, slot, hI, hb⟩ := st
  unfold pyNext
  refine wpAny_bind (wpAny_attempt (wpAny_callSpecial?_slot (name := Str.ofString "__next__") hTy slot_si_next (wpAny_call_entry slot_si_next hTy entry_si_next ?_ (args_si_next _))))
  unfold Builtin.«set_iterator.__next__»
  refine wpAny_bind (wpAny_of_eq (a := (Value.ref I, [])) (by first | rfl | kernel_rfl) ?_)
  refine wpAny_bind (wpAny_fieldsOf hI rfl ?_)
  show wpAny _ _ (setEntries a >>= _) _ _ s
  refine wpAny_bind (wpAny_setEntries_of ho hd hT.fits ?_)
  rw [if_neg (by simp)]
  show wpAny _ _ (setNext a (Int.toNat slot) (Int.toNat i) (Int.toNat ep) >>= _) _ _ s
  simp only [Int.toNat_natCast]
  refine wpAny_bind (setNext_ok ho hd hT hb fun next hn => ?_)
  have hi' : i < (ordOf w a ep es).size := by rw [ord_size]; exact hi
  rw [Array.getElem?_eq_getElem hi']
  show wpAny _ _ (setField (.ref I) 0 (rawInt next) >>= _) _ _ s
  refine wpAny_bind (wpAny_setField hI rfl (by simp) ?_)
  have g1 : (s.heap.update I (Obj.mapFields (·.setIfInBounds 0 (rawInt next)))).get? I = some (siO next i a es.size ep) := Heap.get?_update_self _ hI rfl
  refine wpAny_bind (wpAny_setField g1 rfl (by simp) ?_)
  have g2 : ((s.heap.update I (Obj.mapFields (·.setIfInBounds 0 (rawInt next)))).update I (Obj.mapFields (·.setIfInBounds 1 (rawInt ((i : Int) + 1))))).get? I = some (siO next (i + 1) a es.size ep) := Heap.get?_update_self _ g1 rfl
  have sb : Heap.SameBut I s.heap ((s.heap.update I (Obj.mapFields (·.setIfInBounds 0 (rawInt next)))).update I (Obj.mapFields (·.setIfInBounds 1 (rawInt ((i : Int) + 1))))) := (Heap.SameBut.update ..).trans (Heap.SameBut.update ..)
  exact wpAny_pure ⟨_, rfl, wpAny_pure (h _ _ (by rw [Array.getElem?_eq_getElem hi']; rfl) ⟨sb.extBut _ _ hne ho, next, g2, fun q => hn q hi⟩ sb)⟩
theorem si_end {i : Nat} {Q : Option Value → Shared → Prop} (hh : A.handled = none) (hd : o.data = .set es ep t) (hT : TOk t es.size (sLed w)) (st : SiSt w a I o es ep t i s.heap) (hi : i = es.size)
    (h : ∀ h', Heap.ExtBut I s.heap h' → Q none { s with heap := h' }) : wpAny (model prog w) A (pyNext (.ref I)) Q E s := by
  have hTy := si_typeIs (s := s) (h := s.heap) st
  obtain ⟨ho, slot, hI, hb⟩ := st
  unfold pyNext
  refine wpAny_bind (wpAny_attempt (wpAny_callSpecial?_slot (name := Str.ofString "__next__") hTy slot_si_next (wpAny_call_entry slot_si_next hTy entry_si_next ?_ (args_si_next _))))
  unfold Builtin.«set_iterator.__next__»
  refine wpAny_bind (wpAny_of_eq (a := (Value.ref I, [])) (by first | rfl | kernel_rfl) ?_)
  refine wpAny_bind (wpAny_fieldsOf hI rfl ?_)
  show wpAny _ _ (setEntries a >>= _) _ _ s
  refine wpAny_bind (wpAny_setEntries_of ho hd hT.fits ?_)
  rw [if_neg (by simp)]
  show wpAny _ _ (setNext a (Int.toNat slot) (Int.toNat i) (Int.toNat ep) >>= _) _ _ s
  simp only [Int.toNat_natCast]
  refine wpAny_bind (setNext_ok ho hd hT hb fun next hn => ?_)
  rw [Array.getElem?_eq_none (by rw [ord_size]; omega)]
  show wpAny _ _ (setField (.ref I) 2 .none >>= _) _ _ s
  refine wpAny_bind (wpAny_setField hI rfl (by simp) ?_)
  show wpAny _ _ (newExc (.type "StopIteration") [] >>= _) _ _ _
  refine wpAny_bind ?_
  simp only [newExc, newTuple]
  refine wpAny_bind (wpAny_newObj_type ?_ (by size_fits))
  refine wpAny_bind (m := firstArgMember _ _) (wpAny_of_eq (a := Value.none) (by first | rfl | (simp only [firstArgMember]; rfl)) ?_)
  refine wpAny_newObj_type ?_ (by size_fits)
  simp only [raiseNew]
  refine wpAny_bind (wpAny_handled ?_)
  rw [show A.in1.handled = none from hh]
  refine wpAny_bind (wpAny_pure (wpAny_throw ?_))
  refine wpAny_bind (wpAny_isInstance (T := "StopIteration") (b := true) ⟨_, Heap.get?_push_size _ rfl, rfl⟩ isSubtype_stop ?_)
  exact wpAny_pure (h _ (((Heap.SameBut.update ..).extBut.push _).push _))
/-- iter(a set) -/
theorem set_iter {Q : Value → Shared → Prop} (ho : s.heap.get? a = some o) (hex : o.ExactSet) (hd : o.data = .set es ep t) (hT : TOk t es.size (sLed w))
    (h : SiSt w a s.heap.objs.size o es ep t 0 (s.heap.push (siO 0 0 a es.size ep)) → Q (.ref s.heap.objs.size) { s with heap := s.heap.push (siO 0 0 a es.size ep) }) : wpAny (model prog w) A (pyIter (.ref a)) Q E s := by
  have hTy : s.TypeIs (.ref a) "set" := ⟨o, ho, hex.1⟩
  refine wpAny_pyIter_slot hTy F.slot_set_iter (wpAny_call_entry F.slot_set_iter hTy entry_set_iter ?_ (F.args_set_iter_1 _))
  unfold Builtin.«frozenset.__iter__»
  refine wpAny_bind (show wpAny _ _ (Builtin.Frozenset.slot0 "__iter__" ⟨[.ref a], []⟩) _ _ s from ?_)
  unfold Builtin.Frozenset.slot0
  refine wpAny_bind (wpAny_of_eq (a := (Value.ref a, [])) (by first | rfl | kernel_rfl) ?_)
  refine wpAny_of_eq (a := a) (by rfl) ?_
  unfold Builtin.Frozenset.sizeOf
  refine wpAny_bind (wpAny_bind (wpAny_setEntries_of ho hd hT.fits (wpAny_pure ?_)))
  unfold setDrawn
  refine wpAny_bind (wpAny_bind (wpAny_setState_of ho hd hT.fits ?_))
  dsimp only
  refine wpAny_bind (wpAny_byText ?_)
  refine wpAny_pure ?_
  rw [if_neg (by intro h; change (!(!sLed w) && (!t.plain && decide (es.size > 1))) = true at h; rw [hT.p] at h; simp at h)]
  refine wpAny_bind (wpAny_pure ?_)
  refine wpAny_bind (wpAny_setEpoch_of ho hd hT.fits ?_)
  refine wpAny_bind (wpAny_newObj_type ?_)
  refine wpAny_pure ⟨_, rfl, "set_iterator", _, ⟨_, Heap.get?_push_size _ rfl, rfl⟩, slot_si_next.lookup, ?_⟩
  refine h ⟨Heap.get?_push_of_some _ ho, 0, Heap.get?_push_size _ rfl, fun _ => ?_⟩
  exact below_is hT.r (Nat.zero_le _) (fun i hi => absurd hi (by omega)) fun _ => Nat.zero_le _
theorem set_ext {R : Result → Shared → Prop} {S : Addr} {res : Value} (hh : A.handled = none) (hd : o.data = .set es ep t) (hT : TOk t es.size (sLed w)) (hn : es.size ≤ 5) (haI : a ≠ I) (hSa : S ≠ a) (hSI : S ≠ I) :
    ∀ (k i : Nat) (s : Shared) (acc : Array Value) (c : Nat), es.size - i = k → i ≤ es.size → SiSt w a I o es ep t i s.heap → s.heap.get? S = some { cls := .type "list", dict := none, data := .seq acc c, slots := #[] } → acc.toList = ((ordOf w a ep es).toList.take i).map (·.2) →
      (∀ h' acc' c', (∀ b o, b ≠ S → b ≠ I → s.heap.get? b = some o → h'.get? b = some o) → h'.get? S = some { cls := .type "list", dict := none, data := .seq acc' c', slots := #[] } → acc'.toList = (ordOf w a ep es).toList.map (·.2) → R (.ok (.ret res)) { s with heap := h' }) →
      codeAny (model prog w) A (.builtin "list.extend.loop" ⟨[.ref S, .ref I, res], []⟩) R s := by
  intro k
  induction k with
  | zero =>
    intro i s acc c hk hi hst hS hacc hR
    have hin : i = es.size := by omega
    refine codeAny_builtin F.entry_extend_loop ?_
    rw [Around.under_plainId F.plain_extend_loop _]
    show wpAny _ A.in1 (pyNext (.ref I) >>= _) _ _ s
    refine wpAny_bind (si_end hh hd hT hst hin fun h' hx => ?_)
    refine wpAny_pure (hR h' acc c (fun b o _ hb e => hx b o hb e) (hx _ _ hSI hS) ?_)
    rw [hacc, List.take_of_length_le (by rw [Array.length_toList, ord_size]; omega)]
  | succ k ih =>
    intro i s acc c hk hi hst hS hacc hR
    have hlt : i < es.size := by omega
    refine codeAny_builtin F.entry_extend_loop ?_
    rw [Around.under_plainId F.plain_extend_loop _]
    show wpAny _ A.in1 (pyNext (.ref I) >>= _) _ _ s
    refine wpAny_bind (si_item hd hT haI hst hlt fun v h₁ hv hst₁ hsb => ?_)
    have hS₁ := hsb.extBut _ _ hSI hS
    have hsz : acc.size = i := by
      have := congrArg List.length hacc
      simp only [Array.length_toList, List.length_map, List.length_take, ord_size] at this
      omega
    show wpAny _ A.in1 (updateSeq S (·.push v) >>= _) _ _ _
    refine wpAny_bind ?_
    refine wpAny_updateSeq hS₁ rfl (wpAny_pure ⟨plainId_quiet F.plain_extend_loop _, ih (i + 1) _ (acc.push v) _ (by omega) hlt ⟨?_, ?_⟩ (Heap.get?_update_self _ hS₁ rfl) ?_ fun h' acc' c' hk' hS' ha' => ?_⟩) (by rw [hsz, sizeLine_eq]; omega) (by show (acc.push v).size ≤ sizeLine + 1; rw [Array.size_push, hsz, sizeLine_eq]; omega)
    · exact (Heap.get?_update_other _ _ hSa).trans hst₁.1
    · obtain ⟨_, slot, e, hb⟩ := hst₁
      exact ⟨slot, (Heap.get?_update_other _ _ hSI).trans e, hb⟩
    · rw [Array.toList_push, hacc, List.take_add_one, List.map_append]
      congr 1
      have hi' : i < (ordOf w a ep es).size := by rw [ord_size]; exact hlt
      rw [Array.getElem?_eq_getElem hi'] at hv
      rw [Array.getElem?_toList, Array.getElem?_eq_getElem hi']
      simp only [Option.map_some, Option.some.injEq] at hv
      simp [hv]
    · refine hR h' acc' c' (fun b o hb hb' e => hk' b o hb hb' ?_) hS' ha'
      exact (Heap.get?_update_other _ _ (Ne.symm hb)).trans (hsb.extBut _ _ hb' e)
theorem collect_set {Q : List Value → Shared → Prop} (hh : A.handled = none) (ho : s.heap.get? a = some o) (hex : o.ExactSet) (hd : o.data = .set es ep t) (hT : TOk t es.size (sLed w)) (hn : es.size ≤ 5)
    (h : ∀ h', (∀ b o, s.heap.get? b = some o → h'.get? b = some o) → Q ((ordOf w a ep es).toList.map (·.2)) { s with heap := h' }) : wpAny (model prog w) A (collect (.ref a)) Q E s := by
  have hlt : a < s.heap.objs.size := Heap.lt_size ho
  unfold collect
  refine wpAny_bind (wpAny_runValue (codeAny_builtin F.entry_proto_collect ?_))
  rw [Around.under_plainId F.plain_proto_collect _]
  show wpAny _ A.in1 (newList [] >>= fun l => again (.builtin "list.__iadd__" ⟨[l, .ref a], []⟩)) _ _ s
  refine wpAny_bind (wpAny_newObj_type ?_)
  refine wpAny_pure ⟨plainId_quiet F.plain_list_iadd _, codeAny_builtin F.entry_list_iadd ?_⟩
  rw [Around.under_plainId F.plain_list_iadd _]
  have ho₁ : (s.heap.push { cls := .type "list", data := .seq ([] : List Value).toArray }).get? a = some o := Heap.get?_push_of_some _ ho
  have hS₁ : (s.heap.push { cls := .type "list", data := .seq ([] : List Value).toArray }).get? s.heap.objs.size = some { cls := .type "list", data := .seq ([] : List Value).toArray } := Heap.get?_push_size _ rfl
  have hSa : s.heap.objs.size ≠ a := Nat.ne_of_gt hlt
  have h1 : Builtin.List.listSameRef (.ref s.heap.objs.size) (.ref a) = false := by simp [Builtin.List.listSameRef, hSa]
  show wpAny _ A.in1 (Builtin.List.listExtendWith (.ref s.heap.objs.size) (.ref a) (.ref s.heap.objs.size)) _ _ _
  unfold Builtin.List.listExtendWith
  refine wpAny_bind (wpAny_typeOf ⟨o, ho₁, hex.1⟩ ?_)
  rw [if_neg (by rw [h1]; decide)]
  refine wpAny_bind (set_iter ho₁ hex hd hT fun st => ?_)
  refine wpAny_bind (wpAny_holding ?_)
  have hTy : Shared.TypeIs { s with heap := (s.heap.push { cls := .type "list", data := .seq ([] : List Value).toArray }).push (siO 0 0 a es.size ep) } (.ref a) "set" := ⟨o, st.1, hex.1⟩
  unfold Builtin.List.listLengthHint
  refine wpAny_bind (wpAny_specialOf hTy F.slot_set_len.lookup ?_)
  (generalize hid : ("set.__len__" : String) = id0; (fail_if_success (clear hid id0)); wp_delta; rw [show splitId id0 = some ("set", "__len__") from by subst hid; decide +kernel]; subst hid)
  refine wpAny_bind (wpAny_isInstance (b := true) hTy (by rw [isSubtype_type]; kernel_rfl) ?_)
  rw [if_neg (by decide)]
  dsimp only
  rw [if_pos (by decide +kernel)]
  refine wpAny_bind (wpAny_typeOf hTy ?_)
  refine wpAny_pure ?_
  rw [if_pos (by decide +kernel)]
  refine wpAny_bind (wpAny_rule ?_)
  have hI : ∀ x : Heap, x = s.heap.push { cls := .type "list", data := .seq ([] : List Value).toArray } → x.objs.size = s.heap.objs.size + 1 := fun x e => by rw [e, Heap.size_push]
  have hI' := hI _ rfl
  have hSI : s.heap.objs.size ≠ (s.heap.push { cls := .type "list", data := .seq ([] : List Value).toArray }).objs.size := by rw [hI']; omega
  have haI : a ≠ (s.heap.push { cls := .type "list", data := .seq ([] : List Value).toArray }).objs.size := by rw [hI']; exact Nat.ne_of_lt (Nat.lt_succ_of_lt hlt)
  have hS₂ : ((s.heap.push { cls := .type "list", data := .seq ([] : List Value).toArray }).push (siO 0 0 a es.size ep)).get? s.heap.objs.size = some { cls := .type "list", data := .seq ([] : List Value).toArray } := Heap.get?_push_of_some _ hS₁
  unfold Builtin.List.listTouch
  refine wpAny_bind (wpAny_bind (listUpdate_at hS₂ rfl ?_))
  have hS₃ := get?_update_seq (c := "list") (xs := #[]) (n := 0) hS₂ (fun x => x.push Value.none)
  refine listUpdate_at hS₃ rfl ?_
  have hS₄ := get?_update_seq (c := "list") hS₃ (fun x => x.pop)
  have sb : Heap.SameBut s.heap.objs.size ((s.heap.push { cls := .type "list", data := .seq ([] : List Value).toArray }).push (siO 0 0 a es.size ep)) _ := (Heap.SameBut.update _ _ (Obj.mapSeq (fun x => x.push Value.none))).trans (Heap.SameBut.update _ _ (Obj.mapSeq (fun x => x.pop)))
  obtain ⟨_, slot, eI, hb⟩ := st
  refine wpAny_pure ⟨plainId_quiet F.plain_extend_loop _, set_ext hh hd hT hn haI hSa hSI (es.size - 0) 0 _ #[] _ rfl (Nat.zero_le _) ⟨sb.extBut _ _ (Ne.symm hSa) (Heap.get?_push_of_some _ ho₁), slot, sb.extBut _ _ (Ne.symm hSI) eI, hb⟩ hS₄ rfl fun h' acc' c' hk hS' ha' => ?_⟩
  show wpAny _ A (load s.heap.objs.size >>= _) _ _ _
  refine wpAny_bind (wpAny_load hS' ?_)
  refine wpAny_pure ?_
  rw [ha']
  refine h h' fun b o e => hk b o (Nat.ne_of_lt (Heap.lt_size e)) ?_ (sb.extBut _ _ (Nat.ne_of_lt (Heap.lt_size e)) (Heap.get?_push_of_some _ (Heap.get?_push_of_some _ e)))
  rw [hI']
  exact Nat.ne_of_lt (Nat.lt_succ_of_lt (Heap.lt_size e))
theorem ints_of {l : List (Int × Value)} (h : IntEls prog w l) : IntsAre (l.map (·.2)) (l.map keyOf) := by
  induction l with
  | nil => exact .nil
  | cons e l ih =>
    obtain ⟨k, t, rfl⟩ := h _ (.head _)
    exact .cons k t (ih fun e he => h e (.tail _ he))
/-- sorted(a set of ints, reverse=True) -/
theorem sorted_set {led : Bool} {Q : Value → Shared → Prop} (hled : led = sLed w) (hh : A.handled = none) (hS : SetAt s.heap a led es) (hE : IntEls prog w es.toList) (hn : es.size ≤ 5)
    (h : ∀ c h' (out : Array Value) (ns' : List Int) e, s.heap.get? c = none → (∀ b o, s.heap.get? b = some o → h'.get? b = some o) → h'.get? c = some (seqObj "list" out e) → IntsAre out.toList ns' → ns'.Perm (keys es) → Ordered true ns' → Q (.ref c) { s with heap := h' }) :
    wpAny (model prog w) A (call (.builtin "sorted") [.ref a] [(Str.ofString "reverse", .bool true)]) Q E s := by
  subst hled
  obtain ⟨o, ep, t, ho, hex, hd, hT⟩ := hS
  refine call_function_entry_kw kind_sorted plain_sorted entry_sorted (args_sorted_rev _ _) ?_
  unfold Builtin.«sorted»
  refine wpAny_bind (m := checkCount "sorted" 1 1 _) (wpAny_pure ?_)
  refine wpAny_bind (collect_set hh ho hex hd hT hn fun h₁ hk₁ => ?_)
  generalize hvs : (ordOf w a ep es).toList.map (·.2) = vs
  have hp := ord_perm w a ep es
  have hI : IntsAre vs ((ordOf w a ep es).toList.map keyOf) := hvs ▸ ints_of (hE.perm hp)
  have hlen : vs.length = es.size := by rw [← hvs, List.length_map, Array.length_toList, ord_size]
  refine wpAny_bind (wpAny_newList ?_)
  have hoL : (h₁.push (seqObj "list" vs.toArray 0)).get? h₁.objs.size = some (seqObj "list" vs.toArray 0) := Heap.get?_push_size _ rfl
  refine wpAny_bind (wpAny_holding (wpAny_call_entry_kw slot_list_sort ⟨_, hoL, rfl⟩ entry_list_sort (list_sort_tree_rev hoL hI (by omega) fun out ns' a1 a2 a3 => ⟨_, rfl, ?_⟩) (args_list_sort_rev _ _)))
  obtain ⟨e, he⟩ := sortedHeap_at (out := out) hoL
  have hs1 : s.heap.get? h₁.objs.size = none := by
    cases q : s.heap.get? h₁.objs.size with
    | none => rfl
    | some o => exact absurd (Heap.lt_size (hk₁ _ _ q)) (Nat.lt_irrefl _)
  refine wpAny_pure ⟨_, rfl, h h₁.objs.size _ out ns' e hs1 (fun b o hb => ?_) he a1 (a2.trans (hp.map keyOf)) a3⟩
  have hb1 := hk₁ b o hb
  exact (sortedHeap_old (Nat.ne_of_lt (Heap.lt_size hb1)) (by rw [Heap.size_push]; exact Nat.lt_succ_of_lt (Heap.lt_size hb1))).trans (Heap.get?_push_of_some _ hb1)

/-- sorted(set(l), reverse=True), in the ledger -/
theorem sortedSet_N {h₀ : Heap} {L : Addr} {m : Str → Option Value} {news : List (Addr × Obj)} {Q : Value → Shared → Prop} (F : Fr h₀ L s.heap m) (N : News h₀ L s.heap news) (hh : A.handled = none) (hS : SetAt s.heap a (sLed w) es) (hE : IntEls prog w es.toList) (hn : es.size ≤ 5)
    (h : ∀ c h' (out : Array Value) (ns' : List Int) e, Fr h₀ L h' m → News h₀ L h' ((c, W.listOf out e) :: news) → LCg.Off1 c news → IntsAre out.toList ns' → ns'.Perm (keys es) → ns'.Pairwise (· ≥ ·) → Q (.ref c) { s with heap := h' }) :
    wpAny (model prog w) A (call (.builtin "sorted") [.ref a] [(Str.ofString "reverse", .bool true)]) Q E s := by
  refine sorted_set rfl hh hS hE hn fun c h' out ns' e hc hk he hi hp ho => ?_
  have ne : ∀ b o, s.heap.get? b = some o → b ≠ c := fun b o q e => by rw [e, hc] at q; cases q
  have key : ∀ l : List (Addr × Obj), (∀ p ∈ l, p.1 ≠ c) → LCg.Off1 c l := by
    intro l
    induction l with
    | nil => exact fun _ => trivial
    | cons q l ih => exact fun h => ⟨h q (.head _), ih fun x hx => h x (.tail _ hx)⟩
  refine h c h' out ns' e (F.kept hk) (fun p hp => ?_) (key _ fun p hp => ne _ _ (N p hp).1) hi hp ho
  rcases List.mem_cons.mp hp with rfl | hp
  · refine ⟨he, fun q => ?_, ?_⟩
    · obtain ⟨oL, _, _, hL, _⟩ := F.ns
      exact ne _ _ hL q.symm
    · cases q : h₀.get? c with
      | none => rfl
      | some o => have := F.keep _ _ q; rw [hc] at this; cases this
  · exact ⟨hk _ _ (N p hp).1, (N p hp).2⟩
/-- set(l), in the ledger: only its address is new -/
theorem mkSet_N {h₀ : Heap} {L l : Addr} {m : Str → Option Value} {news : List (Addr × Obj)} {vs : List Value} {ns : List Int} {Q : Value → Shared → Prop} (F : Fr h₀ L s.heap m) (N : News h₀ L s.heap news) (hh : A.handled = none) (hl : s.heap.IsList l vs.toArray) (hi : IntsAre vs ns) (hb : ns.length ≤ 5)
    (h : ∀ D h' tk es, Fr h₀ L h' m → News h₀ L h' news → SetAt h' D (sLed w) es → IntEls prog w es.toList → es.size ≤ 5 → (keys es).Nodup → (∀ x, x ∈ keys es ↔ x ∈ ns) → Q (.ref D) { s with heap := h', toks := tk }) :
    wpAny (model prog w) A (call (.type "set") [.ref l]) Q E s := by
  have hlen := IntsAre.length hi
  refine mkSet hh hl (by simpa using hi) (by simp; omega) fun h' tk es hS hE hz hd hm hk => ?_
  have up : ∀ b o, s.heap.get? b = some o → h'.get? b = some o := fun b o e => hk b o (Heap.lt_size e) e
  exact h _ h' tk es (F.kept up) (fun p hp => ⟨up _ _ (N p hp).1, (N p hp).2⟩) hS hE hz hd hm
end
end Mine
end
section
open PySem PySem.Calls PySem.Spec PySem.W PyProof.Rows
set_option maxRecDepth 100000
set_option maxHeartbeats 4000000
set_option linter.all false
namespace Mine
section
variable {prog : Program} {w : World} {A : Around} {E : Value → Shared → Prop} {s : Shared}
theorem pyHash_true {Q : Int → Shared → Prop} (h : ∀ tk, Q 1 { s with toks := tk }) : wpAny (model prog w) A (pyHash (.bool true)) Q E s := by
  show wpAny (model prog w) A (pyHashByItsType (.bool true)) Q E s
  refine pyHash_slot (T := "bool") (PySem.typeIs_bool s true) F.slot_bool_hash entry_int_hash (args_int_hash _) (beq_builtin_none _) (.inl rfl) ?_
  unfold Builtin.«int.__hash__»
  refine wpAny_bind (wpAny_of_eq (a := (Value.bool true, (1 : Int))) (by first | rfl | kernel_rfl) ?_)
  show wpAny _ _ (do ret (← mkInt 1)) _ _ s
  refine wpAny_mono (wpAny_ret_mkInt (Q := fun v s' => ∃ (n : Int) (t : Tok), v = .int n t ∧ Q (reduceHash n) s') ⟨1, _, rfl, h _⟩) (fun fin s' hq => ?_) fun _ _ e => e
  obtain ⟨v, e, n, t, rfl, q⟩ := hq
  exact ⟨n, t, e, q⟩
theorem eqBool_true {Q : Bool → Shared → Prop} (h : Q true s) : wpAny (model prog w) A (eqBool (.bool true) (.bool true)) Q E s := by
  unfold eqBool
  refine wpAny_holding ?_
  rw [if_pos (by rfl)]
  exact wpAny_bind (wpAny_rule (wpAny_pure h))
/-- the set {True} after i adds -/
noncomputable def TrueSet (h : Heap) (a : Addr) (led : Bool) (i : Nat) : Prop := ∃ es, SetAt h a led es ∧ es.toList = if i = 0 then [] else [((1 : Int), Value.bool true)]
theorem add_true {a : Addr} {led : Bool} {i : Nat} {Q : Value → Shared → Prop} (hS : TrueSet s.heap a led i) (h : ∀ h' tk, Heap.SameBut a s.heap h' → TrueSet h' a led (i + 1) → Q .none { s with heap := h', toks := tk }) :
    wpAny (model prog w) A (call (.builtin "set.add") [.ref a, .bool true]) Q E s := by
  obtain ⟨es, ⟨o, ep, t, ho, hex, hd, hT⟩, he⟩ := hS
  refine wpAny_call_entry F.slot_set_add ⟨o, ho, hex.1⟩ F.entry_set_add ?_ (F.args_set_add_2 _ _)
  unfold Builtin.«set.add» Builtin.Frozenset.oneOther
  simp only [List.isEmpty_nil, bind_assoc]
  unfold Builtin.Frozenset.addrOf setAdd
  refine wpAny_bind (wpAny_pure ?_)
  try dsimp only
  refine wpAny_bind (wpAny_pure ?_)
  try dsimp only
  refine wpAny_bind ?_
  refine wpAny_holding ?_
  refine wpAny_bind (pyHash_true fun tk => ?_)
  unfold setAddHashed setAddHashedIn
  refine wpAny_holding (wpAny_bind (wpAny_setState_of ho hd hT.fits ?_))
  dsimp only
  have hsz : es.size ≤ 1 := by
    have : es.size = es.toList.length := by simp
    rw [this, he]; split <;> simp
  have hsc : byScan (.bool true) es = true := by
    unfold byScan
    have : es.all (fun e => e.2.scannable) = true := by
      rw [← Array.all_toList, he]; split <;> rfl
    simp only [this, Bool.and_true]
    have : es.size < scanBound := by unfold scanBound; omega
    simp [this, Value.scannable]
  rw [hsc]
  simp only [↓reduceIte]
  unfold setAddByScan
  refine wpAny_bind ?_
  refine wpAny_bind (wpAny_rule ?_)
  unfold setScan
  dsimp only
  cases i with
  | zero =>
    rw [if_pos rfl] at he
    obtain rfl : es = #[] := Array.toList_eq_nil_iff.mp he
    rw [show (#[] : Array (Int × Value)).toList = [] from rfl]
    unfold setScanFrom
    refine wpAny_bind (wpAny_pure ?_)
    have hperm := layNew_perm t #[] 1 (.bool true)
    obtain ⟨t1, e1, d1, r1, l1, p1, s1, m1, z1⟩ := lay_ok hT (by simp) rfl 1 (.bool true)
    generalize hL : layNew t #[] 1 (.bool true) = L at hperm e1 z1 ⊢
    obtain ⟨es1, L2⟩ := L
    dsimp only at hperm e1 z1
    subst e1
    dsimp only
    have he1 : es1.toList = [((1 : Int), Value.bool true)] := by
      have : es1.toList.Perm [((1 : Int), Value.bool true)] := by simpa using hperm
      exact List.perm_singleton.mp this
    refine wpAny_bind (wpAny_pure ?_)
    rw [p1]
    simp only [↓reduceIte]
    refine wpAny_bind ?_
    rw [hashByValue_scannable 8 rfl]
    refine wpAny_pure ?_
    simp only [plainKind, ↓reduceIte]
    refine wpAny_bind (wpAny_storeSet_of ho hd ?_ (by rw [z1, sizeLine_eq]; simp))
    have tf : ¬ (!false && t1.tooFull) = true := by
      simp [SetTable.tooFull, SetTable.fill, s1, d1, m1]
    rw [if_neg tf]
    have st := setStore (es' := es1) (t' := t1) ho hex hd (by rw [z1]; exact ⟨d1, r1, l1, p1, s1, fun _ => m1, by rw [m1]; simp⟩)
    refine wpAny_pure (wpAny_pure ?_)
    show wpAny _ _ (ret Value.none) _ _ _
    exact wpAny_pure ⟨_, rfl, h _ _ (Heap.SameBut.update s.heap a _) ⟨es1, st.2, he1⟩⟩
  | succ i =>
    rw [if_neg (Nat.succ_ne_zero _)] at he
    rw [he]
    unfold setScanFrom
    rw [if_pos (by rfl)]
    refine wpAny_bind ?_
    refine wpAny_bind (wpAny_setEpoch_of ho hd hT.fits ?_)
    refine wpAny_bind (eqBool_true ?_)
    simp only [Bool.and_self, ↓reduceIte]
    refine wpAny_pure ?_
    dsimp only
    refine wpAny_pure (wpAny_pure ?_)
    show wpAny _ _ (ret Value.none) _ _ _
    have e : s.heap = s.heap := rfl
    exact wpAny_pure ⟨_, rfl, h s.heap _ (Heap.SameBut.refl a s.heap) ⟨es, ⟨o, ep, t, ho, hex, hd, hT⟩, he⟩⟩
end
end Mine
end
section
open PySem PySem.Calls PySem.Spec PySem.W PyProof.Rows
set_option maxRecDepth 100000
set_option maxHeartbeats 4000000
set_option linter.all false
namespace Mine
section
variable {prog : Program} {w : World} {A : Around} {E : Value → Shared → Prop} {s : Shared} {env : Env} {R : Result → Shared → Prop}
theorem compTurn_set1 (elt target iter : Expr) (scope : Scope) (pos : Pos) (it acc : Value) (env : Env) :
    compTurn (.SetComp elt [⟨target, iter, [], 0⟩] scope pos) 0 it acc env = (standAt iter.pos >>= fun _ => pyNext it >>= fun r => match r with
      | none => pure (.done .next)
      | some v => letOwnedTupleGo target it v >>= fun _ => assign target env v >>= fun _ =>
        (eval elt env >>= fun x => standAt elt.pos >>= fun _ => call (.builtin "set.add") [acc, x] >>= fun _ => pure ()) >>= fun _ =>
          again (.compLoop (.SetComp elt [⟨target, iter, [], 0⟩] scope pos) 0 it acc env)) := by rfl
theorem compStart_set {elt target iter ifs rest scope pos it acc env}
    (h0 : codeAny (model prog w) A (.compLoop (.SetComp elt (⟨target, iter, ifs, 0⟩ :: rest) scope pos) 0 it acc env) R s)
    (h : wpAny (model prog w) A (pyIter it) (fun it' s' => codeAny (model prog w) A (.compLoop (.SetComp elt (⟨target, iter, ifs, 0⟩ :: rest) scope pos) 0 it' acc env) R s')
      (notedBy (model prog w) A env fun x s' => R (.error x) s') s) :
    codeAny (model prog w) A (.compStart (.SetComp elt (⟨target, iter, ifs, 0⟩ :: rest) scope pos) 0 it acc env) R s := by
  refine codeAny_of_tree ?_
  show wpAny _ _ ((compStart (.SetComp elt (⟨target, iter, ifs, 0⟩ :: rest) scope pos) 0 it acc env).onRaise (fun x => do noteFrame x env; standAt theWindowsPlace)) _ _ s
  refine wpAny_notedAt ?_
  unfold compStart
  show wpAny _ _ (ask >>= _) _ _ s
  refine wpAny_bind (wpAny_askSetting (wpAny_ite ?_))
  split
  · first
      | exact wpAny_bind (wpAny_pure (wpAny_pure (And.intro rfl h0)))
      | exact wpAny_pure (And.intro rfl h0)
  · first
      | exact wpAny_bind (wpAny_rule (wpAny_bind (wpAny_standAt (wpAny_bind (wpAny_mono h (fun it' s' h' => wpAny_pure (And.intro rfl h')) fun _ _ x => x)))))
      | (refine wpAny_bind (wpAny_rule ?_); show wpAny _ _ (standAt iter.pos >>= _) _ _ s; exact wpAny_bind (wpAny_standAt (wpAny_bind (wpAny_mono h (fun it' s' h' => wpAny_pure (And.intro rfl h')) fun _ _ x => x))))
theorem setLoop_go {elt target iter : Expr} {scope : Scope} {pos : Pos} {it acc : Value} (I : Nat → Shared → Prop)
    (turn : ∀ n s, I n s → wpAny (model prog w) A (pyNext it) (fun r s₁ => match r with
      | none => R (.ok .next) s₁
      | some v => wpAny (model prog w) A (letOwnedTupleGo target it v) (fun _ s₀ => wpAny (model prog w) A (assign target env v) (fun _ s₂ =>
          wpAny (model prog w) A (eval elt env) (fun x s₄ =>
              wpAny (model prog w) A (call (.builtin "set.add") [acc, x]) (fun _ s₅ => ∃ m, m < n ∧ I m s₅) (notedBy (model prog w) A env fun e s' => R (.error e) s') s₄) (notedBy (model prog w) A env fun e s' => R (.error e) s') s₂) (notedBy (model prog w) A env fun e s' => R (.error e) s') s₀) (notedBy (model prog w) A env fun e s' => R (.error e) s') s₁) (notedBy (model prog w) A env fun e s' => R (.error e) s') s)
    (n : Nat) (h : I n s) : codeAny (model prog w) A (.compLoop (.SetComp elt [⟨target, iter, [], 0⟩] scope pos) 0 it acc env) R s := by
  refine codeAny_loop rfl I (fun n s hI => ?_) n h
  show wpAny _ A ((compTurn (.SetComp elt [⟨target, iter, [], 0⟩] scope pos) 0 it acc env).onRaise (fun x => do noteFrame x env; theTreesLotGoes x)) _ _ s
  refine wpAny_noted ?_
  rw [compTurn_set1]
  refine wpAny_bind (wpAny_standAt (wpAny_bind (wpAny_mono (turn n s hI) (fun r s₁ h₁ => ?_) fun _ _ h' => h')))
  cases r with
  | none => exact wpAny_pure h₁
  | some v =>
    refine wpAny_bind (wpAny_mono h₁ (fun _ s₀ h₀' => ?_) fun _ _ h' => h')
    refine wpAny_bind (wpAny_mono h₀' (fun _ s₂ h₂ => ?_) fun _ _ h' => h')
    exact wpAny_bind (wpAny_bind (wpAny_mono h₂ (fun x s₄ h₄ => wpAny_bind (wpAny_standAt (wpAny_bind (wpAny_mono h₄ (fun _ s₅ h₅ => wpAny_pure (wpAny_pure ⟨rfl, h₅⟩)) fun _ _ h' => h')))) fun _ _ h' => h'))
theorem newSet_led {Q : Value → Shared → Prop}
    (h : Q (.ref s.heap.objs.size) { s with heap := s.heap.push { cls := .type "set", dict := none, data := .set #[] 0 (.fresh 0 0 (sLed w)) } }) :
    wpAny (model prog w) A (newSet (.type "set")) Q E s := by
  unfold newSet
  refine wpAny_bind (wpAny_byText ?_)
  dsimp only
  simp only [newObj, Bool.not_not]
  exact wpAny_bind (wpAny_alloc (wpAny_pure h))
theorem TrueSet.at {h h' : Heap} {a : Addr} {led : Bool} {i : Nat} (x : TrueSet h a led i) (k : ∀ o, h.get? a = some o → h'.get? a = some o) : TrueSet h' a led i := let ⟨es, hs, r⟩ := x; ⟨es, setAt_up hs k, r⟩
theorem TrueSet.new (h : Heap) (led : Bool) : TrueSet (h.push { cls := .type "set", dict := none, data := .set #[] 0 (.fresh 0 0 led) }) h.objs.size led 0 :=
  ⟨#[], ⟨_, 0, _, Heap.get?_push_size _ rfl, ⟨rfl, rfl, rfl⟩, rfl, TOk.fresh led⟩, rfl⟩
theorem trueSet_obj {h : Heap} {a : Addr} {led : Bool} {i : Nat} (x : TrueSet h a led i) : ∃ o, h.get? a = some o := let ⟨_, ⟨o, _, _, e, _⟩, _⟩ := x; ⟨o, e⟩
theorem fresh_none {h₀ h : Heap} {L a : Addr} {m : Str → Option Value} (F : Fr h₀ L h m) (ha : @LE.le Nat _ h.objs.size a) : h₀.get? a = none := by
  cases q : h₀.get? a with
  | none => rfl
  | some o => exact absurd (Heap.lt_size (F.keep _ _ q)) (Nat.not_lt.mpr ha)
/-- what stands at the iterable of {.. for p in T}, T a tuple of the ledger, each element True -/
theorem setComp_true {h₀ : Heap} {L T : Addr} {m : Str → Option Value} {oT : Obj} {vs : List Value} {elt iter : Expr} {x : Str} {px : Pos} {scope : Scope} {cl : List (Str × Addr)} {pos : Pos} {news : List (Addr × Obj)} {Q : Value → Shared → Prop}
    (_F : Fr h₀ L s.heap m) (hh : A.handled = none) (hclos : closureFor scope env = pure cl) (hkind : scope.kind = .function) (hnames : ∀ x ∈ scope.names, x.2 = .local → scope.names.lookup x.1 = some .local) (hcell : ∀ y ∈ scope.names, y.2 ≠ .cell) (hx : scope.names.lookup x = some .local)
    (h : wpAny (model prog w) A (eval iter env) (fun xv s₁ => xv = .ref T ∧ Fr h₀ L s₁.heap m ∧ News h₀ L s₁.heap news ∧ (T, oT) ∈ news ∧ oT.cls = .type "tuple" ∧ (∃ n, oT.data = .seq vs.toArray n) ∧
      (∀ (C D I : Addr) (i : Nat) (v : Value) (m₂ : Str → Option Value) (oI oC oD : Obj) (h : Heap) (tk : Nat) (E' : Value → Shared → Prop), vs[i]? = some v → LCg.NsObj oC m₂ → m₂ x = some v → Fr h₀ L h m → News h₀ L h ((I, oI) :: (C, oC) :: (D, oD) :: news) →
        wpAny (model prog w) A (eval elt (compEnvC scope cl C env)) (KeptE h₀ L m ((I, oI) :: (C, oC) :: (D, oD) :: news) (fun y => y = .bool true) { s₁ with heap := h, toks := tk }) E' { s₁ with heap := h, toks := tk }) ∧
      (∀ D oD h tk, Fr h₀ L h m → News h₀ L h ((D, oD) :: news) → LCg.Off1 D news → TrueSet h D (sLed w) vs.length → Q (.ref D) { s₁ with heap := h, toks := tk })) E s)
    (hs : ∀ x, foldedSetIterable iter env x = pure x := by intro _; rfl) :
    wpAny (model prog w) A (eval (.SetComp elt [⟨.Name x px, iter, [], 0⟩] scope pos) env) Q E s := by
  rw [arm_eval_SetComp]
  refine wpAny_comprehension_free (use := none) rfl hs hclos hkind hnames (wpAny_mono h (fun xv s₁ h₁ => ?_) fun _ _ e => e)
  obtain ⟨rfl, F, N, hT, hc, ⟨n, hd⟩, turn, fin⟩ := h₁
  have htup : s₁.heap.IsTuple T vs.toArray := ⟨oT, (N _ hT).1, hc, n, hd⟩
  have hTlt : T < s₁.heap.objs.size := Heap.lt_size (N _ hT).1
  have hLlt : L < s₁.heap.objs.size := F.ns.lt
  refine wpAny_pyIter_tuple htup (newSet_led (wpAny_newFunctionEnv hcell (by intro y hy; simp at hy) (fun h₁ hns₁ hsb₁ => ?_) hkind))
  dsimp only at hns₁ hsb₁ ⊢
  generalize hH1 : s₁.heap.push { cls := .type "tuple_iterator", data := .fields #[.ref T, .int 0 0] } = H1 at hns₁ hsb₁ ⊢
  have tD := TrueSet.new H1 (sLed w)
  generalize hH2 : H1.push { cls := .type "set", dict := none, data := .set #[] 0 (.fresh 0 0 (sLed w)) } = H2 at hns₁ hsb₁ tD ⊢
  have z1 : @Eq Nat H1.objs.size (s₁.heap.objs.size + 1) := by rw [← hH1, Heap.size_push]
  have z2 : @Eq Nat H2.objs.size (s₁.heap.objs.size + 1 + 1) := by rw [← hH2, Heap.size_push, z1]
  have up1 : ∀ b o, s₁.heap.get? b = some o → H1.get? b = some o := fun b o e => hH1 ▸ Heap.get?_push_of_some _ e
  have up2 : ∀ b o, H1.get? b = some o → h₁.get? b = some o := fun b o e => hsb₁.extBut b o (by have : @LT.lt Nat _ b H1.objs.size := Heap.lt_size e; intro q; have q' : @Eq Nat b H2.objs.size := q; omega) (Heap.get?_push_of_some _ (hH2 ▸ Heap.get?_push_of_some _ e))
  have upD : ∀ o, H2.get? H1.objs.size = some o → h₁.get? H1.objs.size = some o := fun o e => hsb₁.extBut _ o (by intro q; have q' : @Eq Nat H1.objs.size H2.objs.size := q; omega) (Heap.get?_push_of_some _ e)
  have hI0 : H1.IsTupleIter s₁.heap.objs.size T 0 := hH1 ▸ ⟨_, Heap.get?_push_size _ rfl, rfl, rfl⟩
  have hneT : T ≠ s₁.heap.objs.size := Nat.ne_of_lt hTlt
  have W := Walks.tuple (prog := prog) (w := w) hh s₁.heap.objs.size T hneT vs.toArray
  have hLI : @Ne Nat L s₁.heap.objs.size := Nat.ne_of_lt hLlt
  have hLD : @Ne Nat L H1.objs.size := by have : @LT.lt Nat _ L s₁.heap.objs.size := hLlt; omega
  have hLC : @Ne Nat L H2.objs.size := by have : @LT.lt Nat _ L s₁.heap.objs.size := hLlt; omega
  have hID : @Ne Nat s₁.heap.objs.size H1.objs.size := by omega
  have hIC : @Ne Nat s₁.heap.objs.size H2.objs.size := by omega
  have hDC : @Ne Nat H1.objs.size H2.objs.size := by omega
  have nI : h₀.get? s₁.heap.objs.size = none := fresh_none F (Nat.le_refl _)
  have nD : h₀.get? H1.objs.size = none := fresh_none F (by omega)
  have nC : h₀.get? H2.objs.size = none := fresh_none F (by omega)
  have off : ∀ p ∈ news, (@Ne Nat p.1 s₁.heap.objs.size) ∧ (@Ne Nat p.1 H1.objs.size) ∧ (@Ne Nat p.1 H2.objs.size) := fun p hp => by
    have : @LT.lt Nat _ p.1 s₁.heap.objs.size := Heap.lt_size (N p hp).1
    exact ⟨by omega, by omega, by omega⟩
  have loop : codeAny (model prog w) A (.compLoop (.SetComp elt [⟨.Name x px, iter, [], 0⟩] scope pos) 0 (.ref s₁.heap.objs.size) (.ref H1.objs.size) (compEnvC scope cl H2.objs.size env))
      (compPost (model prog w) A E none Q (.ref H1.objs.size) H2.objs.size) { s₁ with heap := h₁, toks := s₁.toks + ([] : List (Str × Value)).length } := by
    refine setLoop_go (fun k s' => ∃ h' tk i m', s' = { s₁ with heap := h', toks := tk } ∧ i ≤ vs.length ∧ k = vs.length + 1 - i ∧ h'.IsTupleIter s₁.heap.objs.size T i ∧ Fr h₀ L h' m ∧ h'.Ns H2.objs.size m' ∧ News h₀ L h' news ∧ TrueSet h' H1.objs.size (sLed w) i) ?_ (vs.length + 1)
      ⟨h₁, _, 0, _, rfl, Nat.zero_le _, rfl, hI0.at fun o e => up2 _ o e, F.keeps fun b o e => up2 b o (up1 b o e), hns₁, N.grown fun b o e => up2 b o (up1 b o e), tD.at upD⟩
    rintro k s' ⟨h', tk, i, m', rfl, hi, rfl, hit, F', hn', N', hS⟩
    have hTt : h'.IsTuple T vs.toArray := ⟨oT, (N' _ hT).1, hc, n, hd⟩
    by_cases hlt : i < vs.length
    · refine W.item i _ _ _ (by simpa using hlt) ⟨hit, hTt⟩ fun v h₂ tk₂ hPv hst₂ hk₂ => ?_
      have k2 : ∀ b o, (@Ne Nat b s₁.heap.objs.size) → h'.get? b = some o → h₂.get? b = some o := fun b o hb e => hk₂ b o (fun q => hb (List.mem_singleton.mp q)) e
      refine letGo_tupleiter hst₂.1 ?_
      refine wpAny_assign_Name (wpAny_storeName_local (lookup_relabel_local hx) (hn'.at' fun o e => k2 _ o (Ne.symm hIC) e) (fun h₃ hn₃ hs₃ => ?_) (by simp [compEnvC, relabel, hkind]))
      have k3 : ∀ b o, (@Ne Nat b s₁.heap.objs.size) → (@Ne Nat b H2.objs.size) → h'.get? b = some o → h₃.get? b = some o := fun b o h1 h2 e => hs₃.extBut b o h2 (k2 b o h1 e)
      have hit₃ : h₃.IsTupleIter s₁.heap.objs.size T (i + 1) := hst₂.1.at fun o e => hs₃.extBut _ o hIC e
      obtain ⟨oI, heI, hcI, hdI⟩ := hit₃
      obtain ⟨oC, heC, hoC⟩ := LCg.ns_obj hn₃
      have hS₃ := hS.at fun o e => k3 _ o (Ne.symm hID) hDC e
      obtain ⟨oD, heD⟩ := trueSet_obj hS₃
      have F₃ : Fr h₀ L h₃ m := ⟨F'.ns.at' fun o e => k3 _ o hLI hLC e, fun b o e => k3 b o (fun q => by rw [show b = s₁.heap.objs.size from q, nI] at e; cases e) (fun q => by rw [show b = H2.objs.size from q, nC] at e; cases e) (F'.keep b o e), F'.above⟩
      have N₃ : News h₀ L h₃ ((s₁.heap.objs.size, oI) :: (H2.objs.size, oC) :: (H1.objs.size, oD) :: news) := fun p hp => by
        rcases List.mem_cons.mp hp with rfl | hp
        · exact ⟨heI, Ne.symm hLI, nI⟩
        · rcases List.mem_cons.mp hp with rfl | hp
          · exact ⟨heC, Ne.symm hLC, nC⟩
          · rcases List.mem_cons.mp hp with rfl | hp
            · exact ⟨heD, Ne.symm hLD, nD⟩
            · have o := off p hp
              exact ⟨k3 _ _ o.1 o.2.2 (N' p hp).1, (N' p hp).2⟩
      refine wpAny_mono (turn H2.objs.size H1.objs.size s₁.heap.objs.size i v _ oI oC oD h₃ _ _ (by simpa using hPv) hoC (by simp) F₃ N₃) (fun y s₄ h₄ => ?_) fun _ _ e => e
      obtain ⟨h₄, tk₄, rfl, F₄, N₄, rfl⟩ := h₄
      have hS₄ : TrueSet h₄ H1.objs.size (sLed w) i := hS₃.at fun o e => by rw [heD] at e; cases e; exact (N₄ (H1.objs.size, oD) (by simp)).1
      refine add_true hS₄ fun h₅ tk₅ sb₅ hS₅ => ?_
      have k5 : ∀ b o, (@Ne Nat b H1.objs.size) → h₄.get? b = some o → h₅.get? b = some o := fun b o hb e => sb₅.extBut b o hb e
      refine ⟨vs.length + 1 - (i + 1), by omega, h₅, tk₅, i + 1, _, rfl, hlt, rfl, ⟨oI, k5 _ _ hID (N₄ (s₁.heap.objs.size, oI) (by simp)).1, hcI, hdI⟩, ?_, hoC.ns (k5 _ _ (Ne.symm hDC) (N₄ (H2.objs.size, oC) (by simp)).1), fun p hp => ?_, hS₅⟩
      · exact ⟨F₄.ns.at' fun o e => k5 _ o hLD e, fun b o e => k5 b o (fun q => by rw [show b = H1.objs.size from q, nD] at e; cases e) (F₄.keep b o e), F₄.above⟩
      · have z := N₄ p (.tail _ (.tail _ (.tail _ hp)))
        exact ⟨k5 _ _ (off p hp).2.1 z.1, z.2⟩
    · obtain rfl : i = vs.length := Nat.le_antisymm hi (Nat.not_lt.mp hlt)
      refine W.done _ _ _ ⟨by simpa using hit, hTt⟩ fun h₂ tk₂ hk₂ => ?_
      have k2 : ∀ b o, (@Ne Nat b s₁.heap.objs.size) → h'.get? b = some o → h₂.get? b = some o := fun b o hb e => hk₂ b o (fun q => hb (List.mem_singleton.mp q)) e
      refine ⟨m', hn'.at' fun o e => k2 _ o (Ne.symm hIC) e, fun h'' hs'' => ?_⟩
      have k3 : ∀ b o, (@Ne Nat b s₁.heap.objs.size) → (@Ne Nat b H2.objs.size) → h'.get? b = some o → h''.get? b = some o := fun b o h1 h2 e => hs''.extBut b o h2 (k2 b o h1 e)
      have hS₃ := hS.at fun o e => k3 _ o (Ne.symm hID) hDC e
      obtain ⟨oD, heD⟩ := trueSet_obj hS₃
      have key : ∀ l : List (Addr × Obj), (∀ p ∈ l, p.1 ≠ H1.objs.size) → LCg.Off1 H1.objs.size l := by
        intro l
        induction l with
        | nil => exact fun _ => trivial
        | cons q l ih => exact fun h => ⟨h q (.head _), ih fun x hx => h x (.tail _ hx)⟩
      refine fin _ oD h'' _ ⟨F'.ns.at' fun o e => k3 _ o hLI hLC e, fun b o e => k3 b o (fun q => by rw [show b = s₁.heap.objs.size from q, nI] at e; cases e) (fun q => by rw [show b = H2.objs.size from q, nC] at e; cases e) (F'.keep b o e), F'.above⟩ (fun p hp => ?_) (key _ fun p hp => (off p hp).2.1) hS₃
      rcases List.mem_cons.mp hp with rfl | hp
      · exact ⟨heD, Ne.symm hLD, nD⟩
      · have o := off p hp
        exact ⟨k3 _ _ o.1 o.2.2 (N' p hp).1, (N' p hp).2⟩
  refine compStart_set loop (wpAny_pyIter_tupleiter (hI0.at fun o e => up2 _ o e) loop)
/-- x, = {True} -/
theorem unpack_true {a : Addr} {i : Nat} {elts : List Expr} {k : Nat} {pos : Pos} {Q : Unit → Shared → Prop} (hh : A.handled = none) (hS : TrueSet s.heap a (sLed w) (i + 1)) (hn : (assignEach elts env).length = 1) (hstar : (assignEach elts env).findIdx? (·.1) = none)
    (h : ∀ h' tk, (∀ b o, s.heap.get? b = some o → h'.get? b = some o) → wpAny (model prog w) A (assignInOrder ((assignEach elts env).map (·.2)) [.bool true]) Q E { s with heap := h', toks := tk }) :
    wpAny (model prog w) A (assign (.Tuple elts k pos) env (.ref a)) Q E s := by
  obtain ⟨es, ⟨o, ep, t, ho, hex, hd, hT⟩, he⟩ := hS
  rw [if_neg (Nat.succ_ne_zero _)] at he
  have hsz : es.size = 1 := by rw [← Array.length_toList, he]; rfl
  have hlt : @LT.lt Nat _ a s.heap.objs.size := Heap.lt_size ho
  rw [assign_Tuple]
  refine wpAny_bind (wpAny_standAt ?_)
  unfold unpack
  rw [hn, hstar]
  refine wpAny_bind (wpAny_holding ?_)
  unfold unpackItems notIterableAtAll
  refine wpAny_bind ?_
  refine wpAny_bind (wpAny_specialOf (T := "set") ⟨o, ho, hex.1⟩ F.slot_set_iter.lookup ?_)
  refine wpAny_pure ?_
  simp only [Bool.false_eq_true, if_false]
  refine wpAny_bind (wpAny_holding (set_iter ho hex hd hT fun st => ?_))
  refine wpAny_bind (wpAny_holding ?_)
  show wpAny _ _ (pyNext (.ref s.heap.objs.size) >>= _) _ _ _
  have hne : a ≠ s.heap.objs.size := Nat.ne_of_lt hlt
  refine wpAny_bind (si_item hd hT hne st (by omega) fun v h₁ hv st₁ sb₁ => ?_)
  obtain rfl : v = .bool true := by
    have hp := ord_perm w a ep es
    rw [he] at hp
    have := List.perm_singleton.mp hp
    rw [← Array.getElem?_toList, this] at hv
    simpa using hv.symm
  refine wpAny_bind (wpAny_holding ?_)
  show wpAny _ _ (pure []) _ _ _
  refine wpAny_pure (wpAny_pure ?_)
  rw [if_neg (by simp)]
  refine wpAny_bind (wpAny_holding (si_end hh hd hT st₁ (by omega) fun h₂ ex₂ => ?_))
  simp only [Option.isSome_none, Bool.false_eq_true, if_false]
  refine wpAny_pure (h h₂ _ fun b o e => ex₂ b o (Nat.ne_of_lt (Heap.lt_size e)) (sb₁.extBut b o (Nat.ne_of_lt (Heap.lt_size e)) (Heap.get?_push_of_some _ e)))
end
end Mine
end
section
open PySem PySem.Calls PySem.Spec PySem.W PyProof.Rows
set_option maxRecDepth 100000
set_option maxHeartbeats 4000000
set_option linter.all false
namespace Mine
/-- what a turn of an enumeration leaves: a ledger of its own -/
noncomputable def EnPost (h₀ : Heap) (L E1 I : Addr) (oE oI : Obj) (Jn : (Str → Option Value) → List (Addr × Obj) → Prop) (s₁ : Shared) (f : Flow) (s₃ : Shared) : Prop :=
  match f with
  | .next => ∃ h' tk' m' news', s₃ = { s₁ with heap := h', toks := tk' } ∧ Fr h₀ L h' m' ∧ News h₀ L h' ((E1, oE) :: (I, oI) :: news') ∧ (∀ p ∈ news', p.1 ≠ I ∧ p.1 ≠ E1) ∧ Jn m' news'
  | _ => False
section
variable {prog : Program} {w : World} {A : Around} {E : Value → Shared → Prop} {s : Shared} {env : Env} {h₀ : Heap} {body : List Stmt} {Q : Flow → Shared → Prop}
theorem enumForL {elts : List Expr} {k : Nat} {pos : Pos} {l : Addr} {lo : Obj} {vs : List Value} {n : Nat} {m₀ : Str → Option Value} {news : List (Addr × Obj)} (J : Nat → (Str → Option Value) → List (Addr × Obj) → Prop)
    (hh : A.handled = none) (F : Fr h₀ env.locals s.heap m₀) (N : News h₀ env.locals s.heap news) (hm : ∀ i m nw, J i m nw → (l, lo) ∈ nw) (hc : lo.cls = .type "list") (hd : lo.data = .seq vs.toArray n) (h0 : J 0 m₀ news)
    (turn : ∀ (E1 I : Addr) (i : Nat) (x : Value) (T : Addr) (t : Tok) (oE oI : Obj) (m₁ : Str → Option Value) (news₁ : List (Addr × Obj)) (h : Heap) (tk : Nat), vs[i]? = some x → IsTup h T #[.int (i : Int) t, x] → J i m₁ news₁ → Fr h₀ env.locals h m₁ → News h₀ env.locals h ((E1, oE) :: (I, oI) :: news₁) → (∀ p ∈ news₁, p.1 ≠ I ∧ p.1 ≠ E1) →
      wpAny (model prog w) A (assign (.Tuple elts k pos) env (.ref T)) (fun _ s₂ => wpAny (model prog w) A (execs body env) (EnPost h₀ env.locals E1 I oE oI (J (i + 1)) { s with heap := h, toks := tk }) E s₂) E { s with heap := h, toks := tk })
    (done : ∀ h tk m' news', J vs.length m' news' → Fr h₀ env.locals h m' → News h₀ env.locals h news' → Q .next { s with heap := h, toks := tk }) :
    wpAny (model prog w) A (call (.type "enumerate") [.ref l]) (fun xv s₁ => wpAny (model prog w) A (pyIter xv) (fun it s₂ => TurnsAt prog w A h₀ env (.Tuple elts k pos) body Q E it s₂) E s₁) E s := by
  refine ktu_enum (n := n) hh F N (hm _ _ _ h0) hc hd rfl fun I hI => ?_
  have key : ∀ r i m₁ news₁, vs.length - i = r → J i m₁ news₁ → (∀ p ∈ news₁, p.1 ≠ I ∧ p.1 ≠ I + 1) → i ≤ vs.length → ItemsRest prog w A E h₀ env (.Tuple elts k pos) body Q s [(I + 1, "enumerate"), (I, "list_iterator")] [(l, lo)] ((enumItems 0 vs).drop i) m₁ news₁ := by
    intro r
    induction r with
    | zero =>
      intro i m₁ news₁ hr hJ ho hi
      obtain rfl : i = vs.length := by omega
      rw [List.drop_of_length_le (by rw [enumItems_length]; exact Nat.le_refl _)]
      exact ItemsRest.zero fun h tk F' N' => done h tk m₁ news₁ hJ F' N'
    | succ r ih =>
      intro i m₁ news₁ hr hJ ho hi
      have hlt : i < vs.length := by omega
      have hg := enumItems_get vs 0 i (v := vs[i]) (List.getElem?_eq_getElem hlt)
      have hlt' : i < (enumItems 0 vs).length := by rw [enumItems_length]; exact hlt
      rw [List.drop_eq_getElem_cons hlt', Option.some.inj ((List.getElem?_eq_getElem hlt').symm.trans hg)]
      refine ItemsRest.pair fun T t h tk hT F' => ?_
      refine AllObj.cons fun oE hoE => AllObj.cons fun oI hoI => AllObj.nil fun N' => ?_
      rw [Nat.zero_add] at hT
      refine wpAny_mono (turn (I + 1) I i vs[i] T t oE oI m₁ news₁ h tk (List.getElem?_eq_getElem hlt) hT hJ F' N' ho) (fun _ s₂ h₂ => wpAny_mono h₂ (fun f s₃ h₃ => ?_) fun _ _ e => e) fun _ _ e => e
      cases f with
      | next =>
        obtain ⟨h', tk', m', news', rfl, F₃, N₃, ho', hJ₃⟩ := h₃
        refine ⟨h', tk', m', news', rfl, F₃, N₃, fun p hp q hq => ?_, ⟨hm _ _ _ hJ₃, trivial⟩, ih (i + 1) m' news' (by omega) hJ₃ ho' hlt⟩
        rcases List.mem_cons.mp hq with rfl | hq
        · exact (ho' p hp).2
        · rw [List.mem_singleton.mp hq]; exact (ho' p hp).1
      | brk => exact h₃.elim
      | cont => exact h₃.elim
      | ret v => exact h₃.elim
  have := key _ 0 m₀ news rfl h0 (fun p hp => ⟨Nat.ne_of_lt (hI p hp), Nat.ne_of_lt (Nat.lt_succ_of_lt (hI p hp))⟩) (Nat.zero_le _)
  rwa [List.drop_zero] at this
end
end Mine
end
section
open PySem PySem.W PyProof.Rows
set_option maxRecDepth 100000
set_option maxHeartbeats 8000000
namespace Mine
/-! the head, stated by hand: the part of the heap that the law comes to, its defs told by their places in the row's text -/
noncomputable abbrev prg : Program := PySem.Challenge.rw_ik0184_01.row.prog
noncomputable def fo (i : Nat) (md cd : Value) : Obj := match prg.main.body[i]? with
  | some (.FunctionDef name params body _ _ _ scope _ _ _) => { cls := .type "function", data := .func { name := name, qualname := name, params := params, body := .stmts body, scope := scope, globals := 3, closure := [], defaults := .none, kwdefaults := .none, pyModule := md, code := cd } }
  | _ => { cls := .none, data := .fields #[] }
noncomputable def keepS (st : Stmt) : Bool := match st with
  | .Assign [.Name n _] _ _ => n != Str.ofString "__name__"
  | _ => true
noncomputable def hd.view_39 : Program := { prg with main := { prg.main with body := prg.main.body.filter keepS } }
noncomputable def hd.heap_39 : Params → Frag := fun P =>
  (nat_lit 3, { cls := Value.type "dict", data := Data.dict #[{ hash := PyData.keyHash P (Str.ofString "__name__"), key := Value.str (Str.ofString "__name__") 165, val := Value.str (Str.ofString "law_ik0184_01") 420 }, { hash := PyData.keyHash P (Str.ofString "__doc__"), key := Value.str (Str.ofString "__doc__") 166, val := Value.none }, { hash := PyData.keyHash P (Str.ofString "__package__"), key := Value.str (Str.ofString "__package__") 167, val := Value.none }, { hash := PyData.keyHash P (Str.ofString "__loader__"), key := Value.str (Str.ofString "__loader__") 168, val := Value.builtin "__main__.__loader__#opaque" }, { hash := PyData.keyHash P (Str.ofString "__spec__"), key := Value.str (Str.ofString "__spec__") 169, val := Value.none }, { hash := PyData.keyHash P (Str.ofString "__annotations__"), key := Value.str (Str.ofString "__annotations__") 170, val := Value.ref 6 }, { hash := PyData.keyHash P (Str.ofString "__builtins__"), key := Value.str (Str.ofString "__builtins__") 171, val := Value.ref 4 }, { hash := PyData.keyHash P (Str.ofString "__file__"), key := Value.str (Str.ofString "__file__") 173, val := Value.str (Str.ofString "/claim/cut.py") 172 }, { hash := PyData.keyHash P (Str.ofString "__cached__"), key := Value.str (Str.ofString "__cached__") 174, val := Value.none }, { hash := PyData.keyHash P (Str.ofString "_wall"), key := Value.str (Str.ofString "_wall") 193, val := Value.ref 21 }, { hash := PyData.keyHash P (Str.ofString "_plain_name"), key := Value.str (Str.ofString "_plain_name") 204, val := Value.ref 28 }, { hash := PyData.keyHash P (Str.ofString "ABCMeta"), key := Value.str (Str.ofString "ABCMeta") 230, val := Value.ref 45 }, { hash := PyData.keyHash P (Str.ofString "_ABCLike"), key := Value.str (Str.ofString "_ABCLike") 273, val := Value.ref 78 }, { hash := PyData.keyHash P (Str.ofString "_abc_plain_meta"), key := Value.str (Str.ofString "_abc_plain_meta") 280, val := Value.ref 87 }, { hash := PyData.keyHash P (Str.ofString "fspath"), key := Value.str (Str.ofString "fspath") 292, val := Value.ref 94 }, { hash := PyData.keyHash P (Str.ofString "_check_arg_types"), key := Value.str (Str.ofString "_check_arg_types") 305, val := Value.ref 101 }, { hash := PyData.keyHash P (Str.ofString "_get_sep"), key := Value.str (Str.ofString "_get_sep") 314, val := Value.ref 108 }, { hash := PyData.keyHash P (Str.ofString "join"), key := Value.str (Str.ofString "join") 325, val := Value.ref 115 }, { hash := PyData.keyHash P (Str.ofString "commonpath"), key := Value.str (Str.ofString "commonpath") 331, val := Value.ref 120 }, { hash := PyData.keyHash P (Str.ofString "COMPILER_FLAG_NAMES"), key := Value.str (Str.ofString "COMPILER_FLAG_NAMES") 364, val := Value.ref 121 }, { hash := PyData.keyHash P (Str.ofString "pretty_flags"), key := Value.str (Str.ofString "pretty_flags") 374, val := Value.ref 128 }, { hash := PyData.keyHash P (Str.ofString "heappop"), key := Value.str (Str.ofString "heappop") 385, val := Value.ref 135 }, { hash := PyData.keyHash P (Str.ofString "heapify"), key := Value.str (Str.ofString "heapify") 394, val := Value.ref 142 }, { hash := PyData.keyHash P (Str.ofString "_siftdown"), key := Value.str (Str.ofString "_siftdown") 406, val := Value.ref 149 }, { hash := PyData.keyHash P (Str.ofString "_siftup"), key := Value.str (Str.ofString "_siftup") 419, val := Value.ref 156 }, { hash := PyData.keyHash P (Str.ofString "_law_roads"), key := Value.str (Str.ofString "_law_roads") 427, val := Value.ref 161 }, { hash := PyData.keyHash P (Str.ofString "_law_hung"), key := Value.str (Str.ofString "_law_hung") 433, val := Value.ref 166 }, { hash := PyData.keyHash P (Str.ofString "_law_near"), key := Value.str (Str.ofString "_law_near") 439, val := Value.ref 171 }, { hash := PyData.keyHash P (Str.ofString "_law_words"), key := Value.str (Str.ofString "_law_words") 445, val := Value.ref 176 }, { hash := PyData.keyHash P (Str.ofString "_law_told"), key := Value.str (Str.ofString "_law_told") 451, val := Value.ref 181 }, { hash := PyData.keyHash P (Str.ofString "law"), key := Value.str (Str.ofString "law") 457, val := Value.ref 186 }] 31 }) ::
  (nat_lit 93, { cls := Value.type "code", data := Data.fields #[Value.str (Str.ofString "fspath") 283, Value.str (Str.ofString "fspath") 284, Value.str (Str.ofString "/claim/cut.py") 285, Value.int 35 0, Value.int 1 0, Value.int 0 0, Value.int 0 0, Value.int 3 0, Value.ref 88, Value.bool true, Value.int 181 0, Value.ref 89, Value.none, Value.ref 90, Value.ref 91, Value.ref 92, Value.int 290 0, Value.int 35 0, Value.str (Str.ofString "/claim/cut.py") 291] }) ::
  (nat_lit 94, fo 9 (Value.str (Str.ofString "os") 281) (Value.ref 93)) ::
  (nat_lit 100, { cls := Value.type "code", data := Data.fields #[Value.str (Str.ofString "_check_arg_types") 295, Value.str (Str.ofString "_check_arg_types") 296, Value.str (Str.ofString "/claim/cut.py") 297, Value.int 52 0, Value.int 1 0, Value.int 0 0, Value.int 0 0, Value.int 7 0, Value.ref 95, Value.bool true, Value.int 181 0, Value.ref 96, Value.none, Value.ref 97, Value.ref 98, Value.ref 99, Value.int 303 0, Value.int 52 0, Value.str (Str.ofString "/claim/cut.py") 304] }) ::
  (nat_lit 101, fo 11 (Value.str (Str.ofString "cpy313.genericpath") 293) (Value.ref 100)) ::
  (nat_lit 107, { cls := Value.type "code", data := Data.fields #[Value.str (Str.ofString "_get_sep") 308, Value.str (Str.ofString "_get_sep") 309, Value.str (Str.ofString "/claim/cut.py") 310, Value.int 64 0, Value.int 1 0, Value.int 0 0, Value.int 0 0, Value.int 3 0, Value.ref 102, Value.bool true, Value.int 181 0, Value.ref 103, Value.none, Value.ref 104, Value.ref 105, Value.ref 106, Value.int 312 0, Value.int 64 0, Value.str (Str.ofString "/claim/cut.py") 313] }) ::
  (nat_lit 108, fo 13 (Value.str (Str.ofString "cpy313.posixpath") 306) (Value.ref 107)) ::
  (nat_lit 114, { cls := Value.type "code", data := Data.fields #[Value.str (Str.ofString "join") 315, Value.str (Str.ofString "join") 316, Value.str (Str.ofString "/claim/cut.py") 317, Value.int 69 0, Value.int 1 0, Value.int 0 0, Value.int 0 0, Value.int 7 0, Value.ref 109, Value.bool true, Value.int 181 0, Value.ref 110, Value.none, Value.ref 111, Value.ref 112, Value.ref 113, Value.int 323 0, Value.int 69 0, Value.str (Str.ofString "/claim/cut.py") 324] }) ::
  (nat_lit 115, fo 14 (Value.str (Str.ofString "cpy313.posixpath") 306) (Value.ref 114)) ::
  (nat_lit 119, { cls := Value.type "code", data := Data.fields #[Value.str (Str.ofString "commonpath") 326, Value.str (Str.ofString "commonpath") 327, Value.str (Str.ofString "/claim/cut.py") 328, Value.int 86 0, Value.int 1 0, Value.int 0 0, Value.int 0 0, Value.int 3 0, Value.ref 116, Value.bool true, Value.int 181 0, Value.ref 117, Value.none, Value.none, Value.none, Value.ref 118, Value.int 329 0, Value.int 86 0, Value.str (Str.ofString "/claim/cut.py") 330] }) ::
  (nat_lit 120, fo 15 (Value.str (Str.ofString "cpy313.posixpath") 306) (Value.ref 119)) ::
  (nat_lit 121, { cls := Value.type "dict", data := Data.dict #[{ hash := 1, key := Value.int 1 334, val := Value.str (Str.ofString "OPTIMIZED") 335 }, { hash := 2, key := Value.int 2 336, val := Value.str (Str.ofString "NEWLOCALS") 337 }, { hash := 4, key := Value.int 4 338, val := Value.str (Str.ofString "VARARGS") 339 }, { hash := 8, key := Value.int 8 340, val := Value.str (Str.ofString "VARKEYWORDS") 341 }, { hash := 16, key := Value.int 16 342, val := Value.str (Str.ofString "NESTED") 343 }, { hash := 32, key := Value.int 32 344, val := Value.str (Str.ofString "GENERATOR") 345 }, { hash := 64, key := Value.int 64 346, val := Value.str (Str.ofString "NOFREE") 347 }, { hash := 128, key := Value.int 128 348, val := Value.str (Str.ofString "COROUTINE") 349 }, { hash := 256, key := Value.int 256 350, val := Value.str (Str.ofString "ITERABLE_COROUTINE") 351 }, { hash := 512, key := Value.int 512 352, val := Value.str (Str.ofString "ASYNC_GENERATOR") 353 }] 10 }) ::
  (nat_lit 127, { cls := Value.type "code", data := Data.fields #[Value.str (Str.ofString "pretty_flags") 365, Value.str (Str.ofString "pretty_flags") 366, Value.str (Str.ofString "/claim/cut.py") 367, Value.int 117 0, Value.int 1 0, Value.int 0 0, Value.int 0 0, Value.int 3 0, Value.ref 122, Value.bool true, Value.int 181 0, Value.ref 123, Value.none, Value.ref 124, Value.ref 125, Value.ref 126, Value.int 372 0, Value.int 117 0, Value.str (Str.ofString "/claim/cut.py") 373] }) ::
  (nat_lit 128, fo 18 (Value.str (Str.ofString "cpy313.dis") 332) (Value.ref 127)) ::
  (nat_lit 134, { cls := Value.type "code", data := Data.fields #[Value.str (Str.ofString "heappop") 377, Value.str (Str.ofString "heappop") 378, Value.str (Str.ofString "/claim/cut.py") 379, Value.int 130 0, Value.int 1 0, Value.int 0 0, Value.int 0 0, Value.int 3 0, Value.ref 129, Value.bool true, Value.int 181 0, Value.ref 130, Value.none, Value.ref 131, Value.ref 132, Value.ref 133, Value.int 383 0, Value.int 130 0, Value.str (Str.ofString "/claim/cut.py") 384] }) ::
  (nat_lit 135, fo 20 (Value.str (Str.ofString "cpy313.heapq") 375) (Value.ref 134)) ::
  (nat_lit 141, { cls := Value.type "code", data := Data.fields #[Value.str (Str.ofString "heapify") 386, Value.str (Str.ofString "heapify") 387, Value.str (Str.ofString "/claim/cut.py") 388, Value.int 138 0, Value.int 1 0, Value.int 0 0, Value.int 0 0, Value.int 3 0, Value.ref 136, Value.bool true, Value.int 181 0, Value.ref 137, Value.none, Value.ref 138, Value.ref 139, Value.ref 140, Value.int 392 0, Value.int 138 0, Value.str (Str.ofString "/claim/cut.py") 393] }) ::
  (nat_lit 142, fo 21 (Value.str (Str.ofString "cpy313.heapq") 375) (Value.ref 141)) ::
  (nat_lit 148, { cls := Value.type "code", data := Data.fields #[Value.str (Str.ofString "_siftdown") 395, Value.str (Str.ofString "_siftdown") 396, Value.str (Str.ofString "/claim/cut.py") 397, Value.int 142 0, Value.int 3 0, Value.int 0 0, Value.int 0 0, Value.int 3 0, Value.ref 143, Value.bool true, Value.int 181 0, Value.ref 144, Value.none, Value.ref 145, Value.ref 146, Value.ref 147, Value.int 404 0, Value.int 142 0, Value.str (Str.ofString "/claim/cut.py") 405] }) ::
  (nat_lit 149, fo 22 (Value.str (Str.ofString "cpy313.heapq") 375) (Value.ref 148)) ::
  (nat_lit 155, { cls := Value.type "code", data := Data.fields #[Value.str (Str.ofString "_siftup") 407, Value.str (Str.ofString "_siftup") 408, Value.str (Str.ofString "/claim/cut.py") 409, Value.int 153 0, Value.int 2 0, Value.int 0 0, Value.int 0 0, Value.int 3 0, Value.ref 150, Value.bool true, Value.int 181 0, Value.ref 151, Value.none, Value.ref 152, Value.ref 153, Value.ref 154, Value.int 417 0, Value.int 153 0, Value.str (Str.ofString "/claim/cut.py") 418] }) ::
  (nat_lit 156, fo 23 (Value.str (Str.ofString "cpy313.heapq") 375) (Value.ref 155)) ::
  (nat_lit 160, { cls := Value.type "code", data := Data.fields #[Value.str (Str.ofString "_law_roads") 422, Value.str (Str.ofString "_law_roads") 423, Value.str (Str.ofString "/claim/cut.py") 424, Value.int 168 0, Value.int 1 0, Value.int 0 0, Value.int 0 0, Value.int 3 0, Value.ref 157, Value.bool true, Value.int 181 0, Value.ref 158, Value.none, Value.none, Value.none, Value.ref 159, Value.int 425 0, Value.int 168 0, Value.str (Str.ofString "/claim/cut.py") 426] }) ::
  (nat_lit 161, fo 25 (Value.str (Str.ofString "law_ik0184_01") 420) (Value.ref 160)) ::
  (nat_lit 165, { cls := Value.type "code", data := Data.fields #[Value.str (Str.ofString "_law_hung") 428, Value.str (Str.ofString "_law_hung") 429, Value.str (Str.ofString "/claim/cut.py") 430, Value.int 176 0, Value.int 1 0, Value.int 0 0, Value.int 0 0, Value.int 3 0, Value.ref 162, Value.bool true, Value.int 181 0, Value.ref 163, Value.none, Value.none, Value.none, Value.ref 164, Value.int 431 0, Value.int 176 0, Value.str (Str.ofString "/claim/cut.py") 432] }) ::
  (nat_lit 166, fo 26 (Value.str (Str.ofString "law_ik0184_01") 420) (Value.ref 165)) ::
  (nat_lit 170, { cls := Value.type "code", data := Data.fields #[Value.str (Str.ofString "_law_near") 434, Value.str (Str.ofString "_law_near") 435, Value.str (Str.ofString "/claim/cut.py") 436, Value.int 189 0, Value.int 1 0, Value.int 0 0, Value.int 0 0, Value.int 3 0, Value.ref 167, Value.bool true, Value.int 181 0, Value.ref 168, Value.none, Value.none, Value.none, Value.ref 169, Value.int 437 0, Value.int 189 0, Value.str (Str.ofString "/claim/cut.py") 438] }) ::
  (nat_lit 171, fo 27 (Value.str (Str.ofString "law_ik0184_01") 420) (Value.ref 170)) ::
  (nat_lit 175, { cls := Value.type "code", data := Data.fields #[Value.str (Str.ofString "_law_words") 440, Value.str (Str.ofString "_law_words") 441, Value.str (Str.ofString "/claim/cut.py") 442, Value.int 197 0, Value.int 1 0, Value.int 0 0, Value.int 0 0, Value.int 3 0, Value.ref 172, Value.bool true, Value.int 181 0, Value.ref 173, Value.none, Value.none, Value.none, Value.ref 174, Value.int 443 0, Value.int 197 0, Value.str (Str.ofString "/claim/cut.py") 444] }) ::
  (nat_lit 176, fo 28 (Value.str (Str.ofString "law_ik0184_01") 420) (Value.ref 175)) ::
  (nat_lit 180, { cls := Value.type "code", data := Data.fields #[Value.str (Str.ofString "_law_told") 446, Value.str (Str.ofString "_law_told") 447, Value.str (Str.ofString "/claim/cut.py") 448, Value.int 200 0, Value.int 2 0, Value.int 0 0, Value.int 0 0, Value.int 3 0, Value.ref 177, Value.bool true, Value.int 181 0, Value.ref 178, Value.none, Value.none, Value.none, Value.ref 179, Value.int 449 0, Value.int 200 0, Value.str (Str.ofString "/claim/cut.py") 450] }) ::
  (nat_lit 181, fo 29 (Value.str (Str.ofString "law_ik0184_01") 420) (Value.ref 180)) ::
  (nat_lit 185, { cls := Value.type "code", data := Data.fields #[Value.str (Str.ofString "law") 452, Value.str (Str.ofString "law") 453, Value.str (Str.ofString "/claim/cut.py") 454, Value.int 206 0, Value.int 1 0, Value.int 0 0, Value.int 0 0, Value.int 3 0, Value.ref 182, Value.bool true, Value.int 181 0, Value.ref 183, Value.none, Value.none, Value.none, Value.ref 184, Value.int 455 0, Value.int 206 0, Value.str (Str.ofString "/claim/cut.py") 456] }) ::
  (nat_lit 186, fo 30 (Value.str (Str.ofString "law_ik0184_01") 420) (Value.ref 185)) :: []
noncomputable abbrev hd.hook : Hook := kHook hd.heap_39 [3, 93, 94, 100, 101, 107, 108, 114, 115, 119, 120, 121, 127, 128, 134, 135, 141, 142, 148, 149, 155, 156, 160, 161, 165, 166, 170, 171, 175, 176, 180, 181, 185, 186] (fun _ => by kernel_rfl)
theorem hd.said : PySem.Challenge.rw_ik0184_01.wellSaid = true := by decide +kernel
/-- what the top leaves, for either answer of the one row of the world's that it asks -/
noncomputable def hd.LP (w : World) : Prop := (openEnds treeTable prg w 2726).map (fun s => (openSeen hd.view_39 [Str.ofString "COMPILER_FLAG_NAMES"] (importedModules prg.main.body) (fun s => xlAt hd.view_39 [] s && recOk (RowW.records PySem.Challenge.rw_ik0184_01.row.toRowW) s) true s, Hook.obs hd.hook s)) = some (openGood hd.view_39 [Str.ofString "COMPILER_FLAG_NAMES"], Hook.val hd.hook w)
theorem hd.l0 (w : World) : hd.LP (w.withFollow "special-get-raises" false) := by unfold hd.LP; kernel_rfl
theorem hd.l1 (w : World) : hd.LP (w.withFollow "special-get-raises" true) := by unfold hd.LP; kernel_rfl
theorem hd.left : LeftO prg hd.view_39 [Str.ofString "COMPILER_FLAG_NAMES"] (fun s => xlAt hd.view_39 [] s && recOk (RowW.records PySem.Challenge.rw_ik0184_01.row.toRowW) s) (Hook.obs hd.hook) (Hook.val hd.hook) 2726 :=
  byRow2 "special-get-raises" (P := hd.LP) hd.l0 hd.l1
end Mine
end
section
open PySem PySem.W PyProof.Rows
set_option maxRecDepth 100000
set_option maxHeartbeats 8000000
namespace Mine
section
variable {prog : Program} {w : World} {A : Around} {E : Value → Shared → Prop} {s : Shared}

theorem kind_issn : builtinKind "issubclass.nested" = none := by decide +kernel
theorem plain_issn : plainId "issubclass.nested" = true := by decide +kernel
theorem args_issn (a b c : Value) : argsOk "issubclass.nested" ⟨[a, b, c], []⟩ := by unfold argsOk; kernel_rfl

theorem issn_str {k : Value} {dep : Int} {tk : Tok} {Q : Fin → Shared → Prop} (hk : k = .int dep tk) (hq : Q (.done (.ret (.bool true))) s) :
    wpAny (model prog w) A (Builtin.«issubclass.nested» ⟨[.type "str", .type "str", k], []⟩) Q E s := by
  subst hk
  have hm := F.isi_meta_str
  have hself := F.isi_self_str
  repeat (any_goals (first | assumption | (rw [if_pos hm]) | (rw [hself]) | wp_step))

theorem issn_str_meets (k : Int) : Meets (Builtin.«issubclass.nested» ⟨[.type "str", .type "str", rawInt k], []⟩) (fun _ R s => R (.ok (.ret (.bool true))) s) :=
  fun _ _ _ _ _ hs => issn_str rfl hs

theorem issn_tuple {tp : Addr} {k : Value} {tk : Tok} {Q : Fin → Shared → Prop} (hk : k = .int 0 tk)
    (htp : s.heap.get? tp = some { cls := .type "tuple", data := .seq #[.type "str", .type "bytes"] })
    (hq : ∀ tk', Q (.done (.ret (.bool true))) { s with toks := tk' }) :
    wpAny (model prog w) A (Builtin.«issubclass.nested» ⟨[.type "str", .ref tp, k], []⟩) Q E s := by
  subst hk
  obtain ⟨h, g, d, t, os⟩ := s
  have hT2 : (⟨h, g, d, t, os⟩ : Shared).TypeIs (.ref tp) "tuple" := ⟨_, htp, rfl⟩
  have f1 := F.isi_sub_tuple
  repeat (any_goals (first | assumption | refine call_function_meets kind_issn plain_issn F.entry_issubclass_nested (args_issn _ _ _) (issn_str_meets _) ?_ | wp_step))
  exact hq t

theorem call_issubclass_str {tp : Addr} {Q : Value → Shared → Prop} (htp : s.heap.get? tp = some { cls := .type "tuple", data := .seq #[.type "str", .type "bytes"] })
    (h : ∀ tk', Q (.bool true) { s with toks := tk' }) : wpAny (model prog w) A (call (.builtin "issubclass") [.type "str", .ref tp]) Q E s := by
  refine call_function_meets F.kind_issubclass F.plain_issubclass F.entry_issubclass (F.args_issubclass_2 _ _)
    (S := fun _ R s => s.heap.get? tp = some { cls := .type "tuple", data := .seq #[.type "str", .type "bytes"] } ∧ ∀ tk', R (.ok (.ret (.bool true))) { s with toks := tk' }) (fun _ _ _ _ _ hs => issubclass_outer (issn_tuple rfl hs.1 hs.2)) ⟨htp, h⟩
end
end Mine
end
section
open PySem PySem.Calls PySem.Spec PySem.W PyProof.Rows
set_option maxRecDepth 100000
set_option maxHeartbeats 8000000
set_option hygiene false
namespace Mine

section
variable {prog : Program} {w : World} {A₀ A : Around} {s : Shared} {base h₀ : Heap} {outer : List Env} {L : Addr} {m mg mb : Str → Option Value} {env : Env} {news : List (Addr × Obj)} {K : Frag} {p : Program} {loose : List Str} {mean : ExcName → Option Value}
  {R : Result → Shared → Prop} {name qual : Str} {params : Arguments} {body : List Stmt} {scope : Scope} {dV kV doc pm cdv ct oc : Value} {an od : Option Addr} {osl : Array (Option Value)} {f : Addr} {args : Args} {binds : List (Str × Value)}
/-- entering a def with cells; the heap behind keeps all that is not in the ledger -/
theorem enterCG (B : Below A₀ base outer h₀) (F : Fr h₀ L s.heap m) (X₀ : K.In h₀) (N : News h₀ L s.heap news) (T : Top p loose mean mg mb h₀) (hA : A.frames = some (env :: outer)) (hf : env.frame = some L) (hke : env.scope.kind = .function)
    (ho : K.lookup f = some ⟨oc, od, .func (fnOf name qual params body scope dV kV doc pm an cdv ct), osl⟩) (hcd : codeIn K cdv qual = true) (hroom : A.depth < recursionLimit)
    (hbind : BindsTo s (fnOf name qual params body scope dV kV doc pm an cdv ct) args binds) (hkind : (binds.all fun y => scope.names.lookup y.1 == some .local || scope.names.lookup y.1 == some .cell) = true)
    (hnd : ((cellsFrom 0 scope.names []).map (·.1)).Nodup)
    (h : ∀ g L' h₁ tk cells, Fr h₀ L g m → Fr g L' h₁ (bindL (envOfC qual scope L' f cdv).kindOf binds fun _ => none) → News g L' h₁ (cells ++ news) →
      CellsAre (bindC (envOfC qual scope L' f cdv).kindOf binds fun _ => none) (cellsFrom (L' + 1) scope.names []) cells → Below A base (env :: outer) g → K.In g → Top p loose mean mg mb g → (∀ p ∈ news, p.1 < L') → GSub s.heap g (news.map (·.1)) →
      wpAny (model prog w) (A.deeper (envOfC qual scope L' f cdv)) (execs body (envOfC qual scope L' f cdv))
        (fun fl s' => LeaveK h₀ L m g R (match fl with | .ret v => v | _ => .none) s')
        (fun e s' => wpAny (model prog w) (A.deeper (envOfC qual scope L' f cdv)) (leaving (envOfC qual scope L' f cdv) e) (fun _ s'' => R (.error e) s'') (fun e' s'' => R (.error e') s'') s')
        { s with heap := h₁, toks := tk })
    (hco : scope.isCoroutine = false) (hgen : scope.isGenerator = false) (hk : scope.kind = .function) : codeAny (model prog w) A (.call (.ref f) args) R s := by
  have gr := groundX (R := R) B F N hA hf hke
  have XS := X₀.keeps F.keep
  refine codeAny_call_function hroom (XS _ _ ho) rfl hco hgen rfl (codeRec_of XS hcd) (hbind _ _ _ _ (wpAny_newFunctionEnv_cells hk (kindsX hkind _) fun env' he s' x => ?_))
  cases he
  obtain ⟨h₁, tk, rfl, _⟩ := x.done
  obtain ⟨cells, NC, Y⟩ := Cl.news (h₀ := s.heap) (Nat.le_refl _) fun n c hm => ⟨x.cell n c (lookup_of_mem_nodup (cellsFrom_names scope.names 0 (s.heap.objs.size + 1) [] [] rfl ▸ hnd) hm), x.above n c hm⟩
  have up := x.toInCall.keep
  refine ⟨(T.nolimit.keeps F.keep).keeps up, codeAny_func (wpAny_mono (h _ s.heap.objs.size h₁ tk cells gr.1 ⟨x.toInCall.ns, fun b o e => up b o (of_hideAll _ e), Nat.le_of_eq (hideAll_size _ _)⟩ (fun q hq => ?_) Y gr.2.1 (X₀.keeps gr.2.2.1) (T.keeps gr.2.2.1)
    (fun q hq => Heap.lt_size (N q hq).1) fun b o e n => hideAll_get _ e n) (fun fl s' hl => gr.2.2.2 _ _ hl) fun _ _ y => y)⟩
  rcases List.mem_append.mp hq with hq | hq
  · refine ⟨(NC q hq).1, (NC q hq).2.1, ?_⟩
    cases e : (hideAll s.heap (news.map (·.1))).get? q.1 with
    | none => rfl
    | some o => have z := of_hideAll _ e; rw [(NC q hq).2.2] at z; cases z
  · exact ⟨up _ _ (N q hq).1, Nat.ne_of_lt (Heap.lt_size (N q hq).1), hideAll_none _ (List.mem_map_of_mem hq)⟩

/-- entering a def with *rest and no cells: the tuple is made first -/
theorem enterRG {tup : Obj} {bnd : Addr → List (Str × Value)} (B : Below A₀ base outer h₀) (F : Fr h₀ L s.heap m) (X₀ : K.In h₀) (N : News h₀ L s.heap news) (T : Top p loose mean mg mb h₀) (hA : A.frames = some (env :: outer)) (hf : env.frame = some L) (hke : env.scope.kind = .function)
    (ho : K.lookup f = some ⟨oc, od, .func (fnOf name qual params body scope dV kV doc pm an cdv ct), osl⟩) (hcd : codeIn K cdv qual = true) (hroom : A.depth < recursionLimit) (htf : tup.isFreed = false)
    (hbind : ∀ (M : Model) (A : Around) (E : Value → Shared → Prop) (Q : List (Str × Value) → Shared → Prop), Q (bnd s.heap.objs.size) { s with heap := s.heap.push tup } → wpAny M A (bindArgs (fnOf name qual params body scope dV kV doc pm an cdv ct) args) Q E s)
    (hloc : ∀ D, ∀ y ∈ bnd D, scope.names.lookup y.1 = some .local)
    (h : ∀ D g L' h₁, (∀ p ∈ news, p.1 < D) → Fr h₀ L g m → Fr g L' h₁ (fun y => (bnd D).reverse.lookup y) → News g L' h₁ ((D, tup) :: news) → Below A base (env :: outer) g → K.In g → Top p loose mean mg mb g → GSub s.heap g (news.map (·.1)) →
      wpAny (model prog w) (A.deeper (envOf qual scope L' f cdv)) (execs body (envOf qual scope L' f cdv))
        (fun fl s' => LeaveK h₀ L m g R (match fl with | .ret v => v | _ => .none) s')
        (fun e s' => wpAny (model prog w) (A.deeper (envOf qual scope L' f cdv)) (leaving (envOf qual scope L' f cdv) e) (fun _ s'' => R (.error e) s'') (fun e' s'' => R (.error e') s'') s')
        { s with heap := h₁, toks := s.toks + (bnd D).length })
    (hco : scope.isCoroutine = false) (hgen : scope.isGenerator = false) (hk : scope.kind = .function) (hcell : ∀ x ∈ scope.names, x.2 ≠ .cell) : codeAny (model prog w) A (.call (.ref f) args) R s := by
  have up0 : ∀ b o, s.heap.get? b = some o → (s.heap.push tup).get? b = some o := fun b o e => Heap.get?_push_of_some _ e
  have N1 : News h₀ L (s.heap.push tup) ((s.heap.objs.size, tup) :: news) := N.push F tup htf
  have gr := groundX (R := R) (s := { s with heap := s.heap.push tup }) B (F.push tup) N1 hA hf hke
  have XS := X₀.keeps F.keep
  refine codeAny_call_function hroom (XS _ _ ho) rfl hco hgen rfl (codeRec_of XS hcd) (hbind _ _ _ _ (wpAny_newFunctionEnv hcell (hloc _) (fun h₁ hns hsb => ⟨((T.nolimit.keeps F.keep).keeps up0).fresh _ hsb, codeAny_func (wpAny_mono (h _ _ _ h₁ (fun q hq => Heap.lt_size (N q hq).1) gr.1 ⟨hns, fun b o e => ?_, Nat.le_of_eq (hideAll_size _ _)⟩ (fun q hq => ?_) gr.2.1 (X₀.keeps gr.2.2.1) (T.keeps gr.2.2.1)
    (fun b o e n => ?_)) (fun fl s' hl => gr.2.2.2 _ _ hl) fun _ _ y => y)⟩) hk))
  · have e' := of_hideAll _ e
    exact hsb.extBut b o (Nat.ne_of_lt (Heap.lt_size e')) (Heap.get?_push_of_some _ e')
  · have e' := (N1 q hq).1
    exact ⟨hsb.extBut _ _ (Nat.ne_of_lt (Heap.lt_size e')) (Heap.get?_push_of_some _ e'), Nat.ne_of_lt (Heap.lt_size e'), hideAll_none _ (List.mem_map_of_mem hq)⟩
  · refine hideAll_get _ (up0 b o e) fun hm => ?_
    rcases List.mem_cons.mp hm with rfl | hm
    · exact Nat.lt_irrefl _ (Heap.lt_size e)
    · exact n hm
end

/-- a contract of one def of the text: need, what of the ledger it uses; mut, what of it it changes; P, what it asks of the heap -/
noncomputable def Ct (w : World) (mean : ExcName → Option Value) (mg mb : Str → Option Value) (f : Addr) (d u : Nat) (need : List (Addr × Obj)) (mt : List Addr) (P : Heap → Prop) (vs : List Value) (R : Value → List (Addr × Obj) → Prop) : Prop :=
  ∀ (dp un : Nat) (gd : Option (List Code)) (cn : Str) (cs : Scope) (a : Addr) (ccd : Value) (cl : List (Str × Addr)) (outer : List Env) (A₀ : Around) (base h₀ : Heap) (L : Addr) (m : Str → Option Value) (s : Shared) (Q E : Value → Shared → Prop),
    Below A₀ base outer h₀ → Fr h₀ L s.heap m → (hd.heap_39 w.params).In h₀ → News h₀ L s.heap need → Top hd.view_39 (looseW hd.view_39 [Str.ofString "COMPILER_FLAG_NAMES"]) mean mg mb h₀ → cs.kind = .function →
    P s.heap → dp + d < recursionLimit → un + u < cLine →
    (∀ r made h' tk', R r made → Fr h₀ L h' m → News h₀ L h' made → (∀ b o, b ∉ mt → s.heap.get? b = some o → h'.get? b = some o) → (∀ p ∈ made, p.1 ∈ mt ∨ s.heap.get? p.1 = none) → Q r { s with heap := h', toks := tk' }) →
    wpAny (model Challenge.rw_ik0184_01.row.prog w) (ktrTop dp un gd cn cs L a ccd cl outer) (call (.ref f) vs) Q E s

theorem ct_ret {h₀ h' g : Heap} {L L' : Addr} {m m' : Str → Option Value} {need made all : List (Addr × Obj)} {mt : List Addr} {s : Shared} {Q : Value → Shared → Prop} {R : Value → List (Addr × Obj) → Prop} {r : Value} {tk' : Nat}
    (hret : ∀ r made h' tk', R r made → Fr h₀ L h' m → News h₀ L h' made → (∀ b o, b ∉ mt → s.heap.get? b = some o → h'.get? b = some o) → (∀ p ∈ made, p.1 ∈ mt ∨ s.heap.get? p.1 = none) → Q r { s with heap := h', toks := tk' })
    (N : News h₀ L s.heap need) (G : GSub s.heap g (need.map (·.1))) (F' : Fr g L' h' m') (N' : News g L' h' all) (kF : Fr h₀ L h' m) (kN : News h₀ L h' all)
    (hR : R r made) (hs : ∀ p ∈ made, p ∈ all) (hn : ∀ p ∈ need, p.1 ∈ mt ∨ p ∈ all) (hf : ∀ p ∈ made, p.1 ∈ mt ∨ p.1 ∉ need.map (·.1)) :
    Q r { s with heap := h', toks := tk' } := by
  have keep : ∀ b o, b ∉ mt → s.heap.get? b = some o → h'.get? b = some o := fun b o hb e => by
    by_cases hm : b ∈ need.map (·.1)
    · obtain ⟨p, hp, rfl⟩ := List.mem_map.mp hm
      have e1 := (N p hp).1
      rw [e] at e1
      cases e1
      rcases hn p hp with h | h
      · exact absurd h hb
      · exact (N' p h).1
    · exact F'.keep b o (G b o e hm)
  refine hret r made h' tk' hR kF (fun p hp => kN p (hs p hp)) keep fun p hp => (hf p hp).imp id fun hm => ?_
  cases q : s.heap.get? p.1 with
  | none => rfl
  | some o => have z := (N' p (hs p hp)).2.2; rw [G _ _ q hm] at z; cases z

/-- the end of a def that makes nothing and changes nothing -/
theorem ct_ret0 {h₀ h' g : Heap} {L L' : Addr} {m m' : Str → Option Value} {all : List (Addr × Obj)} {s : Shared} {Q : Value → Shared → Prop} {R : Value → List (Addr × Obj) → Prop} {r : Value} {tk' : Nat}
    (hret : ∀ r made h' tk', R r made → Fr h₀ L h' m → News h₀ L h' made → (∀ b o, b ∉ ([] : List Addr) → s.heap.get? b = some o → h'.get? b = some o) → (∀ p ∈ made, p.1 ∈ ([] : List Addr) ∨ s.heap.get? p.1 = none) → Q r { s with heap := h', toks := tk' })
    (N : News h₀ L s.heap []) (G : GSub s.heap g (([] : List (Addr × Obj)).map (·.1))) (F' : Fr g L' h' m') (N' : News g L' h' all) (kF : Fr h₀ L h' m) (kN : News h₀ L h' all)
    (hR : R r []) : Q r { s with heap := h', toks := tk' } :=
  ct_ret hret N G F' N' kF kN hR (fun _ h => nomatch h) (fun _ h => nomatch h) fun _ h => nomatch h

/-- a call by its contract: nothing changed -/
theorem ct_use {w : World} {mean : ExcName → Option Value} {mg mb : Str → Option Value} {f : Addr} {d u : Nat} {need all : List (Addr × Obj)} {P : Heap → Prop} {vs : List Value} {R : Value → List (Addr × Obj) → Prop}
    {dp un : Nat} {gd : Option (List Code)} {cn : Str} {cs : Scope} {a : Addr} {ccd : Value} {cl : List (Str × Addr)} {outer : List Env} {A₀ : Around} {base h₀ : Heap} {L : Addr} {m : Str → Option Value} {s : Shared} {Q E : Value → Shared → Prop}
    (C : Ct w mean mg mb f d u need [] P vs R) (B : Below A₀ base outer h₀) (F : Fr h₀ L s.heap m) (X : (hd.heap_39 w.params).In h₀) (N : News h₀ L s.heap all) (T : Top hd.view_39 (looseW hd.view_39 [Str.ofString "COMPILER_FLAG_NAMES"]) mean mg mb h₀) (hk : cs.kind = .function)
    (hd : dp + d < recursionLimit) (hu : un + u < cLine) (hn : ∀ p ∈ need, p ∈ all) (hP : P s.heap)
    (hret : ∀ r made h' tk', R r made → Fr h₀ L h' m → News h₀ L h' (made ++ all) → (∀ p ∈ made, LCg.Off1 p.1 all) → (∀ b o, s.heap.get? b = some o → h'.get? b = some o) → Q r { s with heap := h', toks := tk' }) :
    wpAny (model Challenge.rw_ik0184_01.row.prog w) (ktrTop dp un gd cn cs L a ccd cl outer) (call (.ref f) vs) Q E s := by
  refine C _ _ _ _ _ _ _ _ _ _ _ _ _ _ _ _ _ B F X (fun p hp => N p (hn p hp)) T hk hP hd hu fun r made h' tk' hR F' N' hk' hf' => ?_
  have k : ∀ b o, s.heap.get? b = some o → h'.get? b = some o := fun b o e => hk' b o (by simp) e
  refine hret r made h' tk' hR F' (fun p hp => ?_) (fun p hp => ?_) k
  · rcases List.mem_append.mp hp with hp | hp
    · exact N' p hp
    · exact ⟨k _ _ (N p hp).1, (N p hp).2⟩
  · have fr : s.heap.get? p.1 = none := (hf' p hp).resolve_left (by simp)
    have z : ∀ l : List (Addr × Obj), (∀ q ∈ l, q ∈ all) → LCg.Off1 p.1 l := by
      intro l
      induction l with
      | nil => exact fun _ => trivial
      | cons q l ih => exact fun h => ⟨(fun e => by have z := (N q (h q (.head _))).1; rw [e, fr] at z; exact nomatch z), ih fun x hx => h x (.tail _ hx)⟩
    exact z all fun _ h => h

/-- a call by its contract: no object handed on -/
theorem ct_use0 {w : World} {mean : ExcName → Option Value} {mg mb : Str → Option Value} {f : Addr} {d u : Nat} {all : List (Addr × Obj)} {P : Heap → Prop} {vs : List Value} {R : Value → Prop}
    {dp un : Nat} {gd : Option (List Code)} {cn : Str} {cs : Scope} {a : Addr} {ccd : Value} {cl : List (Str × Addr)} {outer : List Env} {A₀ : Around} {base h₀ : Heap} {L : Addr} {m : Str → Option Value} {s : Shared} {Q E : Value → Shared → Prop}
    (C : Ct w mean mg mb f d u [] [] P vs (fun r made => made = [] ∧ R r)) (B : Below A₀ base outer h₀) (F : Fr h₀ L s.heap m) (X : (hd.heap_39 w.params).In h₀) (N : News h₀ L s.heap all) (T : Top hd.view_39 (looseW hd.view_39 [Str.ofString "COMPILER_FLAG_NAMES"]) mean mg mb h₀) (hk : cs.kind = .function)
    (hd : dp + d < recursionLimit) (hu : un + u < cLine) (hP : P s.heap)
    (hret : ∀ r h' tk', R r → Fr h₀ L h' m → News h₀ L h' all → (∀ b o, s.heap.get? b = some o → h'.get? b = some o) → Q r { s with heap := h', toks := tk' }) :
    wpAny (model Challenge.rw_ik0184_01.row.prog w) (ktrTop dp un gd cn cs L a ccd cl outer) (call (.ref f) vs) Q E s :=
  ct_use C B F X N T hk hd hu (fun _ h => nomatch h) hP fun r made h' tk' hR F' N' _ k => by
    obtain ⟨rfl, hR⟩ := hR
    exact hret r h' tk' hR F' N' k

/-- a call by its contract: one object changed -/
theorem ct_useM {w : World} {mean : ExcName → Option Value} {mg mb : Str → Option Value} {f l : Addr} {o o' : Obj} {d u : Nat} {all all' : List (Addr × Obj)} {P : Heap → Prop} {vs : List Value} {R : Value → Prop}
    {dp un : Nat} {gd : Option (List Code)} {cn : Str} {cs : Scope} {a : Addr} {ccd : Value} {cl : List (Str × Addr)} {outer : List Env} {A₀ : Around} {base h₀ : Heap} {L : Addr} {m : Str → Option Value} {s : Shared} {Q E : Value → Shared → Prop}
    (C : Ct w mean mg mb f d u [(l, o)] [l] P vs (fun r made => R r ∧ made = [(l, o')])) (B : Below A₀ base outer h₀) (F : Fr h₀ L s.heap m) (X : (hd.heap_39 w.params).In h₀) (N : News h₀ L s.heap all) (T : Top hd.view_39 (looseW hd.view_39 [Str.ofString "COMPILER_FLAG_NAMES"]) mean mg mb h₀) (hk : cs.kind = .function)
    (hd : dp + d < recursionLimit) (hu : un + u < cLine) (U : Upd l o o' all all') (hP : P s.heap)
    (hret : ∀ r h' tk', R r → Fr h₀ L h' m → News h₀ L h' all' → Q r { s with heap := h', toks := tk' }) :
    wpAny (model Challenge.rw_ik0184_01.row.prog w) (ktrTop dp un gd cn cs L a ccd cl outer) (call (.ref f) vs) Q E s := by
  obtain ⟨pre, post, rfl, rfl, h1, h2⟩ := U.split
  refine C _ _ _ _ _ _ _ _ _ _ _ _ _ _ _ _ _ B F X (fun p hp => by cases hp with | head => exact N _ (List.mem_append_right _ (.head _)) | tail _ h => cases h) T hk hP hd hu fun r made h' tk' hR F' N' hk' _ => ?_
  obtain ⟨hr, rfl⟩ := hR
  refine hret r h' tk' hr F' fun p hp => ?_
  rcases List.mem_append.mp hp with q | q
  · have z := N p (List.mem_append_left _ q); exact ⟨hk' _ _ (by simpa using h1 p q) z.1, z.2⟩
  · rcases List.mem_cons.mp q with rfl | q
    · exact N' _ (.head _)
    · have z := N p (List.mem_append_right _ (.tail _ q)); exact ⟨hk' _ _ (by simpa using h2 p q) z.1, z.2⟩
end Mine
end
section
open PySem PySem.Calls PySem.Spec PySem.W PyProof.Rows
set_option maxRecDepth 100000
set_option maxHeartbeats 8000000
set_option hygiene false
set_option linter.all false
namespace Mine
section
variable (w : World) (mean : ExcName → Option Value) (mg mb : Str → Option Value)
theorem fspath_ct (x : Str) (t : Tok) : Ct w mean mg mb 94 1 8 [] [] (fun _ => True) [.str x t] (fun r made => made = [] ∧ r = .str x t) := by
  k_with_none
  k_with "CT intro" => ((unfold Ct; k_fill; intro dp un gd cn cs a ccd cl outer A₀ base h₀ L m s Q E B F X N T hk hP hd hu hret; refine wpAny_call ?_))
  k_with "CT enter" => ((k_dflt (refine' code_defG ?k1 ?k2 ?k3 ?k4 ?k5 ?kA ?kF ?kK ?k6 ?k7 ?k8 ?k9 ?kB ?_ ?c2 ?c3 ?c4 ?c5; (case kA => exact rfl); (case kF => exact rfl); (case kK => assumption); (case k1 => k_asm); (case k2 => k_asm); (case k3 => k_asm); (case k4 => k_asm); (case k5 => k_asm); (case k6 => k_is); (case k7 => k_is); (case k8 => ktr_room); (case k9 => exact BindsTo.of_eq rfl); (case c5 => decide); (case kB => exact locs rfl); (case c2 => exact rfl); (case c3 => exact rfl); (case c4 => exact rfl); k_whole; intro g' L' h' FG' F' N' B' X' T' G'; (try dsimp only); (try k_lift B'); (try k_fold))))
  k_with "CT enterC" => ((k_dflt (refine' enterCG ?k1 ?k2 ?k3 ?k4 ?k5 ?kA ?kF ?kK ?k6 ?k7 ?k8 ?k9 ?kB ?kD ?_ ?c2 ?c3 ?c4; (case kA => exact rfl); (case kF => exact rfl); (case kK => assumption); (case k1 => k_asm); (case k2 => k_asm); (case k3 => k_asm); (case k4 => k_asm); (case k5 => k_asm); (case k6 => k_is); (case k7 => k_is); (case k8 => ktr_room); (case k9 => exact BindsTo.of_eq rfl); (case kB => exact rfl); (case kD => decide +kernel); (case c2 => exact rfl); (case c3 => exact rfl); (case c4 => exact rfl); k_whole; intro g' L' h' tk' cells' FG' F' N' Y' B' X' T' l1 G'; (try k_lt l1); k_cells Y'; (try simp only [List.cons_append, List.nil_append] at N'); (try dsimp only); (try k_lift B'); (try k_fold))))
  k_with "CT use0" => (((case k1 => k_asm); (case k2 => k_asm); (case k3 => k_asm); (case k4 => k_asm); (case k5 => k_asm); (case kK => first | exact rfl | assumption); (case kd => ktr_room); (case ku => ktr_units)))
  k_with "CT useM" => (((case k1 => k_asm); (case k2 => k_asm); (case k3 => k_asm); (case k4 => k_asm); (case k5 => k_asm); (case kK => first | exact rfl | assumption); (case kd => ktr_room); (case ku => ktr_units); (case kU => k_upd)))
  k_with "NEP" => (first | (with_reducible first | exact h9e | exact Ne.symm h9e | exact Nat.ne_of_gt h9e | exact Nat.ne_of_lt h9e) | (replace h9e := And.left h9e; walk_at "NEP") | (replace h9e := And.right h9e; walk_at "NEP"))
  k_with "NEX" => (first | ((with_reducible rename Hid _ => h9e); walk_at "NEP") | ((with_reducible rename _ ∧ _ => h9e); first | walk_at "NEP" | (clear h9e; walk_at "NEX")))
  k_with "KNE" => ((refine neN ?_; (try dsimp only); first | (with_reducible first | assumption | exact Ne.symm (by assumption) | exact Nat.ne_of_gt (by assumption) | exact Nat.ne_of_lt (by assumption)) | walk_at "NEX" | omega))
  k_with "call builtin:issubclass" => ((k_here; (with_reducible show wpAny _ _ (call (Value.builtin _) [Value.type _, Value.ref _]) _ _ _); k_dflt (refine call_issubclass_str (News.get (by assumption) (by k_mem)) ?_); intro tk'))
  walk_at "CT intro"
  walk_at "CT enter"
  k_steps
  all_goals exact ct_ret0 hret N G' (by assumption) (by assumption) (by assumption) (by assumption) ⟨rfl, rfl⟩

theorem sep_ct (x : Str) (t : Tok) : Ct w mean mg mb 108 1 8 [] [] (fun _ => True) [.str x t] (fun r made => made = [] ∧ ∃ t, r = .str (Str.ofString "/") t) := by
  k_with_none
  k_with "CT intro" => ((unfold Ct; k_fill; intro dp un gd cn cs a ccd cl outer A₀ base h₀ L m s Q E B F X N T hk hP hd hu hret; refine wpAny_call ?_))
  k_with "CT enter" => ((k_dflt (refine' code_defG ?k1 ?k2 ?k3 ?k4 ?k5 ?kA ?kF ?kK ?k6 ?k7 ?k8 ?k9 ?kB ?_ ?c2 ?c3 ?c4 ?c5; (case kA => exact rfl); (case kF => exact rfl); (case kK => assumption); (case k1 => k_asm); (case k2 => k_asm); (case k3 => k_asm); (case k4 => k_asm); (case k5 => k_asm); (case k6 => k_is); (case k7 => k_is); (case k8 => ktr_room); (case k9 => exact BindsTo.of_eq rfl); (case c5 => decide); (case kB => exact locs rfl); (case c2 => exact rfl); (case c3 => exact rfl); (case c4 => exact rfl); k_whole; intro g' L' h' FG' F' N' B' X' T' G'; (try dsimp only); (try k_lift B'); (try k_fold))))
  k_with "CT enterC" => ((k_dflt (refine' enterCG ?k1 ?k2 ?k3 ?k4 ?k5 ?kA ?kF ?kK ?k6 ?k7 ?k8 ?k9 ?kB ?kD ?_ ?c2 ?c3 ?c4; (case kA => exact rfl); (case kF => exact rfl); (case kK => assumption); (case k1 => k_asm); (case k2 => k_asm); (case k3 => k_asm); (case k4 => k_asm); (case k5 => k_asm); (case k6 => k_is); (case k7 => k_is); (case k8 => ktr_room); (case k9 => exact BindsTo.of_eq rfl); (case kB => exact rfl); (case kD => decide +kernel); (case c2 => exact rfl); (case c3 => exact rfl); (case c4 => exact rfl); k_whole; intro g' L' h' tk' cells' FG' F' N' Y' B' X' T' l1 G'; (try k_lt l1); k_cells Y'; (try simp only [List.cons_append, List.nil_append] at N'); (try dsimp only); (try k_lift B'); (try k_fold))))
  k_with "CT use0" => (((case k1 => k_asm); (case k2 => k_asm); (case k3 => k_asm); (case k4 => k_asm); (case k5 => k_asm); (case kK => first | exact rfl | assumption); (case kd => ktr_room); (case ku => ktr_units)))
  k_with "CT useM" => (((case k1 => k_asm); (case k2 => k_asm); (case k3 => k_asm); (case k4 => k_asm); (case k5 => k_asm); (case kK => first | exact rfl | assumption); (case kd => ktr_room); (case ku => ktr_units); (case kU => k_upd)))
  k_with "NEP" => (first | (with_reducible first | exact h9e | exact Ne.symm h9e | exact Nat.ne_of_gt h9e | exact Nat.ne_of_lt h9e) | (replace h9e := And.left h9e; walk_at "NEP") | (replace h9e := And.right h9e; walk_at "NEP"))
  k_with "NEX" => (first | ((with_reducible rename Hid _ => h9e); walk_at "NEP") | ((with_reducible rename _ ∧ _ => h9e); first | walk_at "NEP" | (clear h9e; walk_at "NEX")))
  k_with "KNE" => ((refine neN ?_; (try dsimp only); first | (with_reducible first | assumption | exact Ne.symm (by assumption) | exact Nat.ne_of_gt (by assumption) | exact Nat.ne_of_lt (by assumption)) | walk_at "NEX" | omega))
  k_with "call builtin:issubclass" => ((k_here; (with_reducible show wpAny _ _ (call (Value.builtin _) [Value.type _, Value.ref _]) _ _ _); k_dflt (refine call_issubclass_str (News.get (by assumption) (by k_mem)) ?_); intro tk'))
  walk_at "CT intro"
  walk_at "CT enter"
  k_steps
  all_goals exact ct_ret0 hret N G' (by assumption) (by assumption) (by assumption) (by assumption) ⟨rfl, _, rfl⟩
end
end Mine
end
section
open PySem PySem.Calls PySem.Spec PySem.W PyProof.Rows
set_option maxRecDepth 100000
set_option maxHeartbeats 8000000
set_option hygiene false
set_option linter.all false
namespace Mine
 
noncomputable def joinS (x y : Str) : Str := if Txt.startswith y (Str.ofString "/") = true then y else if Txt.endswith x (Str.ofString "/") = true then x ++ y else x ++ (Str.ofString "/" ++ y)
theorem str_eq {a b : Str} {t : Tok} (h : a = b) : ∃ t', Value.str a t = .str b t' := ⟨t, by rw [h]⟩
section
variable (w : World) (mean : ExcName → Option Value) (mg mb : Str → Option Value)
theorem join_ct (x y : Str) (t u : Tok) (hx : 1 ≤ x.length) (hxl : x.length ≤ 500) (hyl : y.length ≤ 500) : Ct w mean mg mb 115 2 16 [] [] (fun _ => True) [.str x t, .str y u] (fun r made => made = [] ∧ ∃ t, r = .str (joinS x y) t) := by
  k_with_none
  k_with "CT intro" => ((unfold Ct; k_fill; intro dp un gd cn cs a ccd cl outer A₀ base h₀ L m s Q E B F X N T hk hP hd hu hret; refine wpAny_call ?_))
  k_with "CT enter" => ((k_dflt (refine' code_defG ?k1 ?k2 ?k3 ?k4 ?k5 ?kA ?kF ?kK ?k6 ?k7 ?k8 ?k9 ?kB ?_ ?c2 ?c3 ?c4 ?c5; (case kA => exact rfl); (case kF => exact rfl); (case kK => assumption); (case k1 => k_asm); (case k2 => k_asm); (case k3 => k_asm); (case k4 => k_asm); (case k5 => k_asm); (case k6 => k_is); (case k7 => k_is); (case k8 => ktr_room); (case k9 => exact BindsTo.of_eq rfl); (case c5 => decide); (case kB => exact locs rfl); (case c2 => exact rfl); (case c3 => exact rfl); (case c4 => exact rfl); k_whole; intro g' L' h' FG' F' N' B' X' T' G'; (try dsimp only); (try k_lift B'); (try k_fold))))
  k_with "CT enterC" => ((k_dflt (refine' enterCG ?k1 ?k2 ?k3 ?k4 ?k5 ?kA ?kF ?kK ?k6 ?k7 ?k8 ?k9 ?kB ?kD ?_ ?c2 ?c3 ?c4; (case kA => exact rfl); (case kF => exact rfl); (case kK => assumption); (case k1 => k_asm); (case k2 => k_asm); (case k3 => k_asm); (case k4 => k_asm); (case k5 => k_asm); (case k6 => k_is); (case k7 => k_is); (case k8 => ktr_room); (case k9 => exact BindsTo.of_eq rfl); (case kB => exact rfl); (case kD => decide +kernel); (case c2 => exact rfl); (case c3 => exact rfl); (case c4 => exact rfl); k_whole; intro g' L' h' tk' cells' FG' F' N' Y' B' X' T' l1 G'; (try k_lt l1); k_cells Y'; (try simp only [List.cons_append, List.nil_append] at N'); (try dsimp only); (try k_lift B'); (try k_fold))))
  k_with "CT use0" => (((case k1 => k_asm); (case k2 => k_asm); (case k3 => k_asm); (case k4 => k_asm); (case k5 => k_asm); (case kK => first | exact rfl | assumption); (case kd => ktr_room); (case ku => ktr_units)))
  k_with "CT useM" => (((case k1 => k_asm); (case k2 => k_asm); (case k3 => k_asm); (case k4 => k_asm); (case k5 => k_asm); (case kK => first | exact rfl | assumption); (case kd => ktr_room); (case ku => ktr_units); (case kU => k_upd)))
  k_with "NEP" => (first | (with_reducible first | exact h9e | exact Ne.symm h9e | exact Nat.ne_of_gt h9e | exact Nat.ne_of_lt h9e) | (replace h9e := And.left h9e; walk_at "NEP") | (replace h9e := And.right h9e; walk_at "NEP"))
  k_with "NEX" => (first | ((with_reducible rename Hid _ => h9e); walk_at "NEP") | ((with_reducible rename _ ∧ _ => h9e); first | walk_at "NEP" | (clear h9e; walk_at "NEX")))
  k_with "KNE" => ((refine neN ?_; (try dsimp only); first | (with_reducible first | assumption | exact Ne.symm (by assumption) | exact Nat.ne_of_gt (by assumption) | exact Nat.ne_of_lt (by assumption)) | walk_at "NEX" | omega))
  k_with "call ref" => ((k_here; (with_reducible show wpAny _ _ (call (Value.ref 94) [Value.str _ _]) _ _ _); k_dflt (refine' ct_use0 (fspath_ct _ _ _ _ _ _) ?k1 ?k2 ?k3 ?k4 ?k5 ?kK ?kd ?ku trivial ?_; walk_at "CT use0"; intro r9 h9 tk9 e9 F9 N9 k9; subst e9)))
  k_with "call ref" => ((k_here; (with_reducible show wpAny _ _ (call (Value.ref 108) [Value.str _ _]) _ _ _); k_dflt (refine' ct_use0 (sep_ct _ _ _ _ _ _) ?k1 ?k2 ?k3 ?k4 ?k5 ?kK ?kd ?ku trivial ?_; walk_at "CT use0"; rintro r9 h9 tk9 ⟨t9, e9⟩ F9 N9 k9; subst e9)))
  k_with "CT enterR" => ((k_dflt (refine' enterRG (tup := { cls := .type "tuple", data := .seq #[.str y u] }) (bnd := fun D => [(Str.ofString "a", .str x t), (Str.ofString "p", .ref D)]) ?k1 ?k2 ?k3 ?k4 ?k5 ?kA ?kF ?kK ?k6 ?k7 ?k8 ?kT ?kV ?kB ?_ ?c2 ?c3 ?c4 ?c5; (case kA => exact rfl); (case kF => exact rfl); (case kK => assumption); (case k1 => k_asm); (case k2 => k_asm); (case k3 => k_asm); (case k4 => k_asm); (case k5 => k_asm); (case k6 => k_is); (case k7 => k_is); (case k8 => ktr_room); (case kT => exact rfl); (case kV => (intro M A E Q hq; (repeat (first | exact hq | wp_step)))); (case kB => exact fun _ => locs rfl); (case c5 => decide); (case c2 => exact rfl); (case c3 => exact rfl); (case c4 => exact rfl); k_whole; intro D' g' L' h' l1 FG' F' N' B' X' T' G'; (try k_lt l1); (try dsimp only); (try k_lift B'); (try k_fold))))
  k_with "truthy str" => ((k_here; (with_reducible show wpAny _ _ (PySem.truthy (Value.str _ _)) _ _ _); (refine KXt.truthy_pos (K := 500) (by assumption) (by assumption) (by decide) ?_); intro _))
  walk_at "CT intro"
  walk_at "CT enterR"
  k_steps
  all_goals (refine ct_ret0 hret N G' (by assumption) (by assumption) (by assumption) (by assumption) ⟨rfl, str_eq ?_⟩; simp only [joinS, *, if_true, if_false, Bool.false_eq_true])
end
end Mine
end
section
open PySem PySem.Calls PySem.Spec PySem.W PyProof.Rows
set_option maxRecDepth 100000
set_option maxHeartbeats 8000000
namespace Mine
structure Road where
  p : Int
  t : Int
  a : Int
  b : Int
  deriving DecidableEq
noncomputable def Road.vals (r : Road) (k : Nat × Nat × Nat × Nat) : Array Value := #[.int r.p k.1, .int r.t k.2.1, .int r.a k.2.2.1, .int r.b k.2.2.2]
noncomputable def ltR (r q : Road) : Bool := if r.p = q.p then (if r.t = q.t then (if r.a = q.a then decide (r.b < q.b) else decide (r.a < q.a)) else decide (r.t < q.t)) else decide (r.p < q.p)
section
variable {prog : Program} {w : World} {A : Around} {E : Value → Shared → Prop} {s : Shared}
#check @KeyKind.eqBool
#check @intKind_is
theorem eqInt {p q : Int} {t u : Tok} {Q : Bool → Shared → Prop} (h : Q (decide (p = q)) s) : wpAny (model prog w) A (eqBool (.int p t) (.int q u)) Q E s := by
  refine (intKind prog w).eqBool (intKind_is _ _ _ _) (intKind_is _ _ _ _) ?_
  exact h
theorem ltInt {p q : Int} {t u : Tok} {Q : Value → Shared → Prop} (h : Q (.bool (decide (p < q))) s) : wpAny (model prog w) A (richCompare .Lt (.int p t) (.int q u)) Q E s := by
  exact PyProof.Rows.lt_int h
theorem tuple_lt_meets (T1 T2 : Addr) (r q : Road) (k l : Nat × Nat × Nat × Nat) : Meets (Builtin.«tuple.__lt__» ⟨[.ref T1, .ref T2], []⟩)
    (fun A R s => IsTup s.heap T1 (r.vals k) ∧ IsTup s.heap T2 (q.vals l) ∧ ∀ tk, R (.ok (.ret (.bool (ltR r q)))) { s with toks := tk }) := by
  intro prog w A R s hs
  obtain ⟨⟨o1, e1, c1, n1, d1⟩, ⟨o2, e2, c2, n2, d2⟩, hR⟩ := hs
  obtain ⟨h, g, d, t, os⟩ := s
  have hT1 : (⟨h, g, d, t, os⟩ : Shared).TypeIs (.ref T1) "tuple" := ⟨_, e1, c1⟩
  have hT2 : (⟨h, g, d, t, os⟩ : Shared).TypeIs (.ref T2) "tuple" := ⟨_, e2, c2⟩
  obtain ⟨oc1, od1, odt1, os1⟩ := o1
  obtain ⟨oc2, od2, odt2, os2⟩ := o2
  simp only at c1 d1 c2 d2
  subst c1 d1 c2 d2
  have f1 := F.isi_sub_tuple
  have fin : ∀ b, b = ltR r q → R (.ok (.ret (.bool b))) ⟨h, g, d, t, os⟩ := fun b e => e ▸ hR t
  repeat (first | refine eqInt ?_ | wp_step)
  by_cases hp : r.p = q.p
  · rw [if_neg (by simp [hp])]
    repeat (first | refine eqInt ?_ | wp_step)
    by_cases ht : r.t = q.t
    · rw [if_neg (by simp [ht])]
      repeat (first | refine eqInt ?_ | wp_step)
      by_cases hx : r.a = q.a
      · rw [if_neg (by simp [hx])]
        repeat (first | refine eqInt ?_ | wp_step)
        by_cases hy : r.b = q.b
        · rw [if_neg (by simp [hy])]
          repeat (first | refine eqInt ?_ | wp_step)
          exact fin _ (by simp [ltR, hp, ht, hx, hy, Builtin.Tuple.tupleCompareSizes, Road.vals])
        · rw [if_pos (by simp [hy])]
          repeat (first | refine ltInt ?_ | wp_step)
          exact fin _ (by simp [ltR, hp, ht, hx])
      · rw [if_pos (by simp [hx])]
        repeat (first | refine ltInt ?_ | wp_step)
        exact fin _ (by simp [ltR, hp, ht, hx])
    · rw [if_pos (by simp [ht])]
      repeat (first | refine ltInt ?_ | wp_step)
      exact fin _ (by simp [ltR, hp, ht])
  · rw [if_pos (by simp [hp])]
    repeat (first | refine ltInt ?_ | wp_step)
    exact fin _ (by simp [ltR, hp])
theorem lt_roads {T1 T2 : Addr} {r q : Road} {k l : Nat × Nat × Nat × Nat} {Q : Value → Shared → Prop} (hu : A.units < cLine) (h1 : IsTup s.heap T1 (r.vals k)) (h2 : IsTup s.heap T2 (q.vals l)) (h : ∀ tk, Q (.bool (ltR r q)) { s with toks := tk }) :
    wpAny (model prog w) A (compareOp .Lt (.ref T1) (.ref T2)) Q E s := by
  have e1 : s.TypeIs (.ref T1) "tuple" := by obtain ⟨o, e, c, _⟩ := h1; exact ⟨o, e, c⟩
  have e2 : s.TypeIs (.ref T2) "tuple" := by obtain ⟨o, e, c, _⟩ := h2; exact ⟨o, e, c⟩
  have m := tuple_lt_meets T1 T2 r q k l
  refine cmp_ofLt (wpAny_richCompare_same_or (T := "tuple") (id := "tuple.__lt__") e1 e2 F.slot_tuple_lt ?_ (.inr hu))
  refine call_meets F.slot_tuple_lt e1 F.entry_tuple_lt (F.args_tuple_lt_2 _ _) m ?_
  refine ⟨h1, h2, fun tk => ?_⟩
  refine ⟨(fun e => nomatch e), h tk⟩
end
end Mine
end
section
open PySem PySem.Calls PySem.Spec PySem.W PyProof.Rows
set_option maxRecDepth 100000
set_option maxHeartbeats 8000000
set_option hygiene false
set_option linter.all false
namespace Mine
theorem fr3 {m : Str → Option Value} {a b c : Str} {va vb vc : Option Value} (ha : m a = va) (hb : m b = vb) (hc : m c = vc) : m = fun y => if y = a then va else if y = b then vb else if y = c then vc else m y := by
  funext y; split
  · next h => rw [h, ha]
  · split
    · next h => rw [h, hb]
    · split
      · next h => rw [h, hc]
      · rfl
theorem fr4 {m : Str → Option Value} {a b c d : Str} {va vb vc vd : Option Value} (ha : m a = va) (hb : m b = vb) (hc : m c = vc) (hd : m d = vd) : m = fun y => if y = a then va else if y = b then vb else if y = c then vc else if y = d then vd else m y := by
  funext y; split
  · next h => rw [h, ha]
  · split
    · next h => rw [h, hb]
    · split
      · next h => rw [h, hc]
      · split
        · next h => rw [h, hd]
        · rfl
/-- the value is a tuple of the road's four ints -/
noncomputable def RoadAt (h : Heap) (v : Value) (r : Road) : Prop := ∃ T k, v = .ref T ∧ IsTup h T (r.vals k)
noncomputable abbrev ZR := Value × Road
noncomputable def RoadsAt (h : Heap) (zs : List ZR) : Prop := ∀ z ∈ zs, RoadAt h z.1 z.2
noncomputable abbrev zlist (zs : List ZR) (ep : Nat) : Obj := listOf (zs.map (·.1)).toArray ep
theorem RoadAt.sub {h g : Heap} {v : Value} {r : Road} (x : RoadAt h v r) (k : ∀ b o, h.get? b = some o → g.get? b = some o) : RoadAt g v r := let ⟨T, c, e, o, e1, r⟩ := x; ⟨T, c, e, o, k _ _ e1, r⟩
theorem gsub_tup {h g : Heap} {l : Addr} {lo : Obj} {v : Value} {r : Road} (hl : h.get? l = some lo) (hc : lo.cls = .type "list") (x : RoadAt h v r) (G : GSub h g [l]) : RoadAt g v r := by
  obtain ⟨T, c, e, o, e1, c1, r⟩ := x
  refine ⟨T, c, e, o, G _ _ e1 (fun hm => ?_), c1, r⟩
  rw [List.mem_singleton.mp hm, hl] at e1
  cases e1
  rw [hc] at c1; exact absurd c1 (by simp)
theorem RoadsAt.set {h : Heap} {zs : List ZR} {i : Nat} {z : ZR} (x : RoadsAt h zs) (hz : RoadAt h z.1 z.2) : RoadsAt h (zs.set i z) := fun y hy => by
  rcases List.mem_or_eq_of_mem_set hy with h | h
  · exact x y h
  · rw [h]; exact hz
section
variable {prog : Program} {w : World} {A : Around} {E : Value → Shared → Prop} {s : Shared} {h₀ : Heap} {L hl : Addr} {m : Str → Option Value} {news news' : List (Addr × Obj)} {zs : List ZR} {ep : Nat} {k : Int} {u : Tok}
theorem zget {value slice : PySem.Expr} {Q : Value → Shared → Prop} (N : News h₀ L s.heap news) (hm : (hl, zlist zs ep) ∈ news) (hR : RoadsAt h₀ zs) (i : Nat) (hk : k = (i : Int)) (hi : i < zs.length) (hfit : zs.length ≤ 6)
    (h : ∀ T r c, zs[i]? = some (.ref T, r) → IsTup h₀ T (r.vals c) → Q (.ref T) s)
    (hs : subscripted slice false (.ref hl) (.int k u) = operate [.ref hl, .int k u] (getItem (.ref hl) (.int k u)) := by with_unfolding_all rfl) :
    wpAny (model prog w) A (subscriptTail value slice (.ref hl) (.int k u)) Q E s := by
  have il : s.heap.IsList hl (zs.map (·.1)).toArray := ⟨_, (N _ hm).1, rfl, _, rfl⟩
  obtain ⟨T, c, e, ht⟩ := hR zs[i] (List.getElem_mem hi)
  have hz : zs[i]? = some (.ref T, zs[i].2) := by rw [List.getElem?_eq_getElem hi, ← e]
  refine tail_any il.typeIs slot_list_getitem.lookup (wpAny_getItem_list il (by omega) (by omega) (x := .ref T) ?_ (h T _ c hz ht)) hs
  rw [hk]
  simp [List.getElem?_map, hz]
theorem zset {Q : Unit → Shared → Prop} {z : ZR} (F : Fr h₀ L s.heap m) (N : News h₀ L s.heap news) (i : Nat) (hk : k = (i : Int)) (hi : i < zs.length) (hfit : zs.length ≤ 6) (U : Upd hl (zlist zs ep) (zlist (zs.set i z) ep) news news')
    (h : ∀ h', Fr h₀ L h' m → News h₀ L h' news' → Q () { s with heap := h' }) : wpAny (model prog w) A (setItem (.ref hl) (.int k u) z.1) Q E s := by
  obtain ⟨pre, post, rfl, rfl, a, b⟩ := U.split
  have x := N (hl, zlist zs ep) (List.mem_append.mpr (.inr (.head _)))
  refine ki_setAt x.1 (by omega) (by omega) (by simp; omega) (h _ (F.change (Heap.SameBut.update ..) x.2.1 x.2.2) (ki_turn _ N a b ?_ ?_))
  · rw [hk]
    apply Array.toList_inj.mp
    simp [List.map_set]
  · simp
end
theorem shr1 {p : Nat} (h : 0 < p) : ((p : Int) - 1).fdiv (2 ^ Int.toNat 1) = (((p - 1) / 2 : Nat) : Int) := by
  have e : ((p : Int) - 1) = ((p - 1 : Nat) : Int) := by omega
  rw [e]
  show Int.fdiv _ 2 = _
  rw [Int.fdiv_eq_ediv_of_nonneg _ (by decide)]
  omega
noncomputable def sdGo (new : ZR) (start : Nat) : Nat → List ZR → Nat → List ZR
  | 0, L, p => L.set p new
  | f + 1, L, p => if start < p then (match L[(p - 1) / 2]? with | some par => if ltR new.2 par.2 = true then sdGo new start f (L.set p par) ((p - 1) / 2) else L.set p new | none => L.set p new) else L.set p new
noncomputable def siftdownP (L : List ZR) (start pos : Nat) : List ZR := match L[pos]? with
  | some new => sdGo new start pos L pos
  | none => L
theorem tup_up {h g : Heap} {T : Addr} {a : Array Value} (k : ∀ b o, g.get? b = some o → h.get? b = some o) (x : IsTup g T a) : IsTup h T a := let ⟨o, e, r⟩ := x; ⟨o, k _ _ e, r⟩
section
variable (w : World) (mean : ExcName → Option Value) (mg mb : Str → Option Value)
theorem sdown_ct (hl : Addr) (zs : List ZR) (ep : Nat) (start pos : Nat) (t u : Tok) (hp : pos < zs.length) (hz : zs.length ≤ 6) : Ct w mean mg mb 149 1 8 [(hl, zlist zs ep)] [hl] (fun h => RoadsAt h zs) [.ref hl, .int (start : Nat) t, .int (pos : Nat) u]
    (fun r made => r = .none ∧ made = [(hl, zlist (siftdownP zs start pos) ep)]) := by
  k_with_none
  k_with "CT intro" => ((unfold Ct; k_fill; intro dp un gd cn cs a ccd cl outer A₀ base h₀ L m s Q E B F X N T hk hP hd hu hret; refine wpAny_call ?_))
  k_with "CT enter" => ((k_dflt (refine' code_defG ?k1 ?k2 ?k3 ?k4 ?k5 ?kA ?kF ?kK ?k6 ?k7 ?k8 ?k9 ?kB ?_ ?c2 ?c3 ?c4 ?c5; (case kA => exact rfl); (case kF => exact rfl); (case kK => assumption); (case k1 => k_asm); (case k2 => k_asm); (case k3 => k_asm); (case k4 => k_asm); (case k5 => k_asm); (case k6 => k_is); (case k7 => k_is); (case k8 => ktr_room); (case k9 => exact BindsTo.of_eq rfl); (case c5 => decide); (case kB => exact locs rfl); (case c2 => exact rfl); (case c3 => exact rfl); (case c4 => exact rfl); k_whole; intro g' L' h' FG' F' N' B' X' T' G'; (try dsimp only); (try k_lift B'); (try k_fold))))
  k_with "CT enterC" => ((k_dflt (refine' enterCG ?k1 ?k2 ?k3 ?k4 ?k5 ?kA ?kF ?kK ?k6 ?k7 ?k8 ?k9 ?kB ?kD ?_ ?c2 ?c3 ?c4; (case kA => exact rfl); (case kF => exact rfl); (case kK => assumption); (case k1 => k_asm); (case k2 => k_asm); (case k3 => k_asm); (case k4 => k_asm); (case k5 => k_asm); (case k6 => k_is); (case k7 => k_is); (case k8 => ktr_room); (case k9 => exact BindsTo.of_eq rfl); (case kB => exact rfl); (case kD => decide +kernel); (case c2 => exact rfl); (case c3 => exact rfl); (case c4 => exact rfl); k_whole; intro g' L' h' tk' cells' FG' F' N' Y' B' X' T' l1 G'; (try k_lt l1); k_cells Y'; (try simp only [List.cons_append, List.nil_append] at N'); (try dsimp only); (try k_lift B'); (try k_fold))))
  k_with "CT use0" => (((case k1 => k_asm); (case k2 => k_asm); (case k3 => k_asm); (case k4 => k_asm); (case k5 => k_asm); (case kK => first | exact rfl | assumption); (case kd => ktr_room); (case ku => ktr_units)))
  k_with "CT useM" => (((case k1 => k_asm); (case k2 => k_asm); (case k3 => k_asm); (case k4 => k_asm); (case k5 => k_asm); (case kK => first | exact rfl | assumption); (case kd => ktr_room); (case ku => ktr_units); (case kU => k_upd)))
  k_with "NEP" => (first | (with_reducible first | exact h9e | exact Ne.symm h9e | exact Nat.ne_of_gt h9e | exact Nat.ne_of_lt h9e) | (replace h9e := And.left h9e; walk_at "NEP") | (replace h9e := And.right h9e; walk_at "NEP"))
  k_with "NEX" => (first | ((with_reducible rename Hid _ => h9e); walk_at "NEP") | ((with_reducible rename _ ∧ _ => h9e); first | walk_at "NEP" | (clear h9e; walk_at "NEX")))
  k_with "KNE" => ((refine neN ?_; (try dsimp only); first | (with_reducible first | assumption | exact Ne.symm (by assumption) | exact Nat.ne_of_gt (by assumption) | exact Nat.ne_of_lt (by assumption)) | walk_at "NEX" | omega))
  k_with "exec While Compare cons nil" => ((refine Halt.out ?_))
  k_with "compareOp Lt ref ref" => ((k_here; k_dflt (refine lt_roads (by ktr_units) (tup_up (Fr.keep (by assumption)) (by assumption)) (tup_up (Fr.keep (by assumption)) (by assumption)) ?_); intro tk9))
  k_with "subscriptTail" => (((guard_hyp mkDown0 : True); k_here; k_dflt (refine zget (by assumption) (by k_mem) hR0 pos rfl hp hz ?_); intro T0 r0 c0 hz0 ht0))
  k_with "subscriptTail" => (((guard_hyp mkTurn : True); k_here; (have hpos9 : 0 < p := by omega); k_dflt (refine zget (by assumption) (by k_mem) hRM ((p - 1) / 2) (shr1 hpos9) (by omega) (by omega) ?_); intro T1 r1 c1 hz1 ht1))
  k_with "setItem ref int" => (((guard_hyp mkTurn : True); k_here; (with_reducible show wpAny _ _ (setItem (Value.ref _) (Value.int _ _) (Value.ref T1)) _ _ _); k_dflt (refine zset (z := (Value.ref T1, r1)) (by assumption) (by assumption) p rfl hpM (by omega) (by k_upd) ?_); intro h9 F9 N9))
  k_with "setItem ref int" => (((guard_hyp mkTurn : True); k_here; (with_reducible show wpAny _ _ (setItem (Value.ref _) (Value.int _ _) (Value.ref T0)) _ _ _); k_dflt (refine zset (z := (Value.ref T0, r0)) (by assumption) (by assumption) p rfl hpM (by omega) (by k_upd) ?_); intro h9 F9 N9))
  walk_at "CT intro"
  walk_at "CT enter"
  have hR0 : RoadsAt g' zs := fun z hz => gsub_tup (N (hl, zlist zs ep) (.head _)).1 rfl (hP z hz) G'
  have mkDown0 : True := trivial
  k_steps
  rename Fr _ _ _ _ => F2
  rename News _ _ _ _ => N2
  unfold Halt
  refine whileR (h₀ := g') pos (fun k m news => ∃ (M : List ZR) (p : Nat) (tp : Tok) (u : Str → Option Value), k = p ∧ m = (fun y => if y = Str.ofString "pos" then some (.int p tp) else if y = Str.ofString "newitem" then some (.ref T0) else if y = Str.ofString "heap" then some (.ref hl) else if y = Str.ofString "startpos" then some (.int start t) else u y) ∧ news = [(hl, zlist M ep)] ∧
    p < M.length ∧ M.length = zs.length ∧ RoadsAt g' M ∧ ∃ f, p ≤ f ∧ sdGo (.ref T0, r0) start f M p = siftdownP zs start pos) F2 N2 ?_ ?_
  · refine ⟨zs, pos, u, _, rfl, fr4 rfl rfl rfl rfl, rfl, hp, rfl, hR0, pos, Nat.le_refl _, ?_⟩
    unfold siftdownP; rw [hz0]
  · rintro k m₁ news₁ h tk ⟨M, p, tp, u, hkp, rfl, rfl, hpM, hlM, hRM, f, hf, hgo⟩ F3 N3
    obtain rfl : p = k := hkp.symm
    have mkTurn : True := trivial
    k_steps
    · dsimp only
      rename Fr _ _ _ _ => F9
      rename News _ _ _ _ => N9
      have hsp : start < p := by omega
      obtain ⟨f', rfl⟩ : ∃ f', f = f' + 1 := ⟨f - 1, by omega⟩
      refine wturn_cont F9 N9 (j := (p - 1) / 2) (by omega) ⟨M.set p (.ref T1, r1), (p - 1) / 2, _, _, rfl, fr4 (congrArg (fun z => some (Value.int z _)) (shr1 (by omega))) rfl rfl rfl, rfl, (by rw [List.length_set]; omega), (by rw [List.length_set]; exact hlM), hRM.set ⟨T1, c1, rfl, ht1⟩, f', by omega, ?_⟩
      rw [← hgo]
      conv => rhs; unfold sdGo
      rw [if_pos hsp, hz1]
      dsimp only
      rw [if_pos (by assumption)]
    · dsimp only
      unfold WTurnPost
      have hsp : start < p := by omega
      obtain ⟨f', rfl⟩ : ∃ f', f = f' + 1 := ⟨f - 1, by omega⟩
      have hend : M.set p (.ref T0, r0) = siftdownP zs start pos := by
        rw [← hgo]
        conv => rhs; unfold sdGo
        rw [if_pos hsp, hz1]
        dsimp only
        rw [if_neg (by simp [*])]
      k_steps
      exact ct_ret hret N G' (by assumption) (by assumption) (by assumption) (by assumption) ⟨rfl, by rw [hend]⟩ (fun _ h => h) (fun p hp => .inl (by cases hp with | head => exact .head _ | tail _ h => cases h)) (fun p hp => .inl (by cases hp with | head => exact .head _ | tail _ h => cases h))
    · have hend : M.set p (.ref T0, r0) = siftdownP zs start pos := by
        rw [← hgo]
        cases f with
        | zero => rfl
        | succ f => unfold sdGo; rw [if_neg (by omega)]
      exact ct_ret hret N G' (by assumption) (by assumption) (by assumption) (by assumption) ⟨rfl, by rw [hend]⟩ (fun _ h => h) (fun p hp => .inl (by cases hp with | head => exact .head _ | tail _ h => cases h)) (fun p hp => .inl (by cases hp with | head => exact .head _ | tail _ h => cases h))
end
end Mine
end
section
open PySem PySem.Calls PySem.Spec PySem.W PyProof.Rows
set_option maxRecDepth 100000
set_option maxHeartbeats 8000000
set_option hygiene false
set_option linter.all false
namespace Mine
theorem fr6 {m : Str → Option Value} {a b c d e f : Str} {va vb vc vd ve vf : Option Value} (ha : m a = va) (hb : m b = vb) (hc : m c = vc) (hd : m d = vd) (he : m e = ve) (hf : m f = vf) : m = fun y => if y = a then va else if y = b then vb else if y = c then vc else if y = d then vd else if y = e then ve else if y = f then vf else m y := by
  rw [← ha, ← hb, ← hc, ← hd, ← he, ← hf]
  funext y
  repeat' split
  all_goals (first | rfl | (next h => rw [h]))
noncomputable def childP (M : List ZR) (p : Nat) : Nat := match M[2 * p + 1]?, M[2 * p + 2]? with
  | some z, some y => if ltR z.2 y.2 = true then 2 * p + 1 else 2 * p + 2
  | _, _ => 2 * p + 1
noncomputable def suGo : Nat → List ZR → Nat → List ZR × Nat
  | 0, M, p => (M, p)
  | f + 1, M, p => match M[childP M p]? with
    | some z => suGo f (M.set p z) (childP M p)
    | none => (M, p)
theorem suGo_step {f : Nat} {M : List ZR} {p c : Nat} {z : ZR} (hc : childP M p = c) (hz : M[c]? = some z) : suGo (f + 1) M p = suGo f (M.set p z) c := by
  conv => lhs; unfold suGo
  rw [hc, hz]
theorem suGo_end {M : List ZR} {p : Nat} (h : M.length ≤ 2 * p + 1) : ∀ f, suGo f M p = (M, p)
  | 0 => rfl
  | f + 1 => by
    have e : childP M p = 2 * p + 1 := by unfold childP; rw [List.getElem?_eq_none (by omega : M.length ≤ 2 * p + 1)]
    unfold suGo
    rw [e, List.getElem?_eq_none h]
noncomputable def siftupP (M : List ZR) (pos : Nat) : List ZR := match M[pos]? with
  | some new => siftdownP ((suGo M.length M pos).1.set (suGo M.length M pos).2 new) pos (suGo M.length M pos).2
  | none => M
section
variable {prog : Program} {w : World} {A : Around} {E : Value → Shared → Prop} {s : Shared} {h₀ : Heap} {L hl : Addr} {m : Str → Option Value} {news news' : List (Addr × Obj)} {zs : List ZR} {ep : Nat} {k : Int} {u : Tok}
theorem zgetK {value slice : PySem.Expr} {T : Addr} {r : Road} {Q : Value → Shared → Prop} (N : News h₀ L s.heap news) (hm : (hl, zlist zs ep) ∈ news) (i : Nat) (hz : zs[i]? = some (.ref T, r)) (hk : k = (i : Int)) (hfit : zs.length ≤ 6)
    (h : Q (.ref T) s)
    (hs : subscripted slice false (.ref hl) (.int k u) = operate [.ref hl, .int k u] (getItem (.ref hl) (.int k u)) := by with_unfolding_all rfl) :
    wpAny (model prog w) A (subscriptTail value slice (.ref hl) (.int k u)) Q E s := by
  have il : s.heap.IsList hl (zs.map (·.1)).toArray := ⟨_, (N _ hm).1, rfl, _, rfl⟩
  have hi : i < zs.length := (List.getElem?_eq_some_iff.mp hz).1
  refine tail_any il.typeIs slot_list_getitem.lookup (wpAny_getItem_list il (by omega) (by omega) (x := .ref T) ?_ h) hs
  rw [hk]
  simp [List.getElem?_map, hz]
theorem zlen {Q : Value → Shared → Prop} (N : News h₀ L s.heap news) (hm : (hl, zlist zs ep) ∈ news) (hfit : zs.length ≤ 6) (h : ∀ t tk, Q (.int (zs.length : Nat) t) { s with toks := tk }) : wpAny (model prog w) A (call (.builtin "len") [.ref hl]) Q E s := by
  have il : s.heap.IsList hl (zs.map (·.1)).toArray := ⟨_, (N _ hm).1, rfl, _, rfl⟩
  have e : (zs.map (·.1)).toArray.size = zs.length := by simp
  exact len_list il (by rw [e]; omega) (by rw [e]; exact h _ _)
end
section
variable (w : World) (mean : ExcName → Option Value) (mg mb : Str → Option Value)
theorem sup_ct (hl : Addr) (zs : List ZR) (ep : Nat) (pos : Nat) (u9 : Tok) (hp : pos < zs.length) (hz : zs.length ≤ 6) : Ct w mean mg mb 156 2 16 [(hl, zlist zs ep)] [hl] (fun h => RoadsAt h zs) [.ref hl, .int (pos : Nat) u9]
    (fun r made => r = .none ∧ made = [(hl, zlist (siftupP zs pos) ep)]) := by
  k_with_none
  k_with "CT intro" => ((unfold Ct; k_fill; intro dp un gd cn cs a ccd cl outer A₀ base h₀ L m s Q E B F X N T hk hP hd hu hret; refine wpAny_call ?_))
  k_with "CT enter" => ((k_dflt (refine' code_defG ?k1 ?k2 ?k3 ?k4 ?k5 ?kA ?kF ?kK ?k6 ?k7 ?k8 ?k9 ?kB ?_ ?c2 ?c3 ?c4 ?c5; (case kA => exact rfl); (case kF => exact rfl); (case kK => assumption); (case k1 => k_asm); (case k2 => k_asm); (case k3 => k_asm); (case k4 => k_asm); (case k5 => k_asm); (case k6 => k_is); (case k7 => k_is); (case k8 => ktr_room); (case k9 => exact BindsTo.of_eq rfl); (case c5 => decide); (case kB => exact locs rfl); (case c2 => exact rfl); (case c3 => exact rfl); (case c4 => exact rfl); k_whole; intro g' L' h' FG' F' N' B' X' T' G'; (try dsimp only); (try k_lift B'); (try k_fold))))
  k_with "CT enterC" => ((k_dflt (refine' enterCG ?k1 ?k2 ?k3 ?k4 ?k5 ?kA ?kF ?kK ?k6 ?k7 ?k8 ?k9 ?kB ?kD ?_ ?c2 ?c3 ?c4; (case kA => exact rfl); (case kF => exact rfl); (case kK => assumption); (case k1 => k_asm); (case k2 => k_asm); (case k3 => k_asm); (case k4 => k_asm); (case k5 => k_asm); (case k6 => k_is); (case k7 => k_is); (case k8 => ktr_room); (case k9 => exact BindsTo.of_eq rfl); (case kB => exact rfl); (case kD => decide +kernel); (case c2 => exact rfl); (case c3 => exact rfl); (case c4 => exact rfl); k_whole; intro g' L' h' tk' cells' FG' F' N' Y' B' X' T' l1 G'; (try k_lt l1); k_cells Y'; (try simp only [List.cons_append, List.nil_append] at N'); (try dsimp only); (try k_lift B'); (try k_fold))))
  k_with "CT use0" => (((case k1 => k_asm); (case k2 => k_asm); (case k3 => k_asm); (case k4 => k_asm); (case k5 => k_asm); (case kK => first | exact rfl | assumption); (case kd => ktr_room); (case ku => ktr_units)))
  k_with "CT useM" => (((case k1 => k_asm); (case k2 => k_asm); (case k3 => k_asm); (case k4 => k_asm); (case k5 => k_asm); (case kK => first | exact rfl | assumption); (case kd => ktr_room); (case ku => ktr_units); (case kU => k_upd)))
  k_with "NEP" => (first | (with_reducible first | exact h9e | exact Ne.symm h9e | exact Nat.ne_of_gt h9e | exact Nat.ne_of_lt h9e) | (replace h9e := And.left h9e; walk_at "NEP") | (replace h9e := And.right h9e; walk_at "NEP"))
  k_with "NEX" => (first | ((with_reducible rename Hid _ => h9e); walk_at "NEP") | ((with_reducible rename _ ∧ _ => h9e); first | walk_at "NEP" | (clear h9e; walk_at "NEX")))
  k_with "KNE" => ((refine neN ?_; (try dsimp only); first | (with_reducible first | assumption | exact Ne.symm (by assumption) | exact Nat.ne_of_gt (by assumption) | exact Nat.ne_of_lt (by assumption)) | walk_at "NEX" | omega))
  k_with "call builtin:len" => ((k_here; (with_reducible show wpAny _ _ (call (Value.builtin _) [Value.ref _]) _ _ _); k_dflt (refine zlen (by assumption) (by k_mem) (by assumption) ?_); intro t9 tk9))
  k_with "exec While Compare cons nil" => ((refine Halt.out ?_))
  k_with "compareOp Lt ref ref" => ((k_here; k_dflt (refine lt_roads (by ktr_units) (tup_up (Fr.keep (by assumption)) (by assumption)) (tup_up (Fr.keep (by assumption)) (by assumption)) ?_); intro tk9))
  k_with "subscriptTail" => (((guard_hyp mkDown0 : True); k_here; k_dflt (refine zget (by assumption) (by k_mem) hR0 pos rfl hp hz ?_); intro T0 r0 c0 hz0 ht0))
  k_with "subscriptTail" => (((guard_hyp mkTurn : True); k_here; k_dflt (first   | refine zgetK (by assumption) (by k_mem) (2 * p + 1) hz1 (by omega) (by omega) ?_   | refine zgetK (by assumption) (by k_mem) (2 * p + 2) hz2 (by omega) (by omega) ?_   | (refine zget (by assumption) (by k_mem) hRM (2 * p + 1) (by omega) (by omega) (by omega) ?_; intro T1 r1 c1 hz1 ht1)   | (refine zget (by assumption) (by k_mem) hRM (2 * p + 2) (by omega) (by omega) (by omega) ?_; intro T2 r2 c2 hz2 ht2))))
  k_with "setItem ref int" => (((guard_hyp mkTurn : True); k_here; k_dflt (first   | ((with_reducible show wpAny _ _ (setItem (Value.ref _) (Value.int _ _) (Value.ref T1)) _ _ _); refine zset (z := (Value.ref T1, r1)) (by assumption) (by assumption) p rfl hpM (by omega) (by k_upd) ?_)   | ((with_reducible show wpAny _ _ (setItem (Value.ref _) (Value.int _ _) (Value.ref T2)) _ _ _); refine zset (z := (Value.ref T2, r2)) (by assumption) (by assumption) p rfl hpM (by omega) (by k_upd) ?_)   | ((with_reducible show wpAny _ _ (setItem (Value.ref _) (Value.int _ _) (Value.ref T0)) _ _ _); refine zset (z := (Value.ref T0, r0)) (by assumption) (by assumption) p rfl hpM (by omega) (by k_upd) ?_)); intro h9 F9 N9))
  k_with "call ref" => (((guard_hyp mkTurn : True); k_here; (with_reducible show wpAny _ _ (call (Value.ref 149) [Value.ref _, Value.int _ _, Value.int _ _]) _ _ _); k_dflt (refine' ct_useM (sdown_ct _ _ _ _ hl (M.set p (.ref T0, r0)) ep pos p _ _ (by rw [List.length_set]; omega) (by rw [List.length_set]; omega)) ?k1 ?k2 ?k3 ?k4 ?k5 ?kK ?kd ?ku ?kU (fun z hz => (hRM.set (z := (Value.ref T0, r0)) ⟨T0, c0, rfl, ht0⟩ z hz).sub (Fr.keep (by assumption))) ?_; walk_at "CT useM"; intro r9 h9 tk9 e9 F9 N9; subst e9)))
  walk_at "CT intro"
  walk_at "CT enter"
  have hR0 : RoadsAt g' zs := fun z hz => gsub_tup (N (hl, zlist zs ep) (.head _)).1 rfl (hP z hz) G'
  have mkDown0 : True := trivial
  k_steps
  rename Fr _ _ _ _ => F2
  rename News _ _ _ _ => N2
  unfold Halt
  have hlen0 : zs.length = zs.length := rfl
  refine whileR (h₀ := g') (zs.length - pos) (fun k m news => ∃ (M : List ZR) (p : Nat) (tp tc te : Tok) (u : Str → Option Value), k = zs.length - p ∧ m = (fun y => if y = Str.ofString "pos" then some (.int p tp) else if y = Str.ofString "childpos" then some (.int (2 * p + 1 : Nat) tc) else if y = Str.ofString "endpos" then some (.int zs.length te) else if y = Str.ofString "newitem" then some (.ref T0) else if y = Str.ofString "heap" then some (.ref hl) else if y = Str.ofString "startpos" then some (.int pos u9) else u y) ∧ news = [(hl, zlist M ep)] ∧
    p < M.length ∧ M.length = zs.length ∧ RoadsAt g' M ∧ ∃ f, zs.length ≤ p + f ∧ suGo f M p = suGo zs.length zs pos) F2 N2 ?_ ?_
  · exact ⟨zs, pos, u9, _, _, _, rfl, fr6 rfl (congrArg (fun z => some (Value.int z _)) (by omega : 2 * (pos : Int) + 1 = ((2 * pos + 1 : Nat) : Int))) rfl rfl rfl rfl, rfl, hp, rfl, hR0, zs.length, by omega, rfl⟩
  · rintro k m₁ news₁ h tk ⟨M, p, tp, tc, te, u, hkp, rfl, rfl, hpM, hlM, hRM, f, hf, hgo⟩ F3 N3
    have mkTurn : True := trivial
    k_steps
    · rename Fr _ _ _ _ => F9
      rename News _ _ _ _ => N9
      have hc : childP M p = 2 * p + 1 := by unfold childP; rw [hz1, hz2]; dsimp only; rw [if_pos (by simp [*])]
      obtain ⟨f', rfl⟩ : ∃ f', f = f' + 1 := ⟨f - 1, by omega⟩
      exact wturn_next F9 N9 (j := zs.length - (2 * p + 1)) (by omega) ⟨M.set p (.ref T1, r1), 2 * p + 1, _, _, _, _, rfl, fr6 rfl (congrArg (fun z => some (Value.int z _)) (by omega : 2 * ((2 * p + 1 : Nat) : Int) + 1 = ((2 * (2 * p + 1) + 1 : Nat) : Int))) rfl rfl rfl rfl, rfl, (by rw [List.length_set]; omega), (by rw [List.length_set]; exact hlM), hRM.set ⟨T1, c1, rfl, ht1⟩, f', by omega, by rw [← hgo, suGo_step hc hz1]⟩
    · rename Fr _ _ _ _ => F9
      rename News _ _ _ _ => N9
      have hc : childP M p = 2 * p + 2 := by unfold childP; rw [hz1, hz2]; dsimp only; rw [if_neg (by simp [*])]
      obtain ⟨f', rfl⟩ : ∃ f', f = f' + 1 := ⟨f - 1, by omega⟩
      exact wturn_next F9 N9 (j := zs.length - (2 * p + 2)) (by omega) ⟨M.set p (.ref T2, r2), 2 * p + 2, _, _, _, _, rfl, fr6 (congrArg (fun z => some (Value.int z _)) (by omega : ((2 * p + 1 : Nat) : Int) + 1 = ((2 * p + 2 : Nat) : Int))) (congrArg (fun z => some (Value.int z _)) (by omega : 2 * (((2 * p + 1 : Nat) : Int) + 1) + 1 = ((2 * (2 * p + 2) + 1 : Nat) : Int))) rfl rfl rfl rfl, rfl, (by rw [List.length_set]; omega), (by rw [List.length_set]; exact hlM), hRM.set ⟨T2, c2, rfl, ht2⟩, f', by omega, by rw [← hgo, suGo_step hc hz2]⟩
    · rename Fr _ _ _ _ => F9
      rename News _ _ _ _ => N9
      have hc : childP M p = 2 * p + 1 := by unfold childP; rw [hz1, List.getElem?_eq_none (by omega : M.length ≤ 2 * p + 2)]
      obtain ⟨f', rfl⟩ : ∃ f', f = f' + 1 := ⟨f - 1, by omega⟩
      exact wturn_next F9 N9 (j := zs.length - (2 * p + 1)) (by omega) ⟨M.set p (.ref T1, r1), 2 * p + 1, _, _, _, _, rfl, fr6 rfl (congrArg (fun z => some (Value.int z _)) (by omega : 2 * ((2 * p + 1 : Nat) : Int) + 1 = ((2 * (2 * p + 1) + 1 : Nat) : Int))) rfl rfl rfl rfl, rfl, (by rw [List.length_set]; omega), (by rw [List.length_set]; exact hlM), hRM.set ⟨T1, c1, rfl, ht1⟩, f', by omega, by rw [← hgo, suGo_step hc hz1]⟩
    · have hend : siftdownP (M.set p (.ref T0, r0)) pos p = siftupP zs pos := by
        unfold siftupP
        rw [hz0]
        dsimp only
        rw [← hgo, suGo_end (by omega)]
      exact ct_ret hret N G' (by assumption) (by assumption) (by assumption) (by assumption) ⟨rfl, by rw [hend]⟩ (fun _ h => h) (fun p hp => .inl (by cases hp with | head => exact .head _ | tail _ h => cases h)) (fun p hp => .inl (by cases hp with | head => exact .head _ | tail _ h => cases h))
end
end Mine
end
section
open PySem PySem.Calls PySem.Spec PySem.W PyProof.Rows
set_option maxRecDepth 100000
set_option maxHeartbeats 8000000
set_option hygiene false
set_option linter.all false
namespace Mine
theorem fr1 {m : Str → Option Value} {a : Str} {va : Option Value} (ha : m a = va) : m = fun y => if y = a then va else m y := by
  funext y; split
  · next h => rw [h, ha]
  · rfl
theorem fr2 {m : Str → Option Value} {a b : Str} {va vb : Option Value} (ha : m a = va) (hb : m b = vb) : m = fun y => if y = a then va else if y = b then vb else m y := by
  funext y; split
  · next h => rw [h, ha]
  · split
    · next h => rw [h, hb]
    · rfl
noncomputable def flagNm (k : Nat) : Str := [Str.ofString "OPTIMIZED", Str.ofString "NEWLOCALS", Str.ofString "VARARGS", Str.ofString "VARKEYWORDS", Str.ofString "NESTED"].getD k (Str.ofString "")
noncomputable def idxBelow (n i : Nat) : List Nat := (List.range i).filter fun k => n / 2 ^ k % 2 == 1
noncomputable def flagsBelow (n i : Nat) : List Str := (idxBelow n i).map flagNm
set_option synthInstance.maxSize 100000 in
set_option synthInstance.maxHeartbeats 0 in
theorem bit0 : ∀ n, n < 32 → ∀ i, i < 5 → 1 ≤ n / 2 ^ i → Builtin.bitAnd ((n / 2 ^ i * 2 ^ i : Nat) : Int) (1 * 2 ^ i) = 0 → i + 1 ≤ 4 ∧ 1 ≤ n / 2 ^ (i + 1) ∧ n / 2 ^ (i + 1) * 2 ^ (i + 1) = n / 2 ^ i * 2 ^ i ∧ idxBelow n (i + 1) = idxBelow n i := by decide +kernel
set_option synthInstance.maxSize 100000 in
set_option synthInstance.maxHeartbeats 0 in
theorem bit1 : ∀ n, n < 32 → ∀ i, i < 5 → 1 ≤ n / 2 ^ i → Builtin.bitAnd ((n / 2 ^ i * 2 ^ i : Nat) : Int) (1 * 2 ^ i) ≠ 0 → Builtin.bitXor ((n / 2 ^ i * 2 ^ i : Nat) : Int) (1 * 2 ^ i) ≠ 0 → i + 1 ≤ 4 ∧ 1 ≤ n / 2 ^ (i + 1) ∧ Builtin.bitXor ((n / 2 ^ i * 2 ^ i : Nat) : Int) (1 * 2 ^ i) = ((n / 2 ^ (i + 1) * 2 ^ (i + 1) : Nat) : Int) ∧ idxBelow n (i + 1) = idxBelow n i ++ [i] := by decide +kernel
set_option synthInstance.maxSize 100000 in
set_option synthInstance.maxHeartbeats 0 in
theorem bit2 : ∀ n, n < 32 → ∀ i, i < 5 → 1 ≤ n / 2 ^ i → Builtin.bitAnd ((n / 2 ^ i * 2 ^ i : Nat) : Int) (1 * 2 ^ i) ≠ 0 → Builtin.bitXor ((n / 2 ^ i * 2 ^ i : Nat) : Int) (1 * 2 ^ i) = 0 → idxBelow n 5 = idxBelow n i ++ [i] := by decide +kernel
theorem strs_push {its : Array Value} {n i j : Nat} {x : Str} {t : Tok} (h : StrsAre its.toList (flagsBelow n i)) (e : idxBelow n j = idxBelow n i ++ [i]) (hx : x = flagNm i) : StrsAre (its.push (.str x t)).toList (flagsBelow n j) := by
  rw [hx, Array.toList_push, flagsBelow, e, List.map_append]; exact StrsAre.append' h (.cons _ t .nil)
theorem strs_same {its : Array Value} {n i j : Nat} (h : StrsAre its.toList (flagsBelow n i)) (e : idxBelow n j = idxBelow n i) : StrsAre its.toList (flagsBelow n j) := by
  rw [flagsBelow, e]; exact h
theorem flags_w : ∀ n, n < 32 → ((flagsBelow n 5).map (·.length)).sum + (flagsBelow n 5).length ≤ 1048576 := by decide +kernel
/-- the words of a mask -/
noncomputable def nmS (n : Nat) : Str := Txt.join (Str.ofString ", ") (flagsBelow n 5)
theorem each_flag {h : Heap} {P : Value → Prop} {els : Prop} {i : Nat} {D : List (Int × KTD.Dat)} (hi : i < 5) (r : ∀ t, P (.str (flagNm i) t)) :
    KTD.Each h (1 * 2 ^ Int.toNat (i : Int) : Int) P els ((1, .flat (.str (Str.ofString "OPTIMIZED"))) :: (2, .flat (.str (Str.ofString "NEWLOCALS"))) :: (4, .flat (.str (Str.ofString "VARARGS"))) :: (8, .flat (.str (Str.ofString "VARKEYWORDS"))) :: (16, .flat (.str (Str.ofString "NESTED"))) :: D) :=
  match i, hi with
  | 0, _ => KTD.each_hit (by decide) r
  | 1, _ => KTD.each_miss (by decide) (KTD.each_hit (by decide) r)
  | 2, _ => KTD.each_miss (by decide) (KTD.each_miss (by decide) (KTD.each_hit (by decide) r))
  | 3, _ => KTD.each_miss (by decide) (KTD.each_miss (by decide) (KTD.each_miss (by decide) (KTD.each_hit (by decide) r)))
  | 4, _ => KTD.each_miss (by decide) (KTD.each_miss (by decide) (KTD.each_miss (by decide) (KTD.each_miss (by decide) (KTD.each_hit (by decide) r))))
theorem hex_fit {i : Nat} (hi : i < 5) : (baseText "0x" 16 (1 * 2 ^ Int.toNat (i : Int) : Int)).length ≤ sizeLine :=
  match i, hi with
  | 0, _ | 1, _ | 2, _ | 3, _ | 4, _ => by decide +kernel
section
variable (w : World) (mean : ExcName → Option Value) (mg mb : Str → Option Value)
theorem pretty_ct (n : Nat) (t : Tok) (h1 : 1 ≤ n) (h2 : n < 32) : Ct w mean mg mb 128 1 8 [] [] (fun _ => True) [.int (n : Int) t] (fun r made => made = [] ∧ ∃ t, r = .str (nmS n) t) := by
  k_with_none
  k_with "CT intro" => ((unfold Ct; k_fill; intro dp un gd cn cs a ccd cl outer A₀ base h₀ L m s Q E B F X N T hk hP hd hu hret; refine wpAny_call ?_))
  k_with "CT enter" => ((k_dflt (refine' code_defG ?k1 ?k2 ?k3 ?k4 ?k5 ?kA ?kF ?kK ?k6 ?k7 ?k8 ?k9 ?kB ?_ ?c2 ?c3 ?c4 ?c5; (case kA => exact rfl); (case kF => exact rfl); (case kK => assumption); (case k1 => k_asm); (case k2 => k_asm); (case k3 => k_asm); (case k4 => k_asm); (case k5 => k_asm); (case k6 => k_is); (case k7 => k_is); (case k8 => ktr_room); (case k9 => exact BindsTo.of_eq rfl); (case c5 => decide); (case kB => exact locs rfl); (case c2 => exact rfl); (case c3 => exact rfl); (case c4 => exact rfl); k_whole; intro g' L' h' FG' F' N' B' X' T' G'; (try dsimp only); (try k_lift B'); (try k_fold))))
  k_with "CT enterC" => ((k_dflt (refine' enterCG ?k1 ?k2 ?k3 ?k4 ?k5 ?kA ?kF ?kK ?k6 ?k7 ?k8 ?k9 ?kB ?kD ?_ ?c2 ?c3 ?c4; (case kA => exact rfl); (case kF => exact rfl); (case kK => assumption); (case k1 => k_asm); (case k2 => k_asm); (case k3 => k_asm); (case k4 => k_asm); (case k5 => k_asm); (case k6 => k_is); (case k7 => k_is); (case k8 => ktr_room); (case k9 => exact BindsTo.of_eq rfl); (case kB => exact rfl); (case kD => decide +kernel); (case c2 => exact rfl); (case c3 => exact rfl); (case c4 => exact rfl); k_whole; intro g' L' h' tk' cells' FG' F' N' Y' B' X' T' l1 G'; (try k_lt l1); k_cells Y'; (try simp only [List.cons_append, List.nil_append] at N'); (try dsimp only); (try k_lift B'); (try k_fold))))
  k_with "CT use0" => (((case k1 => k_asm); (case k2 => k_asm); (case k3 => k_asm); (case k4 => k_asm); (case k5 => k_asm); (case kK => first | exact rfl | assumption); (case kd => ktr_room); (case ku => ktr_units)))
  k_with "CT useM" => (((case k1 => k_asm); (case k2 => k_asm); (case k3 => k_asm); (case k4 => k_asm); (case k5 => k_asm); (case kK => first | exact rfl | assumption); (case kd => ktr_room); (case ku => ktr_units); (case kU => k_upd)))
  k_with "NEP" => (first | (with_reducible first | exact h9e | exact Ne.symm h9e | exact Nat.ne_of_gt h9e | exact Nat.ne_of_lt h9e) | (replace h9e := And.left h9e; walk_at "NEP") | (replace h9e := And.right h9e; walk_at "NEP"))
  k_with "NEX" => (first | ((with_reducible rename Hid _ => h9e); walk_at "NEP") | ((with_reducible rename _ ∧ _ => h9e); first | walk_at "NEP" | (clear h9e; walk_at "NEX")))
  k_with "KNE" => ((refine neN ?_; (try dsimp only); first | (with_reducible first | assumption | exact Ne.symm (by assumption) | exact Nat.ne_of_gt (by assumption) | exact Nat.ne_of_lt (by assumption)) | walk_at "NEX" | omega))
  k_with "call builtin:str.join" => ((k_here; (with_reducible show wpAny _ _ (call (Value.builtin "str.join") [Value.str _ _, Value.ref _]) _ _ _); k_dflt (refine join_listW (by is_list) (by assumption) (by decide +kernel) (by assumption) ?_); intro _ _))
  k_with "call builtin:hex" => (((guard_hyp mkFlag : True); refine P.hex_of_int ?_ (hex_fit hi5)))
  k_with "Each" => (((guard_hyp mkFlag : True); k_dflt (refine each_flag hi5 ?_); intro _))
  walk_at "CT intro"
  walk_at "CT enter"
  have hw9 := flags_w n h2
  k_steps
  rename_i l _ _ _ _ _
  refine For_R (h₀ := g') (by assumption) ?_
  k_steps
  rename IsRange _ _ _ _ _ _ _ _ => hr
  rename Fr _ _ _ _ => F2
  rename News _ _ _ _ => N2
  refine ⟨32, _, _, _, fun i m news => i ≤ 4 ∧ ∃ (tf : Tok) (its : Array Value) (ep : Nat) (u : Str → Option Value), m = (fun y => if y = Str.ofString "names" then some (.ref l) else if y = Str.ofString "flags" then some (.int (n / 2 ^ i * 2 ^ i : Nat) tf) else u y) ∧ news = [(l, listOf its ep)] ∧ its.size ≤ i ∧ StrsAre its.toList (flagsBelow n i) ∧ 1 ≤ n / 2 ^ i, ?_, F2, N2, rfl, .inl ⟨_, 0, 32, _, _, _, _, _, rfl, rfl, hr, by decide, by decide, rfl⟩, ?_, ?_⟩
  · exact ⟨Nat.zero_le _, t, #[], 0, _, fr2 rfl (by show some (Value.int (n : Int) t) = _; simp), rfl, Nat.le_refl _, .nil, (by rw [Nat.pow_zero, Nat.div_one]; exact h1)⟩
  · intro i v m₁ news₁ h tk I oI hi hP hJ F3 N3 off
    obtain ⟨t3, rfl⟩ := hP
    obtain ⟨hi4, tf, its, ep, u, rfl, rfl, hsz, hS, hpos⟩ := hJ
    have hi5 : i < 5 := Nat.lt_succ_of_le hi4
    have b0 := bit0 n h2 i hi5 hpos
    have b1 := bit1 n h2 i hi5 hpos
    have b2 := bit2 n h2 i hi5 hpos
    have offl : @Ne Nat l I := off _ (.head _)
    have mkFlag : True := trivial
    rw [Int.zero_add]
    (refine (show wpAny _ _ _ _ _ _ from ?_))
    k_steps
    · obtain ⟨c1, c2, c3, c4⟩ := b1 (by assumption) (by assumption)
      rename Fr _ _ _ _ => F9
      rename News _ _ _ _ => N9
      refine turn_next F9 N9 (fun p hp => ?_) ?_
      · cases hp with
        | head => exact offl
        | tail _ hp => cases hp
      · exact ⟨c1, _, _, _, _, fr2 rfl (congrArg (fun z => some (Value.int z _)) c3), rfl, (Array.size_push .. ▸ Nat.succ_le_succ hsz), strs_push hS c4 rfl, c2⟩
    · unfold TurnPost
      have hS2 := fun t => strs_push (t := t) (x := flagNm i) hS (b2 (by assumption) (by assumption)) rfl
      specialize hS2 _
      k_steps
      exact ct_ret0 hret N G' (by assumption) (by assumption) (by assumption) (by assumption) ⟨rfl, _, rfl⟩
    · obtain ⟨c1, c2, c3, c4⟩ := b0 (by assumption)
      rename Fr _ _ _ _ => F9
      rename News _ _ _ _ => N9
      refine turn_next F9 N9 (fun p hp => ?_) ?_
      · cases hp with
        | head => exact offl
        | tail _ hp => cases hp
      · exact ⟨c1, _, _, _, _, fr2 rfl (congrArg (fun z : Nat => some (Value.int (z : Int) _)) c3.symm), rfl, Nat.le_succ_of_le hsz, strs_same hS c4, c2⟩
  · rintro m₁ news₁ h tk ⟨hx, _⟩
    exact absurd hx (by decide)
end
end Mine
end
section
open PySem PySem.Calls PySem.Spec PySem.W PyProof.Rows
set_option maxRecDepth 100000
set_option maxHeartbeats 8000000
namespace Mine
section
variable {prog : Program} {w : World} {A : Around} {E : Value → Shared → Prop} {s : Shared}
noncomputable abbrev revIt3 : Obj := { cls := .type "range_iterator", data := .fields #[rawInt 2, rawInt 3, rawInt (-1)] }
theorem sub_ri_reversed : isSubtype (.type "range_iterator") (.type "reversed") = pure false := by rw [isSubtype_type]; kernel_rfl
theorem range_rev {r : Addr} {t u v : Tok} {Q : Value → Shared → Prop} (hr : IsRange s.heap r 0 3 1 t u v) (h : Q (.ref s.heap.objs.size) { s with heap := s.heap.push revIt3 }) :
    wpAny (model prog w) A (call (.builtin "range.__reversed__") [.ref r]) Q E s := by
  have hT : s.TypeIs (.ref r) "range" := ⟨_, hr, rfl⟩
  refine wpAny_call_entry F.slot_range_reversed hT F.entry_range_reversed ?_ (F.args_range_reversed_1 _)
  unfold Builtin.«range.__reversed__»
  refine wpAny_bind (wpAny_of_eq (a := Value.ref r) rfl ?_)
  show wpAny _ _ (Builtin.Range.rangeFields (.ref r) >>= _) _ _ s
  have hr' : s.heap.get? r = some _ := hr
  unfold Builtin.Range.rangeFields
  repeat (first | wp_step)
  exact ⟨_, rfl, h⟩
theorem code_reversed_range {r : Addr} {t u v : Tok} {Q₁ : Value → Shared → Prop} (hr : IsRange s.heap r 0 3 1 t u v) (h : Q₁ (.ref s.heap.objs.size) { s with heap := s.heap.push revIt3 }) :
    codeAny (model prog w) A (.call (.builtin "reversed.__new__") ⟨[.type "reversed", .ref r], []⟩) (wants Q₁ E) s := by
  have hT : s.TypeIs (.ref r) "range" := ⟨_, hr, rfl⟩
  refine codeAny_of_tree ?_
  show wpAny _ A.in1 (do checkBuiltinCall "reversed.__new__" ⟨[.type "reversed", .ref r], []⟩; again (.builtin "reversed.__new__" ⟨[.type "reversed", .ref r], []⟩)) _ _ s
  refine wpAny_bind (wpAny_of_eq (F.newCall_reversed_1 _) (wpAny_pure ⟨plainId_quiet F.plain_reversed_new _, codeAny_builtin F.entry_reversed_new ?_⟩))
  rw [Around.under_plainId F.plain_reversed_new _]
  unfold Builtin.«reversed.__new__»
  refine wpAny_bind (wpAny_of_eq (newClass_reversed _) (wpAny_bind (wpAny_of_eq (a := ()) (by first | rfl | kernel_rfl) (wpAny_bind (wpAny_of_eq (a := ()) (by first | rfl | kernel_rfl) ?_)))))
  refine wpAny_bind (wpAny_specialOf hT F.slot_range_reversed.lookup (wpAny_bind (wpAny_of_eq (F.slot_range_reversed.bind _) ?_)))
  dsimp only
  rw [if_neg (show ¬ ((Value.builtin "range.__reversed__" == Value.none) = true) from Bool.false_ne_true)]
  refine wpAny_bind (wpAny_rule (wpAny_bind (m := runValue (.call (.builtin "range.__reversed__") ⟨[.ref r], []⟩)) (show wpAny _ _ (call (.builtin "range.__reversed__") [.ref r]) _ _ _ from range_rev hr ?_)))
  first
  | exact wpAny_pure h
  | exact wpAny_bind (wpAny_pure (wpAny_pure h))
theorem call_reversed_range3 {r : Addr} {t u v : Tok} {Q : Value → Shared → Prop} (hr : IsRange s.heap r 0 3 1 t u v) (h : Q (.ref s.heap.objs.size) { s with heap := s.heap.push revIt3 }) :
    wpAny (model prog w) A (call (.type "reversed") [.ref r]) Q E s := by
  refine callType_other (U := "range_iterator") (Q₁ := fun obj s₁ => obj = .ref s.heap.objs.size ∧ s₁ = { s with heap := s.heap.push revIt3 }) (by decide +kernel) F.create_reversed ⟨_, _, F.mro_reversed⟩ F.made_reversed sub_ri_reversed (F.typeCall_reversed_1 _) (code_reversed_range hr ⟨rfl, rfl⟩) ?_
  rintro obj s₁ ⟨rfl, rfl⟩
  exact ⟨⟨_, Heap.get?_push_size _ rfl, rfl⟩, h⟩
end
end Mine
end
section
open PySem PySem.Calls PySem.Spec PySem.W PyProof.Rows
set_option maxRecDepth 100000
set_option maxHeartbeats 8000000
set_option hygiene false
set_option linter.all false
namespace Mine
theorem sdGo_len (new : ZR) (st : Nat) : ∀ f M p, (sdGo new st f M p).length = M.length
  | 0, M, p => by unfold sdGo; exact List.length_set ..
  | f + 1, M, p => by
    unfold sdGo
    split
    · split
      · split
        · rw [sdGo_len new st f]; exact List.length_set ..
        · exact List.length_set ..
      · exact List.length_set ..
    · exact List.length_set ..
theorem siftdownP_len (M : List ZR) (a b : Nat) : (siftdownP M a b).length = M.length := by
  unfold siftdownP; split
  · exact sdGo_len ..
  · rfl
theorem suGo_len : ∀ f M p, (suGo f M p).1.length = M.length
  | 0, M, p => rfl
  | f + 1, M, p => by
    unfold suGo; split
    · rw [suGo_len f]; exact List.length_set ..
    · rfl
theorem siftupP_len (M : List ZR) (p : Nat) : (siftupP M p).length = M.length := by
  unfold siftupP; split
  · rw [siftdownP_len, List.length_set, suGo_len]
  · rfl
theorem mem_set_of {M : List ZR} {i : Nat} {a z : ZR} {P : ZR → Prop} (h : ∀ z ∈ M, P z) (ha : P a) (hz : z ∈ M.set i a) : P z := by
  rcases List.mem_or_eq_of_mem_set hz with q | q
  · exact h z q
  · rw [q]; exact ha
theorem sdGo_mem {P : ZR → Prop} (new : ZR) (st : Nat) (hn : P new) : ∀ f M p, (∀ z ∈ M, P z) → ∀ z ∈ sdGo new st f M p, P z
  | 0, M, p, h, z, hz => by unfold sdGo at hz; exact mem_set_of h hn hz
  | f + 1, M, p, h, z, hz => by
    unfold sdGo at hz
    split at hz
    · split at hz
      · next par hp =>
        split at hz
        · exact sdGo_mem new st hn f _ _ (fun y hy => mem_set_of h (h par (List.mem_of_getElem? hp)) hy) z hz
        · exact mem_set_of h hn hz
      · exact mem_set_of h hn hz
    · exact mem_set_of h hn hz
theorem siftdownP_mem {P : ZR → Prop} {M : List ZR} {a b : Nat} (h : ∀ z ∈ M, P z) : ∀ z ∈ siftdownP M a b, P z := by
  intro z hz
  unfold siftdownP at hz
  split at hz
  · next new hn => exact sdGo_mem new _ (h new (List.mem_of_getElem? hn)) _ _ _ h z hz
  · exact h z hz
theorem suGo_mem {P : ZR → Prop} : ∀ f M p, (∀ z ∈ M, P z) → ∀ z ∈ (suGo f M p).1, P z
  | 0, M, p, h, z, hz => h z hz
  | f + 1, M, p, h, z, hz => by
    unfold suGo at hz
    split at hz
    · next y hy => exact suGo_mem f _ _ (fun x hx => mem_set_of h (h y (List.mem_of_getElem? hy)) hx) z hz
    · exact h z hz
theorem siftupP_mem {P : ZR → Prop} {M : List ZR} {p : Nat} (h : ∀ z ∈ M, P z) : ∀ z ∈ siftupP M p, P z := by
  intro z hz
  unfold siftupP at hz
  split at hz
  · next new hn => exact siftdownP_mem (fun x hx => mem_set_of (suGo_mem _ _ _ h) (h new (List.mem_of_getElem? hn)) hx) z hz
  · exact h z hz
noncomputable def popP (zs : List ZR) (d : ZR) : ZR × List ZR := match zs.dropLast with
  | [] => (zs.getLastD d, [])
  | z :: r => (z, siftupP ((z :: r).set 0 (zs.getLastD d)) 0)
section
variable {prog : Program} {w : World} {A : Around} {E : Value → Shared → Prop} {s : Shared} {h₀ : Heap} {L hl : Addr} {m : Str → Option Value} {news news' : List (Addr × Obj)} {zs : List ZR} {ep : Nat}
theorem zlen6 {Q : Value → Shared → Prop} (N : News h₀ L s.heap news) (hm : (hl, zlist zs ep) ∈ news) (hfit : zs.length = 6) (h : ∀ t tk, Q (.int 6 t) { s with toks := tk }) : wpAny (model prog w) A (call (.builtin "len") [.ref hl]) Q E s := by
  have il : s.heap.IsList hl (zs.map (·.1)).toArray := ⟨_, (N _ hm).1, rfl, _, rfl⟩
  have e : (zs.map (·.1)).toArray.size = 6 := by simp [hfit]
  exact len_list il (by rw [e]; decide) (by rw [e]; exact h _ _)
theorem ztrue {Q : Bool → Shared → Prop} (N : News h₀ L s.heap news) (hm : (hl, zlist zs ep) ∈ news) (hfit : zs.length ≤ 6) (h : ∀ tk, Q (decide (0 < zs.length)) { s with toks := tk }) : wpAny (model prog w) A (truthy (.ref hl)) Q E s := by
  have il : s.heap.IsList hl (zs.map (·.1)).toArray := ⟨_, (N _ hm).1, rfl, _, rfl⟩
  have e : (zs.map (·.1)).toArray.size = zs.length := by simp
  refine wpAny_truthy_list il (by rw [e]; omega) ?_
  have e2 : (decide (0 < zs.length)) = !(zs.map (·.1)).toArray.isEmpty := by cases zs <;> rfl
  rw [← e2]
  exact h _
theorem zpop {zs : List ZR} {z1 : ZR} {Q : Value → Shared → Prop} (F : Fr h₀ L s.heap m) (N : News h₀ L s.heap news) (U : Upd hl (zlist (zs ++ [z1]) ep) (zlist zs (ep + 1)) news news') (hz : zs.length ≤ 5)
    (h : ∀ h', Fr h₀ L h' m → News h₀ L h' news' → Q z1.1 { s with heap := h' }) : wpAny (model prog w) A (call (.builtin "list.pop") [.ref hl]) Q E s := by
  refine kl_pop F N (p := zs.map (·.1)) (y := z1.1) ?_ U (by simp [sizeLine_eq]; omega) h
  have e := kpa_last z1.1 (zs.map (·.1))
  simpa using e
end
section
variable (w : World) (mean : ExcName → Option Value) (mg mb : Str → Option Value)
theorem hpop_ct (hl : Addr) (zs : List ZR) (z1 : ZR) (ep : Nat) (hz : zs.length ≤ 5) : Ct w mean mg mb 135 3 24 [(hl, zlist (zs ++ [z1]) ep)] [hl] (fun h => RoadsAt h (zs ++ [z1])) [.ref hl]
    (fun r made => r = (popP (zs ++ [z1]) z1).1.1 ∧ made = [(hl, zlist (popP (zs ++ [z1]) z1).2 (ep + 1))]) := by
  k_with_none
  k_with "CT intro" => ((unfold Ct; k_fill; intro dp un gd cn cs a ccd cl outer A₀ base h₀ L m s Q E B F X N T hk hP hd hu hret; refine wpAny_call ?_))
  k_with "CT enter" => ((k_dflt (refine' code_defG ?k1 ?k2 ?k3 ?k4 ?k5 ?kA ?kF ?kK ?k6 ?k7 ?k8 ?k9 ?kB ?_ ?c2 ?c3 ?c4 ?c5; (case kA => exact rfl); (case kF => exact rfl); (case kK => assumption); (case k1 => k_asm); (case k2 => k_asm); (case k3 => k_asm); (case k4 => k_asm); (case k5 => k_asm); (case k6 => k_is); (case k7 => k_is); (case k8 => ktr_room); (case k9 => exact BindsTo.of_eq rfl); (case c5 => decide); (case kB => exact locs rfl); (case c2 => exact rfl); (case c3 => exact rfl); (case c4 => exact rfl); k_whole; intro g' L' h' FG' F' N' B' X' T' G'; (try dsimp only); (try k_lift B'); (try k_fold))))
  k_with "CT enterC" => ((k_dflt (refine' enterCG ?k1 ?k2 ?k3 ?k4 ?k5 ?kA ?kF ?kK ?k6 ?k7 ?k8 ?k9 ?kB ?kD ?_ ?c2 ?c3 ?c4; (case kA => exact rfl); (case kF => exact rfl); (case kK => assumption); (case k1 => k_asm); (case k2 => k_asm); (case k3 => k_asm); (case k4 => k_asm); (case k5 => k_asm); (case k6 => k_is); (case k7 => k_is); (case k8 => ktr_room); (case k9 => exact BindsTo.of_eq rfl); (case kB => exact rfl); (case kD => decide +kernel); (case c2 => exact rfl); (case c3 => exact rfl); (case c4 => exact rfl); k_whole; intro g' L' h' tk' cells' FG' F' N' Y' B' X' T' l1 G'; (try k_lt l1); k_cells Y'; (try simp only [List.cons_append, List.nil_append] at N'); (try dsimp only); (try k_lift B'); (try k_fold))))
  k_with "CT use0" => (((case k1 => k_asm); (case k2 => k_asm); (case k3 => k_asm); (case k4 => k_asm); (case k5 => k_asm); (case kK => first | exact rfl | assumption); (case kd => ktr_room); (case ku => ktr_units)))
  k_with "CT useM" => (((case k1 => k_asm); (case k2 => k_asm); (case k3 => k_asm); (case k4 => k_asm); (case k5 => k_asm); (case kK => first | exact rfl | assumption); (case kd => ktr_room); (case ku => ktr_units); (case kU => k_upd)))
  k_with "NEP" => (first | (with_reducible first | exact h9e | exact Ne.symm h9e | exact Nat.ne_of_gt h9e | exact Nat.ne_of_lt h9e) | (replace h9e := And.left h9e; walk_at "NEP") | (replace h9e := And.right h9e; walk_at "NEP"))
  k_with "NEX" => (first | ((with_reducible rename Hid _ => h9e); walk_at "NEP") | ((with_reducible rename _ ∧ _ => h9e); first | walk_at "NEP" | (clear h9e; walk_at "NEX")))
  k_with "KNE" => ((refine neN ?_; (try dsimp only); first | (with_reducible first | assumption | exact Ne.symm (by assumption) | exact Nat.ne_of_gt (by assumption) | exact Nat.ne_of_lt (by assumption)) | walk_at "NEX" | omega))
  k_with "call builtin:len" => (((guard_hyp mkHeapify : True); k_here; (with_reducible show wpAny _ _ (call (Value.builtin _) [Value.ref _]) _ _ _); k_dflt (refine zlen6 (by assumption) (by k_mem) hz ?_); intro t9 tk9))
  k_with "call builtin:list.pop" => (((guard_hyp mkPop : True); k_here; k_dflt (refine zpop (z1 := (Value.ref Tz, rz)) (by assumption) (by assumption) (by k_upd) hz ?_); intro h9 F9 N9; (try dsimp only)))
  k_with "truthy ref" => (((guard_hyp mkPop : True); k_here; k_dflt (refine ztrue (by assumption) (by k_mem) (by omega) ?_); intro tk9))
  k_with "subscriptTail" => (((guard_hyp mkPop : True); k_here; k_dflt (refine zget (by assumption) (by k_mem) hRz 0 rfl (by assumption) (by omega) ?_); intro T0 r0 c0 hz0 ht0))
  k_with "setItem ref int" => (((guard_hyp mkPop : True); k_here; k_dflt (refine zset (z := (Value.ref Tz, rz)) (by assumption) (by assumption) 0 rfl (by assumption) (by omega) (by k_upd) ?_); intro h9 F9 N9))
  k_with "call ref" => (((guard_hyp mkPop : True); k_here; (with_reducible show wpAny _ _ (call (Value.ref 156) [Value.ref _, Value.int _ _]) _ _ _); k_dflt (refine' ct_useM (sup_ct _ _ _ _ hl (zs.set 0 (.ref Tz, rz)) (ep + 1) 0 _ (by rw [List.length_set]; omega) (by rw [List.length_set]; omega)) ?k1 ?k2 ?k3 ?k4 ?k5 ?kK ?kd ?ku ?kU (fun z hz => (hRz.set (z := (Value.ref Tz, rz)) ⟨Tz, cz, rfl, htz⟩ z hz).sub (Fr.keep (by assumption))) ?_; walk_at "CT useM"; intro r9 h9 tk9 e9 F9 N9; subst e9)))
  k_with "exec For Name Call cons nil" => (((guard_hyp mkHeapify : True); refine Halt.out ?_))
  k_with "call type:reversed" => (((guard_hyp mkHeapify : True); k_here; k_dflt (refine call_reversed_range3 (by assumption) ?_)))
  k_with "call ref" => (((guard_hyp mkHeapify : True); k_here; (with_reducible show wpAny _ _ (call (Value.ref 156) [Value.ref _, Value.int _ _]) _ _ _); k_dflt (refine' ct_useM (sup_ct _ _ _ _ hl M ep p _ (by omega) (by omega)) ?k1 ?k2 ?k3 ?k4 ?k5 ?kK ?kd ?ku ?kU (fun z hz => (hRM z hz).sub (Fr.keep (by assumption))) ?_; walk_at "CT useM"; intro r9 h9 tk9 e9 F9 N9; subst e9)))
  walk_at "CT intro"
  walk_at "CT enter"
  have hR0 : RoadsAt g' (zs ++ [z1]) := fun z hz => gsub_tup (N (hl, zlist (zs ++ [z1]) ep) (.head _)).1 rfl (hP z hz) G'
  have hRz : RoadsAt g' zs := fun z hz => hR0 z (List.mem_append_left _ hz)
  obtain ⟨v1, rz⟩ := z1
  obtain ⟨Tz, cz, ez, htz⟩ := hR0 (v1, rz) (List.mem_append_right _ (.head _))
  dsimp only at ez
  subst ez
  have mkPop : True := trivial
  k_steps
  · have hpos : 0 < zs.length := (List.getElem?_eq_some_iff.mp hz0).1
    obtain ⟨z, r, rfl⟩ : ∃ z r, zs = z :: r := by
      match zs, hpos with
      | z :: r, _ => exact ⟨z, r, rfl⟩
    have e0 : z = (Value.ref T0, r0) := by simpa using hz0
    have hp : popP (z :: r ++ [(Value.ref Tz, rz)]) (Value.ref Tz, rz) = (z, siftupP ((z :: r).set 0 (Value.ref Tz, rz)) 0) := by
      unfold popP
      rw [List.dropLast_concat]
      dsimp only
      rw [List.getLastD_concat]
    rw [hp] at hret
    exact ct_ret hret N G' (by assumption) (by assumption) (by assumption) (by assumption) ⟨by rw [e0], rfl⟩ (fun _ h => h) (fun p hp => .inl (by cases hp with | head => exact .head _ | tail _ h => cases h)) (fun p hp => .inl (by cases hp with | head => exact .head _ | tail _ h => cases h))
  · have hpos : ¬ 0 < zs.length := by first | omega | assumption | (simp only [decide_eq_false_iff_not] at *; assumption)
    obtain rfl : zs = [] := List.eq_nil_of_length_eq_zero (by omega)
    exact ct_ret hret N G' (by assumption) (by assumption) (by assumption) (by assumption) ⟨rfl, rfl⟩ (fun _ h => h) (fun p hp => .inl (by cases hp with | head => exact .head _ | tail _ h => cases h)) (fun p hp => .inl (by cases hp with | head => exact .head _ | tail _ h => cases h))
theorem heapify_ct (hl : Addr) (zs : List ZR) (ep : Nat) (hz : zs.length = 6) : Ct w mean mg mb 142 3 24 [(hl, zlist zs ep)] [hl] (fun h => RoadsAt h zs) [.ref hl]
    (fun r made => r = .none ∧ made = [(hl, zlist (siftupP (siftupP (siftupP zs 2) 1) 0) ep)]) := by
  k_with_none
  k_with "CT intro" => ((unfold Ct; k_fill; intro dp un gd cn cs a ccd cl outer A₀ base h₀ L m s Q E B F X N T hk hP hd hu hret; refine wpAny_call ?_))
  k_with "CT enter" => ((k_dflt (refine' code_defG ?k1 ?k2 ?k3 ?k4 ?k5 ?kA ?kF ?kK ?k6 ?k7 ?k8 ?k9 ?kB ?_ ?c2 ?c3 ?c4 ?c5; (case kA => exact rfl); (case kF => exact rfl); (case kK => assumption); (case k1 => k_asm); (case k2 => k_asm); (case k3 => k_asm); (case k4 => k_asm); (case k5 => k_asm); (case k6 => k_is); (case k7 => k_is); (case k8 => ktr_room); (case k9 => exact BindsTo.of_eq rfl); (case c5 => decide); (case kB => exact locs rfl); (case c2 => exact rfl); (case c3 => exact rfl); (case c4 => exact rfl); k_whole; intro g' L' h' FG' F' N' B' X' T' G'; (try dsimp only); (try k_lift B'); (try k_fold))))
  k_with "CT enterC" => ((k_dflt (refine' enterCG ?k1 ?k2 ?k3 ?k4 ?k5 ?kA ?kF ?kK ?k6 ?k7 ?k8 ?k9 ?kB ?kD ?_ ?c2 ?c3 ?c4; (case kA => exact rfl); (case kF => exact rfl); (case kK => assumption); (case k1 => k_asm); (case k2 => k_asm); (case k3 => k_asm); (case k4 => k_asm); (case k5 => k_asm); (case k6 => k_is); (case k7 => k_is); (case k8 => ktr_room); (case k9 => exact BindsTo.of_eq rfl); (case kB => exact rfl); (case kD => decide +kernel); (case c2 => exact rfl); (case c3 => exact rfl); (case c4 => exact rfl); k_whole; intro g' L' h' tk' cells' FG' F' N' Y' B' X' T' l1 G'; (try k_lt l1); k_cells Y'; (try simp only [List.cons_append, List.nil_append] at N'); (try dsimp only); (try k_lift B'); (try k_fold))))
  k_with "CT use0" => (((case k1 => k_asm); (case k2 => k_asm); (case k3 => k_asm); (case k4 => k_asm); (case k5 => k_asm); (case kK => first | exact rfl | assumption); (case kd => ktr_room); (case ku => ktr_units)))
  k_with "CT useM" => (((case k1 => k_asm); (case k2 => k_asm); (case k3 => k_asm); (case k4 => k_asm); (case k5 => k_asm); (case kK => first | exact rfl | assumption); (case kd => ktr_room); (case ku => ktr_units); (case kU => k_upd)))
  k_with "NEP" => (first | (with_reducible first | exact h9e | exact Ne.symm h9e | exact Nat.ne_of_gt h9e | exact Nat.ne_of_lt h9e) | (replace h9e := And.left h9e; walk_at "NEP") | (replace h9e := And.right h9e; walk_at "NEP"))
  k_with "NEX" => (first | ((with_reducible rename Hid _ => h9e); walk_at "NEP") | ((with_reducible rename _ ∧ _ => h9e); first | walk_at "NEP" | (clear h9e; walk_at "NEX")))
  k_with "KNE" => ((refine neN ?_; (try dsimp only); first | (with_reducible first | assumption | exact Ne.symm (by assumption) | exact Nat.ne_of_gt (by assumption) | exact Nat.ne_of_lt (by assumption)) | walk_at "NEX" | omega))
  k_with "call builtin:len" => (((guard_hyp mkHeapify : True); k_here; (with_reducible show wpAny _ _ (call (Value.builtin _) [Value.ref _]) _ _ _); k_dflt (refine zlen6 (by assumption) (by k_mem) hz ?_); intro t9 tk9))
  k_with "call builtin:list.pop" => (((guard_hyp mkPop : True); k_here; k_dflt (refine zpop (z1 := (Value.ref Tz, rz)) (by assumption) (by assumption) (by k_upd) hz ?_); intro h9 F9 N9; (try dsimp only)))
  k_with "truthy ref" => (((guard_hyp mkPop : True); k_here; k_dflt (refine ztrue (by assumption) (by k_mem) (by omega) ?_); intro tk9))
  k_with "subscriptTail" => (((guard_hyp mkPop : True); k_here; k_dflt (refine zget (by assumption) (by k_mem) hRz 0 rfl (by assumption) (by omega) ?_); intro T0 r0 c0 hz0 ht0))
  k_with "setItem ref int" => (((guard_hyp mkPop : True); k_here; k_dflt (refine zset (z := (Value.ref Tz, rz)) (by assumption) (by assumption) 0 rfl (by assumption) (by omega) (by k_upd) ?_); intro h9 F9 N9))
  k_with "call ref" => (((guard_hyp mkPop : True); k_here; (with_reducible show wpAny _ _ (call (Value.ref 156) [Value.ref _, Value.int _ _]) _ _ _); k_dflt (refine' ct_useM (sup_ct _ _ _ _ hl (zs.set 0 (.ref Tz, rz)) (ep + 1) 0 _ (by rw [List.length_set]; omega) (by rw [List.length_set]; omega)) ?k1 ?k2 ?k3 ?k4 ?k5 ?kK ?kd ?ku ?kU (fun z hz => (hRz.set (z := (Value.ref Tz, rz)) ⟨Tz, cz, rfl, htz⟩ z hz).sub (Fr.keep (by assumption))) ?_; walk_at "CT useM"; intro r9 h9 tk9 e9 F9 N9; subst e9)))
  k_with "exec For Name Call cons nil" => (((guard_hyp mkHeapify : True); refine Halt.out ?_))
  k_with "call type:reversed" => (((guard_hyp mkHeapify : True); k_here; k_dflt (refine call_reversed_range3 (by assumption) ?_)))
  k_with "call ref" => (((guard_hyp mkHeapify : True); k_here; (with_reducible show wpAny _ _ (call (Value.ref 156) [Value.ref _, Value.int _ _]) _ _ _); k_dflt (refine' ct_useM (sup_ct _ _ _ _ hl M ep p _ (by omega) (by omega)) ?k1 ?k2 ?k3 ?k4 ?k5 ?kK ?kd ?ku ?kU (fun z hz => (hRM z hz).sub (Fr.keep (by assumption))) ?_; walk_at "CT useM"; intro r9 h9 tk9 e9 F9 N9; subst e9)))
  walk_at "CT intro"
  walk_at "CT enter"
  have hR0 : RoadsAt g' zs := fun z hz => gsub_tup (N (hl, zlist zs ep) (.head _)).1 rfl (hP z hz) G'
  have mkHeapify : True := trivial
  k_steps
  unfold Halt
  refine For_R (h₀ := g') (by assumption) ?_
  k_steps
  rename IsRange _ _ _ _ _ _ _ _ => hr
  rename Fr _ _ _ _ => F2
  rename News _ _ _ _ => N2
  refine ⟨3, _, _, _, fun i m news => ∃ (M : List ZR) (u : Str → Option Value), m = (fun y => if y = Str.ofString "x" then some (.ref hl) else u y) ∧ news = [(hl, zlist M ep)] ∧ M.length = 6 ∧ RoadsAt g' M ∧
      (i = 0 ∧ M = zs ∨ i = 1 ∧ M = siftupP zs 2 ∨ i = 2 ∧ M = siftupP (siftupP zs 2) 1 ∨ i = 3 ∧ M = siftupP (siftupP (siftupP zs 2) 1) 0),
    ⟨zs, _, fr1 rfl, rfl, hz, hR0, .inl ⟨rfl, rfl⟩⟩, F2.push _, N2.grown fun _ _ e => Heap.get?_push_of_some _ e, rfl,
    .inr (.inl ⟨_, 2, -1, _, _, rfl, rfl, Heap.get?_push_size _ rfl, Nat.ne_of_lt F2.ns.lt, next_is_new F2, fun p hp => Nat.ne_of_lt (Heap.lt_size (N2 p hp).1), rfl⟩), ?_, ?_⟩
  · intro i v m₁ news₁ h tk I oI hi hP hJ F3 N3 off
    obtain ⟨t3, rfl⟩ := hP
    obtain ⟨M, u, rfl, rfl, hM6, hRM, hcase⟩ := hJ
    have offl : @Ne Nat hl I := off _ (.head _)
    obtain ⟨p, hp, hpe⟩ : ∃ p : Nat, p ≤ 2 ∧ (2 + (i : Int) * -1) = (p : Int) := ⟨2 - i, by omega, by omega⟩
    rw [hpe]
    k_steps
    rename Fr _ _ _ _ => F9
    rename News _ _ _ _ => N9
    refine turn_next F9 N9 (fun q hq => by cases hq with | head => exact offl | tail _ h => cases h) ⟨siftupP M p, _, fr1 rfl, rfl, by rw [siftupP_len]; exact hM6, ?_, ?_⟩
    · exact siftupP_mem (P := fun z => RoadAt g' z.1 z.2) hRM
    · rcases hcase with ⟨rfl, rfl⟩ | ⟨rfl, rfl⟩ | ⟨rfl, rfl⟩ | ⟨rfl, rfl⟩
      · obtain rfl : p = 2 := by omega
        exact .inr (.inl ⟨rfl, rfl⟩)
      · obtain rfl : p = 1 := by omega
        exact .inr (.inr (.inl ⟨rfl, rfl⟩))
      · obtain rfl : p = 0 := by omega
        exact .inr (.inr (.inr ⟨rfl, rfl⟩))
      · omega
  · rintro m₁ news₁ h tk ⟨M, u, rfl, rfl, hM6, hRM, hcase⟩ F3 N3
    have hM : M = siftupP (siftupP (siftupP zs 2) 1) 0 := by
      rcases hcase with ⟨h1, _⟩ | ⟨h1, _⟩ | ⟨h1, _⟩ | ⟨_, h2⟩
      · omega
      · omega
      · omega
      · exact h2
    k_steps
    exact ct_ret hret N G' (by assumption) (by assumption) (by assumption) (by assumption) ⟨rfl, by rw [hM]⟩ (fun _ h => h) (fun p hp => .inl (by cases hp with | head => exact .head _ | tail _ h => cases h)) (fun p hp => .inl (by cases hp with | head => exact .head _ | tail _ h => cases h))
end
end Mine
end
section
open PySem PySem.Calls PySem.Spec PySem.W PyProof.Rows
set_option maxRecDepth 100000
set_option maxHeartbeats 8000000
set_option hygiene false
set_option linter.all false
namespace Mine
theorem isList_sub {h g : Heap} {l : Addr} {its : Array Value} (hl : h.IsList l its) (G : GSub h g (([] : List (Addr × Obj)).map (·.1))) : g.IsList l its := hl.at fun o e => G l o e (by simp)
theorem ints_nat {vs : List Value} {ps : List Nat} (hI : IntsAre vs (ps.map fun p : Nat => (p : Int))) {i : Nat} {v : Value} (hv : vs[i]? = some v) : ∃ a, ps[i]? = some a ∧ ∃ k t, v = .int k t ∧ k = (a : Int) := by
  obtain ⟨k, t, e, hk⟩ := IntsAre.at hI i v hv
  rw [List.getElem?_map] at hk
  cases hp : ps[i]? with
  | none => rw [hp] at hk; cases hk
  | some a => rw [hp] at hk; cases hk; exact ⟨a, rfl, _, t, e, rfl⟩
section
variable {prog : Program} {w : World} {A : Around} {E : Value → Shared → Prop} {s : Shared} {h₀ : Heap} {L : Addr} {news : List (Addr × Obj)}
theorem flags5_at : ∀ a, a < 5 → [Str.ofString "OPTIMIZED", Str.ofString "NEWLOCALS", Str.ofString "VARARGS", Str.ofString "VARKEYWORDS", Str.ofString "NESTED"][a]? = some (flagNm a)
  | 0, _ | 1, _ | 2, _ | 3, _ | 4, _ => rfl
theorem wordGet {l : Addr} {its : Array Value} {e a : Nat} {k : Int} {u : Tok} {value slice : PySem.Expr} {Q : Value → Shared → Prop} (N : News h₀ L s.heap news) (hm : (l, W.listOf its e) ∈ news)
    (hS : StrsAre its.toList [Str.ofString "OPTIMIZED", Str.ofString "NEWLOCALS", Str.ofString "VARARGS", Str.ofString "VARKEYWORDS", Str.ofString "NESTED"]) (ha : a < 5) (hk : k = (a : Int)) (h : ∀ t, Q (.str (flagNm a) t) s)
    (hs : subscripted slice false (.ref l) (.int k u) = operate [.ref l, .int k u] (getItem (.ref l) (.int k u)) := by with_unfolding_all rfl) :
    wpAny (model prog w) A (subscriptTail value slice (.ref l) (.int k u)) Q E s := by
  have hl : s.heap.IsList l its := ⟨_, (N _ hm).1, rfl, _, rfl⟩
  have hlen : its.toList.length = 5 := StrsAre.length hS
  have hz : its.size = 5 := hlen
  obtain ⟨t, e⟩ := StrsAre.at hS (flags5_at a ha)
  subst hk
  refine tail_any hl.typeIs slot_list_getitem.lookup (wpAny_getItem_list hl (by omega) (by omega) (x := .str (flagNm a) t) ?_ (h t)) hs
  rw [Int.toNat_natCast, ← Array.getElem?_toList, e]
end
theorem flagNm_len (k : Nat) : (flagNm k).length ≤ 11 := by
  match k with
  | 0 | 1 | 2 | 3 | 4 => decide +kernel
  | k + 5 =>
    have e : flagNm (k + 5) = Str.ofString "" := by unfold flagNm; rfl
    rw [e]; decide +kernel
theorem sum_len (f : Nat → Str) (c : Nat) (hf : ∀ k, (f k).length ≤ c) : ∀ ps : List Nat, ((ps.map f).map (·.length)).sum ≤ ps.length * c
  | [] => Nat.zero_le _
  | p :: ps => by
    have := sum_len f c hf ps
    have := hf p
    simp only [List.map_cons, List.sum_cons, List.length_cons, Nat.add_mul, Nat.one_mul] at *
    omega
section
variable (w : World) (mean : ExcName → Option Value) (mg mb : Str → Option Value)
theorem words_ct (l : Addr) (vs : List Value) (ps : List Nat) (hI : IntsAre vs (ps.map fun p : Nat => (p : Int))) (hp : ∀ p ∈ ps, p < 5) (hlen : ps.length ≤ 5) : Ct w mean mg mb 176 1 8 [] [] (fun h => h.IsList l vs.toArray) [.ref l] (fun r made => made = [] ∧ ∃ t, r = .str (Txt.join (Str.ofString ", ") (ps.map flagNm)) t) := by
  k_with_none
  k_with "CT intro" => ((unfold Ct; k_fill; intro dp un gd cn cs a ccd cl outer A₀ base h₀ L m s Q E B F X N T hk hP hd hu hret; refine wpAny_call ?_))
  k_with "CT enter" => ((k_dflt (refine' code_defG ?k1 ?k2 ?k3 ?k4 ?k5 ?kA ?kF ?kK ?k6 ?k7 ?k8 ?k9 ?kB ?_ ?c2 ?c3 ?c4 ?c5; (case kA => exact rfl); (case kF => exact rfl); (case kK => assumption); (case k1 => k_asm); (case k2 => k_asm); (case k3 => k_asm); (case k4 => k_asm); (case k5 => k_asm); (case k6 => k_is); (case k7 => k_is); (case k8 => ktr_room); (case k9 => exact BindsTo.of_eq rfl); (case c5 => decide); (case kB => exact locs rfl); (case c2 => exact rfl); (case c3 => exact rfl); (case c4 => exact rfl); k_whole; intro g' L' h' FG' F' N' B' X' T' G'; (try dsimp only); (try k_lift B'); (try k_fold))))
  k_with "CT enterC" => ((k_dflt (refine' enterCG ?k1 ?k2 ?k3 ?k4 ?k5 ?kA ?kF ?kK ?k6 ?k7 ?k8 ?k9 ?kB ?kD ?_ ?c2 ?c3 ?c4; (case kA => exact rfl); (case kF => exact rfl); (case kK => assumption); (case k1 => k_asm); (case k2 => k_asm); (case k3 => k_asm); (case k4 => k_asm); (case k5 => k_asm); (case k6 => k_is); (case k7 => k_is); (case k8 => ktr_room); (case k9 => exact BindsTo.of_eq rfl); (case kB => exact rfl); (case kD => decide +kernel); (case c2 => exact rfl); (case c3 => exact rfl); (case c4 => exact rfl); k_whole; intro g' L' h' tk' cells' FG' F' N' Y' B' X' T' l1 G'; (try k_lt l1); k_cells Y'; (try simp only [List.cons_append, List.nil_append] at N'); (try dsimp only); (try k_lift B'); (try k_fold))))
  k_with "CT use0" => (((case k1 => k_asm); (case k2 => k_asm); (case k3 => k_asm); (case k4 => k_asm); (case k5 => k_asm); (case kK => first | exact rfl | assumption); (case kd => ktr_room); (case ku => ktr_units)))
  k_with "CT useM" => (((case k1 => k_asm); (case k2 => k_asm); (case k3 => k_asm); (case k4 => k_asm); (case k5 => k_asm); (case kK => first | exact rfl | assumption); (case kd => ktr_room); (case ku => ktr_units); (case kU => k_upd)))
  k_with "NEP" => (first | (with_reducible first | exact h9e | exact Ne.symm h9e | exact Nat.ne_of_gt h9e | exact Nat.ne_of_lt h9e) | (replace h9e := And.left h9e; walk_at "NEP") | (replace h9e := And.right h9e; walk_at "NEP"))
  k_with "NEX" => (first | ((with_reducible rename Hid _ => h9e); walk_at "NEP") | ((with_reducible rename _ ∧ _ => h9e); first | walk_at "NEP" | (clear h9e; walk_at "NEX")))
  k_with "KNE" => ((refine neN ?_; (try dsimp only); first | (with_reducible first | assumption | exact Ne.symm (by assumption) | exact Nat.ne_of_gt (by assumption) | exact Nat.ne_of_lt (by assumption)) | walk_at "NEX" | omega))
  k_with "CompSrc" => (((guard_hyp mkWords : True); k_dflt (refine LCg.CompSrc.base (by rfl) (by k_asm) (by k_asm) (by assumption) (by rw [PySem.sizeLine_eq, List.size_toArray]; omega) ?_); intro g9; refine' comp_gen (xs := ps) (fun (a : Nat) v => ∃ k t, v = .int k t ∧ k = (a : Int)) (fun a y => ∃ t, y = .str (flagNm a) t) ?c1 (fun i v _ hv => ints_nat hI (by simpa using hv)) (fun a v I oI C oC D m₂ ys h tk E' ha hv hC hx F' N' off ne => ?_) (fun ys hy => ?_); (case c1 => rw [List.size_toArray]; exact hvl.symm); skip))
  k_with "subscriptTail" => (((guard_hyp mkWords : True); (obtain ⟨k9, t9, hv9, hk9⟩ := hv); subst hv9; k_dflt (refine wordGet (by k_asm) (by k_mem) (.cons _ _ (.cons _ _ (.cons _ _ (.cons _ _ (.cons _ _ .nil))))) (hp _ ha) hk9 ?_); intro t9; (try simp only [LCg.Off3, and_true] at off)))
  k_with "call builtin:str.join" => (((guard_hyp mkWords : True); k_here; k_dflt (refine join_listW (by is_list) (by show StrsAre _ _; exact Rels.strs hy) (by decide +kernel) (by assumption) ?_); intro _ _))
  walk_at "CT intro"
  walk_at "CT enterC"
  have hl := isList_sub hP G'
  have hvl : vs.length = ps.length := by have z := IntsAre.length hI; rw [List.length_map] at z; exact z
  have mkWords : True := trivial
  have hw9 : ((ps.map flagNm).map (·.length)).sum + (ps.map flagNm).length ≤ 1048576 := by
    have := sum_len flagNm 11 flagNm_len ps
    rw [List.length_map]; omega
  k_steps
  exact ct_ret0 hret N G' (by assumption) (by assumption) (by assumption) (by assumption) ⟨rfl, _, rfl⟩
end
end Mine
end
section
open PySem PySem.Calls PySem.Spec PySem.W PyProof.Rows
set_option maxRecDepth 100000
set_option maxHeartbeats 8000000
set_option hygiene false
set_option linter.all false
namespace Mine
theorem pick_mem {ns : List Int} {lo hi st : Option Int} {x : Int} (h : x ∈ pickNums ns lo hi st) : x ∈ ns := by
  unfold pickNums at h
  obtain ⟨i, _, hi⟩ := List.mem_filterMap.mp h
  exact List.mem_of_getElem? hi
theorem sum_bound : ∀ (ms : List Int), (∀ x ∈ ms, 0 ≤ x ∧ x < 1000000) → 0 ≤ ms.sum ∧ ms.sum ≤ 1000000 * ms.length
  | [], _ => by simp
  | a :: r, h => by
    have := sum_bound r fun x hx => h x (.tail _ hx)
    have := h a (.head _)
    rw [List.sum_cons, List.length_cons]
    omega
section
variable {prog : Program} {w : World} {A : Around} {E : Value → Shared → Prop} {s : Shared} {h₀ : Heap} {L : Addr} {m : Str → Option Value} {news : List (Addr × Obj)}
theorem sum_slice {l : Addr} {ys : List Value} {ms : List Int} {lo hi st : Option Int} {Q : Value → Shared → Prop} (hh : A.handled = none) (F : Fr h₀ L s.heap m) {x9 : Addr × Obj} (N : News h₀ L s.heap (x9 :: news)) (hl : s.heap.IsList l (slicePick ys.toArray lo hi st)) (hi' : IntsAre ys ms)
    (hb : ∀ x ∈ ms, 0 ≤ x ∧ x < 1000000) (hlen : ms.length ≤ 12)
    (h : ∀ S h' tk t', 0 ≤ S → S ≤ 12000000 → Fr h₀ L h' m → News h₀ L h' news → Q (.int S t') { s with heap := h', toks := tk }) :
    wpAny (model prog w) A (call (.builtin "sum") [.ref l]) Q E s := by
  have hp := IntsAre.pick hi' lo hi st
  refine sumK hh F N (vs := (slicePick ys.toArray lo hi st).toList) (by rw [Array.toArray_toList]; exact hl) hp fun h' tk t' F' N' => ?_
  have b := sum_bound (pickNums ms lo hi st) fun x hx => hb x (pick_mem hx)
  have l1 := IntsAre.length hp
  have l2 := slicePick_size_le ys.toArray lo hi st
  have l3 := IntsAre.length hi'
  simp only [Array.length_toList, List.size_toArray] at l1 l2
  exact h _ h' tk t' b.1 (by omega) F' fun p hp => N' p (.tail _ hp)
end
structure RoadOk (r : Road) : Prop where
  p0 : 0 ≤ r.p
  p1 : r.p ≤ 1000000
  a0 : 0 ≤ r.a
  a1 : r.a < 5
  b0 : 0 ≤ r.b
  b1 : r.b < 5
theorem roadOk {c S t : Int} (h0 : 0 ≤ c) (h1 : c ≤ 101) (h2 : 0 ≤ S) (h3 : S ≤ 12000000) (y : Int) (hy : 0 ≤ y ∧ y < 5) : RoadOk ⟨(c + S).fdiv 20, t, (c + S).fmod 5, y⟩ := by
  refine ⟨?_, ?_, Int.fmod_nonneg_of_pos _ (by decide), Int.fmod_lt_of_pos _ (by decide), hy.1, hy.2⟩
  · show 0 ≤ (c + S).fdiv 20
    rw [Int.fdiv_eq_ediv_of_nonneg _ (by decide)]; omega
  · show (c + S).fdiv 20 ≤ 1000000
    rw [Int.fdiv_eq_ediv_of_nonneg _ (by decide)]; omega
noncomputable abbrev tupO (r : Road) (k : Nat × Nat × Nat × Nat) : Obj := { cls := .type "tuple", data := .seq (r.vals k) }
noncomputable def RoadsRet (r : Value) (made : List (Addr × Obj)) : Prop := ∃ (D : Addr) (zs : List ZR) (ep : Nat) (rest : List (Addr × Obj)), r = .ref D ∧ made = (D, zlist zs ep) :: rest ∧ zs.map (·.2.t) = [0, 1, 2, 3, 4, 5] ∧ (∀ z ∈ zs, RoadOk z.2) ∧ ∀ z ∈ zs, ∃ T k, z.1 = .ref T ∧ (T, tupO z.2 k) ∈ rest
theorem seeds_at {sv : List Value} (h : IntsAre sv [42, 31, 90, 72, 84, 101]) {i : Nat} {v : Value} (hv : sv[i]? = some v) : ∃ c t, v = .int c t ∧ 0 ≤ c ∧ c ≤ 101 ∧ i < 6 := by
  obtain ⟨c, t, rfl, hc⟩ := IntsAre.at h i v hv
  refine ⟨c, t, rfl, ?_⟩
  have hi := (List.getElem?_eq_some_iff.mp hc).1
  have hm := List.mem_of_getElem? hc
  simp only [List.mem_cons, List.not_mem_nil, or_false] at hm
  exact ⟨by omega, by omega, hi⟩
theorem mem_rot {p a b c d : Addr × Obj} (h : p ∈ [b, c, a, d]) : p ∈ [a, b, c, d] := by
  simp only [List.mem_cons, List.not_mem_nil, or_false] at h ⊢
  exact h.elim (fun h => .inr (.inl h)) fun h => h.elim (fun h => .inr (.inr (.inl h))) fun h => h.elim (fun h => .inl h) fun h => .inr (.inr (.inr h))
theorem mem_road {p a b c d e : Addr × Obj} {l : List (Addr × Obj)} (h : p ∈ b :: c :: d :: e :: a :: l) : p ∈ a :: b :: c :: d :: e :: l := by
  simp only [List.mem_cons] at h ⊢
  exact h.elim (fun h => .inr (.inl h)) fun h => h.elim (fun h => .inr (.inr (.inl h))) fun h => h.elim (fun h => .inr (.inr (.inr (.inl h)))) fun h => h.elim (fun h => .inr (.inr (.inr (.inr (.inl h))))) fun h => h.elim .inl fun h => .inr (.inr (.inr (.inr (.inr h))))
theorem road_off {D Dr T I E1 : Addr} {oD oD' oDr oT : Obj} {rest : List (Addr × Obj)} (h : ∀ p ∈ (D, oD) :: (Dr, oDr) :: rest, p.1 ≠ I ∧ p.1 ≠ E1) (h1 : @Ne Nat T I) (h2 : @Ne Nat T E1) : ∀ p ∈ (D, oD') :: (Dr, oDr) :: (T, oT) :: rest, p.1 ≠ I ∧ p.1 ≠ E1 := fun p hp => by
  rcases List.mem_cons.mp hp with rfl | hp
  · exact h (D, oD) (.head _)
  · rcases List.mem_cons.mp hp with rfl | hp
    · exact h _ (.tail _ (.head _))
    · rcases List.mem_cons.mp hp with rfl | hp
      · exact ⟨h1, h2⟩
      · exact h p (.tail _ (.tail _ hp))
/-- what the loop over the seeds keeps -/
noncomputable def RoadJ (D Dr S : Addr) (ys sv : List Value) (n i : Nat) (m : Str → Option Value) (nw : List (Addr × Obj)) : Prop :=
  ∃ (zs : List ZR) (ep : Nat) (rest : List (Addr × Obj)) (u : Str → Option Value), m = (fun y => if y = Str.ofString "roads" then some (.ref D) else if y = Str.ofString "drawn" then some (.ref Dr) else u y) ∧ nw = (D, zlist zs ep) :: (Dr, LCg.lst ys) :: rest ∧
    (∀ p ∈ (Dr, LCg.lst ys) :: rest, p.1 ≠ D) ∧ (S, listOf sv.toArray n) ∈ rest ∧ zs.map (·.2.t) = (List.range i).map (fun k : Nat => (k : Int)) ∧ (∀ z ∈ zs, RoadOk z.2) ∧ (∀ z ∈ zs, ∃ T k, z.1 = .ref T ∧ (T, tupO z.2 k) ∈ rest)
theorem RoadJ.step {D Dr S T : Addr} {ys sv : List Value} {n i ep : Nat} {m u : Str → Option Value} {zs : List ZR} {rest : List (Addr × Obj)} {r : Road} {k : Nat × Nat × Nat × Nat} (hm : m = (fun y => if y = Str.ofString "roads" then some (.ref D) else if y = Str.ofString "drawn" then some (.ref Dr) else u y))
    (ho : ∀ p ∈ (Dr, LCg.lst ys) :: rest, p.1 ≠ D) (hT : T ≠ D) (hS : (S, listOf sv.toArray n) ∈ rest) (ht : zs.map (·.2.t) = (List.range i).map (fun k : Nat => (k : Int))) (hz : ∀ z ∈ zs, RoadOk z.2) (hr : ∀ z ∈ zs, ∃ T k, z.1 = .ref T ∧ (T, tupO z.2 k) ∈ rest) (h1 : r.t = (i : Int)) (h2 : RoadOk r) :
    RoadJ D Dr S ys sv n (i + 1) m ((D, listOf ((zs.map (·.1)).toArray.push (.ref T)) (ep + 1)) :: (Dr, LCg.lst ys) :: (T, tupO r k) :: rest) := by
  refine ⟨zs ++ [(.ref T, r)], ep + 1, (T, tupO r k) :: rest, u, hm, ?_, ?_, .tail _ hS, ?_, ?_, ?_⟩
  · simp [zlist]
  · intro p hp
    rcases List.mem_cons.mp hp with rfl | hp
    · exact ho _ (.head _)
    · rcases List.mem_cons.mp hp with rfl | hp
      · exact hT
      · exact ho _ (.tail _ hp)
  · rw [List.map_append, ht, List.range_succ, List.map_append, List.map_cons, List.map_nil, h1]; rfl
  · intro z hz'
    rcases List.mem_append.mp hz' with h | h
    · exact hz z h
    · rw [List.mem_singleton.mp h]; exact h2
  · intro z hz'
    rcases List.mem_append.mp hz' with h | h
    · obtain ⟨T', k', e, hm'⟩ := hr z h
      exact ⟨T', k', e, .tail _ hm'⟩
    · rw [List.mem_singleton.mp h]; exact ⟨T, k, rfl, .head _⟩
section
variable (w : World) (mean : ExcName → Option Value) (mg mb : Str → Option Value)
theorem roads_ct (l : Addr) (vs : List Value) (ns : List Int) (hI : IntsAre vs ns) (hlen : ns.length ≤ 63) : Ct w mean mg mb 161 2 16 [] [] (fun h => h.IsList l vs.toArray) [.ref l]
    RoadsRet := by
  k_with_none
  k_with "CT intro" => ((unfold Ct; k_fill; intro dp un gd cn cs a ccd cl outer A₀ base h₀ L m s Q E B F X N T hk hP hd hu hret; refine wpAny_call ?_))
  k_with "CT enter" => ((k_dflt (refine' code_defG ?k1 ?k2 ?k3 ?k4 ?k5 ?kA ?kF ?kK ?k6 ?k7 ?k8 ?k9 ?kB ?_ ?c2 ?c3 ?c4 ?c5; (case kA => exact rfl); (case kF => exact rfl); (case kK => assumption); (case k1 => k_asm); (case k2 => k_asm); (case k3 => k_asm); (case k4 => k_asm); (case k5 => k_asm); (case k6 => k_is); (case k7 => k_is); (case k8 => ktr_room); (case k9 => exact BindsTo.of_eq rfl); (case c5 => decide); (case kB => exact locs rfl); (case c2 => exact rfl); (case c3 => exact rfl); (case c4 => exact rfl); k_whole; intro g' L' h' FG' F' N' B' X' T' G'; (try dsimp only); (try k_lift B'); (try k_fold))))
  k_with "CT enterC" => ((k_dflt (refine' enterCG ?k1 ?k2 ?k3 ?k4 ?k5 ?kA ?kF ?kK ?k6 ?k7 ?k8 ?k9 ?kB ?kD ?_ ?c2 ?c3 ?c4; (case kA => exact rfl); (case kF => exact rfl); (case kK => assumption); (case k1 => k_asm); (case k2 => k_asm); (case k3 => k_asm); (case k4 => k_asm); (case k5 => k_asm); (case k6 => k_is); (case k7 => k_is); (case k8 => ktr_room); (case k9 => exact BindsTo.of_eq rfl); (case kB => exact rfl); (case kD => decide +kernel); (case c2 => exact rfl); (case c3 => exact rfl); (case c4 => exact rfl); k_whole; intro g' L' h' tk' cells' FG' F' N' Y' B' X' T' l1 G'; (try k_lt l1); k_cells Y'; (try simp only [List.cons_append, List.nil_append] at N'); (try dsimp only); (try k_lift B'); (try k_fold))))
  k_with "CT use0" => (((case k1 => k_asm); (case k2 => k_asm); (case k3 => k_asm); (case k4 => k_asm); (case k5 => k_asm); (case kK => first | exact rfl | assumption); (case kd => ktr_room); (case ku => ktr_units)))
  k_with "CT useM" => (((case k1 => k_asm); (case k2 => k_asm); (case k3 => k_asm); (case k4 => k_asm); (case k5 => k_asm); (case kK => first | exact rfl | assumption); (case kd => ktr_room); (case ku => ktr_units); (case kU => k_upd)))
  k_with "NEP" => (first | (with_reducible first | exact h9e | exact Ne.symm h9e | exact Nat.ne_of_gt h9e | exact Nat.ne_of_lt h9e) | (replace h9e := And.left h9e; walk_at "NEP") | (replace h9e := And.right h9e; walk_at "NEP"))
  k_with "NEX" => (first | ((with_reducible rename Hid _ => h9e); walk_at "NEP") | ((with_reducible rename _ ∧ _ => h9e); first | walk_at "NEP" | (clear h9e; walk_at "NEX")))
  k_with "KNE" => ((refine neN ?_; (try dsimp only); first | (with_reducible first | assumption | exact Ne.symm (by assumption) | exact Nat.ne_of_gt (by assumption) | exact Nat.ne_of_lt (by assumption)) | walk_at "NEX" | omega))
  k_with "call builtin:sum" => (((guard_hyp mkRoads : True); k_here; k_dflt (refine sum_slice (by rfl) (by assumption) (by assumption) (by is_list) (by assumption) hb9 hl9 ?_); intro S9 h9 tk9 t9 lo9 hi9 F9 N9))
  k_with "call builtin:list.append" => (((guard_hyp mkRt : True); k_here; k_dflt (refine' append_K ?k1 ?k2 ?k3 ?_ ?z; (case k1 => k_asm); (case k2 => k_asm); (case k3 => exact .tail (by k_ne) (.tail hDE (.tail hDI (.head hoff)))); (case z => exact hsz); k_whole); intro h' F' N'; (try k_sweep)))
  k_with "exec For Tuple Call" => (((guard_hyp mkRoads : True); k_here; k_dflt (refine For_turns (by k_asm) ?_)))
  k_with "call type:enumerate" => (((guard_hyp mkRoads : True); refine Halt.out ?_))
  walk_at "CT intro"
  walk_at "CT enter"
  have hl := isList_sub hP G'
  have hvl : ns.length = vs.length := (IntsAre.length hI).symm
  have mkRoads : True := trivial
  have hb9 : ∀ x ∈ List.map (fun k' : Int => k'.fmod (10 ^ Int.toNat 6)) (List.take 12 ns), 0 ≤ x ∧ x < 1000000 := by
    intro x hx
    obtain ⟨k, _, rfl⟩ := List.mem_map.mp hx
    exact ⟨Int.fmod_nonneg_of_pos _ (by decide), Int.fmod_lt_of_pos _ (by decide)⟩
  have hl9 : (List.map (fun k' : Int => k'.fmod (10 ^ Int.toNat 6)) (List.take 12 ns)).length ≤ 12 := by simp [List.length_take]; omega
  k_steps
  unfold Halt
  rename Addr => S9
  rename Fr _ _ _ _ => F2
  rename News _ _ _ _ => N2
  rename IntsAre ys _ => hI8
  rename ys.length = _ => hL8
  obtain ⟨D, Dr, sv, mm, n9, y9, hI9, N3, F3, hm1, hm2, ho⟩ : ∃ (D Dr : Addr) (sv : List Value) (mm : Str → Option Value) (n9 : Nat) (y9 : Addr × Obj), IntsAre sv [42, 31, 90, 72, 84, 101] ∧ News g' L' _ [(D, W.listOf #[] 0), (Dr, LCg.lst ys), (S9, W.listOf sv.toArray n9), y9] ∧ Fr g' L' _ mm ∧ mm (Str.ofString "roads") = some (.ref D) ∧ mm (Str.ofString "drawn") = some (.ref Dr) ∧ ((@Ne Nat Dr D) ∧ (@Ne Nat S9 D) ∧ (@Ne Nat y9.1 D)) :=
    ⟨_, _, [.int 42 _, .int 31 _, .int 90 _, .int 72 _, .int 84 _, .int 101 _], _, _, _, .cons _ _ (.cons _ _ (.cons _ _ (.cons _ _ (.cons _ _ (.cons _ _ .nil))))), (fun p hp => N2 p (mem_rot hp)), F2, rfl, rfl, ⟨by k_ne, by k_ne, by k_ne⟩⟩
  clear N2 F2
  obtain ⟨ho1, ho2, ho3⟩ := ho
  clear mkRoads
  refine' enumForL (vs := sv) (n := n9) (lo := W.listOf sv.toArray n9) (RoadJ D Dr S9 ys sv n9) rfl F3 N3 ?jm rfl rfl ?j0 ?turn ?done
  case jm =>
    rintro i m nw ⟨zs, ep, rest, u, rfl, rfl, _, hS, _⟩
    exact .tail _ (.tail _ hS)
  case j0 => exact ⟨[], 0, [(S9, W.listOf sv.toArray n9), y9], _, fr2 hm1 hm2, rfl, (fun p hp => by simp only [List.mem_cons, List.not_mem_nil, or_false] at hp; rcases hp with rfl | rfl | rfl <;> assumption), .head _, rfl, (fun _ h => nomatch h), (fun _ h => nomatch h)⟩
  case turn =>
    rintro E1 I i x T t oE oI m₁ news₁ h tk hx hT ⟨zs, ep, rest, u, rfl, rfl, hoff, hS, hzt, hzo, hzm⟩ F4 N4 off4
    obtain ⟨c, tc, rfl, hc0, hc1, hi6⟩ := seeds_at hI9 hx
    clear N3 F3
    have hDE : @Ne Nat E1 D := (off4 _ (.head _)).2.symm
    have hDI : @Ne Nat I D := (off4 _ (.head _)).1.symm
    have hsz : (zs.map (·.1)).toArray.size ≤ sizeLine := by have := congrArg List.length hzt; simp at this; rw [sizeLine_eq, List.size_toArray, List.length_map]; omega
    have mkRoads : True := trivial
    have mkRt : True := trivial
    (refine (show wpAny _ _ _ _ _ _ from ?_))
    k_steps
    rename Fr _ _ _ _ => F9
    rename News _ _ _ _ => N9
    exact ⟨_, _, _, _, rfl, F9, (fun p hp => N9 p (mem_road hp)), road_off off4 (by k_ne) (by k_ne), RoadJ.step (k := (_, _, _, _)) (r := ⟨_, _, _, _⟩) (fr2 rfl rfl) hoff (by k_ne) hS hzt hzo hzm rfl (roadOk hc0 hc1 (by assumption) (by assumption) _ ⟨Int.fmod_nonneg_of_pos _ (by decide), Int.fmod_lt_of_pos _ (by decide)⟩)⟩
  case done =>
    rintro h tk m' news' ⟨zs, ep, rest, u, rfl, rfl, hoff, hS, hzt, hzo, hzm⟩ F4 N4
    clear N3 F3
    (refine (show wpAny _ _ _ _ _ _ from ?_))
    k_steps
    rename News h₀ L _ _ => kN
    rename Fr h₀ L _ _ => kF
    have h6 : sv.length = 6 := by have := IntsAre.length hI9; simpa using this
    rw [h6] at hzt
    exact ct_ret hret N G' (by assumption) (by assumption) kF kN ⟨D, zs, ep, _, rfl, rfl, hzt, hzo, fun z hz => by obtain ⟨T, k, e, hm⟩ := hzm z hz; exact ⟨T, k, e, .tail _ hm⟩⟩ (fun p hp => hp) (fun _ h => nomatch h) (fun p _ => .inr (by simp))
end
end Mine
end
section
open PySem PySem.Calls PySem.Spec PySem.W PyProof.Rows
set_option maxRecDepth 100000
set_option maxHeartbeats 8000000
set_option hygiene false
set_option linter.all false
namespace Mine
noncomputable def RowsJ (Row : Nat → List Value → Prop) (base : List (Addr × Obj)) : Nat → List Value → List (Addr × Obj) → Prop
  | 0, ys, nw => ys = [] ∧ nw = base
  | i + 1, ys, nw => ∃ R rs ys' nw', RowsJ Row base i ys' nw' ∧ Row i rs ∧ LCg.Off1 R nw' ∧ ys = ys' ++ [.ref R] ∧ nw = (R, LCg.lst rs) :: nw'
noncomputable def MRow (M : Nat → Nat → Int) (i : Nat) (rs : List Value) : Prop := rs.length = 5 ∧ ∀ j, j < 5 → ∃ t, rs[j]? = some (.int (M i j) t)
theorem mrow_rels {M : Nat → Nat → Int} {i : Nat} {rs : List Value} (h : Rels (fun a y => ∃ t, y = .int (M i a) t) (List.range 5) rs) : MRow M i rs := by
  have hl := h.length
  rw [List.length_range] at hl
  refine ⟨hl, fun j hj => ?_⟩
  have hx : rs[j]? = some rs[j] := List.getElem?_eq_getElem (by omega)
  obtain ⟨k, t, e, hk⟩ := IntsAre.at (Rels.ints h) j _ hx
  rw [List.getElem?_map, List.getElem?_range hj] at hk
  cases hk
  exact ⟨t, by rw [hx, e]⟩
noncomputable def setM (M : Nat → Nat → Int) (a b : Nat) (v : Int) : Nat → Nat → Int := fun i j => if i = a ∧ j = b then v else M i j
noncomputable def updF (rs : Nat → List Value) (a b : Nat) (v : Value) : Nat → List Value := fun i => if i = a then (rs i).set b v else rs i
theorem mrow_set {M : Nat → Nat → Int} {rs : Nat → List Value} (h : ∀ i, i < 5 → MRow M i (rs i)) (a b : Nat) (v : Int) (t : Tok) : ∀ i, i < 5 → MRow (setM M a b v) i (updF rs a b (.int v t) i) := by
  intro i hi
  obtain ⟨h1, h2⟩ := h i hi
  unfold updF
  split
  · next e =>
    refine ⟨by rw [List.length_set, h1], fun j hj => ?_⟩
    by_cases e2 : j = b
    · subst e2
      exact ⟨t, by rw [List.getElem?_set_self (by omega)]; simp [setM, e]⟩
    · obtain ⟨t', e'⟩ := h2 j hj
      exact ⟨t', by rw [List.getElem?_set_ne (Ne.symm e2), e']; simp [setM, e2]⟩
  · next e =>
    refine ⟨h1, fun j hj => ?_⟩
    obtain ⟨t', e'⟩ := h2 j hj
    exact ⟨t', by rw [e']; simp [setM, e]⟩
/-- the ledger of a matrix of five rows -/
noncomputable abbrev matL (N : Addr) (R : Nat → Addr) (rs : Nat → List Value) (ep : Nat → Nat) (e : Nat) : List (Addr × Obj) :=
  [(N, listOf #[.ref (R 0), .ref (R 1), .ref (R 2), .ref (R 3), .ref (R 4)] e), (R 4, listOf (rs 4).toArray (ep 4)), (R 3, listOf (rs 3).toArray (ep 3)), (R 2, listOf (rs 2).toArray (ep 2)), (R 1, listOf (rs 1).toArray (ep 1)), (R 0, listOf (rs 0).toArray (ep 0))]
theorem five {P : Nat → Prop} (h0 : P 0) (h1 : P 1) (h2 : P 2) (h3 : P 3) (h4 : P 4) (a : Nat) (h : a < 5) : P a := by
  match a, h with
  | 0, _ => exact h0
  | 1, _ => exact h1
  | 2, _ => exact h2
  | 3, _ => exact h3
  | 4, _ => exact h4
section
variable {prog : Program} {w : World} {A : Around} {E : Value → Shared → Prop} {s : Shared} {h₀ : Heap} {L N : Addr} {m : Str → Option Value} {news base : List (Addr × Obj)} {R : Nat → Addr} {rs : Nat → List Value} {ep : Nat → Nat} {e : Nat} {k : Int} {u : Tok} {M : Nat → Nat → Int}
theorem matRow {value slice : PySem.Expr} {Q : Value → Shared → Prop} (hN : News h₀ L s.heap news) (hm : (N, listOf #[.ref (R 0), .ref (R 1), .ref (R 2), .ref (R 3), .ref (R 4)] e) ∈ news) (a : Nat) (hk : k = (a : Int)) (ha : a < 5) (h : Q (.ref (R a)) s)
    (hs : subscripted slice false (.ref N) (.int k u) = operate [.ref N, .int k u] (getItem (.ref N) (.int k u)) := by with_unfolding_all rfl) :
    wpAny (model prog w) A (subscriptTail value slice (.ref N) (.int k u)) Q E s := by
  have il : s.heap.IsList N #[.ref (R 0), .ref (R 1), .ref (R 2), .ref (R 3), .ref (R 4)] := ⟨_, (hN _ hm).1, rfl, _, rfl⟩
  refine tail_any il.typeIs slot_list_getitem.lookup (wpAny_getItem_list il (by omega) (by omega) (x := .ref (R a)) ?_ h) hs
  subst hk
  rw [Int.toNat_natCast]
  exact five (P := fun a => (#[Value.ref (R 0), .ref (R 1), .ref (R 2), .ref (R 3), .ref (R 4)] : Array Value)[a]? = some (.ref (R a))) rfl rfl rfl rfl rfl a ha
theorem mem_row (a : Nat) (ha : a < 5) : (R a, listOf (rs a).toArray (ep a)) ∈ matL N R rs ep e := five (P := fun a => (R a, listOf (rs a).toArray (ep a)) ∈ matL N R rs ep e) (.tail _ (.tail _ (.tail _ (.tail _ (.tail _ (.head _)))))) (.tail _ (.tail _ (.tail _ (.tail _ (.head _))))) (.tail _ (.tail _ (.tail _ (.head _)))) (.tail _ (.tail _ (.head _))) (.tail _ (.head _)) a ha
theorem mat_all {P : Addr × Obj → Prop} (hN : P (N, listOf #[.ref (R 0), .ref (R 1), .ref (R 2), .ref (R 3), .ref (R 4)] e)) (hR : ∀ i, i < 5 → P (R i, listOf (rs i).toArray (ep i))) : ∀ p ∈ matL N R rs ep e, P p :=
  List.forall_mem_cons.mpr ⟨hN, List.forall_mem_cons.mpr ⟨hR 4 (by decide), List.forall_mem_cons.mpr ⟨hR 3 (by decide), List.forall_mem_cons.mpr ⟨hR 2 (by decide), List.forall_mem_cons.mpr ⟨hR 1 (by decide), List.forall_mem_cons.mpr ⟨hR 0 (by decide), List.forall_mem_nil _⟩⟩⟩⟩⟩⟩
theorem matGet {a : Nat} (b : Nat) {value slice : PySem.Expr} {Q : Value → Shared → Prop} (hN : News h₀ L s.heap news) (hm : ∀ p ∈ matL N R rs ep e, p ∈ news) (hM : ∀ i, i < 5 → MRow M i (rs i)) (ha : a < 5) (hk : k = (b : Int)) (hb : b < 5) (h : ∀ t, Q (.int (M a b) t) s)
    (hs : subscripted slice false (.ref (R a)) (.int k u) = operate [.ref (R a), .int k u] (getItem (.ref (R a)) (.int k u)) := by with_unfolding_all rfl) :
    wpAny (model prog w) A (subscriptTail value slice (.ref (R a)) (.int k u)) Q E s := by
  have il : s.heap.IsList (R a) (rs a).toArray := ⟨_, (hN _ (hm _ (mem_row a ha))).1, rfl, _, rfl⟩
  obtain ⟨hl, hr⟩ := hM a ha
  obtain ⟨t, ht⟩ := hr b hb
  refine tail_any il.typeIs slot_list_getitem.lookup (wpAny_getItem_list il (by omega) (by omega) (x := .int (M a b) t) ?_ (h t)) hs
  subst hk
  rw [Int.toNat_natCast]
  rw [List.getElem?_toArray]; exact ht
/-- the addresses of a matrix stand apart -/
noncomputable def MatApart (N : Addr) (R : Nat → Addr) (base : List (Addr × Obj)) : Prop := ((@Ne Nat N (R 0)) ∧ (@Ne Nat N (R 1)) ∧ (@Ne Nat N (R 2)) ∧ (@Ne Nat N (R 3)) ∧ (@Ne Nat N (R 4))) ∧ ((@Ne Nat (R 0) (R 1)) ∧ (@Ne Nat (R 0) (R 2)) ∧ (@Ne Nat (R 0) (R 3)) ∧ (@Ne Nat (R 0) (R 4)) ∧ (@Ne Nat (R 1) (R 2)) ∧ (@Ne Nat (R 1) (R 3)) ∧ (@Ne Nat (R 1) (R 4)) ∧ (@Ne Nat (R 2) (R 3)) ∧ (@Ne Nat (R 2) (R 4)) ∧ (@Ne Nat (R 3) (R 4))) ∧
  (LCg.Off1 N base ∧ LCg.Off1 (R 0) base ∧ LCg.Off1 (R 1) base ∧ LCg.Off1 (R 2) base ∧ LCg.Off1 (R 3) base ∧ LCg.Off1 (R 4) base)
theorem off1_mem {D : Addr} : ∀ {l : List (Addr × Obj)}, LCg.Off1 D l → ∀ p ∈ l, p.1 ≠ D
  | [], _, _, h => nomatch h
  | _ :: _, x, p, h => by
    rcases List.mem_cons.mp h with rfl | h
    · exact x.1
    · exact off1_mem x.2 p h
theorem rows_inj (hap : MatApart N R base) : ∀ i, i < 5 → ∀ j, j < 5 → i ≠ j → @Ne Nat (R i) (R j) := fun i hi j hj =>
  have n := hap.2.1
  five (P := fun i => ∀ j, j < 5 → i ≠ j → @Ne Nat (R i) (R j))
    (five (P := fun j => 0 ≠ j → @Ne Nat (R 0) (R j)) (fun h => absurd rfl h) (fun _ => n.1) (fun _ => n.2.1) (fun _ => n.2.2.1) (fun _ => n.2.2.2.1))
    (five (P := fun j => 1 ≠ j → @Ne Nat (R 1) (R j)) (fun _ => Ne.symm n.1) (fun h => absurd rfl h) (fun _ => n.2.2.2.2.1) (fun _ => n.2.2.2.2.2.1) (fun _ => n.2.2.2.2.2.2.1))
    (five (P := fun j => 2 ≠ j → @Ne Nat (R 2) (R j)) (fun _ => Ne.symm n.2.1) (fun _ => Ne.symm n.2.2.2.2.1) (fun h => absurd rfl h) (fun _ => n.2.2.2.2.2.2.2.1) (fun _ => n.2.2.2.2.2.2.2.2.1))
    (five (P := fun j => 3 ≠ j → @Ne Nat (R 3) (R j)) (fun _ => Ne.symm n.2.2.1) (fun _ => Ne.symm n.2.2.2.2.2.1) (fun _ => Ne.symm n.2.2.2.2.2.2.2.1) (fun h => absurd rfl h) (fun _ => n.2.2.2.2.2.2.2.2.2))
    (five (P := fun j => 4 ≠ j → @Ne Nat (R 4) (R j)) (fun _ => Ne.symm n.2.2.2.1) (fun _ => Ne.symm n.2.2.2.2.2.2.1) (fun _ => Ne.symm n.2.2.2.2.2.2.2.2.1) (fun _ => Ne.symm n.2.2.2.2.2.2.2.2.2) (fun h => absurd rfl h))
    i hi j hj
theorem matSet {a b : Nat} {v : Int} {t : Tok} {Q : Unit → Shared → Prop} (F : Fr h₀ L s.heap m) (hN₀ : News h₀ L s.heap news) (hsub : ∀ p ∈ matL N R rs ep e ++ base, p ∈ news) (hap : MatApart N R base) (hM : ∀ i, i < 5 → MRow M i (rs i)) (ha : a < 5) (hk : k = (b : Int)) (hb : b < 5)
    (h : ∀ h', (∀ i, i < 5 → MRow (setM M a b v) i (updF rs a b (.int v t) i)) → Fr h₀ L h' m → News h₀ L h' (matL N R (updF rs a b (.int v t)) ep e ++ base) → Q () { s with heap := h' }) : wpAny (model prog w) A (setItem (.ref (R a)) (.int k u) (.int v t)) Q E s := by
  have hN : News h₀ L s.heap (matL N R rs ep e ++ base) := fun p hp => hN₀ p (hsub p hp)
  have x := hN _ (List.mem_append_left _ (mem_row a ha))
  obtain ⟨hl, -⟩ := hM a ha
  have inj := rows_inj hap
  have hNR : @Ne Nat N (R a) := by
    obtain ⟨⟨a0, a1, a2, a3, a4⟩, _⟩ := hap
    exact five (P := fun a => @Ne Nat N (R a)) a0 a1 a2 a3 a4 a ha
  have hB : LCg.Off1 (R a) base := by
    obtain ⟨_, _, _, a0, a1, a2, a3, a4⟩ := hap
    exact five (P := fun a => LCg.Off1 (R a) base) a0 a1 a2 a3 a4 a ha
  refine ki_setAt x.1 (by omega) (by omega) (by simp; omega) ?_
  have hs : Heap.SameBut (R a) s.heap (s.heap.update (R a) (Obj.mapSeq (·.setIfInBounds k.toNat (.int v t)))) := Heap.SameBut.update ..
  have q := PySem.IsL.update x.1 (·.setIfInBounds k.toNat (.int v t))
  rw [Array.size_setIfInBounds, if_pos (by simp)] at q
  have row : ∀ i, i < 5 → (s.heap.update (R a) (Obj.mapSeq (·.setIfInBounds k.toNat (.int v t)))).get? (R i) = some (listOf (updF rs a b (.int v t) i).toArray (ep i)) := by
    intro i hi
    by_cases e : i = a
    · subst e
      rw [q]
      have : (rs i).toArray.setIfInBounds k.toNat (.int v t) = (updF rs i b (.int v t) i).toArray := by
        rw [hk]; simp [updF]
      rw [this]
    · rw [hs.extBut _ _ (inj i hi a ha e) (hN _ (List.mem_append_left _ (mem_row i hi))).1]
      simp [updF, e]
  have z0 := hN _ (List.mem_append_left _ (List.mem_cons_self (a := (N, _))))
  have nm : News h₀ L (s.heap.update (R a) (Obj.mapSeq (·.setIfInBounds k.toNat (.int v t)))) (matL N R (updF rs a b (.int v t)) ep e) := mat_all ⟨hs.extBut _ _ hNR z0.1, z0.2⟩ fun i hi => ⟨row i hi, (hN _ (List.mem_append_left _ (mem_row i hi))).2⟩
  refine h _ (mrow_set hM a b v t) (F.change hs x.2.1 x.2.2) fun p hp => (List.mem_append.mp hp).elim (nm p) fun hp => ?_
  have z := hN _ (List.mem_append_right _ hp)
  exact ⟨hs.extBut _ _ (off1_mem hB p hp) z.1, z.2⟩
end
noncomputable def near0 (i j : Nat) : Int := if i = j then -1 else 100000000
end Mine
end
section
open PySem PySem.Calls PySem.Spec PySem.W PyProof.Rows
set_option maxRecDepth 100000
set_option maxHeartbeats 8000000
set_option hygiene false
set_option linter.all false
namespace Mine
noncomputable def Hid (p : Prop) : Prop := p
theorem Hid.mk {p : Prop} (h : p) : Hid p := h
theorem Hid.out {p : Prop} (h : Hid p) : p := h
theorem near0_t {i a : Nat} {x : Int} {t : Tok} (e : (0 : Int) + (i : Int) = 0 + (a : Int)) (hx : x = -1) : ∃ t', Value.int x t = Value.int (near0 i a) t' := by
  have : i = a := by omega
  subst this; subst hx
  exact ⟨t, by simp [near0]⟩
theorem near0_f {i a : Nat} {x : Int} {t : Tok} (e : ¬ (0 : Int) + (i : Int) = 0 + (a : Int)) (hx : x = 100000000) : ∃ t', Value.int x t = Value.int (near0 i a) t' := by
  have : ¬ i = a := by omega
  subst hx
  exact ⟨t, by simp [near0, this]⟩
noncomputable def roadM (M : Nat → Nat → Int) (z : ZR) : Nat → Nat → Int :=
  setM (setM M z.2.a.toNat z.2.b.toNat (min (M z.2.a.toNat z.2.b.toNat) (6 * z.2.p + z.2.t))) z.2.b.toNat z.2.a.toNat (min (M z.2.a.toNat z.2.b.toNat) (6 * z.2.p + z.2.t))
theorem roadM_row {M : Nat → Nat → Int} {zv : Value} {rp rt : Int} {na nb : Nat} {rs : Nat → List Value} (h : ∀ i, i < 5 → MRow (setM (setM M na nb (if 6 * rp + rt < M na nb then 6 * rp + rt else M na nb)) nb na (setM M na nb (if 6 * rp + rt < M na nb then 6 * rp + rt else M na nb) na nb)) i (rs i)) :
    ∀ i, i < 5 → MRow ([(zv, (⟨rp, rt, na, nb⟩ : Road))].foldl roadM M) i (rs i) := by
  have e : (if 6 * rp + rt < M na nb then 6 * rp + rt else M na nb) = min (M na nb) (6 * rp + rt) := by split <;> omega
  rw [e] at h
  have e2 : setM M na nb (min (M na nb) (6 * rp + rt)) na nb = min (M na nb) (6 * rp + rt) := by simp [setM]
  rw [e2] at h
  exact h
theorem roadM_take {M : Nat → Nat → Int} {zs : List ZR} {k : Nat} {z : ZR} {rs : Nat → List Value} (hz : zs[k]? = some z) (h : ∀ i, i < 5 → MRow ([z].foldl roadM ((zs.take k).foldl roadM M)) i (rs i)) : ∀ i, i < 5 → MRow ((zs.take (k + 1)).foldl roadM M) i (rs i) := by
  rw [List.take_add_one, hz, List.foldl_append]
  exact h
noncomputable def fwM (M : Nat → Nat → Int) (k : Nat) : Nat → Nat → Int := fun i j => min (M i j) (max (M i k) (M k j))
noncomputable def fwK (M : Nat → Nat → Int) : Nat → Nat → Nat → Int
  | 0 => M
  | k + 1 => fwM (fwK M k) k
theorem fresh6 (n : Nat) (f : Nat → Nat) : ∃ c : Nat, n ≠ c ∧ ∀ i, i < 5 → f i ≠ c :=
  ⟨n + f 0 + f 1 + f 2 + f 3 + f 4 + 1, by omega, five (P := fun i => f i ≠ _) (by omega) (by omega) (by omega) (by omega) (by omega)⟩
theorem matApart_cut {N : Addr} {R : Nat → Addr} {p q r : Addr × Obj} (h : MatApart N R [p, q, r]) : MatApart N R [p, q] := by
  obtain ⟨h1, h2, a, b, c, d, e, f⟩ := h
  exact ⟨h1, h2, ⟨a.1, a.2.1, trivial⟩, ⟨b.1, b.2.1, trivial⟩, ⟨c.1, c.2.1, trivial⟩, ⟨d.1, d.2.1, trivial⟩, ⟨e.1, e.2.1, trivial⟩, ⟨f.1, f.2.1, trivial⟩⟩

theorem xend_row {h₀ : Heap} {L : Addr} {m : Str → Option Value} {s₁ : Shared} {I C D c R : Addr} {oI oC oD oc o : Obj} {nw : List (Addr × Obj)} {T : List (Addr × Obj) → Prop} {h' : Heap} {tk : Nat} (F : Fr h₀ L h' m) (N : News h₀ L h' ((R, o) :: (I, oI) :: (C, oC) :: (D, oD) :: (c, oc) :: nw))
    (o3 : LCg.Off3 I C D nw) (o1 : LCg.Off1 c nw) (oR : (@Ne Nat I R) ∧ (@Ne Nat C R) ∧ (@Ne Nat D R) ∧ (@Ne Nat c R) ∧ LCg.Off1 R nw) (hT : LCg.Off1 R nw → T ((R, o) :: nw)) : XEnd h₀ L m s₁ [(I, oI), (C, oC), (D, oD), (c, oc)] (fun _ => True) T { s₁ with heap := h', toks := tk } := by
  obtain ⟨a1, a2, a3, a4, a5⟩ := oR
  refine XEnd.intro F N ((R, o) :: nw) (fun p hp => ?_) (fun p hp => ?_) trivial (hT a5)
  · simp only [List.cons_append, List.nil_append, List.mem_cons] at hp ⊢
    rcases hp with h | h | h | h | h | h <;> simp [h]
  · simp only [List.map_cons, List.map_nil, List.mem_cons, List.not_mem_nil, or_false, not_or]
    rcases List.mem_cons.mp hp with rfl | hp
    · exact ⟨Ne.symm a1, Ne.symm a2, Ne.symm a3, Ne.symm a4⟩
    · have x := o3.mem p hp
      exact ⟨x.1, x.2.1, x.2.2, off1_mem o1 p hp⟩
theorem rowsJ_base {Row : Nat → List Value → Prop} {base : List (Addr × Obj)} : ∀ {i : Nat} {ys : List Value} {nw : List (Addr × Obj)}, RowsJ Row base i ys nw → ∀ p ∈ base, p ∈ nw
  | 0, _, _, h, p, hp => by obtain ⟨_, rfl⟩ := h; exact hp
  | _ + 1, _, _, h, p, hp => by obtain ⟨_, _, _, _, h, _, _, _, rfl⟩ := h; exact .tail _ (rowsJ_base h p hp)
theorem off1_of {D : Addr} : ∀ {l : List (Addr × Obj)}, (∀ p ∈ l, p.1 ≠ D) → LCg.Off1 D l
  | [], _ => trivial
  | _ :: _, h => ⟨h _ List.mem_cons_self, off1_of fun p hp => h p (List.mem_cons_of_mem _ hp)⟩
theorem off1_sub {D : Addr} {l l' : List (Addr × Obj)} (h : LCg.Off1 D l) (hs : ∀ p ∈ l', ∃ q ∈ l, q.1 = p.1) : LCg.Off1 D l' := off1_of fun p hp => by
  obtain ⟨q, hq, e⟩ := hs p hp
  rw [← e]; exact off1_mem h q hq
theorem rowsJ_mat {M : Nat → Nat → Int} {base : List (Addr × Obj)} {ys : List Value} {nw : List (Addr × Obj)} {D : Addr} (h : RowsJ (MRow M) base 5 ys nw) (o1 : LCg.Off1 D nw) :
    ∃ R rs, (D, LCg.lst ys) :: nw = matL D R rs (fun i => (rs i).length) 5 ++ base ∧ (∀ i, i < 5 → MRow M i (rs i)) ∧ MatApart D R base := by
  obtain ⟨R4, rs4, _, _, ⟨R3, rs3, _, _, ⟨R2, rs2, _, _, ⟨R1, rs1, _, _, ⟨R0, rs0, _, _, ⟨rfl, rfl⟩, e0, q0, rfl, rfl⟩, e1, q1, rfl, rfl⟩, e2, q2, rfl, rfl⟩, e3, q3, rfl, rfl⟩, e4, q4, rfl, rfl⟩ := h
  refine ⟨fun i => [R0, R1, R2, R3, R4].getD i 0, fun i => [rs0, rs1, rs2, rs3, rs4].getD i [], rfl, five e0 e1 e2 e3 e4, ?_⟩
  simp only [LCg.Off1] at o1 q0 q1 q2 q3 q4
  obtain ⟨a4, a3, a2, a1, a0, ab⟩ := o1
  obtain ⟨b43, b42, b41, b40, b4⟩ := q4
  obtain ⟨b32, b31, b30, b3⟩ := q3
  obtain ⟨b21, b20, b2⟩ := q2
  obtain ⟨b10, b1⟩ := q1
  exact ⟨⟨Ne.symm a0, Ne.symm a1, Ne.symm a2, Ne.symm a3, Ne.symm a4⟩, ⟨b10, b20, b30, b40, b21, b31, b41, b32, b42, b43⟩, ab, q0, b1, b2, b3, b4⟩
theorem matApart_sub {N : Addr} {R : Nat → Addr} {l l' : List (Addr × Obj)} (h : MatApart N R l) (hs : ∀ p ∈ l', ∃ q ∈ l, q.1 = p.1) : MatApart N R l' := by
  obtain ⟨h1, h2, a, b, c, d, e, f⟩ := h
  exact ⟨h1, h2, off1_sub a hs, off1_sub b hs, off1_sub c hs, off1_sub d hs, off1_sub e hs, off1_sub f hs⟩
theorem matApart_row {N : Addr} {R : Nat → Addr} {l : List (Addr × Obj)} (h : MatApart N R l) : ∀ p ∈ l, (@Ne Nat N p.1) ∧ ∀ i, i < 5 → @Ne Nat (R i) p.1 := fun p hp => by
  obtain ⟨h1, h2, a, b, c, d, e, f⟩ := h
  exact ⟨Ne.symm (off1_mem a p hp), five (Ne.symm (off1_mem b p hp)) (Ne.symm (off1_mem c p hp)) (Ne.symm (off1_mem d p hp)) (Ne.symm (off1_mem e p hp)) (Ne.symm (off1_mem f p hp))⟩
theorem matApart_add {N : Addr} {R : Nat → Addr} {p q r : Addr × Obj} (h : MatApart N R [p, q]) (h1 : @Ne Nat N r.1) (h2 : ∀ i, i < 5 → @Ne Nat (R i) r.1) : MatApart N R [p, q, r] := by
  obtain ⟨x, y, a, b, c, d, e, f⟩ := h
  exact ⟨x, y, ⟨a.1, a.2.1, Ne.symm h1, trivial⟩, ⟨b.1, b.2.1, Ne.symm (h2 0 (by decide)), trivial⟩, ⟨c.1, c.2.1, Ne.symm (h2 1 (by decide)), trivial⟩, ⟨d.1, d.2.1, Ne.symm (h2 2 (by decide)), trivial⟩, ⟨e.1, e.2.1, Ne.symm (h2 3 (by decide)), trivial⟩, ⟨f.1, f.2.1, Ne.symm (h2 4 (by decide)), trivial⟩⟩
theorem mem_last {x p : Addr × Obj} {l : List (Addr × Obj)} (h : p ∈ x :: l) : p ∈ l ++ [x] := by
  rcases List.mem_cons.mp h with rfl | h
  · exact List.mem_append_right _ (.head _)
  · exact List.mem_append_left _ h
theorem off_same {I : Nat} {l l' : List (Addr × Obj)} (e : l'.map (·.1) = l.map (·.1)) (h : ∀ p ∈ l, p.1 ≠ I) : ∀ p ∈ l', p.1 ≠ I := fun p hp => by
  have : p.1 ∈ l'.map (·.1) := List.mem_map_of_mem hp
  rw [e] at this
  obtain ⟨q, hq, e'⟩ := List.mem_map.mp this
  rw [← e']; exact h q hq
theorem mat_off {N I x y : Nat} {R : Nat → Addr} {rs : Nat → List Value} {ep : Nat → Nat} {e : Nat} {ox oy : Obj} (h : (@Ne Nat N I) ∧ ∀ i, i < 5 → @Ne Nat (R i) I) (hx : @Ne Nat x I) (hy : @Ne Nat y I) : ∀ p ∈ matL N R rs ep e ++ [(x, ox), (y, oy)], p.1 ≠ I := fun p hp => by
  rcases List.mem_append.mp hp with hp | hp
  · exact mat_all (P := fun p => p.1 ≠ I) h.1 h.2 p hp
  · rcases List.mem_cons.mp hp with rfl | hp
    · exact hx
    · rw [List.mem_singleton.mp hp]; exact hy
/-- what the loop over the middle place keeps -/
inductive NearJ (b : Nat) (M : Nat → Nat → Nat → Int) : Nat → (Str → Option Value) → List (Addr × Obj) → Prop
  | mk (k : Nat) (m : Str → Option Value) (N : Addr) (R : Nat → Addr) (rs : Nat → List Value) (ep : Nat → Nat) (e : Nat) (oM oN : Obj) (vM : Option Value) (hoN : oN.data = .cell (some (.ref N))) (hoM : oM.data = .cell vM) (hap : ∀ x y, MatApart N R [(b + 1 + 1, x), (b + 1, y)]) (hM : ∀ j, j < 5 → MRow (M k) j (rs j)) : NearJ b M k m (matL N R rs ep e ++ [(b + 1 + 1, oM), (b + 1, oN)])
noncomputable def NearRet (M : Nat → Nat → Int) (r : Value) (made : List (Addr × Obj)) : Prop := ∃ N R rs ep e, r = .ref N ∧ made = matL N R rs ep e ∧ ∀ j, j < 5 → MRow M j (rs j)
theorem fw_el {M MF : Nat → Nat → Int} {i k a : Nat} {t : Tok} (h : MF = fwM M k) : ∃ t', Value.int (if (if M k a > M i k then M k a else M i k) < M i a then (if M k a > M i k then M k a else M i k) else M i a) t = Value.int (MF i a) t' := by
  subst h
  refine ⟨t, ?_⟩
  congr 1
  unfold fwM
  repeat' split
  all_goals omega
section
variable (w : World) (mean : ExcName → Option Value) (mg mb : Str → Option Value)
theorem near_ct (l : Addr) (zs : List ZR) (hok : ∀ z ∈ zs, RoadOk z.2) : Ct w mean mg mb 171 1 8 [] [] (fun h => h.IsList l (zs.map (·.1)).toArray ∧ RoadsAt h zs) [.ref l]
    (NearRet (fwK (zs.foldl roadM near0) 5)) := by
  k_with_none
  k_with "CT intro" => ((unfold Ct; k_fill; intro dp un gd cn cs a ccd cl outer A₀ base h₀ L m s Q E B F X N T hk hP hd hu hret; refine wpAny_call ?_))
  k_with "CT enter" => ((k_dflt (refine' code_defG ?k1 ?k2 ?k3 ?k4 ?k5 ?kA ?kF ?kK ?k6 ?k7 ?k8 ?k9 ?kB ?_ ?c2 ?c3 ?c4 ?c5; (case kA => exact rfl); (case kF => exact rfl); (case kK => assumption); (case k1 => k_asm); (case k2 => k_asm); (case k3 => k_asm); (case k4 => k_asm); (case k5 => k_asm); (case k6 => k_is); (case k7 => k_is); (case k8 => ktr_room); (case k9 => exact BindsTo.of_eq rfl); (case c5 => decide); (case kB => exact locs rfl); (case c2 => exact rfl); (case c3 => exact rfl); (case c4 => exact rfl); k_whole; intro g' L' h' FG' F' N' B' X' T' G'; (try dsimp only); (try k_lift B'); (try k_fold))))
  k_with "CT enterC" => ((k_dflt (refine' enterCG ?k1 ?k2 ?k3 ?k4 ?k5 ?kA ?kF ?kK ?k6 ?k7 ?k8 ?k9 ?kB ?kD ?_ ?c2 ?c3 ?c4; (case kA => exact rfl); (case kF => exact rfl); (case kK => assumption); (case k1 => k_asm); (case k2 => k_asm); (case k3 => k_asm); (case k4 => k_asm); (case k5 => k_asm); (case k6 => k_is); (case k7 => k_is); (case k8 => ktr_room); (case k9 => exact BindsTo.of_eq rfl); (case kB => exact rfl); (case kD => decide +kernel); (case c2 => exact rfl); (case c3 => exact rfl); (case c4 => exact rfl); k_whole; intro g' L' h' tk' cells' FG' F' N' Y' B' X' T' l1 G'; (try k_lt l1); k_cells Y'; (try simp only [List.cons_append, List.nil_append] at N'); (try dsimp only); (try k_lift B'); (try k_fold))))
  k_with "CT use0" => (((case k1 => k_asm); (case k2 => k_asm); (case k3 => k_asm); (case k4 => k_asm); (case k5 => k_asm); (case kK => first | exact rfl | assumption); (case kd => ktr_room); (case ku => ktr_units)))
  k_with "CT useM" => (((case k1 => k_asm); (case k2 => k_asm); (case k3 => k_asm); (case k4 => k_asm); (case k5 => k_asm); (case kK => first | exact rfl | assumption); (case kd => ktr_room); (case ku => ktr_units); (case kU => k_upd)))
  k_with "NEP" => (first | (with_reducible first | exact h9e | exact Ne.symm h9e | exact Nat.ne_of_gt h9e | exact Nat.ne_of_lt h9e) | (replace h9e := And.left h9e; walk_at "NEP") | (replace h9e := And.right h9e; walk_at "NEP"))
  k_with "NEX" => (first | ((with_reducible rename Hid _ => h9e); walk_at "NEP") | ((with_reducible rename _ ∧ _ => h9e); first | walk_at "NEP" | (clear h9e; walk_at "NEX")))
  k_with "eval ListComp" => (((first | guard_hyp mkNear0 : True | guard_hyp mkNear1 : True); k_here; k_dflt (refine ListCompX (some (Str.ofString "one")) (by k_asm) (by rfl) (by rfl) (by decide) (fun _ => by rfl) (fun _ => by rfl) ?_)))
  k_with "ANDS" => (repeat (rename _ ∧ _ => hAnd9; obtain ⟨_, _⟩ := hAnd9))
  k_with "KNE" => ((refine neN ?_; (try dsimp only); first | assumption | exact Ne.symm (by assumption) | ((try replace hid9 := Hid.out hid9); walk_at "ANDS"; first | assumption | exact Ne.symm (by assumption)) | omega))
  k_with "NE" => (first | assumption | exact Ne.symm (by assumption))
  k_with "Off1" => (first | exact True.intro | assumption | (refine And.intro (by walk_at "NE") ?_; walk_at "Off1"))
  k_with "Off4" => (first | exact True.intro | assumption | (refine And.intro ⟨by walk_at "NE", by walk_at "NE", by walk_at "NE", by walk_at "NE"⟩ ?_; walk_at "Off4"))
  k_with "CompSrc" => (((first | guard_hyp mkNear0 : True | guard_hyp mkNear1 : True); k_dflt (refine LCg.CompSrc.range (n := 5) (by rfl) (by k_asm) (by k_asm) (by assumption) (by decide) (by rfl) (by decide) ?_); intro g8; refine' comp_gen (xs := List.range 5) (fun (a : Nat) v => ∃ t, v = .int (0 + (a : Int)) t) (fun a y => ∃ t, y = .int (MF i9 a) t) rfl (fun i v hi hv => ⟨i, List.getElem?_range hi, hv⟩) (fun a v I8 oI8 C8 oC8 D8 m8 ys8 h8 tk8 E8 ha8 hv8 hC8 hx8 F8 N8 off8 ne8 => ?_) (fun ys8 hy8 => ?_); ((obtain ⟨t8, hv7⟩ := hv8); subst hv7; have ha7 := List.mem_range.mp ha8); skip))
  k_with "CompEnd" => (((first | guard_hyp mkNear0 : True | guard_hyp mkNear1 : True); refine LCg.CompEnd.intro (by assumption) (by assumption) _ (fun p hp => hp) off8 trivial ⟨rfl, ?_⟩))
  k_with "Exists" => (((guard_hyp mkNear0 : True); subst hMF; first | exact near0_t (by assumption) rfl | exact near0_f (by assumption) (by decide)))
  k_with "MSUB" => (first | ((with_reducible show wpAny _ _ (subscriptTail _ _ (Value.ref D9) _) _ _ _); k_dflt (refine matRow (N := D9) (R := R) (by k_asm) (by k_mem) _ rfl (by assumption) ?_)) | ((with_reducible show wpAny _ _ (subscriptTail _ _ (Value.ref (R _)) _) _ _ _); k_dflt (refine matGet (N := D9) (R := R) (ep := ep1) (e := e1) _ (by k_asm) (by lcg_sub) hM1 (by assumption) rfl (by assumption) ?_); intro t8))
  k_with "MWALK" => (repeat (first | walk_at "MSUB" | walk1 | (dsimp only; walk1)))
  k_with "setItem" => (((guard_hyp mkMat : True); k_dflt (refine matSet (N := D9) (R := R) (ep := ep1) (e := e1) (base := [(L' + 1 + 1, oM), (L' + 1, oN), (I, oI)]) (by k_asm) (by k_asm) (by lcg_sub) hap1 hM1 (by assumption) rfl (by assumption) ?_); intro h9 hM2 F9 N9; replace hM1 := hM2; clear hM2; (simp only [matL, List.cons_append, List.nil_append] at N9)))
  k_with "Exists" => (((guard_hyp mkNear1 : True); exact fw_el hMF))
  k_with "NIX" => (first | exact Int.zero_add _ | rfl)
  k_with "NSUB" => (first | ((with_reducible show wpAny _ _ (subscriptTail _ _ (Value.ref N1) _) _ _ _); k_dflt (refine matRow (N := N1) (R := R1) (by k_asm) (by k_mem) _ (by walk_at "NIX") (by assumption) ?_)) | ((with_reducible show wpAny _ _ (subscriptTail _ _ (Value.ref (R1 _)) _) _ _ _); k_dflt (refine matGet (N := N1) (R := R1) (ep := ep1) (e := e1) _ (by k_asm) (by (intro p9 hp9; have hp8 := hmat p9 hp9; k_mem)) hM1 (by assumption) (by walk_at "NIX") (by assumption) ?_); intro t8))
  k_with "NWALK" => (repeat (first | walk_at "NSUB" | walk1 | (dsimp only; walk1)))
  walk_at "CT intro"
  walk_at "CT enterC"
  have hl := isList_sub hP.1 G'
  have mkNear0 : True := trivial
  have hR0 : RoadsAt g' zs := fun z hz => (hP.2 z hz).sub fun b o e => G' b o e (by simp)
  obtain ⟨MF, hMF⟩ : ∃ f, f = near0 := ⟨_, rfl⟩
  k_steps
  refine CompAt.cellRange (n := 5) (by rfl) (by k_asm) (by k_asm) (by assumption) (by decide) (by rfl) (by decide) (by rfl) (fun _ => by rfl) (J := RowsJ (MRow MF) _) ⟨rfl, rfl⟩ ?_ ?_
  · intro C9 D9 I9 i9 t9 m9 oI9 oC9 oc9 ys9 nw9 h9 tk9 E9 hi9 hJ9 hc9 hC9 F9 N9 o3 o1 ne9
    have hid9 := Hid.mk (And.intro ne9 (And.intro o3 o1))
    clear ne9 o3 o1
    (refine (show wpAny _ _ _ _ _ _ from ?_))
    k_steps
    replace hid9 := Hid.out hid9
    obtain ⟨_, o3, o1⟩ := hid9
    exact xend_row (by assumption) (by assumption) o3 o1 (by assumption) fun q => ⟨_, _, _, _, hJ9, mrow_rels (by assumption), q, rfl, rfl⟩
  · intro g8 D9 h9 tk9 ys9 nw9 hJ9 F9 N9 o1
    obtain ⟨R, rs, e9, hM0, hap0⟩ := rowsJ_mat hJ9 o1
    rw [e9] at N9
    subst hMF
    clear mkNear0 e9 hJ9 o1
    have hcc : @Ne Nat (L' + 1 + 1) (L' + 1) := Nat.succ_ne_self _
    have hid9 := Hid.mk hap0
    simp only [MatApart, LCg.Off1, and_true] at hid9
    have hap : ∀ a b, MatApart D9 R [(L' + 1 + 1, a), (L' + 1, b)] := fun a b => matApart_sub hap0 fun p hp => by
      simp only [List.mem_cons, List.not_mem_nil, or_false] at hp
      rcases hp with rfl | rfl
      · exact ⟨_, List.mem_cons_self, rfl⟩
      · exact ⟨_, List.mem_cons_of_mem _ List.mem_cons_self, rfl⟩
    have N8 := N9
    clear N9 hap0
    dsimp only [matL, List.cons_append, List.nil_append] at N8
    (refine (show wpAny _ _ _ _ _ _ from ?_))
    k_steps
    refine For_R (h₀ := g') (by assumption) ?_
    k_steps
    rename Fr _ _ _ _ => F2
    rename News _ _ _ _ => N2
    obtain ⟨oM, oN, N3, hoN, vM, hoM⟩ : ∃ oM oN, News g' L' _ (matL D9 R rs (fun i => (rs i).length) 5 ++ [(L' + 1 + 1, oM), (L' + 1, oN)]) ∧ oN.data = .cell (some (.ref D9)) ∧ ∃ v, oM.data = .cell v := ⟨_, _, N2, by assumption, _, by assumption⟩
    clear N2
    refine ⟨zs.length, _, _, _, fun i m news => ∃ rs ep e, news = matL D9 R rs ep e ++ [(L' + 1 + 1, oM), (L' + 1, oN)] ∧ ∀ j, j < 5 → MRow ((zs.take i).foldl roadM near0) j (rs j),
      ⟨rs, _, 5, rfl, hM0⟩, F2, N3, rfl, .inr (.inr ⟨l, _, .inr ⟨_, _, _, rfl⟩, rfl, by simp, rfl, hl.at fun o e => F2.keep _ o e, .inl hl⟩), ?_, ?_⟩
    · intro i v m₁ news₁ h tk I oI hi hPv hJ F3 N4 off
      obtain ⟨rs1, ep1, e1, rfl, hM1⟩ := hJ
      have hi8 : i < zs.length := hi
      have hz9 : zs[i]? = some zs[i] := List.getElem?_eq_getElem hi8
      have hv9 : v = zs[i].1 := by simpa [hz9] using hPv.symm
      obtain ⟨T9, c9, hvT, hT⟩ := hR0 _ (List.getElem_mem hi8)
      have ok9 := hok _ (List.getElem_mem hi8)
      generalize hzz : zs[i] = z9 at *
      obtain ⟨zv, ⟨rp, rt, ra, rb⟩⟩ := z9
      obtain ⟨na, rfl⟩ := Int.eq_ofNat_of_zero_le ok9.a0
      obtain ⟨nb, rfl⟩ := Int.eq_ofNat_of_zero_le ok9.b0
      have hna : na < 5 := by have := ok9.a1; simp only at this; omega
      have hnb : nb < 5 := by have := ok9.b1; simp only at this; omega
      have hT9 : IsTup g' T9 #[.int rp c9.1, .int rt c9.2.1, .int (na : Int) c9.2.2.1, .int (nb : Int) c9.2.2.2] := hT
      have hv8 : v = .ref T9 := hv9.trans hvT
      clear hT hvT hv9 hPv
      subst hv8
      dsimp only [matL, List.cons_append, List.nil_append] at N4
      have offR : ∀ i, i < 5 → @Ne Nat (R i) I := fun i hi => off _ (List.mem_append_left _ (mem_row i hi))
      have offN : @Ne Nat D9 I := off _ (List.mem_append_left _ List.mem_cons_self)
      have off1 : @Ne Nat (L' + 1 + 1) I := off _ (List.mem_append_right _ List.mem_cons_self)
      have off2 : @Ne Nat (L' + 1) I := off _ (List.mem_append_right _ (List.mem_cons_of_mem _ List.mem_cons_self))
      have hap1 := matApart_add (r := (I, oI)) (hap oM oN) offN offR
      have mkMat : True := trivial
      (refine (show wpAny _ _ _ _ _ _ from ?_))
      walk_at "MWALK"
      rename Fr _ _ _ _ => F9
      rename News _ _ _ _ => N9
      have hM8 := roadM_take hz9 (roadM_row (zv := zv) hM1)
      refine turn_next (news' := matL D9 R _ ep1 e1 ++ [(L' + 1 + 1, oM), (L' + 1, oN)]) F9 ?_ ?_ ⟨_, ep1, e1, rfl, hM8⟩
      · exact fun p hp => N9 p (mem_last hp)
      · exact off_same (by rfl) off
    · rintro m₁ news₁ h tk ⟨rs1, ep1, e1, rfl, hM1⟩ F3 N4
      rw [List.take_length] at hM1
      clear hid9
      k_steps
      refine For_R (h₀ := g') (by assumption) ?_
      k_steps
      rename IsRange _ _ _ _ _ _ _ _ => hr
      rename Fr _ _ _ _ => F5
      rename News _ _ _ _ => N5
      refine ⟨5, _, _, _, NearJ L' (fwK (zs.foldl roadM near0)), .mk _ _ D9 R rs1 ep1 e1 oM oN vM hoN hoM hap hM1, F5, N5, rfl, .inl ⟨_, 0, 5, _, _, _, _, _, rfl, rfl, hr, by decide, by decide, rfl⟩, ?_, ?_⟩
      · clear hap hoN hoM hM1
        intro k v m₁ news₁ h tk I oI hk5 hv9 hJ F3 N6 off
        obtain ⟨t3, rfl⟩ := hv9
        cases hJ with | mk N1 R1 rs1 ep1 e1 oM1 oN1 vM hoN hoM hap1 hM1 => ?_
        rw [Int.zero_add]
        generalize hMM : fwK (zs.foldl roadM near0) k = MM at hM1
        obtain ⟨MF, hMF⟩ : ∃ f, f = fwM MM k := ⟨_, rfl⟩
        have hid9 := Hid.mk (And.intro (off (L' + 1 + 1, oM1) (List.mem_append_right _ List.mem_cons_self)) (matApart_row (hap1 oM1 oN1) (L' + 1 + 1, oM1) List.mem_cons_self))
        have hne0 : @Ne Nat I (L' + 1 + 1) := Ne.symm hid9.out.1
        have hne1 : @Ne Nat N1 (L' + 1 + 1) := hid9.out.2.1
        have hne2 := hid9.out.2.2
        have r0 := hne2 0 (by decide)
        have r1 := hne2 1 (by decide)
        have r2 := hne2 2 (by decide)
        have r3 := hne2 3 (by decide)
        have r4 := hne2 4 (by decide)
        clear hid9 hne2
        dsimp only at r0 r1 r2 r3 r4
        dsimp only [matL, List.cons_append, List.nil_append] at N6
        have mkNear1 : True := trivial
        (refine (show wpAny _ _ _ _ _ _ from ?_))
        k_steps
        rename News _ _ _ _ => N7
        rename Fr _ _ _ _ => F7
        rename IsRange _ _ _ _ _ _ _ _ => hr7
        obtain ⟨oM2, nwB, hoM2, hnwB, N7⟩ : ∃ oM2 nwB, oM2.data = .cell (some (.int k t3)) ∧ nwB = ((I, oI) :: (matL N1 R1 rs1 ep1 e1 ++ [(L' + 1 + 1, oM2), (L' + 1, oN1)])) ∧ News g' L' _ nwB := ⟨_, _, by assumption, rfl, N7⟩
        have hmat : ∀ p ∈ matL N1 R1 rs1 ep1 e1, p ∈ nwB := fun p hp => hnwB ▸ List.mem_cons_of_mem _ (List.mem_append_left _ hp)
        have hcM : (L' + 1 + 1, oM2) ∈ nwB := hnwB ▸ List.mem_cons_of_mem _ (List.mem_append_right _ List.mem_cons_self)
        have hcN : (L' + 1, oN1) ∈ nwB := hnwB ▸ List.mem_cons_of_mem _ (List.mem_append_right _ (List.mem_cons_of_mem _ List.mem_cons_self))
        refine CompAt.cellRange (n := 5) (by rfl) F7 N7 hr7 (by decide) (by rfl) (by decide) (by rfl) (fun _ => by rfl) (J := RowsJ (MRow MF) nwB) ⟨rfl, rfl⟩ ?_ ?_
        · intro C9 D9 I9 i9 t9 m9 oI9 oC9 oc9 ys9 nw9 h9 tk9 E9 hi9 hJ9 hc9 hC9 F9 N9 o3 o1 ne9
          have hid9 := Hid.mk (And.intro ne9 (And.intro o3 o1))
          clear ne9 o3 o1
          have hsub := rowsJ_base hJ9
          replace hmat := fun p hp => hsub p (hmat p hp)
          replace hcM := hsub _ hcM
          replace hcN := hsub _ hcN
          have hmN := hmat _ List.mem_cons_self
          clear N7 F7 hr7 hnwB hsub N6 F3
          (refine (show wpAny _ _ _ _ _ _ from ?_))
          walk_at "NWALK"
          replace hid9 := Hid.out hid9
          obtain ⟨_, o3, o1⟩ := hid9
          exact xend_row (by assumption) (by assumption) o3 o1 (by assumption) fun q => ⟨_, _, _, _, hJ9, mrow_rels (by assumption), q, rfl, rfl⟩
        · intro g8 D9 h9 tk9 ys9 nw9 hJ9 F9 N9 o1
          obtain ⟨R, rs, e9, hM0, hap0⟩ := rowsJ_mat hJ9 o1
          rw [e9] at N9
          subst hMF
          have hap : ∀ a b, MatApart D9 R [(L' + 1 + 1, a), (L' + 1, b), (I, oI)] := fun a b => matApart_sub hap0 fun p hp => by
            simp only [List.mem_cons, List.not_mem_nil, or_false] at hp
            rcases hp with rfl | rfl | rfl
            · exact ⟨_, hcM, rfl⟩
            · exact ⟨_, hcN, rfl⟩
            · exact ⟨(I, oI), hnwB ▸ List.mem_cons_self, rfl⟩
          have N8 : News g' L' h9 (matL D9 R rs (fun i => (rs i).length) 5 ++ [(L' + 1 + 1, oM2), (L' + 1, oN1), (I, oI)]) := fun p hp => N9 p (by
            rcases List.mem_append.mp hp with hp | hp
            · exact List.mem_append_left _ hp
            · refine List.mem_append_right _ ?_
              simp only [List.mem_cons, List.not_mem_nil, or_false] at hp
              rcases hp with rfl | rfl | rfl
              · exact hcM
              · exact hcN
              · exact hnwB ▸ List.mem_cons_self)
          have hid9 := Hid.mk (And.intro (Nat.succ_ne_self (L' + 1)) (And.intro (off (L' + 1, oN1) (List.mem_append_right _ (List.mem_cons_of_mem _ List.mem_cons_self))) (hap oM2 oN1)))
          simp only [MatApart, LCg.Off1, and_true] at hid9
          clear mkNear1 e9 hJ9 o1 N9 hmat hcM hcN hnwB hap0 N7 F7 hr7 N6 F3 r0 r1 r2 r3 r4 hne0 hne1
          dsimp only [matL, List.cons_append, List.nil_append] at N8
          (refine (show wpAny _ _ _ _ _ _ from ?_))
          k_steps
          rename Fr _ _ _ _ => F9
          rename News _ _ _ _ => N9
          have hapc : ∀ a b, MatApart D9 R [(L' + 1 + 1, a), (L' + 1, b)] := fun a b => matApart_cut (hap a b)
          obtain ⟨oN2, hoN2, N9⟩ : ∃ oN2, oN2.data = .cell (some (.ref D9)) ∧ News g' L' _ (matL D9 R rs (fun i => (rs i).length) 5 ++ [(L' + 1 + 1, oM2), (L' + 1, oN2), (I, oI)]) := ⟨_, by assumption, N9⟩
          have rows := matApart_row (hap oM2 oN1) (I, oI) (by simp)
          refine turn_next (news' := matL D9 R rs (fun i => (rs i).length) 5 ++ [(L' + 1 + 1, oM2), (L' + 1, oN2)]) F9 (fun p hp => N9 p (mem_last hp)) (mat_off rows (off (L' + 1 + 1, oM1) (List.mem_append_right _ List.mem_cons_self)) (off (L' + 1, oN1) (List.mem_append_right _ (List.mem_cons_of_mem _ List.mem_cons_self)))) (.mk _ _ D9 R rs _ _ oM2 oN2 _ hoN2 hoM2 hapc (fun j hj => by (show MRow (fwM (fwK (zs.foldl roadM near0) k) k) j (rs j)); rw [hMM]; exact hM0 j hj))
      · intro m₁ news₁ h tk hJ F3 N6
        cases hJ with | mk N1 R1 rs1 ep1 e1 oM1 oN1 vM1 hoN1 hoM1 hap1 hM1 => ?_
        dsimp only [matL, List.cons_append, List.nil_append] at N6
        clear F5 N5 hr hoN hoM
        k_steps
        refine ct_ret hret N G' (by assumption) (by assumption) (by assumption) (by assumption) ⟨N1, R1, rs1, ep1, e1, rfl, rfl, hM1⟩ (fun p hp => List.mem_append_left _ hp) (fun _ h => nomatch h) (fun p _ => .inr (by simp))
end
end Mine
end
section
open PySem PySem.Calls PySem.Spec PySem.W PyProof.Rows
set_option maxRecDepth 100000
set_option maxHeartbeats 4000000
set_option linter.all false
namespace Mine
section
variable {prog : Program} {w : World} {A : Around} {h₀ : Heap} {L : Addr} {m : Str → Option Value} {env : Env} {ct elt : Expr} {x : Str} {scope : Scope} {cl : List (Str × Addr)} {s : Shared} {S : List (Addr × Obj) → Prop} {P : Nat → Value → Prop} {Fin : List Value → List (Addr × Obj) → Prop} {news : List (Addr × Obj)}
/-- a comprehension with a test -/
theorem comp_genT {α : Type} {n : Nat} {xs : List α} (V Rel : α → Value → Prop) (p : α → Bool) (hn : xs.length = n) (hP : ∀ i v, i < n → P i v → ∃ a, xs[i]? = some a ∧ V a v)
    (turn : ∀ a v I oI C oC D m₂ ys h tk (E' : Value → Shared → Prop), a ∈ xs → V a v → LCg.NsObj oC m₂ → m₂ x = some v → Fr h₀ L h m → News h₀ L h ((I, oI) :: (C, oC) :: (D, LCg.lst ys) :: news) → LCg.Off3 I C D news → ((@Ne Nat I C) ∧ (@Ne Nat I D) ∧ (@Ne Nat C D)) →
      wpAny (model prog w) A (isTrue ct (compEnvC scope cl C env) (eval ct (compEnvC scope cl C env))) (fun ok s' => if ok = true then
        wpAny (model prog w) A (eval elt (compEnvC scope cl C env)) (LCg.CompEnd h₀ L m { s with heap := h, toks := tk } I oI C oC D (LCg.lst ys) S (fun y news' => news' = news ∧ p a = true ∧ Rel a y)) E' s'
        else LCg.CompEnd h₀ L m { s with heap := h, toks := tk } I oI C oC D (LCg.lst ys) S (fun _ news' => news' = news ∧ p a = false) Value.none s') E' { s with heap := h, toks := tk })
    (fin : ∀ ys, Rels Rel (xs.filter p) ys → Fin ys news) : LCt.CompRestT prog w A h₀ L m env ct elt x scope cl s S P Fin n 0 [] news := by
  have key : ∀ (j i : Nat) (ys : List Value), i + j = n → Rels Rel ((xs.take i).filter p) ys → LCt.CompRestT prog w A h₀ L m env ct elt x scope cl s S P Fin j i ys news := by
    intro j
    induction j with
    | zero =>
      intro i ys hi hy
      rw [List.take_of_length_le (by omega)] at hy
      exact LCt.CompRestT.zero (fin ys hy)
    | succ j ih =>
      intro i ys hi hy
      refine LCt.CompRestT.succ fun v I oI C oC D m₂ h tk E' hv hC hx F N off ne => ?_
      obtain ⟨a, ha, hav⟩ := hP i v (by omega) hv
      have tk1 : (xs.take (i + 1)).filter p = (xs.take i).filter p ++ [a].filter p := by rw [List.take_add_one, ha, List.filter_append]; rfl
      refine wpAny_mono (turn a v I oI C oC D m₂ ys h tk E' (List.mem_of_getElem? ha) hav hC hx F N off ne) (fun ok s₂ hq => ?_) fun _ _ e => e
      cases ok with
      | true =>
        simp only [if_true] at hq ⊢
        refine wpAny_mono hq (fun y s₃ hq => ?_) fun _ _ e => e
        obtain ⟨h', tk', nw, e, F', N', off', hS, hn', hp, hr⟩ := hq
        rw [hn'] at N' off' hS
        refine ⟨h', tk', news, e, F', N', off', hS, ih (i + 1) _ (by omega) ?_⟩
        rw [tk1]
        refine hy.append ?_
        rw [List.filter_cons, if_pos hp]
        exact .cons hr .nil
      | false =>
        simp only [Bool.false_eq_true, if_false] at hq ⊢
        obtain ⟨h', tk', nw, e, F', N', off', hS, hn', hp⟩ := hq
        rw [hn'] at N' off' hS
        refine ⟨h', tk', news, e, F', N', off', hS, ih (i + 1) _ (by omega) ?_⟩
        rw [tk1, List.filter_cons, if_neg (by rw [hp]; decide), List.filter_nil, List.append_nil]
        exact hy
  exact key n 0 [] (by omega) .nil
end
end Mine
end
section
open PySem PySem.Calls PySem.Spec PySem.W PyProof.Rows
set_option maxRecDepth 100000
set_option maxHeartbeats 8000000
set_option hygiene false
set_option linter.all false
namespace Mine
noncomputable def belowP (f : Nat → Int) (r : Int) : List Nat := (List.range 5).filter fun o => decide (f o ≤ r)
noncomputable def wordsP (f : Nat → Int) (r : Int) : Str := Txt.join (Str.ofString ", ") ((belowP f r).map flagNm)
noncomputable def toldP (f : Nat → Int) (b : Int) (rs : List Int) : List Str := (rs.filter fun r => decide (b ≤ r) && decide (r < 100000000)).map (wordsP f)
theorem told_snoc {f : Nat → Int} {b : Int} {rs : List Int} {i : Nat} {r : Int} (hr : rs[i]? = some r) : toldP f b (rs.take (i + 1)) = toldP f b (rs.take i) ++ toldP f b [r] := by
  unfold toldP
  rw [List.take_add_one, hr, List.filter_append, List.map_append]
  rfl
theorem int_zero {a : Nat} {t : Tok} : ∃ t', Value.int (0 + (a : Int)) t = Value.int (a : Int) t' := ⟨t, by rw [Int.zero_add]⟩
theorem row_at {f : Nat → Int} {a : Nat} (ha : a < 5) : ((List.range 5).map f).getD (0 + (a : Int)).toNat 0 = f a := by
  rw [Int.zero_add, Int.toNat_natCast, List.getD_eq_getElem?_getD, List.getElem?_map, List.getElem?_range ha]; rfl
theorem row_t {f : Nat → Int} {a : Nat} {r : Int} (ha : a < 5) (h : ((List.range 5).map f).getD (0 + (a : Int)).toNat 0 ≤ r) : decide (f a ≤ r) = true := decide_eq_true (by rw [row_at ha] at h; exact h)
theorem row_f {f : Nat → Int} {a : Nat} {r : Int} (ha : a < 5) (h : ¬ ((List.range 5).map f).getD (0 + (a : Int)).toNat 0 ≤ r) : decide (f a ≤ r) = false := decide_eq_false (by rw [row_at ha] at h; exact h)
theorem below_ints {f : Nat → Int} {r : Int} {ys : List Value} (h : Rels (fun (a : Nat) y => ∃ t, y = .int (a : Int) t) ((List.range 5).filter fun o => decide (f o ≤ r)) ys) : IntsAre ys ((belowP f r).map fun p : Nat => (p : Int)) := Rels.ints h
theorem below_lt {f : Nat → Int} {r : Int} : ∀ p ∈ belowP f r, p < 5 := fun p hp => List.mem_range.mp (List.mem_filter.mp hp).1
theorem below_len {f : Nat → Int} {r : Int} : (belowP f r).length ≤ 5 := by
  have := List.length_filter_le (fun o => decide (f o ≤ r)) (List.range 5)
  simpa [belowP] using this
theorem join_len (sep : Str) (l : List Str) : (Txt.join sep l).length ≤ (l.map (·.length)).sum + l.length * sep.length := by
  have := size_glued sep l
  show (Builtin.Str.glued sep l).length ≤ _
  rw [this]
  exact Nat.add_le_add_left (Nat.mul_le_mul_right _ (Nat.sub_le ..)) _
theorem words_len {ps : List Nat} (h : ps.length ≤ 5) : (Txt.join (Str.ofString ", ") (ps.map flagNm)).length ≤ 65 := by
  have h1 := join_len (Str.ofString ", ") (ps.map flagNm)
  have h2 := sum_len flagNm 11 flagNm_len ps
  have h3 : (Str.ofString ", ").length = 2 := by decide +kernel
  rw [h3, List.length_map] at h1
  omega
theorem told_w {f : Nat → Int} {b : Int} {rs : List Int} (h : rs.length ≤ 5) : ((toldP f b rs).map (·.length)).sum + (toldP f b rs).length ≤ 330 := by
  unfold toldP
  have h0 := List.length_filter_le (fun r => decide (b ≤ r) && decide (r < 100000000)) rs
  generalize rs.filter (fun r => decide (b ≤ r) && decide (r < 100000000)) = ts at h0
  have key : ∀ ts : List Int, (((ts.map (wordsP f)).map (·.length)).sum ≤ ts.length * 65) := by
    intro ts
    induction ts with
    | nil => simp
    | cons a ts ih =>
      have := words_len (below_len (f := f) (r := a))
      simp only [List.map_cons, List.sum_cons, List.length_cons, Nat.add_mul, Nat.one_mul]
      have : (wordsP f a).length ≤ 65 := this
      omega
  have := key ts
  rw [List.length_map]
  omega
noncomputable def ToldRet (f : Nat → Int) (b : Int) (r : Value) : Prop := ∃ rs : List Int, rs.Pairwise (· ≥ ·) ∧ rs.Nodup ∧ (∀ x, x ∈ rs ↔ x ∈ (List.range 5).map f) ∧ ∃ t, r = .str (Str.ofString "/" ++ Txt.join (Str.ofString "/") (toldP f b rs)) t
theorem told_one {f : Nat → Int} {b r : Int} (h1 : b ≤ r) (h2 : r < 100000000) : toldP f b [r] = [wordsP f r] := by simp [toldP, h1, h2]
theorem told_no {f : Nat → Int} {b r : Int} (h : ¬ (b ≤ r ∧ r < 100000000)) : toldP f b [r] = [] := by
  unfold toldP
  rw [List.filter_cons, if_neg (by simpa [decide_eq_true_eq, Bool.and_eq_true] using h)]
  rfl
section
variable (w : World) (mean : ExcName → Option Value) (mg mb : Str → Option Value)
theorem told_ct (l : Addr) (vs : List Value) (f : Nat → Int) (b : Int) (t : Tok) (hI : IntsAre vs ((List.range 5).map f)) : Ct w mean mg mb 181 2 16 [] [] (fun h => h.IsList l vs.toArray) [.ref l, .int b t] (fun r made => made = [] ∧ ToldRet f b r) := by
  k_with_none
  k_with "CT intro" => ((unfold Ct; k_fill; intro dp un gd cn cs a ccd cl outer A₀ base h₀ L m s Q E B F X N T hk hP hd hu hret; refine wpAny_call ?_))
  k_with "CT enter" => ((k_dflt (refine' code_defG ?k1 ?k2 ?k3 ?k4 ?k5 ?kA ?kF ?kK ?k6 ?k7 ?k8 ?k9 ?kB ?_ ?c2 ?c3 ?c4 ?c5; (case kA => exact rfl); (case kF => exact rfl); (case kK => assumption); (case k1 => k_asm); (case k2 => k_asm); (case k3 => k_asm); (case k4 => k_asm); (case k5 => k_asm); (case k6 => k_is); (case k7 => k_is); (case k8 => ktr_room); (case k9 => exact BindsTo.of_eq rfl); (case c5 => decide); (case kB => exact locs rfl); (case c2 => exact rfl); (case c3 => exact rfl); (case c4 => exact rfl); k_whole; intro g' L' h' FG' F' N' B' X' T' G'; (try dsimp only); (try k_lift B'); (try k_fold))))
  k_with "CT enterC" => ((k_dflt (refine' enterCG ?k1 ?k2 ?k3 ?k4 ?k5 ?kA ?kF ?kK ?k6 ?k7 ?k8 ?k9 ?kB ?kD ?_ ?c2 ?c3 ?c4; (case kA => exact rfl); (case kF => exact rfl); (case kK => assumption); (case k1 => k_asm); (case k2 => k_asm); (case k3 => k_asm); (case k4 => k_asm); (case k5 => k_asm); (case k6 => k_is); (case k7 => k_is); (case k8 => ktr_room); (case k9 => exact BindsTo.of_eq rfl); (case kB => exact rfl); (case kD => decide +kernel); (case c2 => exact rfl); (case c3 => exact rfl); (case c4 => exact rfl); k_whole; intro g' L' h' tk' cells' FG' F' N' Y' B' X' T' l1 G'; (try k_lt l1); k_cells Y'; (try simp only [List.cons_append, List.nil_append] at N'); (try dsimp only); (try k_lift B'); (try k_fold))))
  k_with "CT use0" => (((case k1 => k_asm); (case k2 => k_asm); (case k3 => k_asm); (case k4 => k_asm); (case k5 => k_asm); (case kK => first | exact rfl | assumption); (case kd => ktr_room); (case ku => ktr_units)))
  k_with "CT useM" => (((case k1 => k_asm); (case k2 => k_asm); (case k3 => k_asm); (case k4 => k_asm); (case k5 => k_asm); (case kK => first | exact rfl | assumption); (case kd => ktr_room); (case ku => ktr_units); (case kU => k_upd)))
  k_with "NEP" => (first | (with_reducible first | exact h9e | exact Ne.symm h9e | exact Nat.ne_of_gt h9e | exact Nat.ne_of_lt h9e) | (replace h9e := And.left h9e; walk_at "NEP") | (replace h9e := And.right h9e; walk_at "NEP"))
  k_with "NEX" => (first | ((with_reducible rename Hid _ => h9e); walk_at "NEP") | ((with_reducible rename _ ∧ _ => h9e); first | walk_at "NEP" | (clear h9e; walk_at "NEX")))
  k_with "KNE" => ((refine neN ?_; (try dsimp only); first | (with_reducible first | assumption | exact Ne.symm (by assumption) | exact Nat.ne_of_gt (by assumption) | exact Nat.ne_of_lt (by assumption)) | walk_at "NEX" | omega))
  k_with "call type:set cons nil" => (((guard_hyp mkTold : True); k_here; k_dflt (refine mkSet_N (by assumption) (by assumption) (by rfl) (Fr.lst (by assumption) hl) hI (by omega) ?_); intro D8 h8 tk8 es8 F8 N8 hS8 hE8 hz8 hd8 hm8))
  k_with "call builtin:sorted" => (((guard_hyp mkTold : True); k_here; k_dflt (refine sortedSet_N (by assumption) (by assumption) (by rfl) hS8 hE8 hz8 ?_); intro c7 h7 out7 rs7 e7 F7 N7 off7 hi7 hp7 ho7))
  k_with "eval ListComp" => (((guard_hyp mkTold : True); k_here; k_dflt (refine LCt.ListComp_T (F₀ := by k_asm) (by rfl) (by decide) (by rfl) (by decide) (by rfl) ?_)))
  k_with "CompSrcT" => (((guard_hyp mkTold : True); k_dflt (refine LCt.CompSrcT.range (n := 5) (by rfl) (by k_asm) (by k_asm) (by assumption) (by decide) (by rfl) (by decide) ?_); intro g8; refine' comp_genT (xs := List.range 5) (fun (a : Nat) v => ∃ t, v = .int (0 + (a : Int)) t) (fun a y => ∃ t, y = .int (a : Int) t) (fun o => decide (f o ≤ r)) rfl (fun i v hi hv => ⟨i, List.getElem?_range hi, hv⟩) (fun a v I8 oI8 C8 oC8 D8 m8 ys8 h8 tk8 E8 ha8 hv8 hC8 hx8 F8 N8 off8 ne8 => ?_) (fun ys8 hy8 => ?_); ((obtain ⟨t8, hv7⟩ := hv8); subst hv7; have ha7 := List.mem_range.mp ha8); skip))
  k_with "CompEnd" => (((guard_hyp mkTold : True); refine LCg.CompEnd.intro (by assumption) (by assumption) _ (fun p hp => hp) off8 trivial (by first | exact ⟨rfl, row_t ha7 (by assumption), int_zero⟩ | exact ⟨rfl, row_f ha7 (by assumption)⟩)))
  k_with "call ref" => (((guard_hyp mkTold : True); k_here; (with_reducible show wpAny _ _ (call (Value.ref 176) [Value.ref _]) _ _ _); k_dflt (refine' ct_use0 (words_ct _ _ _ _ _ ys8 (belowP f r) (below_ints hy8) below_lt below_len) ?k1 ?k2 ?k3 ?k4 ?k5 ?kK ?kd ?ku (News.isList (by k_asm) (by k_mem)) ?_; walk_at "CT use0"; rintro r9 h9 tk9 ⟨t9, e9⟩ F9 N9 k9; subst e9)))
  k_with "call builtin:str.join" => (((guard_hyp mkTold : True); k_here; k_dflt (refine join_listW (by is_list) hS (by decide +kernel) (Nat.le_trans (told_w hr5) (by decide)) ?_); intro _ _))
  walk_at "CT intro"
  have hN0 := N
  walk_at "CT enterC"
  have hl := isList_sub hP G'
  have hlen5 : ((List.range 5).map f).length = 5 := by simp
  have mkTold : True := trivial
  k_steps
  refine For_R (h₀ := g') (by assumption) ?_
  k_steps
  obtain ⟨N, oR, oW, mm, N6, off6, lt6, F6, hmN, hmB, hoR, hoW⟩ : ∃ (N : Addr) (oR oW : Obj) (mm : Str → Option Value), News g' L' h7 [(c7, W.listOf out7 e7), (N, W.listOf #[] 0), (L' + 1 + 1, oR), (L' + 1, oW)] ∧ LCg.Off1 c7 [(N, W.listOf #[] 0), (L' + 1 + 1, oR), (L' + 1, oW)] ∧ (@LT.lt Nat _ (L' + 1 + 1) N ∧ @LT.lt Nat _ (L' + 1) N) ∧ Fr g' L' h7 mm ∧ mm (Str.ofString "names") = some (.ref N) ∧ mm (Str.ofString "bound") = some (.int b t) ∧ (∃ v, oR.data = .cell v) ∧ oW.data = .cell (some (.ref l))   := ⟨_, _, _, _, N7, off7, by assumption, F7, rfl, rfl, ⟨_, by assumption⟩, by assumption⟩
  have hlc : rs7.length = out7.size := by have := IntsAre.length hi7; simpa using this.symm
  have hr5 : rs7.length ≤ 5 := by rw [hp7.length_eq]; simpa [keys] using hz8
  simp only [LCg.Off1, and_true] at off6
  obtain ⟨ne1, ne2, ne3⟩ := off6
  refine ⟨rs7.length, _, _, _, fun i m news => ∃ (its : Array Value) (ep : Nat) (oR : Obj) (u : Str → Option Value), m = (fun y => if y = Str.ofString "names" then some (.ref N) else if y = Str.ofString "bound" then some (.int b t) else u y) ∧ news = [(c7, W.listOf out7 e7), (N, W.listOf its ep), (L' + 1 + 1, oR), (L' + 1, oW)] ∧ (∃ v, oR.data = .cell v) ∧ its.size ≤ i ∧ StrsAre its.toList (toldP f b (rs7.take i)),
    ⟨#[], 0, oR, _, fr2 hmN hmB, rfl, hoR, Nat.le_refl _, .nil⟩, F6, N6, rfl, .inr (.inr ⟨c7, out7, .inl ⟨_, _, rfl⟩, rfl, hlc.symm, rfl, ⟨_, (N6 _ (List.mem_cons_self ..)).1, rfl, _, rfl⟩, .inr ⟨W.listOf out7 e7, e7, rfl, rfl, fun i m nw h => by obtain ⟨_, _, _, _, _, rfl, _⟩ := h; exact List.mem_cons_self ..⟩⟩), ?_, ?_⟩
  · rintro i v m₁ news₁ h tk I oI hi5 hPv ⟨its, ep, oR1, u, rfl, rfl, ⟨vR, hoR1⟩, hsz, hS⟩ F3 N3 off
    have hi5' : i < rs7.length := hi5
    obtain ⟨r, tr, rfl, hr⟩ := IntsAre.at hi7 i v (by simpa using hPv)
    clear F6 N6 F7 N7 F8 N8 hS8 hE8 hoR
    have offc : @Ne Nat c7 I := off _ (List.mem_cons_self ..)
    have offN : @Ne Nat N I := off (N, W.listOf its ep) (by simp)
    have off1 : @Ne Nat (L' + 1 + 1) I := off (L' + 1 + 1, oR1) (by simp)
    have off2 : @Ne Nat (L' + 1) I := off (L' + 1, oW) (by simp)
    (refine (show wpAny _ _ _ _ _ _ from ?_))
    k_steps
    all_goals (rename Fr _ _ _ _ => F9; rename News _ _ _ _ => N9)
    · refine turn_next F9 (fun p hp => N9 p (.tail _ hp)) (fun p hp => ?_) ⟨its.push _, _, _, u, rfl, rfl, ⟨_, by assumption⟩, by rw [Array.size_push]; omega, ?_⟩
      · simp only [List.mem_cons, List.not_mem_nil, or_false] at hp
        rcases hp with rfl | rfl | rfl | rfl <;> assumption
      · rw [told_snoc hr, told_one (by assumption) (by assumption), Array.toList_push]
        exact StrsAre.append' hS (.cons _ _ .nil)
    all_goals
      refine turn_next F9 (fun p hp => N9 p hp) (fun p hp => ?_) ⟨its, _, _, u, rfl, rfl, ⟨_, by assumption⟩, by omega, ?_⟩
      · simp only [List.mem_cons, List.not_mem_nil, or_false] at hp
        rcases hp with rfl | rfl | rfl | rfl <;> assumption
      · rw [told_snoc hr, told_no (by first | exact fun h => absurd h.1 (by assumption) | exact fun h => absurd h.2 (by assumption)), List.append_nil]
        exact hS
  · rintro m₁ news₁ h tk ⟨its, ep, oR1, u, rfl, rfl, hoR1, hsz, hS⟩ F3 N3
    rw [List.take_length] at hS
    clear F6 N6 F7 N7 F8 N8 hS8 hE8 hoR
    have hsz5 : its.size ≤ 5 := Nat.le_trans hsz hr5
    have hJ9 : (Txt.join (Str.ofString "/") (toldP f b rs7)).length ≤ 700 := by
      have h1 := join_len (Str.ofString "/") (toldP f b rs7)
      have h2 := told_w (f := f) (b := b) hr5
      have h3 : (Str.ofString "/").length = 1 := by decide +kernel
      rw [h3] at h1
      omega
    k_steps
    have hnd : rs7.Nodup := hp7.nodup_iff.mpr hd8
    exact ct_ret0 hret hN0 G' (by assumption) (by assumption) (by assumption) (by assumption) ⟨rfl, rs7, ho7, hnd, fun x => (hp7.mem_iff).trans (hm8 x), _, rfl⟩
end
end Mine
end
section
open PySem PySem.Calls PySem.Spec PySem.W PyProof.Rows
set_option maxRecDepth 100000
set_option maxHeartbeats 8000000
set_option hygiene false
set_option linter.all false
namespace Mine
structure KS where
  g : Nat → Nat
  c : Nat → List Nat
noncomputable def ks0 : KS := ⟨fun i => 2 ^ i, fun i => [2 ^ i]⟩
noncomputable def pathS (c : List Nat) : Str := Txt.join (Str.ofString "/") (c.map nmS)
noncomputable abbrev gInts (g : Nat → Nat) : List Int := ((List.range 5).map g).map fun p : Nat => (p : Int)
noncomputable abbrev cStrs (c : Nat → List Nat) : List Str := (List.range 5).map fun i => pathS (c i)
noncomputable def kstep (s : KS) (r : Road) : KS := if s.g r.a.toNat = s.g r.b.toNat then s else
  ⟨fun i => if (s.g r.a.toNat ||| s.g r.b.toNat) / 2 ^ i % 2 = 1 then s.g r.a.toNat ||| s.g r.b.toNat else s.g i, fun i => if (s.g r.a.toNat ||| s.g r.b.toNat) / 2 ^ i % 2 = 1 then (s.g r.a.toNat ||| s.g r.b.toNat) :: s.c i else s.c i⟩
structure KInv (s : KS) (n : Nat) : Prop where
  g : ∀ i, i < 5 → 1 ≤ s.g i ∧ s.g i < 32
  c : ∀ i, i < 5 → s.c i ≠ [] ∧ (s.c i).length ≤ n + 1 ∧ ∀ x ∈ s.c i, 1 ≤ x ∧ x < 32
theorem KInv.start : KInv ks0 0 := ⟨five (by decide) (by decide) (by decide) (by decide) (by decide), five (by decide) (by decide) (by decide) (by decide) (by decide)⟩
theorem or32 : ∀ a, a < 32 → ∀ b, b < 32 → 1 ≤ a → 1 ≤ a ||| b ∧ a ||| b < 32 := by decide +kernel
theorem KInv.step {s : KS} {n : Nat} (h : KInv s n) {r : Road} (hr : RoadOk r) : KInv (kstep s r) (n + 1) := by
  have ha : r.a.toNat < 5 := by have := hr.a0; have := hr.a1; omega
  have hb : r.b.toNat < 5 := by have := hr.b0; have := hr.b1; omega
  have ho := or32 _ (h.g _ ha).2 _ (h.g _ hb).2 (h.g _ ha).1
  unfold kstep
  split
  · exact ⟨h.g, fun i hi => ⟨(h.c i hi).1, by have := (h.c i hi).2.1; omega, (h.c i hi).2.2⟩⟩
  · refine ⟨fun i hi => ?_, fun i hi => ?_⟩
    · dsimp only; split
      · exact ho
      · exact h.g i hi
    · dsimp only; split
      · refine ⟨by simp, by rw [List.length_cons]; have := (h.c i hi).2.1; omega, fun x hx => ?_⟩
        rcases List.mem_cons.mp hx with rfl | hx
        · exact ho
        · exact (h.c i hi).2.2 x hx
      · exact ⟨(h.c i hi).1, by have := (h.c i hi).2.1; omega, (h.c i hi).2.2⟩
noncomputable def kfold (l : List ZR) : KS := l.foldl (fun s z => kstep s z.2) ks0
theorem kinv_fold : ∀ (l : List ZR) (s : KS) (n : Nat), KInv s n → (∀ z ∈ l, RoadOk z.2) → KInv (l.foldl (fun s z => kstep s z.2) s) (n + l.length)
  | [], _, _, h, _ => h
  | z :: l, s, n, h, hl => by
    rw [List.length_cons, show n + (l.length + 1) = n + 1 + l.length by omega]
    exact kinv_fold l _ _ (h.step (hl z (.head _))) fun y hy => hl y (.tail _ hy)
theorem kfold_inv (l : List ZR) (h : ∀ z ∈ l, RoadOk z.2) : KInv (kfold l) l.length := by
  have := kinv_fold l ks0 0 .start h
  rwa [Nat.zero_add] at this
noncomputable def slash : Str := Str.ofString "/"
theorem pathS_one (n : Nat) : pathS [n] = nmS n := by
  show Builtin.Str.glued _ [nmS n] = nmS n
  rw [StrLaws.glued_eq_join]; rfl
theorem pathS_cons (n k : Nat) (c : List Nat) : pathS (n :: k :: c) = nmS n ++ (Str.ofString "/" ++ pathS (k :: c)) := by
  show Builtin.Str.glued _ (nmS n :: nmS k :: c.map nmS) = nmS n ++ (_ ++ Builtin.Str.glued _ (nmS k :: c.map nmS))
  rw [StrLaws.glued_eq_join, StrLaws.glued_eq_join]
  show nmS n ++ Str.ofString "/" ++ _ = _
  rw [Str.append_assoc]
theorem nm_facts : ∀ n, n < 32 → 1 ≤ n → 1 ≤ (nmS n).length ∧ (nmS n).length ≤ 60 ∧ Txt.startswith (nmS n) (Str.ofString "/") = false ∧ Txt.endswith (nmS n) (Str.ofString "/") = false := by decide +kernel
theorem sw_slash (x : Str) : Txt.startswith x (Str.ofString "/") = (x.cps.toList.head? == some 47) := by
  have e1 : (Str.ofString "/").length = 1 := by decide +kernel
  have e2 : (Str.ofString "/").cps.toList = [47] := by decide +kernel
  show (decide (0 + (Str.ofString "/").length ≤ x.length) && Builtin.Str.subAt x (Str.ofString "/") 0) = _
  rw [StrLaws.subAt_eq, e1, e2, List.drop_zero]
  have e3 : x.length = x.cps.toList.length := by simp [Str.length]
  rw [e3]
  cases x.cps.toList with
  | nil => rfl
  | cons a l => simp
theorem head_append {x y : Str} (h : 1 ≤ x.length) : (x ++ y).cps.toList.head? = x.cps.toList.head? := by
  rw [Str.cps_append, Array.toList_append]
  cases e : x.cps.toList with
  | nil =>
    have : x.length = x.cps.toList.length := by simp [Str.length]
    rw [e] at this; simp at this; omega
  | cons a l => rfl
theorem path_sw {k : Nat} (c : List Nat) (h1 : 1 ≤ k) (h2 : k < 32) : Txt.startswith (pathS (k :: c)) (Str.ofString "/") = false := by
  obtain ⟨f1, _, f3, _⟩ := nm_facts k h2 h1
  cases c with
  | nil => rw [pathS_one]; exact f3
  | cons n c => rw [pathS_cons, sw_slash, head_append f1, ← sw_slash]; exact f3
theorem joinS_path {n : Nat} {c : List Nat} (h1 : 1 ≤ n) (h2 : n < 32) (hc : c ≠ []) (hx : ∀ x ∈ c, 1 ≤ x ∧ x < 32) : joinS (nmS n) (pathS c) = pathS (n :: c) := by
  obtain ⟨k, c, rfl⟩ : ∃ k d, c = k :: d := by
    cases c with
    | nil => exact absurd rfl hc
    | cons k d => exact ⟨k, d, rfl⟩
  have hk := hx k (.head _)
  obtain ⟨_, _, _, f4⟩ := nm_facts n h2 h1
  unfold joinS
  rw [path_sw c hk.1 hk.2, f4, pathS_cons]
  simp
theorem joinS_root {c : List Nat} (hc : c ≠ []) (hx : ∀ x ∈ c, 1 ≤ x ∧ x < 32) : joinS (Str.ofString "/") (pathS c) = Str.ofString "/" ++ pathS c := by
  obtain ⟨k, c, rfl⟩ : ∃ k d, c = k :: d := by
    cases c with
    | nil => exact absurd rfl hc
    | cons k d => exact ⟨k, d, rfl⟩
  have hk := hx k (.head _)
  unfold joinS
  rw [path_sw c hk.1 hk.2, show Txt.endswith (Str.ofString "/") (Str.ofString "/") = true by decide +kernel]
  simp
theorem pathS_len : ∀ c : List Nat, (∀ x ∈ c, 1 ≤ x ∧ x < 32) → (pathS c).length ≤ c.length * 61 := by
  intro c hc
  have h1 := join_len (Str.ofString "/") (c.map nmS)
  have h3 : (Str.ofString "/").length = 1 := by decide +kernel
  rw [h3, List.length_map] at h1
  have key : ((c.map nmS).map (·.length)).sum ≤ c.length * 60 := by
    clear h1
    induction c with
    | nil => simp
    | cons a c ih =>
      have := (nm_facts a (hc a (.head _)).2 (hc a (.head _)).1).2.1
      have := ih fun x hx => hc x (.tail _ hx)
      simp only [List.map_cons, List.sum_cons, List.length_cons, Nat.add_mul, Nat.one_mul]
      omega
  show (Txt.join _ _).length ≤ _
  omega
theorem bit_t : ∀ n : Nat, n < 32 → ∀ i : Nat, i < 5 → Builtin.bitAnd (Int.fdiv (n : Int) (2 ^ i)) 1 = ((n / 2 ^ i % 2 : Nat) : Int) := by decide +kernel
theorem bit_or : ∀ a : Nat, a < 32 → ∀ b : Nat, b < 32 → Builtin.bitOr (a : Int) (b : Int) = ((a ||| b : Nat) : Int) := by decide +kernel
noncomputable def popSeq : Nat → List ZR → List ZR
  | 0, _ => []
  | _ + 1, [] => []
  | k + 1, z :: r => (popP (z :: r) z).1 :: popSeq k (popP (z :: r) z).2
theorem pop_d (M : List ZR) (z d e : ZR) : popP (M ++ [z]) d = popP (M ++ [z]) e := by
  unfold popP
  rw [List.getLastD_concat, List.getLastD_concat]
theorem popSeq_snoc (k : Nat) (M : List ZR) (z : ZR) : popSeq (k + 1) (M ++ [z]) = (popP (M ++ [z]) z).1 :: popSeq k (popP (M ++ [z]) z).2 := by
  cases M with
  | nil => rfl
  | cons y r =>
    show (popP (y :: r ++ [z]) y).1 :: popSeq k (popP (y :: r ++ [z]) y).2 = _
    rw [pop_d (y :: r) z y z]
theorem popP_all {P : ZR → Prop} {M : List ZR} {z : ZR} (h : ∀ y ∈ M ++ [z], P y) : P (popP (M ++ [z]) z).1 ∧ (∀ y ∈ (popP (M ++ [z]) z).2, P y) ∧ (popP (M ++ [z]) z).2.length = M.length := by
  unfold popP
  rw [List.dropLast_concat, List.getLastD_concat]
  cases M with
  | nil => exact ⟨h z (by simp), (fun _ h => nomatch h), rfl⟩
  | cons y r =>
    dsimp only
    exact ⟨h y (by simp), siftupP_mem (P := P) fun x hx => mem_set_of (P := P) (fun x hx => h x (List.mem_append_left _ hx)) (h z (by simp)) hx, by rw [siftupP_len, List.length_set]⟩
noncomputable def heapP (zs : List ZR) : List ZR := siftupP (siftupP (siftupP zs 2) 1) 0
theorem bit_shr : ∀ n : Nat, n < 32 → ∀ i : Nat, i < 5 → Int.fdiv (n : Int) (2 ^ i) = ((n / 2 ^ i : Nat) : Int) ∧ n / 2 ^ i < 32 := by decide +kernel
theorem bit_one : ∀ n : Nat, n < 32 → Builtin.bitAnd (n : Int) 1 = ((n % 2 : Nat) : Int) := by decide +kernel
theorem strs_at : ∀ {vs : List Value} {xs : List Str}, StrsAre vs xs → ∀ (i : Nat) (v : Value), vs[i]? = some v → ∃ x t, xs[i]? = some x ∧ v = .str x t
  | _, _, .nil, i, v, h => by simp at h
  | _, _, .cons x t r, 0, v, h => by simp at h; exact ⟨x, t, rfl, h.symm⟩
  | _, _, .cons x t r, i + 1, v, h => by
    simp only [List.getElem?_cons_succ] at h ⊢
    exact strs_at r i v h
theorem cstr_at {c : Nat → List Nat} {ps : List Value} (h : StrsAre ps (cStrs c)) {i : Nat} {v : Value} (hi : i < 5) (hv : ps[i]? = some v) : ∃ t, v = .str (pathS (c i)) t := by
  obtain ⟨x, t, hx, rfl⟩ := strs_at h i v hv
  rw [List.getElem?_map, List.getElem?_range hi] at hx
  cases hx
  exact ⟨t, rfl⟩
theorem gint_at {g : Nat → Nat} {gs : List Value} (h : IntsAre gs (gInts g)) {i : Nat} {v : Value} (hi : i < 5) (hv : gs[i]? = some v) : ∃ t, v = .int ((g i : Nat) : Int) t := by
  obtain ⟨k, t, rfl, hk⟩ := IntsAre.at h i v hv
  rw [List.getElem?_map, List.getElem?_map, List.getElem?_range hi] at hk
  cases hk
  exact ⟨t, rfl⟩
theorem rels_strs {c : Nat → List Nat} {ys : List Value} (h : Rels (fun i y => ∃ t, y = .str (pathS (c i)) t) (List.range 5) ys) : StrsAre ys (cStrs c) := Rels.strs h
theorem rels_ints {g : Nat → Nat} {ys : List Value} (h : Rels (fun i y => ∃ t, y = .int ((g i : Nat) : Int) t) (List.range 5) ys) : IntsAre ys (gInts g) := by
  have := Rels.ints h
  show IntsAre ys (((List.range 5).map g).map fun p : Nat => (p : Int))
  rw [List.map_map]; exact this
theorem kfold_snoc (l : List ZR) (z : ZR) : kfold (l ++ [z]) = kstep (kfold l) z.2 := by simp [kfold, List.foldl_append]
theorem kstep_same {s : KS} {r : Road} (h : s.g r.a.toNat = s.g r.b.toNat) : kstep s r = s := by unfold kstep; rw [if_pos h]
theorem kstep_c {s : KS} {r : Road} (h : ¬ s.g r.a.toNat = s.g r.b.toNat) (i : Nat) : (kstep s r).c i = if (s.g r.a.toNat ||| s.g r.b.toNat) / 2 ^ i % 2 = 1 then (s.g r.a.toNat ||| s.g r.b.toNat) :: s.c i else s.c i := by unfold kstep; rw [if_neg h]
theorem kstep_g {s : KS} {r : Road} (h : ¬ s.g r.a.toNat = s.g r.b.toNat) (i : Nat) : (kstep s r).g i = if (s.g r.a.toNat ||| s.g r.b.toNat) / 2 ^ i % 2 = 1 then s.g r.a.toNat ||| s.g r.b.toNat else s.g i := by unfold kstep; rw [if_neg h]
theorem kc_t {s : KS} {p t : Int} {a b : Nat} {i : Nat} (hne : ¬ s.g a = s.g b) (h : ¬ (((s.g a ||| s.g b) / 2 ^ i % 2 : Nat) : Int) = 0) : (kstep s ⟨p, t, (a : Int), (b : Int)⟩).c i = (s.g a ||| s.g b) :: s.c i ∧ (kstep s ⟨p, t, (a : Int), (b : Int)⟩).g i = s.g a ||| s.g b := by
  have e : (s.g a ||| s.g b) / 2 ^ i % 2 = 1 := by omega
  exact ⟨(kstep_c (r := ⟨p, t, (a : Int), (b : Int)⟩) hne i).trans (if_pos e), (kstep_g (r := ⟨p, t, (a : Int), (b : Int)⟩) hne i).trans (if_pos e)⟩
theorem kc_f {s : KS} {p t : Int} {a b : Nat} {i : Nat} (hne : ¬ s.g a = s.g b) (h : (((s.g a ||| s.g b) / 2 ^ i % 2 : Nat) : Int) = 0) : (kstep s ⟨p, t, (a : Int), (b : Int)⟩).c i = s.c i ∧ (kstep s ⟨p, t, (a : Int), (b : Int)⟩).g i = s.g i := by
  have e : ¬ (s.g a ||| s.g b) / 2 ^ i % 2 = 1 := by omega
  exact ⟨(kstep_c (r := ⟨p, t, (a : Int), (b : Int)⟩) hne i).trans (if_neg e), (kstep_g (r := ⟨p, t, (a : Int), (b : Int)⟩) hne i).trans (if_neg e)⟩
theorem int_eq {a b : Int} {t : Tok} (h : a = b) : ∃ t', Value.int a t = .int b t' := ⟨t, by rw [h]⟩
end Mine
end
section
open PySem PySem.Calls PySem.Spec PySem.W PyProof.Rows
set_option maxRecDepth 100000
set_option maxHeartbeats 4000000
set_option linter.all false
namespace Mine
theorem slot_map_next : Slot "map" "__next__" "map.__next__" :=
  .of (owner := "map") (n := "__next__") (by rw [typeLookup_type, builtinLookup_eq_fast]; kernel_rfl) (by decide +kernel) (by decide +kernel) (by decide +kernel)
    (by first | exact .inl (by decide +kernel) | exact .inr (by decide +kernel)) (by rw [isSubtype_type]; kernel_rfl)
theorem slot_map_iter : Slot "map" "__iter__" "map.__iter__" :=
  .of (owner := "map") (n := "__iter__") (by rw [typeLookup_type, builtinLookup_eq_fast]; kernel_rfl) (by decide +kernel) (by decide +kernel) (by decide +kernel)
    (by first | exact .inl (by decide +kernel) | exact .inr (by decide +kernel)) (by rw [isSubtype_type]; kernel_rfl)
theorem slot_map_init : Slot "map" "__init__" "object.__init__" :=
  .of (owner := "object") (n := "__init__") (by rw [typeLookup_type, builtinLookup_eq_fast]; kernel_rfl) (by decide +kernel) (by decide +kernel) (by decide +kernel)
    (by first | exact .inl (by decide +kernel) | exact .inr (by decide +kernel)) (by rw [isSubtype_type]; kernel_rfl)
theorem entry_map_next : entryFor table "map.__next__" = some Builtin.«map.__next__» := entryFor_of_tree (by kernel_rfl)
theorem entry_map_new : entryFor table "map.__new__" = some Builtin.«map.__new__» := entryFor_of_tree (by kernel_rfl)
theorem entry_map_iter : entryFor table "map.__iter__" = some Builtin.«dict_keyiterator.__iter__» := entryFor_alias (id' := "dict_keyiterator.__iter__") (by kernel_rfl) (by first | rfl | decide +kernel | (unfold String.splitOn; simp +decide [String.splitOnAux])) (by decide +kernel) (by kernel_rfl)
theorem args_map_next (a : Value) : argsOk "map.__next__" ⟨[a], []⟩ := by unfold argsOk; kernel_rfl
theorem args_map_iter (a : Value) : argsOk "map.__iter__" ⟨[a], []⟩ := by unfold argsOk; kernel_rfl
theorem nolen_map : typeLookup (.type "map") "__len__" = pure none := by rw [typeLookup_type, builtinLookup_eq_fast]; kernel_rfl
theorem nohint_map : typeLookup (.type "map") "__length_hint__" = pure none := by rw [typeLookup_type, builtinLookup_eq_fast]; kernel_rfl
theorem mro_map : mroOf (.type "map") = pure [.type "map", .type "object"] := by rw [mroOf_type]; kernel_rfl
theorem lookup_map_new : typeLookup (.type "map") "__new__" = pure (some (.builtin "map.__new__")) := by rw [typeLookup_type, builtinLookup_eq_fast]; kernel_rfl
theorem called_map : TypeCalled "map" "map.__new__" "object.__init__" :=
  ⟨by decide +kernel, by decide +kernel, ⟨_, _, mro_map⟩, madeBy_type mro_map lookup_map_new (by decide +kernel), by decide +kernel, by rw [isSubtype_type]; kernel_rfl, slot_map_init⟩
theorem typeCall_map_2 (a b : Value) : checkTypeCall "map" ⟨[a, b], []⟩ = pure () := by kernel_rfl
theorem newCall_map_2 (a b : Value) : checkBuiltinCall "map.__new__" ⟨[.type "map", a, b], []⟩ = pure () := by kernel_rfl
theorem sub_map : isSubtype (.type "map") (.type "map") = pure true := by rw [isSubtype_type]; kernel_rfl
noncomputable abbrev mapO (T : Addr) (f : Value) : Obj := { cls := .type "map", data := .fields #[.ref T, f] }
noncomputable abbrev tup1 (v : Value) : Obj := { cls := .type "tuple", data := .seq #[v] }
noncomputable abbrev mapH1 (h : Heap) (l : Addr) : Heap := h.push { cls := .type "list_iterator", data := .fields #[.ref l, .int 0 0] }
noncomputable abbrev mapH2 (h : Heap) (l : Addr) : Heap := (mapH1 h l).push (tup1 (.ref h.objs.size))
noncomputable abbrev mapH3 (h : Heap) (l : Addr) (f : Value) : Heap := (mapH2 h l).push (mapO (mapH1 h l).objs.size f)
theorem meets_map_new (f : Value) (l : Addr) (xs : Array Value) :
    Meets (Builtin.«map.__new__» ⟨[.type "map", f, .ref l], []⟩) (fun _ R s => s.heap.IsList l xs ∧ R (.ok (.ret (.ref (mapH2 s.heap l).objs.size))) { s with heap := mapH3 s.heap l f }) :=
  .of_wp fun prog w A R s h => by
    obtain ⟨hp, g, d, tk, os⟩ := s; obtain ⟨hl1, h⟩ := h
    have hsub := sub_map
    have hL1 : Heap.IsList (Shared.heap ⟨hp, g, d, tk, os⟩) l xs := hl1
    wp_walk using wpAny_pyIter_list hL1
    exact ⟨_, rfl, h⟩
section
variable {prog : Program} {w : World} {A : Around} {E : Value → Shared → Prop} {s : Shared}
theorem call_map {f : Value} {l : Addr} {xs : Array Value} {Q : Value → Shared → Prop} (hl : s.heap.IsList l xs)
    (h : ∀ h', h'.get? (s.heap.objs.size + 2) = some (mapO (s.heap.objs.size + 1) f) → h'.get? (s.heap.objs.size + 1) = some (tup1 (.ref s.heap.objs.size)) → h'.IsListIter s.heap.objs.size l 0 → h'.objs.size = s.heap.objs.size + 3 →
      (∀ c o, s.heap.get? c = some o → h'.get? c = some o) → Q (.ref (s.heap.objs.size + 2)) { s with heap := h' }) :
    wpAny (model prog w) A (call (.type "map") [f, .ref l]) Q E s := by
  refine callType_new called_map (by decide) (typeCall_map_2 _ _) (newCall_map_2 _ _) (fun obj => F.args_object_init_3 obj _ _) entry_map_new (meets_map_new f l xs) ⟨hl, ?_⟩
  have z1 : (mapH1 s.heap l).objs.size = s.heap.objs.size + 1 := Heap.size_push ..
  have z2 : (mapH2 s.heap l).objs.size = s.heap.objs.size + 2 := by rw [Heap.size_push, z1]
  have z3 : (mapH3 s.heap l f).objs.size = s.heap.objs.size + 3 := by rw [Heap.size_push, z2]
  have g3 : (mapH3 s.heap l f).get? (mapH2 s.heap l).objs.size = some (mapO (mapH1 s.heap l).objs.size f) := Heap.get?_push_size _ rfl
  have g2 : (mapH3 s.heap l f).get? (mapH1 s.heap l).objs.size = some (tup1 (.ref s.heap.objs.size)) := Heap.get?_push_of_some _ (Heap.get?_push_size _ rfl)
  have g1 : (mapH3 s.heap l f).get? s.heap.objs.size = some _ := Heap.get?_push_of_some _ (Heap.get?_push_of_some _ (Heap.get?_push_size _ rfl))
  show _ ∧ _
  rw [z2, z1] at g3
  rw [z1] at g2
  rw [z2]
  exact ⟨⟨_, g3, rfl⟩, h _ g3 g2 ⟨_, g1, rfl, rfl⟩ z3 fun c o x => Heap.get?_push_of_some _ (Heap.get?_push_of_some _ (Heap.get?_push_of_some _ x))⟩
end
end Mine
end
section
open PySem PySem.Calls PySem.Spec PySem.W PyProof.Rows
set_option maxRecDepth 100000
set_option maxHeartbeats 4000000
set_option linter.all false
namespace Mine
section
variable {prog : Program} {w : World} {A : Around} {E : Value → Shared → Prop} {s : Shared}
/-- a step of a map over a list; the called function leaves all as it was -/
theorem map_item {M T I l : Addr} {f : Value} {i : Nat} {xs : Array Value} {x y : Value} {Q : Option Value → Shared → Prop} (hM : s.heap.get? M = some (mapO T f)) (hT : s.heap.get? T = some (tup1 (.ref I))) (hI : s.heap.IsListIter I l i) (hl : s.heap.IsList l xs) (hx : xs[i]? = some x) (hMI : M ≠ I)
    (hcall : ∀ h₁ (Q' : Value → Shared → Prop) (E' : Value → Shared → Prop), Heap.SameBut I s.heap h₁ → (∀ h' tk, (∀ b o, h₁.get? b = some o → h'.get? b = some o) → Q' y { s with heap := h', toks := tk }) → wpAny (model prog w) A.in1 (call f [x]) Q' E' { s with heap := h₁ })
    (hQ : ∀ h₁ h' tk, h₁.IsListIter I l (i + 1) → Heap.SameBut I s.heap h₁ → (∀ b o, h₁.get? b = some o → h'.get? b = some o) → Q (some y) { s with heap := h', toks := tk }) : wpAny (model prog w) A (pyNext (.ref M)) Q E s := by
  have hTy : s.TypeIs (.ref M) "map" := ⟨_, hM, rfl⟩
  unfold pyNext
  refine wpAny_bind (wpAny_attempt (wpAny_callSpecial?_slot (name := Str.ofString "__next__") hTy slot_map_next (wpAny_call_entry slot_map_next hTy entry_map_next ?_ (args_map_next _))))
  unfold Builtin.«map.__next__»
  refine wpAny_bind (wpAny_of_eq (a := (Value.ref M, [])) (by first | rfl | kernel_rfl) ?_)
  refine wpAny_bind (wpAny_field hM rfl (x := .ref T) rfl ?_)
  refine wpAny_bind (wpAny_seqItems hT rfl ?_)
  dsimp only
  rw [← Array.forIn_toList]
  simp only [List.forIn_cons, List.forIn_nil]
  refine wpAny_bind (wpAny_bind (wpAny_bind (wpAny_holding ?_)))
  refine wpAny_nextOf_list_item hI hl hx fun h₁ hI₁ hs₁ => ?_
  refine wpAny_pure (wpAny_pure ?_)
  refine wpAny_bind (wpAny_field (hs₁.extBut _ _ hMI hM) rfl (x := f) rfl ?_)
  refine wpAny_bind (wpAny_holding (hcall h₁ _ _ hs₁ fun h' tk hk => ?_))
  refine wpAny_bind (wpAny_letGo (wpAny_pure ?_))
  exact ⟨_, rfl, wpAny_pure (hQ h₁ h' tk hI₁ hs₁ hk)⟩
theorem map_end {M T I l : Addr} {f : Value} {i : Nat} {xs : Array Value} {Q : Option Value → Shared → Prop} (hh : A.handled = none) (hM : s.heap.get? M = some (mapO T f)) (hT : s.heap.get? T = some (tup1 (.ref I))) (hI : s.heap.IsListIter I l i) (hl : s.heap.IsList l xs) (hx : xs[i]? = none)
    (hQ : ∀ h', Heap.ExtBut I s.heap h' → Q none { s with heap := h' }) : wpAny (model prog w) A (pyNext (.ref M)) Q E s := by
  have hTy : s.TypeIs (.ref M) "map" := ⟨_, hM, rfl⟩
  unfold pyNext
  refine wpAny_bind (wpAny_attempt (wpAny_callSpecial?_slot (name := Str.ofString "__next__") hTy slot_map_next (wpAny_call_entry slot_map_next hTy entry_map_next ?_ (args_map_next _))))
  unfold Builtin.«map.__next__»
  refine wpAny_bind (wpAny_of_eq (a := (Value.ref M, [])) (by first | rfl | kernel_rfl) ?_)
  refine wpAny_bind (wpAny_field hM rfl (x := .ref T) rfl ?_)
  refine wpAny_bind (wpAny_seqItems hT rfl ?_)
  dsimp only
  rw [← Array.forIn_toList]
  simp only [List.forIn_cons, List.forIn_nil]
  refine wpAny_bind (wpAny_bind (wpAny_bind (wpAny_holding ?_)))
  refine wpAny_nextOf_list_end hh hI hl hx fun h' e hk he => ?_
  obtain ⟨o, ho, hc⟩ := he
  refine wpAny_bind (wpAny_isInstance (T := "StopIteration") (b := true) ⟨o, ho, hc⟩ isSubtype_stop ?_)
  exact wpAny_pure (hQ h' hk)
theorem map_iter {M T : Addr} {f : Value} {Q : Value → Shared → Prop} (hM : s.heap.get? M = some (mapO T f)) (h : Q (.ref M) s) : wpAny (model prog w) A (pyIter (.ref M)) Q E s := by
  have hTy : s.TypeIs (.ref M) "map" := ⟨_, hM, rfl⟩
  refine wpAny_pyIter_slot hTy slot_map_iter (wpAny_call_entry slot_map_iter hTy entry_map_iter ?_ (args_map_iter _))
  show wpAny _ _ (ret (.ref M)) _ _ s
  exact wpAny_pure ⟨_, rfl, "map", _, hTy, slot_map_next.lookup, h⟩
/-- the walk of a map over a list; H₀, the heap behind: it stands as it is; the called function gives g i at the item i -/
theorem map_walks {M T I l : Addr} {f : Value} {xs : Array Value} {g : Nat → Value} (hh : A.handled = none) (H₀ : Heap) (hM : H₀.get? M = some (mapO T f)) (hT : H₀.get? T = some (tup1 (.ref I))) (hl : H₀.IsList l xs) (hMI : M ≠ I) (hTI : T ≠ I) (hlI : l ≠ I)
    (hcall : ∀ i x (s : Shared) (Q' : Value → Shared → Prop) (E' : Value → Shared → Prop), xs[i]? = some x → (∀ b o, b ≠ I → H₀.get? b = some o → s.heap.get? b = some o) → (∀ h' tk, (∀ b o, s.heap.get? b = some o → h'.get? b = some o) → Q' (g i) { s with heap := h', toks := tk }) → wpAny (model prog w) A.in1 (call f [x]) Q' E' s) :
    Walks prog w A M (I :: (List.range H₀.objs.size)) [I] xs.size (fun i v => v = g i) (fun i h => h.IsListIter I l i ∧ ∀ b o, b ≠ I → H₀.get? b = some o → h.get? b = some o) where
  sub := fun b hb => by rw [List.mem_singleton.mp hb]; exact List.mem_cons_self
  frame := fun i h h' st hk => ⟨st.1.at fun o e => hk I List.mem_cons_self o e, fun b o hb e => hk b (List.mem_cons_of_mem _ (List.mem_range.mpr (Heap.lt_size e))) o (st.2 b o hb e)⟩
  item := fun i s Q E hi st hQ => by
    refine map_item (x := xs[i]) (y := g i) (st.2 _ _ hMI hM) (st.2 _ _ hTI hT) st.1 (hl.at fun o e => st.2 _ o hlI e) (by simp [hi]) hMI (fun h₁ Q' E' hs₁ hq => ?_) fun h₁ h' tk hI₁ hs₁ hk => ?_
    · exact hcall i xs[i] { s with heap := h₁ } Q' E' (by simp [hi]) (fun b o hb e => hs₁.extBut _ _ hb (st.2 b o hb e)) hq
    · exact hQ _ h' tk rfl ⟨hI₁.at fun o e => hk _ o e, fun b o hb e => hk _ _ (hs₁.extBut _ _ hb (st.2 b o hb e))⟩ fun b o hb e => hk _ _ (hs₁.extBut _ _ (by simpa using hb) e)
  done := fun s Q E st hQ => map_end hh (st.2 _ _ hMI hM) (st.2 _ _ hTI hT) st.1 (hl.at fun o e => st.2 _ o hlI e) (by simp) fun h' hk => hQ h' s.toks fun b o hb e => hk b o (by simpa using hb) e
  self := fun i s Q E st hQ => map_iter (st.2 _ _ hMI hM) hQ
end
end Mine
end
section
open PySem PySem.Calls PySem.Spec PySem.W PyProof.Rows
open AutoSeq1 (wpAny_loadPart')
set_option maxRecDepth 100000
set_option maxHeartbeats 4000000
set_option linter.all false
namespace Mine
section
variable {prog : Program} {w : World} {A : Around} {E : Value → Shared → Prop} {s : Shared} {I : Addr} {fp wr : List Addr} {n : Nat} {P : Nat → Value → Prop} {St : Nat → Shared → Prop} {G : Array GenState → Array GenState → Prop}
theorem collect_map {Q : List Value → Shared → Prop} (W : WalksS prog w A.in1 I fp wr G n P St) (hT : ∀ i s, St i s → s.TypeIs (.ref I) "map") (hst : St 0 s) (hfp : ∀ b ∈ fp, b < s.heap.objs.size) (hI : I ∈ fp)
    (hQ : ∀ s' acc, Moved wr G s s' → ItemsOf P acc n → Q acc.toList s') (hn : n ≤ sizeLine) : wpAny (model prog w) A (collect (.ref I)) Q E s := by
  have hSf : s.heap.objs.size ∉ fp := fun hm => Nat.lt_irrefl _ (hfp _ hm)
  have hSI : s.heap.objs.size ≠ I := fun e => hSf (e ▸ hI)
  unfold collect
  refine wpAny_bind (wpAny_runValue (codeAny_builtin F.entry_proto_collect ?_))
  rw [Around.under_plainId F.plain_proto_collect _]
  show wpAny _ A.in1 (newList [] >>= fun l => again (.builtin "list.__iadd__" ⟨[l, .ref I], []⟩)) _ _ s
  refine wpAny_bind (wpAny_newObj_type ?_)
  refine wpAny_pure ⟨plainId_quiet F.plain_list_iadd _, codeAny_builtin F.entry_list_iadd ?_⟩
  rw [Around.under_plainId F.plain_list_iadd _]
  have hst₁ := W.frame 0 s (s.heap.push { cls := .type "list", data := .seq ([] : List Value).toArray }) s.toks hst (Nat.le_refl _) fun b _ o e => Heap.get?_push_of_some _ e
  have hS₁ : (s.heap.push { cls := .type "list", data := .seq ([] : List Value).toArray }).get? s.heap.objs.size = some { cls := .type "list", data := .seq ([] : List Value).toArray } := Heap.get?_push_size _ rfl
  show wpAny _ A.in1 (Builtin.List.listExtendWith (.ref s.heap.objs.size) (.ref I) (.ref s.heap.objs.size)) _ _ _
  unfold Builtin.List.listExtendWith
  refine wpAny_bind (wpAny_typeOf (hT 0 _ hst₁) ?_)
  have h1 : Builtin.List.listSameRef (.ref s.heap.objs.size) (.ref I) = false := by simp [Builtin.List.listSameRef, hSI]
  rw [if_neg (by rw [h1]; decide)]
  refine wpAny_bind (W.self 0 _ _ _ hst₁ ?_)
  refine wpAny_bind (wpAny_holding ?_)
  unfold Builtin.List.listLengthHint
  refine wpAny_bind (wpAny_specialOf (hT 0 _ hst₁) nolen_map ?_)
  show wpAny _ A.in1 (specialOf (Value.ref I) (Str.ofString "__length_hint__") >>= _) _ _ _
  refine wpAny_bind (wpAny_specialOf (hT 0 _ hst₁) nohint_map ?_)
  refine wpAny_pure ?_
  rw [if_pos (by rfl)]
  refine wpAny_bind (wpAny_rule ?_)
  unfold Builtin.List.listTouch
  refine wpAny_bind (wpAny_bind (listUpdate_at hS₁ rfl ?_))
  have hS₃ := get?_update_seq (c := "list") (xs := #[]) (n := 0) hS₁ (fun x => x.push Value.none)
  refine listUpdate_at hS₃ rfl ?_
  have hS₄ := get?_update_seq (c := "list") hS₃ (fun x => x.pop)
  have sb : Heap.SameBut s.heap.objs.size (s.heap.push { cls := .type "list", data := .seq ([] : List Value).toArray }) _ := (Heap.SameBut.update _ _ (Obj.mapSeq (fun x => x.push Value.none))).trans (Heap.SameBut.update _ _ (Obj.mapSeq (fun x => x.pop)))
  refine wpAny_pure ⟨plainId_quiet F.plain_extend_loop _, codeAny_extend_loopS W hn _ hSf _ n 0 _ _ _ rfl (Nat.zero_le _)
    (W.frame 0 ({ s with heap := s.heap.push { cls := .type "list", data := .seq ([] : List Value).toArray } } : Shared) _ s.toks hst₁ (Nat.le_refl _) fun b hb o e => sb.extBut _ _ (fun h => hSf (h ▸ hb)) e) hS₄ (ItemsOf.nil P) fun s' acc' c' hm hS' hacc => ?_⟩
  show wpAny _ A (load s.heap.objs.size >>= _) _ _ s'
  refine wpAny_bind (wpAny_load hS' ?_)
  refine wpAny_pure (hQ s' acc' ?_ hacc)
  exact Moved.drop_new (o := { cls := .type "list", data := .seq ([] : List Value).toArray }) (tk := s.toks) (Moved.trans W.gtrans ((Moved.refl W.grefl).then_heap (by first | exact Nat.le_refl _ | exact Nat.le_succ _ | omega) fun b o hb e => sb.extBut _ _ (fun h => hb (by rw [h]; exact List.mem_cons_self)) e) hm) (Nat.le_refl _)
theorem code_tuple_map {Q₁ : Value → Shared → Prop} (W : WalksS prog w A.in1.in1 I fp wr G n P St) (hT : ∀ i s, St i s → s.TypeIs (.ref I) "map") (hst : St 0 s) (hfp : ∀ b ∈ fp, b < s.heap.objs.size) (hI : I ∈ fp)
    (h : ∀ s' acc, Moved wr G s s' → ItemsOf P acc n → Q₁ (.ref s'.heap.objs.size) { s' with heap := s'.heap.push { cls := .type "tuple", data := .seq acc } }) (hsz : n ≤ sizeLine) :
    codeAny (model prog w) A (.call (.builtin "tuple.__new__") ⟨[.type "tuple", .ref I], []⟩) (wants Q₁ E) s := by
  refine codeAny_of_tree ?_
  show wpAny _ A.in1 (do checkBuiltinCall "tuple.__new__" ⟨[.type "tuple", .ref I], []⟩; again (.builtin "tuple.__new__" ⟨[.type "tuple", .ref I], []⟩)) _ _ s
  refine wpAny_bind (wpAny_of_eq (F.newCall_tuple_1 _) (wpAny_pure ⟨plainId_quiet F.plain_tuple_new _, codeAny_builtin F.entry_tuple_new ?_⟩))
  rw [Around.under_plainId F.plain_tuple_new _]
  have hsub := sub_tuple_self
  have hinit := init_tuple_lookup
  have hmh := madeHere_tuple
  have hTI := hT 0 s hst
  wp_walk using wpAny_typeOf hTI, collect_map (hn := hsz) W hT hst hfp hI
  intro s' acc hm hacc
  show wpAny _ _ (Builtin.Tuple.tupleExact acc.toList.toArray >>= fun v => ret v) _ _ _
  unfold Builtin.Tuple.tupleExact
  refine wpAny_bind (wpAny_newObj_type ?_ (by show acc.toList.toArray.size ≤ sizeLine; simp only [Array.toArray_toList]; rw [hacc.1]; exact hsz))
  refine wpAny_pure ?_
  have e : acc.toList.toArray = acc := by simp
  rw [e]
  exact h s' acc hm hacc
theorem call_tuple_map {Q : Value → Shared → Prop} (W : WalksS prog w A.in1.in1.in1 I fp wr G n P St) (hT : ∀ i s, St i s → s.TypeIs (.ref I) "map") (hst : St 0 s) (hfp : ∀ b ∈ fp, b < s.heap.objs.size) (hI : I ∈ fp)
    (hQ : ∀ s' acc, Moved wr G s s' → ItemsOf P acc n → Q (.ref s'.heap.objs.size) { s' with heap := s'.heap.push { cls := .type "tuple", data := .seq acc } }) (hsz : n ≤ sizeLine) :
    wpAny (model prog w) A (call (.type "tuple") [.ref I]) Q E s := by
  refine callType_codes (Q₁ := fun obj s₁ => s₁.TypeIs obj "tuple" ∧ Q obj s₁) F.called_tuple (F.typeCall_tuple_1 _) F.entry_object_init
    (code_tuple_map W hT hst hfp hI (fun s' acc hm hacc => ⟨⟨_, Heap.get?_push_size _ rfl, rfl⟩, hQ s' acc hm hacc⟩) hsz) fun obj s₁ h₁ => ?_
  exact ⟨h₁.1, F.args_object_init_2 obj _, object_init_meets F.called_tuple.init.lookup F.called_tuple.made (by decide) prog w A.in1 _ s₁ ⟨h₁.1, rfl, h₁.2⟩⟩
end
end Mine
end
section
open PySem PySem.Calls PySem.Spec PySem.W PyProof.Rows
set_option maxRecDepth 100000
set_option maxHeartbeats 8000000
set_option hygiene false
set_option linter.all false
namespace Mine
section
variable {w : World} {mean : ExcName → Option Value} {mg mb : Str → Option Value} {dp un : Nat} {gd : Option (List Code)} {cn : Str} {cs : Scope} {L a : Addr} {ccd : Value} {cl : List (Str × Addr)} {outer : List Env} {A₀ : Around} {base h₀ : Heap} {m : Str → Option Value} {s : Shared} {Q E : Value → Shared → Prop} {M T I l : Addr} {vs : List Value} {ps : List Str} {news : List (Addr × Obj)}
theorem map_new {prog : Program} {A : Around} {f : Value} (F : Fr h₀ L s.heap m) (N : News h₀ L s.heap news) (hl : s.heap.IsList l vs.toArray)
    (h : ∀ M T I h', Fr h₀ L h' m → News h₀ L h' news → h'.get? M = some (mapO T f) → h'.get? T = some (tup1 (.ref I)) → h'.IsListIter I l 0 → h'.IsList l vs.toArray → ((@Ne Nat L I) ∧ h₀.get? I = none ∧ (∀ p ∈ news, @Ne Nat p.1 I) ∧ (@Ne Nat M I) ∧ (@Ne Nat T I) ∧ (@Ne Nat l I)) → Q (.ref M) { s with heap := h' }) :
    wpAny (model prog w) A (call (.type "map") [f, .ref l]) Q E s := by
  refine call_map hl fun h' g3 g2 g1 hz hk => ?_
  have hlt : l < s.heap.objs.size := by obtain ⟨o, e, _⟩ := hl; exact Heap.lt_size e
  refine h _ _ _ h' (F.kept hk) (fun p hp => ⟨hk _ _ (N p hp).1, (N p hp).2⟩) g3 g2 g1 (hl.at fun o e => hk _ o e) ⟨Nat.ne_of_lt F.ns.lt, ?_, fun p hp => Nat.ne_of_lt (Heap.lt_size (N p hp).1), ?_, ?_, Nat.ne_of_lt hlt⟩
  · cases q : h₀.get? s.heap.objs.size with
    | none => rfl
    | some o => exact absurd (Heap.lt_size (F.keep _ _ q)) (Nat.lt_irrefl _)
  · show s.heap.objs.size + 2 ≠ s.heap.objs.size
    omega
  · show s.heap.objs.size + 1 ≠ s.heap.objs.size
    omega
theorem tuple_map (B : Below A₀ base outer h₀) (F : Fr h₀ L s.heap m) (X : (hd.heap_39 w.params).In h₀) (N : News h₀ L s.heap news) (Tp : Top hd.view_39 (looseW hd.view_39 [Str.ofString "COMPILER_FLAG_NAMES"]) mean mg mb h₀) (hk : cs.kind = .function)
    (hd : dp + 1 < recursionLimit) (hu : un + 12 < cLine) (hM : s.heap.get? M = some (mapO T (.ref 94))) (hT : s.heap.get? T = some (tup1 (.ref I))) (hI : s.heap.IsListIter I l 0) (hl : s.heap.IsList l vs.toArray)
    (hn : (@Ne Nat L I) ∧ h₀.get? I = none ∧ (∀ p ∈ news, @Ne Nat p.1 I) ∧ (@Ne Nat M I) ∧ (@Ne Nat T I) ∧ (@Ne Nat l I)) (hv : StrsAre vs ps) (hsz : vs.length ≤ sizeLine)
    (h : ∀ D h' tk, Fr h₀ L h' m → News h₀ L h' ((D, ({ cls := .type "tuple", data := .seq vs.toArray } : Obj)) :: news) → LCg.Off1 D news → Q (.ref D) { s with heap := h', toks := tk }) :
    wpAny (model Challenge.rw_ik0184_01.row.prog w) (ktrTop dp un gd cn cs L a ccd cl outer) (call (.type "tuple") [.ref M]) Q E s := by
  obtain ⟨n1, n2, n3, n4, n5, n6⟩ := hn
  have iI : ∃ o, s.heap.get? I = some o := by obtain ⟨o, e, _⟩ := hI; exact ⟨o, e⟩
  have fr : ∀ h' : Heap, (∀ b o, b ≠ I → s.heap.get? b = some o → h'.get? b = some o) → Fr h₀ L h' m := fun h' hk => ⟨F.ns.at' fun o e => hk _ o n1 e, fun b o e => hk b o (fun q => by rw [q, n2] at e; cases e) (F.keep b o e), F.above⟩
  have W := map_walks (prog := Challenge.rw_ik0184_01.row.prog) (w := w) (A := (ktrTop dp un gd cn cs L a ccd cl outer).in1.in1.in1) (M := M) (T := T) (I := I) (l := l) (f := .ref 94) (xs := vs.toArray) (g := fun i => vs.getD i .none) rfl s.heap hM hT hl n4 n5 n6 (fun i x s₁ Q' E' hx hk₁ hq => by
    obtain ⟨y, t, hy, rfl⟩ := strs_at hv i x (by simpa using hx)
    have hx' : vs[i]? = some (.str y t) := by simpa using hx
    refine fspath_ct w mean mg mb y t dp (un + 4) gd cn cs a ccd cl outer A₀ base h₀ L m s₁ Q' E' B (fr _ hk₁) X (fun _ h => nomatch h) Tp hk trivial hd (by omega) fun r made h' tk' hR F' N' hk' hf' => ?_
    obtain ⟨-, rfl⟩ := hR
    have e : vs.getD i .none = .str y t := by rw [List.getD_eq_getElem?_getD, hx']; rfl
    have := hq h' tk' (fun b o e => hk' b o (by simp) e)
    rw [e] at this
    exact this)
  refine call_tuple_map W.toS (fun i s₁ st => ⟨_, st.2 M _ n4 hM, rfl⟩) ⟨hI, fun b o _ e => e⟩ (fun b hb => ?_) (List.mem_cons_of_mem _ (List.mem_range.mpr (Heap.lt_size hM))) (fun s' acc hm hacc => ?_) (by simpa using hsz)
  · rcases List.mem_cons.mp hb with rfl | hb
    · obtain ⟨o, e⟩ := iI; exact Heap.lt_size e
    · exact List.mem_range.mp hb
  · have eacc : acc = vs.toArray := by
      refine Array.ext (by rw [hacc.1]) fun i h1 h2 => ?_
      have z := hacc.2 i acc[i] (by simp [h1])
      rw [z]
      simp [List.getD_eq_getElem?_getD, List.getElem?_eq_getElem (by simpa using h2 : i < vs.length)]
    subst eacc
    obtain ⟨h', g', d', tk', os'⟩ := s'
    have eg : g' = s.gens := hm.gens
    have ed : d' = s.drawn := hm.drawn
    have eo : os' = s.os := hm.os
    subst eg; subst ed; subst eo
    have hk' : ∀ b o, b ≠ I → s.heap.get? b = some o → h'.get? b = some o := fun b o hb e => hm.heap b o (by simpa using hb) e
    have F' := fr h' hk'
    have N' : News h₀ L h' news := fun p hp => ⟨hk' _ _ (n3 p hp) (N p hp).1, (N p hp).2⟩
    exact h _ _ _ (F'.push _) (N'.push F' _) (off1_of fun p hp => Nat.ne_of_lt (Heap.lt_size (N' p hp).1))
end
end Mine
end
section
open PySem PySem.Calls PySem.Spec PySem.W PyProof.Rows
set_option maxRecDepth 100000
set_option maxHeartbeats 8000000
set_option hygiene false
set_option linter.all false
namespace Mine
noncomputable abbrev cpS (ws : List Str) : Str := Str.ofString "/" ++ Txt.join (Str.ofString "/") ws
structure CpOk (wss : List (List Str)) (P : List Str) : Prop where
  n1 : 2 ≤ wss.length
  n2 : wss.length ≤ 5
  comp : ∀ ws ∈ wss, ∀ c ∈ ws, 1 ≤ c.length ∧ 47 ∉ c.cps.toList ∧ c ≠ Str.ofString "."
  size : ∀ ws ∈ wss, ws.length ≤ 6 ∧ (cpS ws).length ≤ 700
  pre : ∀ ws ∈ wss, ∃ c r, ws = P ++ c :: r
  dif : ∃ ws ∈ wss, ∃ ws' ∈ wss, ws[P.length]? ≠ ws'[P.length]?
section
variable {prog : Program} {w : World} {A : Around} {E : Value → Shared → Prop} {s : Shared} {h₀ : Heap} {L D : Addr} {news : List (Addr × Obj)} {vs : List Value}
noncomputable abbrev tupV (vs : List Value) : Obj := { cls := .type "tuple", data := .seq vs.toArray }
theorem cpTrue {Q : Bool → Shared → Prop} (N : News h₀ L s.heap news) (hm : (D, tupV vs) ∈ news) (h1 : 0 < vs.length) (h2 : vs.length ≤ 6) (h : ∀ tk, Q true { s with toks := tk }) : wpAny (model prog w) A (truthy (.ref D)) Q E s := by
  have it : IsTup s.heap D vs.toArray := ⟨_, (N _ hm).1, rfl, _, rfl⟩
  refine truthy_tuple it (by simp; omega) ?_
  have e : (!vs.toArray.isEmpty) = true := by cases vs with | nil => cases h1 | cons a l => rfl
  first | exact h _ | (rw [e]; exact h _)
theorem cpFirst {x : Value} {u : Tok} {value slice : PySem.Expr} {Q : Value → Shared → Prop} (N : News h₀ L s.heap news) (hm : (D, tupV vs) ∈ news) (hx : vs[0]? = some x) (h : Q x s)
    (hs : subscripted slice false (.ref D) (.int 0 u) = operate [.ref D, .int 0 u] (getItem (.ref D) (.int 0 u)) := by with_unfolding_all rfl) :
    wpAny (model prog w) A (subscriptTail value slice (.ref D) (.int 0 u)) Q E s := by
  have it : IsTup s.heap D vs.toArray := ⟨_, (N _ hm).1, rfl, _, rfl⟩
  have hlt : 0 < vs.length := by cases vs with | nil => cases hx | cons a l => exact Nat.zero_lt_succ _
  refine tail_any it.typeIs slot_tuple_getitem.lookup (PyProof.Rows.getItem_tuple it (by decide) (by decide) (j := 0) ?_ (by simpa using hx) h) hs
  simp [seqIndex?, hlt]
end
theorem cp_at {wss : List (List Str)} {vs : List Value} (hv : StrsAre vs (wss.map cpS)) {i : Nat} {v : Value} (h : vs[i]? = some v) : ∃ ws t, wss[i]? = some ws ∧ ws ∈ wss ∧ v = .str (cpS ws) t := by
  obtain ⟨y, t, hy, e⟩ := strs_at hv i v h
  rw [List.getElem?_map] at hy
  cases q : wss[i]? with
  | none => rw [q] at hy; cases hy
  | some ws => rw [q] at hy; cases hy; exact ⟨ws, t, rfl, List.mem_of_getElem? q, e⟩
theorem off1_all {D : Addr} : ∀ {l : List (Addr × Obj)}, LCg.Off1 D l → ∀ p ∈ l, @Ne Nat p.1 D
  | [], _, _, h => nomatch h
  | _ :: _, x, p, h => by
    rcases List.mem_cons.mp h with rfl | h
    · exact x.1
    · exact off1_all x.2 p h
theorem glue_mem : ∀ {ws : List Str} {c : Str}, c ∈ ws → c.length ≤ (Str.join (Str.ofString "/") ws).cps.toList.length
  | [x], c, h => by rw [List.mem_singleton.mp h, join_one]; simp [Str.length]
  | x :: y :: l, c, h => by
    rw [join_cons, List.length_append, List.length_cons]
    rcases List.mem_cons.mp h with rfl | h
    · simp only [Str.length, ← Array.length_toList]; omega
    · have := glue_mem (ws := y :: l) h; omega
theorem cp_len {ws : List Str} {c : Str} (h : c ∈ ws) : c.length ≤ (cpS ws).length := by
  have := glue_mem h
  have e : (cpS ws).length = 1 + (Str.join (Str.ofString "/") ws).cps.toList.length := by
    show (Str.ofString "/" ++ Builtin.Str.glued _ ws).cps.size = _
    rw [StrLaws.glued_eq_join, ← Array.length_toList, Str.cps_append, Array.toList_append, slash_list]
    simp; omega
  omega
section
variable {prog : Program} {w : World} {A : Around} {E : Value → Shared → Prop} {s : Shared}
theorem strTrue {x : Str} {t : Tok} {Q : Bool → Shared → Prop} (h1 : 1 ≤ x.length) (h2 : x.length ≤ 700) (h : ∀ tk, Q true { s with toks := tk }) : wpAny (model prog w) A (truthy (.str x t)) Q E s := by
  refine PySem.P.truthy_str (by omega) ?_
  have : ((x.length : Int) != 0) = true := by simp; omega
  rw [this]; exact h _
theorem strFalse {t : Tok} {Q : Bool → Shared → Prop} (h : ∀ tk, Q false { s with toks := tk }) : wpAny (model prog w) A (truthy (.str Str.empty t)) Q E s := by
  refine PySem.P.truthy_str (by decide) ?_
  exact h _
theorem strNe {x y : Str} {t u : Tok} {Q : Value → Shared → Prop} (hne : x ≠ y) (h : Q (.bool true) s) : wpAny (model prog w) A (compareOp .NotEq (.str x t) (.str y u)) Q E s := by
  refine PySem.P.ne_str ?_
  have : (x.cps.toList != y.cps.toList) = true := by rw [bne_iff_ne]; exact fun e => hne (str_ext e)
  rw [this]; exact h
theorem strEq {x y : Str} {t u : Tok} {Q : Value → Shared → Prop} (he : x = y) (h : Q (.bool false) s) : wpAny (model prog w) A (compareOp .NotEq (.str x t) (.str y u)) Q E s := by
  refine PySem.P.ne_str ?_
  have : (x.cps.toList != y.cps.toList) = false := by rw [he]; simp
  rw [this]; exact h
end
theorem RowsS.widen {news : List (Addr × Obj)} {xss : List (List Str)} {ys : List Value} {nw : List (Addr × Obj)} (h : RowsS news xss ys nw) (x : Addr × Obj) : RowsS news xss ys (x :: nw) :=
  ⟨fun p hp => .tail _ (h.1 p hp), h.2.1, fun i v hv => by obtain ⟨r, it, n, e, hm, hs⟩ := h.2.2 i v hv; exact ⟨r, it, n, e, .tail _ hm, hs⟩⟩
theorem fr4c {m : Str → Option Value} {a b c d : Str} {va vb vc vd : Option Value} (ha : m a = va) (hb : m b = vb) (hc : m c = vc) (hd : m d = vd) : m = fun y => if y = a then va else if y = b then vb else if y = c then vc else if y = d then vd else m y := by
  funext y
  split
  · next h => rw [h, ha]
  · split
    · next h => rw [h, hb]
    · split
      · next h => rw [h, hc]
      · split
        · next h => rw [h, hd]
        · rfl
section
variable {prog : Program} {w : World} {A : Around} {E : Value → Shared → Prop} {s : Shared} {h₀ : Heap} {L l : Addr} {news : List (Addr × Obj)}
theorem cpGet {it : Array Value} {n i : Nat} {v : Value} {u : Tok} {value slice : PySem.Expr} {Q : Value → Shared → Prop} (N : News h₀ L s.heap news) (hm : (l, W.listOf it n) ∈ news) (hx : it.toList[i]? = some v) (hi : i ≤ 1000) (h : Q v s)
    (hs : subscripted slice false (.ref l) (.int (i : Int) u) = operate [.ref l, .int (i : Int) u] (getItem (.ref l) (.int (i : Int) u)) := by with_unfolding_all rfl) :
    wpAny (model prog w) A (subscriptTail value slice (.ref l) (.int (i : Int) u)) Q E s := by
  have hl : s.heap.IsList l it := ⟨_, (N _ hm).1, rfl, _, rfl⟩
  refine tail_any hl.typeIs slot_list_getitem.lookup (wpAny_getItem_list hl (by omega) (by omega) (x := v) ?_ h) hs
  rw [Int.toNat_natCast, ← hx, Array.getElem?_toList]
end
section
variable {prog : Program} {w : World} {A : Around} {E : Value → Shared → Prop} {h₀ h : Heap} {L l : Addr} {m : Str → Option Value} {news : List (Addr × Obj)} {g : Array GenState} {d : Drawn} {tk : Nat} {os : OsState}
theorem cpSlice {it : Array Value} {n i : Nat} {u : Tok} {ss : List Str} {value slice : PySem.Expr} {Q : Value → Shared → Prop} (F : Fr h₀ L h m) (N : News h₀ L h news) (hm : (l, W.listOf it n) ∈ news) (hI : StrsAre it.toList ss) (hi : i ≤ it.size) (hz : it.size ≤ 100)
    (k : ∀ D zs h', Fr h₀ L h' m → News h₀ L h' ((D, W.listOf zs 0) :: news) → StrsAre zs.toList (ss.take i) → zs.size ≤ it.size → Q (.ref D) ⟨h', g, d, tk, os⟩)
    (hs : subscripted slice false (.ref l) (.ref h.objs.size) = operate [.ref h.objs.size, .ref l] (getItem (.ref l) (.ref h.objs.size)) := by with_unfolding_all rfl) (ht : ∀ r, letTemporaryGo value (.ref l) r = pure () := by intro _; with_unfolding_all rfl) :
    wpAny (model prog w) A (subscriptTail value slice (.ref l) (.ref h.objs.size)) Q E ⟨h.push { cls := .type "slice", data := .fields #[.none, .int (i : Int) u, .none] }, g, d, tk, os⟩ := by
  have hl : h.IsList l it := ⟨_, (N _ hm).1, rfl, _, rfl⟩
  refine kmk_slice (s := ⟨h, g, d, tk, os⟩) (lo := none) (hi := some (i : Int)) F N hl .none (.int _ _) (fun D h' F' N' _ => k D _ h' F' N' ?_ (slicePick_size_le _ _ _ _)) hs ht (by rw [sizeLine_eq]; omega)
  have e : sliceBounds none (some (i : Int)) none it.size = (((0 : Nat) : Int), ((i : Nat) : Int), 1) := by
    simp only [sliceBounds, Option.getD_none, show (1 : Int) > 0 by decide, if_true, if_neg (show ¬ ((i : Int) < 0) by omega)]
    congr 1
    congr 1
    omega
  rw [kmk_pick_nat _ e]
  show StrsAre ((it.toList.drop 0).take (i - 0)) _
  rw [List.drop_zero, Nat.sub_zero]
  exact StrsAre.take' hI i
end
theorem loRow_mem {xss : List (List Str)} (hn : 0 < xss.length) : loRow xss ∈ xss := by
  have key : ∀ (bt : Nat → Nat → Bool) k, argBest bt k ≤ k := by
    intro bt k
    induction k with
    | zero => exact Nat.le_refl _
    | succ k ih =>
      unfold argBest
      split
      · exact Nat.le_refl _
      · omega
  have h := key (fun i j => lexL ltC true false (xss.getD i []) (xss.getD j [])) (xss.length - 1)
  have hlt : argBest (fun i j => lexL ltC true false (xss.getD i []) (xss.getD j [])) (xss.length - 1) < xss.length := by omega
  show xss.getD _ [] ∈ xss
  rw [List.getD_eq_getElem?_getD, List.getElem?_eq_getElem hlt]
  exact List.getElem_mem hlt
theorem glue_len : ∀ (P : List Str) (c : Str) (r : List Str), (Str.join (Str.ofString "/") P).cps.toList.length ≤ (Str.join (Str.ofString "/") (P ++ c :: r)).cps.toList.length
  | [], c, r => Nat.zero_le _
  | [x], c, r => by
    show _ ≤ (Str.join (Str.ofString "/") (x :: c :: r)).cps.toList.length
    rw [join_cons, join_one, List.length_append]; omega
  | x :: y :: P, c, r => by
    show _ ≤ (Str.join (Str.ofString "/") (x :: y :: (P ++ c :: r))).cps.toList.length
    rw [join_cons, join_cons, List.length_append, List.length_append, List.length_cons, List.length_cons]
    have := glue_len (y :: P) c r
    simp only [List.cons_append] at this
    omega
theorem cp_pre {wss : List (List Str)} {P : List Str} {c : Str} {r : List Str} (h : P ++ c :: r ∈ wss) (hc : CpOk wss P) : (Txt.join (Str.ofString "/") P).length ≤ 700 := by
  have h1 := (hc.size _ h).2
  have h2 := glue_len P c r
  have e : ∀ ws, (cpS ws).length = 1 + (Str.join (Str.ofString "/") ws).cps.toList.length := fun ws => by
    show (Str.ofString "/" ++ Builtin.Str.glued _ ws).cps.size = _
    rw [StrLaws.glued_eq_join, ← Array.length_toList, Str.cps_append, Array.toList_append, slash_list]
    simp; omega
  have e2 : (Txt.join (Str.ofString "/") P).length = (Str.join (Str.ofString "/") P).cps.toList.length := by
    show (Builtin.Str.glued _ P).cps.size = _
    rw [StrLaws.glued_eq_join, ← Array.length_toList]
  rw [e] at h1
  omega
theorem glue_sum : ∀ (P : List Str), P ≠ [] → (P.map (·.length)).sum + P.length = (Str.join (Str.ofString "/") P).cps.toList.length + 1
  | [], h => absurd rfl h
  | [x], _ => by rw [join_one]; simp [Str.length]
  | x :: y :: P, _ => by
    have := glue_sum (y :: P) (by simp)
    rw [join_cons, List.length_append, List.length_cons]
    have e : x.length = x.cps.toList.length := by simp [Str.length]
    simp only [List.map_cons, List.sum_cons, List.length_cons] at this ⊢
    omega
theorem cp_sum {P : List Str} (h : (Txt.join (Str.ofString "/") P).length ≤ 700) : (P.map (·.length)).sum + P.length ≤ 1000 := by
  by_cases hP : P = []
  · subst hP; decide
  · have := glue_sum P hP
    have e2 : (Txt.join (Str.ofString "/") P).length = (Str.join (Str.ofString "/") P).cps.toList.length := by
      show (Builtin.Str.glued _ P).cps.size = _
      rw [StrLaws.glued_eq_join, ← Array.length_toList]
    omega
section
variable (w : World) (mean : ExcName → Option Value) (mg mb : Str → Option Value)
theorem common_ct (l : Addr) (vs : List Value) (wss : List (List Str)) (P : List Str) (hv : StrsAre vs (wss.map cpS)) (hc : CpOk wss P) : Ct w mean mg mb 120 4 32 [] [] (fun h => h.IsList l vs.toArray) [.ref l] (fun r made => made = [] ∧ ∃ t, r = .str (cpS P) t) := by
  k_with_none
  k_with "CT intro" => ((unfold Ct; k_fill; intro dp un gd cn cs a ccd cl outer A₀ base h₀ L m s Q E B F X N T hk hP hd hu hret; refine wpAny_call ?_))
  k_with "CT enter" => ((k_dflt (refine' code_defG ?k1 ?k2 ?k3 ?k4 ?k5 ?kA ?kF ?kK ?k6 ?k7 ?k8 ?k9 ?kB ?_ ?c2 ?c3 ?c4 ?c5; (case kA => exact rfl); (case kF => exact rfl); (case kK => assumption); (case k1 => k_asm); (case k2 => k_asm); (case k3 => k_asm); (case k4 => k_asm); (case k5 => k_asm); (case k6 => k_is); (case k7 => k_is); (case k8 => ktr_room); (case k9 => exact BindsTo.of_eq rfl); (case c5 => decide); (case kB => exact locs rfl); (case c2 => exact rfl); (case c3 => exact rfl); (case c4 => exact rfl); k_whole; intro g' L' h' FG' F' N' B' X' T' G'; (try dsimp only); (try k_lift B'); (try k_fold))))
  k_with "CT enterC" => ((k_dflt (refine' enterCG ?k1 ?k2 ?k3 ?k4 ?k5 ?kA ?kF ?kK ?k6 ?k7 ?k8 ?k9 ?kB ?kD ?_ ?c2 ?c3 ?c4; (case kA => exact rfl); (case kF => exact rfl); (case kK => assumption); (case k1 => k_asm); (case k2 => k_asm); (case k3 => k_asm); (case k4 => k_asm); (case k5 => k_asm); (case k6 => k_is); (case k7 => k_is); (case k8 => ktr_room); (case k9 => exact BindsTo.of_eq rfl); (case kB => exact rfl); (case kD => decide +kernel); (case c2 => exact rfl); (case c3 => exact rfl); (case c4 => exact rfl); k_whole; intro g' L' h' tk' cells' FG' F' N' Y' B' X' T' l1 G'; (try k_lt l1); k_cells Y'; (try simp only [List.cons_append, List.nil_append] at N'); (try dsimp only); (try k_lift B'); (try k_fold))))
  k_with "CT use0" => (((case k1 => k_asm); (case k2 => k_asm); (case k3 => k_asm); (case k4 => k_asm); (case k5 => k_asm); (case kK => first | exact rfl | assumption); (case kd => ktr_room); (case ku => ktr_units)))
  k_with "CT useM" => (((case k1 => k_asm); (case k2 => k_asm); (case k3 => k_asm); (case k4 => k_asm); (case k5 => k_asm); (case kK => first | exact rfl | assumption); (case kd => ktr_room); (case ku => ktr_units); (case kU => k_upd)))
  k_with "NEP" => (first | (with_reducible first | exact h9e | exact Ne.symm h9e | exact Nat.ne_of_gt h9e | exact Nat.ne_of_lt h9e) | (replace h9e := And.left h9e; walk_at "NEP") | (replace h9e := And.right h9e; walk_at "NEP"))
  k_with "NEX" => (first | ((with_reducible rename Hid _ => h9e); walk_at "NEP") | ((with_reducible rename _ ∧ _ => h9e); first | walk_at "NEP" | (clear h9e; walk_at "NEX")))
  k_with "KNE" => ((refine neN ?_; (try dsimp only); omega))
  k_with "call type:map" => (((guard_hyp mkCp : True); k_here; k_dflt (refine map_new (by assumption) (by assumption) (Fr.lst (by assumption) hl) ?_); intro M7 T7 I7 h7 F7 N7 gM7 gT7 gI7 gl7 ne7))
  k_with "call type:tuple" => (((guard_hyp mkCp : True); k_here; k_dflt (refine' tuple_map ?k1 F7 ?k3 N7 ?k5 ?kK ?c1 ?c2 gM7 gT7 gI7 gl7 ne7 hv hsz ?_; (case k1 => k_asm); (case k3 => k_asm); (case k5 => k_asm); (case kK => first | exact rfl | assumption); (case c1 => ktr_room); (case c2 => ktr_units)); intro D6 h6 tk6 F6 N6 off6))
  k_with "exec Try" => (((guard_hyp mkCp : True); refine wpAny_Try_except ?_))
  k_with "exec Assign cons ListComp" => (((guard_hyp mkCp : True); refine Halt.out ?_))
  k_with "exec Assign cons SetComp" => (((guard_hyp mkCp : True); refine Halt.out ?_))
  k_with "call builtin:str.split" => (((guard_hyp mkSpl : True); k_here; k_dflt (refine KSpl.split1 (by k_asm) (by k_asm) (by decide) ?_ hs9); intro D9 l9 h9 k9 e9 a9 F9 N9 l19))
  k_with "ListE" => (((first | guard_hyp mkSpl : True | guard_hyp mkNst : True); refine Halt.out ?_))
  k_with "truthy str" => (((guard_hyp mkNT : True); k_here; k_dflt (refine strTrue hc1 hc4 ?_); intro tk9))
  k_with "truthy str" => (((guard_hyp mkNF : True); k_here; k_dflt (refine strFalse ?_); intro tk9))
  k_with "compareOp NotEq str str" => (((guard_hyp mkNT : True); k_here; k_dflt (refine strNe hc3 ?_)))
  k_with "CompEnd" => (((guard_hyp mkNst : True); refine Halt.out ?_))
  k_with "subscriptTail" => (((first | guard_hyp mkLE : True | guard_hyp mkLN : True); k_here; k_dflt (refine cpGet (by k_asm) hmr2' hz hi9 ?_)))
  k_with "compareOp NotEq str str" => (((guard_hyp mkLE : True); k_here; k_dflt (refine strEq rfl ?_)))
  k_with "compareOp NotEq str str" => (((guard_hyp mkL2 : True); k_here; k_dflt (refine strNe hab ?_)))
  k_with "BrkPost" => (((first | guard_hyp mkLE : True | guard_hyp mkL2 : True); refine Halt.out ?_))
  k_with "call builtin:str.join" => (((guard_hyp mkJn : True); k_here; k_dflt (refine join_listW (by is_list) hz13 (by decide +kernel) (Nat.le_trans (cp_sum hJ13) (by decide)) ?_); intro _ _))
  k_with "exec For Tuple Call" => (((guard_hyp mkMM : True); k_here; k_dflt (refine For_turns (by k_asm) ?_)))
  k_with "call type:enumerate" => (((guard_hyp mkMM : True); refine Halt.out ?_))
  k_with "call builtin:min" => (((guard_hyp mkMM : True); k_here; k_dflt (refine min_rows (by rfl) (by assumption) (by assumption) (by ktr_units) hm5 hR6 hn1 ?_); intro r1 it1 n1 h1 tk1 hmr1 hs1 F1 N1))
  k_with "call builtin:max" => (((guard_hyp mkMM : True); k_here; k_dflt (refine max_rows (by rfl) (by assumption) (by assumption) (by ktr_units) hm5 hR6 hn1 ?_); intro r2 it2 n2 h2 tk2 hmr2 hs2 F2 N2))
  k_with "KeptE" => (((guard_hyp mkSw : True); refine Halt.out ?_))
  k_with "truthy ref" => (((guard_hyp mkCp : True); k_here; k_dflt (refine cpTrue (by k_asm) (by k_mem) hl1 hl2 ?_); intro tk9))
  k_with "subscriptTail" => (((guard_hyp mkCp : True); k_here; k_dflt (refine cpFirst (by k_asm) (by k_mem) hx0 ?_)))
  walk_at "CT intro"
  have hN0 := N
  walk_at "CT enterC"
  have hl := isList_sub hP G'
  have hvl : vs.length = wss.length := by have := strsLen hv; simpa using this
  have hsz : vs.length ≤ sizeLine := by rw [sizeLine_eq]; have := hc.n2; omega
  have hl1 : 0 < vs.length := by have := hc.n1; omega
  have hl2 : vs.length ≤ 6 := by have := hc.n2; omega
  obtain ⟨y0, t0, hx0⟩ : ∃ y t, vs[0]? = some (.str y t) := by
    obtain ⟨t, e⟩ := strs_get hv 0 (by simpa using by have := hc.n1; omega)
    exact ⟨_, _, e⟩
  have mkCp : True := trivial
  k_steps
  unfold Halt
  k_dflt (refine Assign_ListCompX none (by k_asm) (by rfl) (by with_unfolding_all rfl) (by rfl) (by rfl) (by decide) (fun _ => by rfl) (fun _ => by rfl) (by rfl) (by rfl) ?_)
  k_steps
  rename Fr g' L' _ _ => F3
  rename News g' L' _ _ => N3
  obtain ⟨oK, oS, N4, ⟨tK, hoK⟩, ⟨tS, hoS⟩⟩ : ∃ oK oS, News g' L' _ [(D6, tupV vs), (L' + 1 + 1, oK), (L' + 1, oS)] ∧ (∃ t, oK.data = .cell (some (.str (Str.ofString ".") t))) ∧ (∃ t, oS.data = .cell (some (.str (Str.ofString "/") t))) := ⟨_, _, N3, ⟨_, by assumption⟩, ⟨_, by assumption⟩⟩
  refine CompAt.tuple (wss.map fun ws => Str.empty :: ws) (by rfl) F3 N4 (List.mem_cons_self ..) rfl rfl hsz (by simp [hvl]) (by rfl) (by rfl) ?_ ?_
  · clear F3 N3
    intro C8 D8 I8 i v8 m8 oI8 oC8 ys8 nw8 h8 tk8 EE hv8 hsub hC8 hx8 F8 N8
    obtain ⟨ws, t8, hws, hwm, rfl⟩ := cp_at hv hv8
    have hmS : (L' + 1, oS) ∈ (I8, oI8) :: (C8, oC8) :: (D8, LCg.lst ys8) :: nw8 := .tail _ (.tail _ (.tail _ (hsub _ (by simp))))
    have hmC : (C8, oC8) ∈ (I8, oI8) :: (C8, oC8) :: (D8, LCg.lst ys8) :: nw8 := .tail _ (.head _)
    have hs9 : (cpS ws).length + 2 ≤ sizeLine := by have := (hc.size ws hwm).2; rw [sizeLine_eq]; omega
    have mkSpl : True := trivial
    clear mkCp
    (refine (show wpAny _ _ _ _ _ _ from ?_))
    k_steps
    unfold Halt
    refine ⟨h9, k9, D9, (strValues l9).toArray, 0, rfl, rfl, F9, N9, fun p hp => Nat.ne_of_lt (l19 p hp), ?_⟩
    rw [e9, split_cp (fun e => by have := hc.pre ws hwm; rw [e] at this; obtain ⟨c, r, h⟩ := this; simp at h) fun c hcm => (hc.comp ws hwm c hcm).2.1] at a9
    rw [List.getD_eq_getElem?_getD, List.getElem?_map, hws]
    exact a9
  · rintro _ ⟨g8, rfl⟩
    unfold FinY
    rintro S7 h7 tk7 ys7 nw7 hR7 F7 N7 off7
    (refine (show wpAny _ _ _ _ _ _ from ?_))
    k_steps
    unfold Halt
    refine Assign_Tuple ?_
    have hm6 := hR7.1 _ (List.mem_cons_self ..)
    k_dflt (refine setComp_true (T := D6) (oT := tupV vs) (vs := vs) (news := (S7, LCg.lst ys7) :: nw7) (by k_asm) (by rfl) (by rfl) (by rfl) (by decide) (by decide) (by rfl) ?_)
    walk1
    refine ⟨rfl, by assumption, by assumption, .tail _ hm6, rfl, ⟨_, rfl⟩, ?_, ?_⟩
    · clear F7 N7 F3 N3
      intro C8 D8 I8 i v8 m8 oI8 oC8 oD8 h8 tk8 EE hv8 hC8 hx8 F8 N8
      obtain ⟨ws, t8, hws, hwm, rfl⟩ := cp_at hv hv8
      have hmS : (L' + 1, oS) ∈ (I8, oI8) :: (C8, oC8) :: (D8, oD8) :: (S7, LCg.lst ys7) :: nw7 := .tail _ (.tail _ (.tail _ (.tail _ (hR7.1 _ (by simp)))))
      have hmC : (C8, oC8) ∈ (I8, oI8) :: (C8, oC8) :: (D8, oD8) :: (S7, LCg.lst ys7) :: nw7 := .tail _ (.head _)
      have mkSw : True := trivial
      clear mkCp
      (refine (show wpAny _ _ _ _ _ _ from ?_))
      k_steps
      unfold Halt
      exact KeptE.intro F8 N8 rfl
    · rintro D8 oD8 h8 tk8 F8 N8 off8 hT8
      obtain ⟨n8, hn8⟩ : ∃ n, vs.length = n + 1 := ⟨vs.length - 1, by omega⟩
      rw [hn8] at hT8
      refine unpack_true (by rfl) hT8 (by rfl) (by rfl) fun h9 tk9 hk9 => ?_
      have F9 := F8.keeps hk9
      have N9 := N8.grown hk9
      (refine (show wpAny _ _ _ _ _ _ from ?_))
      k_steps
      unfold Halt
      rename Fr g' L' _ _ => F10
      rename News g' L' _ _ => N10
      replace N10 : News g' L' _ ((D8, oD8) :: (S7, LCg.lst ys7) :: nw7) := N10
      have hy7 : ys7.length = wss.length := by rw [hR7.2.1]; simp [hvl]
      k_dflt (refine Assign_ListCompX none (by k_asm) (by rfl) (by with_unfolding_all rfl) (by rfl) (by rfl) (by decide) (fun _ => by rfl) (fun _ => by rfl) (by rfl) (by rfl) ?_)
      walk1
      refine CompAt.rows wss (by rfl) (by k_asm) (show News g' L' _ ((D8, oD8) :: (S7, LCg.lst ys7) :: nw7) from by assumption) (.tail _ (.head _)) rfl rfl (by rw [sizeLine_eq]; have := hc.n2; omega) hy7.symm (by rfl) (by rfl) ?_ ?_
      · (try clear F10); (try clear N10); (try clear F9); (try clear N9); (try clear F8); (try clear N8); (try clear F7); (try clear N7); (try clear F3); (try clear N3)
        intro C8 D9 I8 i v8 m8 oI8 oC8 ys8 nw8 h8 tk8 EE hv8 hsub hC8 hx8 F8 N8
        obtain ⟨r8, it8, n8, rfl, hr8, hs8⟩ := hR7.2.2 i v8 hv8
        have hi8 : i < wss.length := by rw [← hy7]; exact (List.getElem?_eq_some_iff.mp hv8).1
        have hws : wss[i]? = some wss[i] := List.getElem?_eq_getElem hi8
        have hwm : wss[i] ∈ wss := List.getElem_mem hi8
        have e8 : (((wss.map fun ws => Str.empty :: ws).take vs.length).getD i []) = Str.empty :: wss[i] := by
          rw [List.take_of_length_le (by simp [hvl]), List.getD_eq_getElem?_getD, List.getElem?_map, hws]; rfl
        rw [e8] at hs8
        have e9 : wss.getD i [] = wss[i] := by rw [List.getD_eq_getElem?_getD, hws]; rfl
        rw [e9]
        have hmC : (C8, oC8) ∈ (I8, oI8) :: (C8, oC8) :: (D9, LCg.lst ys8) :: nw8 := .tail _ (.head _)
        have hmR : (r8, W.listOf it8 n8) ∈ (I8, oI8) :: (C8, oC8) :: (D9, LCg.lst ys8) :: nw8 := .tail _ (.tail _ (.tail _ (hsub _ (.tail _ (.tail _ hr8)))))
        have hlen8 : it8.size = wss[i].length + 1 := by have := strsLen hs8; simpa using this
        have mkNst : True := trivial
        clear mkCp
        (refine (show wpAny _ _ _ _ _ _ from ?_))
        k_dflt (refine LCt.ListComp_T (F₀ := by k_asm) (by rfl) (by decide) (by rfl) (by decide) (by rfl) ?_)
        walk1
        k_dflt (refine LCt.CompSrcT.ledger (by rfl) (by k_asm) (by k_asm) hmR (by rw [sizeLine_eq]; have := (hc.size _ hwm).1; omega) ?_)
        intro g8
        refine comp_genT (xs := Str.empty :: wss[i]) (fun (c : Str) v => ∃ t, v = .str c t) (fun c y => ∃ t, y = .str c t) (fun c => decide (c ≠ Str.empty)) (by simp [hlen8]) (fun j v hj hv => ?_) (fun c v I9 oI9 C9 oC9 D10 m9 ys9 h9 tk9 E9 hc9 hv9 hC9 hx9 F9 N9 off9 ne9 => ?_) (fun ys9 hy9 => ?_)
        · obtain ⟨y, t, hy, rfl⟩ := strs_at hs8 j v (by simpa using hv)
          exact ⟨y, hy, t, rfl⟩
        · obtain ⟨t9, rfl⟩ := hv9
          have hmC9 : (C9, oC9) ∈ (I9, oI9) :: (C9, oC9) :: (D10, LCg.lst ys9) :: (I8, oI8) :: (C8, oC8) :: (D9, LCg.lst ys8) :: nw8 := .tail _ (.head _)
          have hmK : (L' + 1 + 1, oK) ∈ (I9, oI9) :: (C9, oC9) :: (D10, LCg.lst ys9) :: (I8, oI8) :: (C8, oC8) :: (D9, LCg.lst ys8) :: nw8 := .tail _ (.tail _ (.tail _ (.tail _ (.tail _ (.tail _ (hsub _ (.tail _ (.tail _ (hR7.1 _ (by simp))))))))))
          have hsr9 : LCg.SrcAt g' r8 it8 ((I8, oI8) :: (C8, oC8) :: (D9, LCg.lst ys8) :: nw8) := .inr ⟨_, hmR, rfl, _, rfl⟩
          clear N8 F8 hmC hmR
          rcases List.mem_cons.mp hc9 with rfl | hcm
          · have mkNF : True := trivial
            (refine (show wpAny _ _ _ _ _ _ from ?_))
            k_steps
            unfold Halt
            exact LCg.CompEnd.intro (by assumption) (by assumption) _ (fun p hp => hp) off9 hsr9 ⟨rfl, by decide⟩
          · obtain ⟨hc1, hc2, hc3⟩ := hc.comp _ hwm c hcm
            have hc4 : c.length ≤ 700 := Nat.le_trans (cp_len hcm) (hc.size _ hwm).2
            have mkNT : True := trivial
            (refine (show wpAny _ _ _ _ _ _ from ?_))
            k_steps
            unfold Halt
            exact LCg.CompEnd.intro (by assumption) (by assumption) _ (fun p hp => hp) off9 hsr9 ⟨rfl, decide_eq_true (by rintro rfl; exact absurd hc1 (by decide)), _, rfl⟩
        · intro D11 h11 tk11 F11 N11 o11
          refine ⟨h11, tk11, D11, ys9.toArray, ys9.length, rfl, rfl, F11, N11, off1_all o11, ?_⟩
          have e10 : (Str.empty :: wss[i]).filter (fun c => decide (c ≠ Str.empty)) = wss[i] := by
            rw [List.filter_cons, if_neg (by decide)]
            exact List.filter_eq_self.mpr fun c hcm => decide_eq_true (by rintro rfl; exact absurd (hc.comp _ hwm _ hcm).1 (by decide))
          rw [e10] at hy9
          have := Rels.strs (f := id) hy9
          rwa [List.map_id] at this
      · rintro _ ⟨g8, rfl⟩
        unfold FinY
        rintro S5 h5 tk5 ys5 nw5 hR5 F5 N5 off5
        rw [hy7, List.take_length] at hR5
        have hR6 := hR5.widen (S5, LCg.lst ys5)
        have hm5 : (S5, W.listOf ys5.toArray ys5.length) ∈ (S5, LCg.lst ys5) :: nw5 := .head _
        have hn1 : 0 < wss.length := by have := hc.n1; omega
        obtain ⟨ca, ra, cb, rb, hlo, hhi, hab⟩ := rows_part hn1 hc.pre hc.dif
        have mkMM : True := trivial
        (refine (show wpAny _ _ _ _ _ _ from ?_))
        k_steps
        unfold Halt
        rw [hlo] at hs1
        rw [hhi] at hs2
        rename Fr g' L' _ _ => F12
        rename News g' L' _ _ => N12
        replace N12 : News g' L' _ ((S5, LCg.lst ys5) :: nw5) := N12
        refine' enumFor (vs := it1.toList) (fun i m => i ≤ P.length ∧ ∃ u : Str → Option Value, m = fun y => if y = Str.ofString "common" then some (.ref r1) else if y = Str.ofString "s1" then some (.ref r1) else if y = Str.ofString "s2" then some (.ref r2) else if y = Str.ofString "isabs" then some (.bool true) else u y) ?hh ?hF ?hN hmr1 ?hc ?hd ?h0 ?hturn ?hdone
        case hF => exact F12
        case hN => exact N12
        case hh => rfl
        case hc => rfl
        case hd => rfl
        case h0 => exact ⟨Nat.zero_le _, _, fr4c rfl rfl rfl rfl⟩
        ·
          (try clear F10); (try clear N10); (try clear F9); (try clear N9); (try clear F8); (try clear N8); (try clear F7); (try clear N7); (try clear F3); (try clear N3); (try clear F5); (try clear N5); (try clear F12); (try clear N12); (try clear F1); (try clear N1); (try clear F2); (try clear N2)
          rintro E1 I1 i x T1 t1 oE1 oI1 _ h8 tk8 hx8 hT8 ⟨hi8, u8, rfl⟩ F8 N8 hlt8
          obtain ⟨y1, tx, hy1, rfl⟩ := strs_at hs1 i x hx8
          have hmr1' : (r1, W.listOf it1 n1) ∈ (E1, oE1) :: (I1, oI1) :: (S5, LCg.lst ys5) :: nw5 := .tail _ (.tail _ hmr1)
          have hmr2' : (r2, W.listOf it2 n2) ∈ (E1, oE1) :: (I1, oI1) :: (S5, LCg.lst ys5) :: nw5 := .tail _ (.tail _ hmr2)
          have hP6 : P.length ≤ 5 := by
            obtain ⟨ws0, hws0⟩ := List.exists_mem_of_length_pos hn1
            obtain ⟨c, r, e⟩ := hc.pre ws0 hws0
            have h1 := (hc.size ws0 hws0).1
            rw [e, List.length_append, List.length_cons] at h1
            omega
          have hi9 : i ≤ 1000 := by omega
          rcases Nat.lt_or_eq_of_le hi8 with hiP | rfl
          · obtain ⟨tz, hz⟩ := strs_get hs2 i (by simp; omega)
            have e1 : y1 = P[i] := by rw [List.getElem?_append_left hiP, List.getElem?_eq_getElem hiP] at hy1; exact (Option.some.inj hy1).symm
            have e2 : (P ++ cb :: rb)[i]'(by simp; omega) = P[i] := List.getElem_append_left hiP
            rw [e2] at hz
            subst e1
            have mkLE : True := trivial
            clear mkMM
            (refine (show wpAny _ _ _ _ _ _ from ?_))
            iterate 16 walk1
            k_dflt (refine cpGet (by k_asm) hmr2' hz hi9 ?_)
            k_steps
            unfold Halt
            rename Fr g' L' _ _ => F9
            rename News g' L' _ _ => N9
            exact ⟨_, _, _, rfl, F9, N9, by omega, _, fr4c rfl rfl rfl rfl⟩
          · obtain ⟨tz, hz⟩ := strs_get hs2 P.length (by simp)
            have e1 : y1 = ca := by simpa using hy1.symm
            have e2 : (P ++ cb :: rb)[P.length]'(by simp) = cb := by simp
            rw [e2] at hz
            subst e1
            have hlL : it1.size = P.length + (ra.length + 1) := by have := strsLen hs1; simpa using this
            have hiL : P.length ≤ it1.size := by omega
            have hzL : it1.size ≤ 100 := by
              have h1 := loRow_mem hn1
              rw [hlo] at h1
              have h2 := (hc.size _ h1).1
              rw [List.length_append, List.length_cons] at h2
              omega
            have hJ13 : (Txt.join (Str.ofString "/") P).length ≤ 700 := by
              have h1 := loRow_mem hn1
              rw [hlo] at h1
              exact cp_pre h1 hc
            have mkLN : True := trivial
            clear mkMM
            (refine (show wpAny _ _ _ _ _ _ from ?_))
            iterate 16 walk1
            k_dflt (refine cpGet (by k_asm) hmr2' hz hi9 ?_)
            clear mkLN
            have mkL2 : True := trivial
            iterate 12 walk1
            rename Fr g' L' _ _ => F9
            rename News g' L' _ _ => N9
            k_dflt (refine cpSlice F9 N9 hmr1' hs1 hiL hzL ?_)
            intro D13 zs13 h13 F13 N13 hz13 hl13
            rw [List.take_left] at hz13
            (refine (show wpAny _ _ _ _ _ _ from ?_))
            k_steps
            unfold Halt
            clear mkL2
            dsimp only [BrkPost]
            have hmS13 : (L' + 1, oS) ∈ (D13, W.listOf zs13 0) :: (E1, oE1) :: (I1, oI1) :: (S5, LCg.lst ys5) :: nw5 := .tail _ (.tail _ (.tail _ (.tail _ (hR5.1 _ (.tail _ (.tail _ (hR7.1 _ (by simp))))))))
            have hmD13 : (D13, W.listOf zs13 0) ∈ (D13, W.listOf zs13 0) :: (E1, oE1) :: (I1, oI1) :: (S5, LCg.lst ys5) :: nw5 := .head _
            have mkJn : True := trivial
            iterate 21 walk1
            k_steps
            exact ct_ret0 hret hN0 G' (by assumption) (by assumption) (by assumption) (by assumption) ⟨rfl, _, rfl⟩
        · rintro h8 tk8 _ ⟨hi8, -⟩ F8 N8
          have := strsLen hs1
          simp at this hi8
          omega
end
end Mine
end
section
open PySem PySem.Calls PySem.Spec PySem.W PyProof.Rows
set_option maxRecDepth 100000
set_option maxHeartbeats 8000000
set_option hygiene false
set_option linter.all false
namespace Mine
theorem le_of5 {k : Int} (h : k < 0 + ((5 - 0 : Int).toNat : Int)) : k ≤ 1000000 := by
  have e : ((5 - 0 : Int).toNat : Int) = 5 := rfl
  omega
theorem slice_all (items : Array Value) : slicePick items none none none = items := by
  rw [kmk_pick_nat (a := 0) (b := items.size) items (by simp [sliceBounds])]
  simp [List.take_of_length_le]
theorem g0_at : ∀ a, a ∈ (List.range 5).map ks0.g → 1 ≤ a ∧ a < 32 := by decide
theorem nms_paths {ys : List Value} (h : Rels (fun (a : Nat) y => ∃ t, y = .str (nmS a) t) ((List.range 5).map ks0.g) ys) : StrsAre ys (cStrs ks0.c) := by
  have := Rels.strs h
  rw [List.map_map] at this
  have e : (List.range 5).map (nmS ∘ ks0.g) = cStrs ks0.c := by
    unfold cStrs
    refine List.map_congr_left fun i _ => ?_
    show nmS (2 ^ i) = pathS [2 ^ i]
    rw [pathS_one]
  rw [e] at this
  exact this
section
variable {prog : Program} {w : World} {A : Around} {E : Value → Shared → Prop} {s : Shared} {h₀ : Heap} {L hl : Addr} {news : List (Addr × Obj)} {zs : List ZR} {ep : Nat}
theorem ztrueF {Q : Bool → Shared → Prop} (N : News h₀ L s.heap news) (hm : (hl, zlist ([] : List ZR) ep) ∈ news) (h : ∀ tk, Q false { s with toks := tk }) : wpAny (model prog w) A (truthy (.ref hl)) Q E s := ztrue N hm (Nat.zero_le _) h
theorem ztrueT {z : ZR} {Q : Bool → Shared → Prop} (N : News h₀ L s.heap news) (hm : (hl, zlist (zs ++ [z]) ep) ∈ news) (hfit : zs.length ≤ 5) (h : ∀ tk, Q true { s with toks := tk }) : wpAny (model prog w) A (truthy (.ref hl)) Q E s :=
  ztrue N hm (by simp; omega) fun tk => by
    have : decide (0 < (zs ++ [z]).length) = true := by simp
    rw [this]; exact h tk
theorem gGet {l : Addr} {gs : List Value} {e : Nat} {g : Nat → Nat} {k : Int} {u : Tok} (a : Nat) {value slice : PySem.Expr} {Q : Value → Shared → Prop} (N : News h₀ L s.heap news) (hm : (l, W.listOf gs.toArray e) ∈ news) (hI : IntsAre gs (gInts g)) (ha : a < 5) (hk : k = (a : Int)) (h : ∀ t, Q (.int (g a : Nat) t) s)
    (hs : subscripted slice false (.ref l) (.int k u) = operate [.ref l, .int k u] (getItem (.ref l) (.int k u)) := by with_unfolding_all rfl) :
    wpAny (model prog w) A (subscriptTail value slice (.ref l) (.int k u)) Q E s := by
  have hl : s.heap.IsList l gs.toArray := ⟨_, (N _ hm).1, rfl, _, rfl⟩
  have hlen : gs.length = 5 := by have := IntsAre.length hI; simpa using this
  have hx : gs[a]? = some gs[a] := List.getElem?_eq_getElem (by omega)
  obtain ⟨k', t, e, hk'⟩ := IntsAre.at hI a _ hx
  rw [List.getElem?_map, List.getElem?_map, List.getElem?_range ha] at hk'
  cases hk'
  refine tail_any hl.typeIs slot_list_getitem.lookup (wpAny_getItem_list hl (by omega) (by omega) (x := .int (g a : Nat) t) ?_ (h t)) hs
  subst hk
  rw [Int.toNat_natCast, List.getElem?_toArray, hx, e]
theorem orG {a b : Nat} {t u : Tok} {Q : Value → Shared → Prop} (ha : a < 32) (hb : b < 32) (h : ∀ t tk, Q (.int ((a ||| b : Nat) : Int) t) { s with toks := tk }) : wpAny (model prog w) A (binaryOp .BitOr (.int (a : Int) t) (.int (b : Int) u)) Q E s := or_int (by rw [bit_or a ha b hb]; exact h _ _)
end
section
variable {prog : Program} {w : World} {A : Around} {E : Value → Shared → Prop} {s : Shared}
theorem shrG {n i : Nat} {t u : Tok} {Q : Value → Shared → Prop} (hn : n < 32) (hi : i < 5) (h : ∀ t tk, Q (.int ((n / 2 ^ i : Nat) : Int) t) { s with toks := tk }) : wpAny (model prog w) A (binaryOp .RShift (.int (n : Int) t) (.int (i : Int) u)) Q E s := by
  refine rshift_int (by omega) ?_
  have e : Int.fdiv (n : Int) (2 ^ (Int.toNat (i : Int))) = ((n / 2 ^ i : Nat) : Int) := (bit_shr n hn i hi).1
  rw [e]; exact h _ _
theorem andG {n : Nat} {t u : Tok} {Q : Value → Shared → Prop} (hn : n < 32) (h : ∀ t tk, Q (.int ((n % 2 : Nat) : Int) t) { s with toks := tk }) : wpAny (model prog w) A (binaryOp .BitAnd (.int (n : Int) t) (.int 1 u)) Q E s := and_int (by rw [bit_one n hn]; exact h _ _)
end
noncomputable def HungRet (zs : List ZR) (r : Value) (made : List (Addr × Obj)) : Prop := ∃ D ys, r = .ref D ∧ made = [(D, LCg.lst ys)] ∧ StrsAre ys ((List.range 5).map fun i => Str.ofString "/" ++ pathS ((kfold (popSeq 6 (heapP zs))).c i))
/-- what the loop over the heap keeps -/
inductive HungJ (g' : Heap) (H b : Nat) (zs : List ZR) : Nat → (Str → Option Value) → List (Addr × Obj) → Prop
  | mk (done M : List ZR) (ep e1 e2 : Nat) (gs ps : List Value) (Gd Pd : Nat) (oN oB : Obj) (u : Str → Option Value) (vN vB : Option Value) (hoN : oN.data = .cell vN) (hoB : oB.data = .cell vB)
      (ap1 : (@Ne Nat Gd Pd) ∧ (@Ne Nat H Pd) ∧ (@Ne Nat (b + 1 + 1) Pd) ∧ (@Ne Nat (b + 1) Pd)) (ap2 : (@Ne Nat H Gd) ∧ (@Ne Nat (b + 1 + 1) Gd) ∧ (@Ne Nat (b + 1) Gd)) (hk6 : M.length ≤ 6) (hRM : RoadsAt g' M) (hoM : ∀ z ∈ M, RoadOk z.2) (hoD : ∀ z ∈ done, RoadOk z.2) (hdk : done.length + M.length = 6)
      (hseq : done ++ popSeq M.length M = popSeq 6 (heapP zs)) (hG : IntsAre gs (gInts (kfold done).g)) (hS : StrsAre ps (cStrs (kfold done).c)) :
      HungJ g' H b zs M.length (fun y => if y = Str.ofString "heap" then some (.ref H) else if y = Str.ofString "groups" then some (.ref Gd) else if y = Str.ofString "paths" then some (.ref Pd) else u y) [(Pd, W.listOf ps.toArray e1), (Gd, W.listOf gs.toArray e2), (H, zlist M ep), (b + 1 + 1, oN), (b + 1, oB)]
theorem HungJ.intro {g' : Heap} {H b k : Nat} {zs done M : List ZR} {ep e1 e2 : Nat} {gs ps : List Value} {Gd Pd : Nat} {oN oB : Obj} {m : Str → Option Value} (hk : M.length = k) (h1 : m (Str.ofString "heap") = some (.ref H)) (h2 : m (Str.ofString "groups") = some (.ref Gd)) (h3 : m (Str.ofString "paths") = some (.ref Pd)) (hoN : ∃ v, oN.data = .cell v) (hoB : ∃ v, oB.data = .cell v)
    (ap1 : (@Ne Nat Gd Pd) ∧ (@Ne Nat H Pd) ∧ (@Ne Nat (b + 1 + 1) Pd) ∧ (@Ne Nat (b + 1) Pd)) (ap2 : (@Ne Nat H Gd) ∧ (@Ne Nat (b + 1 + 1) Gd) ∧ (@Ne Nat (b + 1) Gd)) (hk6 : M.length ≤ 6) (hRM : RoadsAt g' M) (hoM : ∀ z ∈ M, RoadOk z.2) (hoD : ∀ z ∈ done, RoadOk z.2) (hdk : done.length + M.length = 6)
    (hseq : done ++ popSeq M.length M = popSeq 6 (heapP zs)) (hG : IntsAre gs (gInts (kfold done).g)) (hS : StrsAre ps (cStrs (kfold done).c)) :
    HungJ g' H b zs k m [(Pd, W.listOf ps.toArray e1), (Gd, W.listOf gs.toArray e2), (H, zlist M ep), (b + 1 + 1, oN), (b + 1, oB)] := by
  obtain ⟨vN, hoN⟩ := hoN
  obtain ⟨vB, hoB⟩ := hoB
  subst hk
  rw [show m = _ from fr3 h1 h2 h3]
  exact .mk done M ep e1 e2 gs ps Gd Pd oN oB m vN vB hoN hoB ap1 ap2 hk6 hRM hoM hoD hdk hseq hG hS
theorem HungJ.start {g' : Heap} {H b : Nat} {zs : List ZR} {e1 e2 : Nat} {gs ps : List Value} {Gd Pd : Nat} {oN oB : Obj} {m : Str → Option Value} (h1 : m (Str.ofString "heap") = some (.ref H)) (h2 : m (Str.ofString "groups") = some (.ref Gd)) (h3 : m (Str.ofString "paths") = some (.ref Pd)) (hoN : ∃ v, oN.data = .cell v) (hoB : ∃ v, oB.data = .cell v)
    (ap1 : (@Ne Nat Gd Pd) ∧ (@Ne Nat H Pd) ∧ (@Ne Nat (b + 1 + 1) Pd) ∧ (@Ne Nat (b + 1) Pd)) (ap2 : (@Ne Nat H Gd) ∧ (@Ne Nat (b + 1 + 1) Gd) ∧ (@Ne Nat (b + 1) Gd)) (hz : zs.length = 6) (hR0 : RoadsAt g' zs) (hok : ∀ z ∈ zs, RoadOk z.2) (hG : IntsAre gs (gInts ks0.g)) (hS : StrsAre ps (cStrs ks0.c)) :
    HungJ g' H b zs 6 m [(Pd, W.listOf ps.toArray e1), (Gd, W.listOf gs.toArray e2), (H, zlist (heapP zs) 0), (b + 1 + 1, oN), (b + 1, oB)] := by
  have hl : (heapP zs).length = 6 := by unfold heapP; rw [siftupP_len, siftupP_len, siftupP_len, hz]
  exact .intro (done := []) hl h1 h2 h3 hoN hoB ap1 ap2 (Nat.le_of_eq hl) (siftupP_mem (P := fun z => RoadAt g' z.1 z.2) (siftupP_mem (P := fun z => RoadAt g' z.1 z.2) (siftupP_mem (P := fun z => RoadAt g' z.1 z.2) hR0))) (siftupP_mem (P := fun z => RoadOk z.2) (siftupP_mem (P := fun z => RoadOk z.2) (siftupP_mem (P := fun z => RoadOk z.2) hok))) (fun _ h => nomatch h) (by rw [List.length_nil, hl]) (by rw [hl]; rfl) hG hS
section
variable (w : World) (mean : ExcName → Option Value) (mg mb : Str → Option Value)
theorem hung_ct (l : Addr) (zs : List ZR) (hz : zs.length = 6) (hok : ∀ z ∈ zs, RoadOk z.2) : Ct w mean mg mb 166 4 32 [] [] (fun h => h.IsList l (zs.map (·.1)).toArray ∧ RoadsAt h zs) [.ref l] (HungRet zs) := by
  k_with_none
  k_with "CT intro" => ((unfold Ct; k_fill; intro dp un gd cn cs a ccd cl outer A₀ base h₀ L m s Q E B F X N T hk hP hd hu hret; refine wpAny_call ?_))
  k_with "CT enter" => ((k_dflt (refine' code_defG ?k1 ?k2 ?k3 ?k4 ?k5 ?kA ?kF ?kK ?k6 ?k7 ?k8 ?k9 ?kB ?_ ?c2 ?c3 ?c4 ?c5; (case kA => exact rfl); (case kF => exact rfl); (case kK => assumption); (case k1 => k_asm); (case k2 => k_asm); (case k3 => k_asm); (case k4 => k_asm); (case k5 => k_asm); (case k6 => k_is); (case k7 => k_is); (case k8 => ktr_room); (case k9 => exact BindsTo.of_eq rfl); (case c5 => decide); (case kB => exact locs rfl); (case c2 => exact rfl); (case c3 => exact rfl); (case c4 => exact rfl); k_whole; intro g' L' h' FG' F' N' B' X' T' G'; (try dsimp only); (try k_lift B'); (try k_fold))))
  k_with "CT enterC" => ((k_dflt (refine' enterCG ?k1 ?k2 ?k3 ?k4 ?k5 ?kA ?kF ?kK ?k6 ?k7 ?k8 ?k9 ?kB ?kD ?_ ?c2 ?c3 ?c4; (case kA => exact rfl); (case kF => exact rfl); (case kK => assumption); (case k1 => k_asm); (case k2 => k_asm); (case k3 => k_asm); (case k4 => k_asm); (case k5 => k_asm); (case k6 => k_is); (case k7 => k_is); (case k8 => ktr_room); (case k9 => exact BindsTo.of_eq rfl); (case kB => exact rfl); (case kD => decide +kernel); (case c2 => exact rfl); (case c3 => exact rfl); (case c4 => exact rfl); k_whole; intro g' L' h' tk' cells' FG' F' N' Y' B' X' T' l1 G'; (try k_lt l1); k_cells Y'; (try simp only [List.cons_append, List.nil_append] at N'); (try dsimp only); (try k_lift B'); (try k_fold))))
  k_with "CT use0" => (((case k1 => k_asm); (case k2 => k_asm); (case k3 => k_asm); (case k4 => k_asm); (case k5 => k_asm); (case kK => first | exact rfl | assumption); (case kd => ktr_room); (case ku => ktr_units)))
  k_with "CT useM" => (((case k1 => k_asm); (case k2 => k_asm); (case k3 => k_asm); (case k4 => k_asm); (case k5 => k_asm); (case kK => first | exact rfl | assumption); (case kd => ktr_room); (case ku => ktr_units); (case kU => k_upd)))
  k_with "NEP" => (first | (with_reducible first | exact h9e | exact Ne.symm h9e | exact Nat.ne_of_gt h9e | exact Nat.ne_of_lt h9e) | (replace h9e := And.left h9e; walk_at "NEP") | (replace h9e := And.right h9e; walk_at "NEP"))
  k_with "NEX" => (first | ((with_reducible rename Hid _ => h9e); walk_at "NEP") | ((with_reducible rename _ ∧ _ => h9e); first | walk_at "NEP" | (clear h9e; walk_at "NEX")))
  k_with "KNE" => ((refine neN ?_; (try dsimp only); first | (with_reducible first | assumption | exact Ne.symm (by assumption) | exact ap1.1 | exact Ne.symm ap1.1 | exact ap1.2.1 | exact Ne.symm ap1.2.1 | exact ap1.2.2.1 | exact Ne.symm ap1.2.2.1 | exact ap1.2.2.2 | exact Ne.symm ap1.2.2.2 | exact ap2.1 | exact Ne.symm ap2.1 | exact ap2.2.1 | exact Ne.symm ap2.2.1 | exact ap2.2.2 | exact Ne.symm ap2.2.2 | exact ap3.1 | exact Ne.symm ap3.1 | exact ap3.2 | exact Ne.symm ap3.2) | omega))
  k_with "binaryOp LShift int int" => (((guard_hyp mkHung : True); (with_reducible refine lshift_int_small ?kb1 ?kb2 ?kb3 ?_); (case kb1 => first | assumption | l_bnd); (case kb2 => exact le_of5 (by assumption)); (case kb3 => decide)))
  k_with "call ref" => (((guard_hyp mkHung : True); k_here; (with_reducible show wpAny _ _ (call (Value.ref 142) [Value.ref _]) _ _ _); k_dflt (refine' ct_useM (heapify_ct _ _ _ _ _ zs 0 hz) ?k1 ?k2 ?k3 ?k4 ?k5 ?kK ?kd ?ku ?kU (fun z hz => (hR0 z hz).sub (Fr.keep (by assumption))) ?_; walk_at "CT useM"; rintro r9 h9 tk9 e9 F9 N9; subst e9)))
  k_with "exec Assign cons ListComp" => (((guard_hyp mkHung : True); refine Halt.out ?_))
  k_with "CompSrc" => (((guard_hyp mkHung2 : True); k_dflt (refine LCg.CompSrc.ledger (by rfl) (by k_asm) (by k_asm) (by k_mem) (by rw [sizeLine_eq, List.size_toArray]; omega) ?_); intro g8; refine' comp_gen (xs := (List.range 5).map ks0.g) (fun (a : Nat) v => ∃ k t, v = .int k t ∧ k = (a : Int)) (fun a y => ∃ t, y = .str (nmS a) t) ?c1 (fun i v _ hv => ints_nat hG (by simpa using hv)) (fun a v I8 oI8 C8 oC8 D8 m8 ys8 h8 tk8 E8 ha8 hv8 hC8 hx8 F8 N8 off8 ne8 => ?_) (fun ys8 hy8 => ?_); (case c1 => (rw [List.size_toArray]; exact hgl.symm)); (first | ((obtain ⟨k8, t8, hv7, hk7⟩ := hv8); subst hv7; subst hk7; have ha7 := g0_at _ ha8) | skip); skip))
  k_with "CompEnd" => (((guard_hyp mkHung2 : True); refine LCg.CompEnd.intro (by assumption) (by assumption) _ (fun p hp => hp) (by assumption) (by first | exact trivial | lcg_src) ⟨rfl, _, rfl⟩))
  k_with "call ref" => (((guard_hyp mkHung2 : True); k_here; (with_reducible show wpAny _ _ (call (Value.ref 128) [Value.int _ _]) _ _ _); k_dflt (refine' ct_use0 (pretty_ct _ _ _ _ _ _ ha7.1 ha7.2) ?k1 ?k2 ?k3 ?k4 ?k5 ?kK ?kd ?ku trivial ?_; walk_at "CT use0"; rintro r9 h9 tk9 ⟨t9, e9⟩ F9 N9 k9; subst e9)))
  k_with "binaryOp RShift int int" => (((guard_hyp mkTurnT : True); k_here; k_dflt (refine shrG ho9.2 hi5 ?_); intro t9 tk9))
  k_with "binaryOp BitAnd int int" => (((guard_hyp mkTurnT : True); k_here; k_dflt (refine andG (bit_shr _ ho9.2 _ hi5).2 ?_); intro t9 tk9))
  k_with "call ref" => (((guard_hyp mkTurnT : True); k_here; (with_reducible show wpAny _ _ (call (Value.ref 128) [Value.int _ _]) _ _ _); k_dflt (refine' ct_use0 (pretty_ct _ _ _ _ _ _ ho9.1 ho9.2) ?k1 ?k2 ?k3 ?k4 ?k5 ?kK ?kd ?ku trivial ?_; walk_at "CT use0"; rintro r9 h9 tk9 ⟨t9, e9⟩ F9 N9 k9; subst e9)))
  k_with "call ref" => (((guard_hyp mkTurnT : True); k_here; (with_reducible show wpAny _ _ (call (Value.ref 115) [Value.str _ _, Value.str _ _]) _ _ _); k_dflt (refine' ct_use0 (join_ct _ _ _ _ _ _ _ _ hj1 hj2 hj3) ?k1 ?k2 ?k3 ?k4 ?k5 ?kK ?kd ?ku trivial ?_; walk_at "CT use0"; rintro r9 h9 tk9 ⟨t9, e9⟩ F9 N9 k9; subst e9)))
  k_with "call type:enumerate" => (((guard_hyp mkTurnT : True); refine Halt.out ?_))
  k_with "eval ListComp" => (((guard_hyp mkTurnF : True); refine Halt.out ?_))
  k_with "CompEnd" => (((guard_hyp mkTurnF : True); refine LCg.CompEnd.intro (by assumption) (by assumption) _ (fun p hp => hp) (by assumption) (by first | exact trivial | lcg_src) ⟨rfl, str_eq (joinS_root hci.1 hci.2.2)⟩))
  k_with "call ref" => (((guard_hyp mkTurnF : True); k_here; (with_reducible show wpAny _ _ (call (Value.ref 115) [Value.str _ _, Value.str _ _]) _ _ _); k_dflt (refine' ct_use0 (join_ct _ _ _ _ _ _ _ _ hj1 hj2 hj3) ?k1 ?k2 ?k3 ?k4 ?k5 ?kK ?kd ?ku trivial ?_; walk_at "CT use0"; rintro r9 h9 tk9 ⟨t9, e9⟩ F9 N9 k9; subst e9)))
  k_with "KeptE" => (((guard_hyp mkTurnT : True); refine Halt.out ?_))
  k_with "truthy ref" => (((guard_hyp mkTurnF : True); k_here; k_dflt (refine ztrueF (by k_asm) (by k_mem) ?_); intro tk9))
  k_with "truthy ref" => (((guard_hyp mkTurnT : True); k_here; k_dflt (refine ztrueT (by k_asm) (by k_mem) (by omega) ?_); intro tk9))
  k_with "call ref" => (((guard_hyp mkTurnT : True); k_here; (with_reducible show wpAny _ _ (call (Value.ref 135) [Value.ref _]) _ _ _); refine Halt.out ?_))
  k_with "binaryOp BitOr int int" => (((guard_hyp mkTurnT : True); k_here; k_dflt (refine orG (hKI.g _ ha5).2 (hKI.g _ hb5).2 ?_); intro t9 tk9))
  k_with "subscriptTail" => (((guard_hyp mkTurnT : True); k_here; k_dflt (refine gGet _ (by k_asm) (by k_mem) hG (by assumption) rfl ?_); intro t9))
  k_with "exec While Name cons nil" => (((guard_hyp mkHung : True); refine Halt.out ?_))
  walk_at "CT intro"
  have hN0 := N
  walk_at "CT enterC"
  have hl := isList_sub hP.1 G'
  have hR0 : RoadsAt g' zs := fun z hz => (hP.2 z hz).sub fun b o e => G' b o e (by simp)
  have hA1 : @LT.lt Nat _ (L' + 1 + 1) h'.objs.size := Heap.lt_size (N' _ (List.mem_cons_self ..)).1
  have mkHung : True := trivial
  k_steps
  rename News _ _ _ _ => N1
  rw [slice_all] at N1
  have N2 : News g' L' _ [(h'.objs.size + 1, zlist zs 0), (L' + 1 + 1, _), (L' + 1, _)] := N1
  clear N1
  (refine (show wpAny _ _ _ _ _ _ from ?_))
  k_dflt (refine' ct_useM (heapify_ct _ _ _ _ _ zs 0 hz) ?k1 ?k2 ?k3 ?k4 ?k5 ?kK ?kd ?ku ?kU (fun z hz => (hR0 z hz).sub (Fr.keep (by assumption))) ?_; walk_at "CT useM"; rintro r9 h9 tk9 e9 F9 N9; subst e9)
  k_steps
  unfold Halt
  k_dflt (refine LCg.Assign_ListComp_U (F₀ := by k_asm) (by rfl) (by with_unfolding_all rfl) (by rfl) (by decide) (by rfl) (by decide) (by rfl) (by rfl) (by rfl) ?_)
  k_steps
  rename IntsAre _ _ => hG
  rename List Value => gv
  replace hG : IntsAre gv (gInts ks0.g) := hG
  have hgl : gv.length = 5 := by have := IntsAre.length hG; simpa [gInts] using this
  have mkHung2 : True := trivial
  unfold Halt
  k_dflt (refine LCg.Assign_ListComp_U (F₀ := by k_asm) (by rfl) (by with_unfolding_all rfl) (by rfl) (by decide) (by rfl) (by decide) (by rfl) (by rfl) (by rfl) ?_)
  walk1
  k_dflt (refine LCg.CompSrc.ledger (by rfl) (by k_asm) (by k_asm) (by k_mem) (by rw [sizeLine_eq, List.size_toArray]; omega) ?_); intro g8; refine' comp_gen (xs := (List.range 5).map ks0.g) (fun (a : Nat) v => ∃ k t, v = .int k t ∧ k = (a : Int)) (fun a y => ∃ t, y = .str (nmS a) t) ?c1 (fun i v _ hv => ints_nat hG (by simpa using hv)) (fun a v I8 oI8 C8 oC8 D8 m8 ys8 h8 tk8 E8 ha8 hv8 hC8 hx8 F8 N8 off8 ne8 => ?_) (fun ys8 hy8 => ?_)
  · rw [List.size_toArray]; exact hgl.symm
  · obtain ⟨k8, t8, hv7, hk7⟩ := hv8
    subst hv7
    subst hk7
    have ha7 := g0_at _ ha8
    k_steps
  · k_steps
    unfold Halt
    have hS0 := nms_paths hy8
    rename Fr _ _ _ _ => F2
    rename News _ _ _ _ => N2
    obtain ⟨H, mm, nw, ap3, F3, N3, hJ0⟩ : ∃ (H : Nat) (mm : Str → Option Value) (nw : List (Addr × Obj)), ((@Ne Nat (L' + 1 + 1) H) ∧ (@Ne Nat (L' + 1) H)) ∧ Fr g' L' _ mm ∧ News g' L' _ nw ∧ HungJ g' H L' zs 6 mm nw := ⟨_, _, _, by constructor <;> omega, F2, N2, HungJ.start rfl rfl rfl ⟨_, by assumption⟩ ⟨_, by assumption⟩ (by assumption) (by assumption) hz hR0 hok hG hS0⟩
    clear N2 F2 hG hS0 hy8
    refine whileR 6 (HungJ g' H L' zs) F3 N3 hJ0 ?_
    clear F3 N3 hJ0
    intro k m₁ news₁ h tk hJ F3 N3
    cases hJ with | mk done M ep e1 e2 gs ps Gd Pd oN oB u vN vB hoN hoB ap1 ap2 hk6 hRM hoM hoD hdk hseq hG hS => ?_
    rcases List.eq_nil_or_concat M with rfl | ⟨M', z1, rfl⟩
    · have mkTurnF : True := trivial
      (refine (show wpAny _ _ _ _ _ _ from ?_))
      walk1
      walk1
      walk1
      simp only [Bool.false_eq_true, if_false]
      have hd6 : done = popSeq 6 (heapP zs) := by rw [← hseq]; simp [popSeq]
      have hpl : ps.length = 5 := by have := StrsAre.length hS; simpa using this
      have hKI := kfold_inv done hoD
      (refine (show wpAny _ _ _ _ _ _ from ?_))
      k_steps
      unfold Halt
      k_dflt (refine LCg.ListComp_U (F₀ := by k_asm) (by rfl) (by decide) (by rfl) (by decide) (by rfl) ?_)
      walk1
      k_dflt (refine LCg.CompSrc.ledger (by rfl) (by k_asm) (by k_asm) (by k_mem) (by rw [sizeLine_eq, List.size_toArray]; omega) ?_)
      intro g8
      refine' comp_gen (xs := List.range 5) (fun (i : Nat) v => i < 5 ∧ ∃ t, v = .str (pathS ((kfold done).c i)) t) (fun i y => ∃ t, y = .str (Str.ofString "/" ++ pathS ((kfold done).c i)) t) ?c1x (fun i v hi hv => ?_) (fun i v I8 oI8 C8 oC8 D8 m8 ys8 h8 tk8 E8 ha8 hv8 hC8 hx8 F8 N8 off8 ne8 => ?_) (fun ys8 hy8 => ?_)
      · rw [List.size_toArray]; exact hpl.symm
      · rw [List.size_toArray] at hi
        exact ⟨i, List.getElem?_range (by omega), by omega, cstr_at hS (by omega) (by simpa using hv)⟩
      · obtain ⟨hi5, t8, hv7⟩ := hv8
        subst hv7
        have hci := hKI.c i hi5
        have hj1 : 1 ≤ (Str.ofString "/").length := by decide +kernel
        have hj2 : (Str.ofString "/").length ≤ 500 := by decide +kernel
        have hj3 : (pathS ((kfold done).c i)).length ≤ 500 := by have := pathS_len _ hci.2.2; omega
        (refine (show wpAny _ _ _ _ _ _ from ?_))
        k_steps
      · (refine (show LCg.FinE _ _ _ _ _ _ _ from ?_))
        k_steps
        rw [hd6] at hy8
        exact ct_ret hret hN0 G' (by assumption) (by assumption) (by assumption) (by assumption) ⟨_, ys8, rfl, rfl, Rels.strs hy8⟩ (fun p hp => by rw [List.mem_singleton.mp hp]; exact List.mem_cons_self ..) (fun _ h => nomatch h) (fun p _ => .inr (by simp))
    · rw [List.concat_eq_append] at *
      have hk7 : (M' ++ [z1]).length = M'.length + 1 := by rw [List.length_append, List.length_singleton]
      have hM5 : M'.length ≤ 5 := by omega
      have mkTurnT : True := trivial
      (refine (show wpAny _ _ _ _ _ _ from ?_))
      k_steps
      unfold Halt
      have hpa := popP_all (P := fun z => RoadAt g' z.1 z.2) hRM
      have hpo := popP_all (P := fun z => RoadOk z.2) hoM
      have hps := popSeq_snoc M'.length M' z1
      k_dflt (refine' ct_useM (hpop_ct _ _ _ _ H M' z1 ep hM5) ?k1 ?k2 ?k3 ?k4 ?k5 ?kK ?kd ?ku ?kU (fun z hz => (hRM z hz).sub (Fr.keep (by assumption))) ?_; walk_at "CT useM"; rintro r9 h9 tk9 e9 F9 N9; subst e9)
      generalize popP (M' ++ [z1]) z1 = pp at *
      obtain ⟨⟨v9, ⟨rp, rt, ra, rb⟩⟩, M2⟩ := pp
      obtain ⟨⟨T9, c9, hv9, hT⟩, hR2, hl2⟩ := hpa
      obtain ⟨ok9, hO2, -⟩ := hpo
      dsimp only at hv9 hT hR2 hl2 ok9 hO2 hps N9 ⊢
      subst hv9
      obtain ⟨na, rfl⟩ := Int.eq_ofNat_of_zero_le ok9.a0
      obtain ⟨nb, rfl⟩ := Int.eq_ofNat_of_zero_le ok9.b0
      have ha5 : na < 5 := by have := ok9.a1; simp only at this; omega
      have hb5 : nb < 5 := by have := ok9.b1; simp only at this; omega
      have hT9 : IsTup g' T9 #[.int rp c9.1, .int rt c9.2.1, .int (na : Int) c9.2.2.1, .int (nb : Int) c9.2.2.2] := hT
      clear hT
      have hKI := kfold_inv done hoD
      have ho9 := or32 _ (hKI.g _ ha5).2 _ (hKI.g _ hb5).2 (hKI.g _ ha5).1
      have hsn := kfold_snoc done (.ref T9, ⟨rp, rt, na, nb⟩)
      have hseq' : (done ++ [(Value.ref T9, (⟨rp, rt, na, nb⟩ : Road))]) ++ popSeq M'.length M2 = popSeq 6 (heapP zs) := by rw [← hseq, hk7, hps, List.append_assoc]; rfl
      have hoD' : ∀ z ∈ done ++ [(Value.ref T9, (⟨rp, rt, na, nb⟩ : Road))], RoadOk z.2 := fun z hz => by
        rcases List.mem_append.mp hz with hz | hz
        · exact hoD z hz
        · rw [List.mem_singleton.mp hz]; exact ok9
      (refine (show wpAny _ _ _ _ _ _ from ?_))
      k_steps
      · unfold Halt
        k_dflt (refine Assign_ListCompX none (by k_asm) (by rfl) (by with_unfolding_all rfl) (by rfl) (by rfl) (by decide) (fun _ => by rfl) (fun _ => by rfl) (by rfl) (by rfl) ?_)
        k_steps
        unfold Halt
        have hne9 : ¬ (kfold done).g na = (kfold done).g nb := fun e => absurd (congrArg Int.ofNat e) (by assumption)
        have hpl : ps.length = 5 := by have := StrsAre.length hS; simpa using this
        have hgl5 : gs.length = 5 := by have := IntsAre.length hG; simpa using this
        k_dflt (refine enumComp (vs := ps) (by rfl) (by k_asm) (by k_asm) (by k_mem) rfl rfl (by rw [sizeLine_eq]; omega) (by rfl) (by rfl) (by rfl) (by decide) (fun i y => ∃ t, y = .str (pathS ((kstep (kfold done) ⟨rp, rt, na, nb⟩).c i)) t) ?_ ?_)
        · intro C8 D8 I8 E8 i t8 v8 m8 oE8 oI8 oC8 ys8 h8 tk8 EE hi8 hv8 hC8 hx8 hx9 F8 N8
          have hi5 : i < 5 := by omega
          obtain ⟨tv, rfl⟩ := cstr_at hS hi5 hv8
          have hci := hKI.c i hi5
          have hnf := nm_facts _ ho9.2 ho9.1
          have hj1 := hnf.1
          have hj2 : (nmS ((kfold done).g na ||| (kfold done).g nb)).length ≤ 500 := by omega
          have hj3 : (pathS ((kfold done).c i)).length ≤ 500 := by have := pathS_len _ hci.2.2; omega
          (refine (show wpAny _ _ _ _ _ _ from ?_))
          k_steps
          · unfold Halt
            exact KeptE.intro (by assumption) (by assumption) (str_eq (by rw [(kc_t hne9 (by assumption)).1, joinS_path ho9.1 ho9.2 hci.1 hci.2.2]))
          · unfold Halt
            exact KeptE.intro (by assumption) (by assumption) (str_eq (by rw [(kc_f hne9 (by assumption)).1]))
        · rintro _ ⟨g8, rfl⟩
          unfold FinY
          rintro Pd2 h8 tk8 ys8 nw8 ⟨rfl, hy8⟩ F8 N8 o18
          rw [hpl] at hy8
          have hS2 := rels_strs hy8
          simp only [LCg.Off1, and_true] at o18
          (refine (show wpAny _ _ _ _ _ _ from ?_))
          k_steps
          unfold Halt
          k_dflt (refine Assign_ListCompX none (by k_asm) (by rfl) (by with_unfolding_all rfl) (by rfl) (by rfl) (by decide) (fun _ => by rfl) (fun _ => by rfl) (by rfl) (by rfl) ?_)
          k_steps
          unfold Halt
          k_dflt (refine enumComp (vs := gs) (by rfl) (by k_asm) (by k_asm) (by k_mem) rfl rfl (by rw [sizeLine_eq]; omega) (by rfl) (by rfl) (by rfl) (by decide) (fun i y => ∃ t, y = .int (((kstep (kfold done) ⟨rp, rt, na, nb⟩).g i : Nat) : Int) t) ?_ ?_)
          · clear F8 N8
            intro C8 D8 I8 E8 i t8 v8 m8 oE8 oI8 oC8 ys8 h8 tk8 EE hi8 hv8 hC8 hx8 hx9 F8 N8
            have hi5 : i < 5 := by omega
            obtain ⟨tv, rfl⟩ := gint_at hG hi5 hv8
            (refine (show wpAny _ _ _ _ _ _ from ?_))
            k_steps
            · unfold Halt
              exact KeptE.intro (by assumption) (by assumption) (int_eq (by rw [(kc_t hne9 (by assumption)).2]))
            · unfold Halt
              exact KeptE.intro (by assumption) (by assumption) (int_eq (by rw [(kc_f hne9 (by assumption)).2]))
          · rintro _ ⟨g7, rfl⟩
            unfold FinY
            rintro Gd2 h7 tk7 ys7 nw7 ⟨rfl, hy7⟩ F7 N7 o17
            rw [hgl5] at hy7
            have hG2 := rels_ints hy7
            simp only [LCg.Off1, and_true] at o17
            (refine (show wpAny _ _ _ _ _ _ from ?_))
            k_steps
            obtain ⟨oN9, oB9, N7, hoN9, hoB9⟩ : ∃ oN9 oB9, News g' L' h7 [(Gd2, LCg.lst ys7), (Pd2, LCg.lst ys8), (Pd, W.listOf ps.toArray e1), (Gd, W.listOf gs.toArray e2), (H, zlist M2 (ep + 1)), (L' + 1 + 1, oN9), (L' + 1, oB9)] ∧ (∃ v, oN9.data = .cell v) ∧ (∃ v, oB9.data = .cell v) := ⟨_, _, N7, ⟨_, by assumption⟩, ⟨_, by assumption⟩⟩
            refine wturn_next (news' := [(Pd2, W.listOf ys8.toArray ys8.length), (Gd2, W.listOf ys7.toArray ys7.length), (H, zlist M2 (ep + 1)), (L' + 1 + 1, oN9), (L' + 1, oB9)]) F7 (fun p hp => N7 p ?_) (j := M'.length) (by omega)
              (HungJ.intro hl2 rfl rfl rfl hoN9 hoB9 ⟨Ne.symm o17.1, o18.2.2.1, o18.2.2.2.1, o18.2.2.2.2⟩ ⟨o17.2.2.2.1, o17.2.2.2.2.1, o17.2.2.2.2.2⟩ (by omega) hR2 hO2 hoD' (by rw [List.length_append, List.length_singleton]; omega) (hl2 ▸ hseq') (by rw [hsn]; exact hG2) (by rw [hsn]; exact hS2))
            simp only [List.mem_cons, List.not_mem_nil, or_false] at hp ⊢
            rcases hp with h | h | h | h | h <;> simp [h]
      · rename Fr _ _ _ _ => F9
        rename News _ _ _ _ => N9
        have hst : kfold (done ++ [(Value.ref T9, (⟨rp, rt, na, nb⟩ : Road))]) = kfold done := by
          rw [hsn]; exact kstep_same (Int.ofNat.inj (by assumption))
        refine wturn_next F9 N9 (j := M'.length) (by omega) (HungJ.intro hl2 rfl rfl rfl ⟨vN, hoN⟩ ⟨_, by assumption⟩ ap1 ap2 (by omega) hR2 hO2 hoD' (by rw [List.length_append, List.length_singleton]; omega) (hl2 ▸ hseq') (by rw [hst]; exact hG) (by rw [hst]; exact hS))
end
end Mine
end
section
open PySem PySem.Calls PySem.Spec PySem.W PyProof.Rows
set_option maxRecDepth 100000
set_option maxHeartbeats 4000000
namespace Mine
/-! the net by thresholds: what the matrix of the nearest ways is -/
noncomputable abbrev Mat := Nat → Nat → Int
noncomputable def big : Int := 100000000
noncomputable def MLe (U M : Mat) : Prop := ∀ i j, U i j ≤ M i j
noncomputable def MSym (M : Mat) : Prop := ∀ i j, M i j = M j i
noncomputable def MUlt (U : Mat) : Prop := ∀ i j m, U i j ≤ max (U i m) (U m j)
noncomputable def rankZ (z : ZR) : Int := 6 * z.2.p + z.2.t
theorem near0_sym : MSym near0 := fun i j => by
  unfold near0
  by_cases h : i = j
  · subst h; rfl
  · rw [if_neg h, if_neg (fun e => h e.symm)]
theorem roadM_at (M : Mat) (z : ZR) (hs : MSym M) (i j : Nat) : roadM M z i j = if (i = z.2.a.toNat ∧ j = z.2.b.toNat) ∨ (i = z.2.b.toNat ∧ j = z.2.a.toNat) then min (M i j) (rankZ z) else M i j := by
  unfold roadM setM rankZ
  by_cases h1 : i = z.2.b.toNat ∧ j = z.2.a.toNat
  · rw [if_pos h1, if_pos (.inr h1), h1.1, h1.2, hs z.2.b.toNat]
  · rw [if_neg h1]
    by_cases h2 : i = z.2.a.toNat ∧ j = z.2.b.toNat
    · rw [if_pos h2, if_pos (.inl h2), h2.1, h2.2]
    · rw [if_neg h2, if_neg (fun h => h.elim h2 h1)]
theorem roadM_sym {M : Mat} (hs : MSym M) (z : ZR) : MSym (roadM M z) := fun i j => by
  rw [roadM_at M z hs, roadM_at M z hs, hs i j]
  by_cases h : (i = z.2.a.toNat ∧ j = z.2.b.toNat) ∨ (i = z.2.b.toNat ∧ j = z.2.a.toNat)
  · rw [if_pos h, if_pos (h.elim (fun h => .inr ⟨h.2, h.1⟩) fun h => .inl ⟨h.2, h.1⟩)]
  · rw [if_neg h, if_neg (fun h' => h (h'.elim (fun h => .inr ⟨h.2, h.1⟩) fun h => .inl ⟨h.2, h.1⟩))]
theorem roads_M : ∀ (zs : List ZR) (M : Mat), MSym M → MSym (zs.foldl roadM M) ∧ MLe (zs.foldl roadM M) M ∧ (∀ z ∈ zs, zs.foldl roadM M z.2.a.toNat z.2.b.toNat ≤ rankZ z) ∧
    ∀ U : Mat, MSym U → MLe U M → (∀ z ∈ zs, U z.2.a.toNat z.2.b.toNat ≤ rankZ z) → MLe U (zs.foldl roadM M)
  | [], M, hs => ⟨hs, fun _ _ => Int.le_refl _, (fun _ h => nomatch h), fun _ _ h _ => h⟩
  | z :: zs, M, hs => by
    obtain ⟨h1, h2, h3, h4⟩ := roads_M zs (roadM M z) (roadM_sym hs z)
    have le : MLe (roadM M z) M := fun i j => by rw [roadM_at M z hs]; split <;> omega
    refine ⟨h1, fun i j => Int.le_trans (h2 i j) (le i j), fun y hy => ?_, fun U su hu hz => h4 U su (fun i j => ?_) fun y hy => hz y (.tail _ hy)⟩
    · rcases List.mem_cons.mp hy with rfl | hy
      · have := h2 y.2.a.toNat y.2.b.toNat
        rw [roadM_at M y hs, if_pos (.inl ⟨rfl, rfl⟩)] at this
        show List.foldl roadM (roadM M y) zs _ _ ≤ _
        omega
      · exact h3 y hy
    · rw [roadM_at M z hs]
      have a1 := hu i j
      have a2 := hz z (.head _)
      split
      · next h =>
        rcases h with ⟨rfl, rfl⟩ | ⟨rfl, rfl⟩
        · omega
        · rw [su] at a2; omega
      · exact a1
theorem fwM_sym {M : Mat} (hs : MSym M) (k : Nat) : MSym (fwM M k) := fun i j => by
  show min (M i j) (max (M i k) (M k j)) = min (M j i) (max (M j k) (M k i))
  rw [hs i j, hs i k, hs k j, Int.max_comm]
theorem fwK_sym {M : Mat} (hs : MSym M) : ∀ k, MSym (fwK M k)
  | 0 => hs
  | k + 1 => fwM_sym (fwK_sym hs k) k
theorem fwK_le (M : Mat) : ∀ k, MLe (fwK M k) M
  | 0, _, _ => Int.le_refl _
  | k + 1, i, j => by
    exact Int.le_trans (Int.min_le_left ..) (fwK_le M k i j)
theorem fwK_ge {M U : Mat} (hu : MUlt U) (h : MLe U M) : ∀ k, MLe U (fwK M k)
  | 0 => h
  | k + 1 => fun i j => by
    exact Int.le_min.mpr ⟨fwK_ge hu h k i j, Int.le_trans (hu i j k) (Int.max_le.mpr ⟨Int.le_trans (fwK_ge hu h k i k) (Int.le_max_left ..), Int.le_trans (fwK_ge hu h k k j) (Int.le_max_right ..)⟩)⟩
theorem tri_aux {ij ik kj im km mj mk : Int} (a : ij ≤ max im mj) (b : ik ≤ max im mk) (c : kj ≤ max km mj) : min ij (max ik kj) ≤ max (min im (max ik km)) (min mj (max mk kj)) := by
  have l : ∀ x y : Int, x ≤ max x y := Int.le_max_left
  have r : ∀ x y : Int, y ≤ max x y := Int.le_max_right
  have m1 : min ij (max ik kj) ≤ ij := Int.min_le_left ..
  have m2 : min ij (max ik kj) ≤ max ik kj := Int.min_le_right ..
  rcases Int.le_total im (max ik km) with h | h
  · rw [Int.min_eq_left h]
    rcases Int.le_total mj (max mk kj) with h' | h'
    · rw [Int.min_eq_left h']; exact Int.le_trans m1 a
    · rw [Int.min_eq_right h']
      exact Int.le_trans m2 (Int.max_le.mpr ⟨Int.le_trans b (Int.max_le.mpr ⟨l _ _, Int.le_trans (l mk kj) (r _ _)⟩), Int.le_trans (r mk kj) (r _ _)⟩)
  · rw [Int.min_eq_right h]
    rcases Int.le_total mj (max mk kj) with h' | h'
    · rw [Int.min_eq_left h']
      exact Int.le_trans m2 (Int.max_le.mpr ⟨Int.le_trans (l ik km) (l _ _), Int.le_trans c (Int.max_le.mpr ⟨Int.le_trans (r ik km) (l _ _), r _ _⟩)⟩)
    · rw [Int.min_eq_right h']
      exact Int.le_trans m2 (Int.max_le.mpr ⟨Int.le_trans (l ik km) (l _ _), Int.le_trans (r mk kj) (r _ _)⟩)
theorem tri_mid {ij ik kj kk : Int} : min ij (max ik kj) ≤ max (min ik (max ik kk)) (min kj (max kk kj)) :=
  Int.le_trans (Int.min_le_right ..) (Int.max_le.mpr ⟨Int.le_trans (Int.le_min.mpr ⟨Int.le_refl _, Int.le_max_left ..⟩) (Int.le_max_left ..), Int.le_trans (Int.le_min.mpr ⟨Int.le_refl _, Int.le_max_right ..⟩) (Int.le_max_right ..)⟩)
theorem fwK_tri (M : Mat) : ∀ k i j m, m < k → fwK M k i j ≤ max (fwK M k i m) (fwK M k m j)
  | 0, _, _, _, h => absurd h (Nat.not_lt_zero _)
  | k + 1, i, j, m, h => by
    rcases Nat.lt_or_eq_of_le (Nat.le_of_lt_succ h) with hm | hm
    · exact tri_aux (fwK_tri M k i j m hm) (fwK_tri M k i k m hm) (fwK_tri M k k j m hm)
    · subst hm
      exact tri_mid
/-! the same by merging: the matrix after some roads, the cheapest first -/
noncomputable def nstep (N : Mat) (z : ZR) : Mat := fun i j =>
  if N i j = big ∧ ((N i z.2.a.toNat < big ∧ N z.2.b.toNat j < big) ∨ (N i z.2.b.toNat < big ∧ N z.2.a.toNat j < big)) then rankZ z else N i j
structure NInv (N : Mat) (R : Int) : Prop where
  sym : MSym N
  diag : ∀ i, N i i = -1
  off : ∀ i j, i ≠ j → 0 ≤ N i j
  ult : MUlt N
  fin : ∀ i j, N i j = big ∨ N i j < R
theorem NInv.start : NInv near0 0 where
  sym := near0_sym
  diag i := by simp [near0]
  off i j h := by simp [near0, h]
  ult i j m := by
    unfold near0
    by_cases h : i = j
    · rw [if_pos h]; split <;> split <;> omega
    · rw [if_neg h]
      by_cases h1 : i = m
      · rw [if_neg (fun e => h (h1.trans e) : ¬ m = j)]; omega
      · rw [if_neg h1]; omega
  fin i j := by unfold near0 big; split <;> omega
theorem NInv.step {N : Mat} {R : Int} (h : NInv N R) {z : ZR} (h1 : R ≤ rankZ z) (h2 : 0 ≤ rankZ z) (h3 : rankZ z < big) : NInv (nstep N z) (rankZ z + 1) := by
  have hF : ∀ i j, N i j ≠ big → N i j < R := fun i j e => (h.fin i j).resolve_left e
  have hL : ∀ i j, N i j < big ↔ N i j < R := fun i j => ⟨fun e => hF i j (by omega), fun e => by omega⟩
  have tr : ∀ i j m, N i m < R → N m j < R → N i j < R := fun i j m x y => by have := h.ult i j m; omega
  have le : ∀ i j, N i j ≤ big := fun i j => by have := h.fin i j; omega
  generalize ha : z.2.a.toNat = a
  generalize hb : z.2.b.toNat = b
  have e : ∀ i j, nstep N z i j = if N i j = big ∧ ((N i a < big ∧ N b j < big) ∨ (N i b < big ∧ N a j < big)) then rankZ z else N i j := fun i j => by unfold nstep; rw [ha, hb]
  refine ⟨fun i j => ?_, fun i => ?_, fun i j hij => ?_, fun i j m => ?_, fun i j => ?_⟩
  · rw [e, e, h.sym i j, h.sym i a, h.sym b j, h.sym i b, h.sym a j]
    have : ((N a i < big ∧ N j b < big) ∨ (N b i < big ∧ N j a < big)) ↔ ((N j a < big ∧ N b i < big) ∨ (N j b < big ∧ N a i < big)) := by
      constructor <;> (rintro (h | h) <;> simp [h.1, h.2])
    simp only [this]
  · rw [e, if_neg]
    · exact h.diag i
    · rw [h.diag]; unfold big; rintro ⟨h, -⟩; omega
  · rw [e]; split
    · exact h2
    · exact h.off i j hij
  · have s := h.sym
    rw [e i m, e m j]
    by_cases c1 : N i m = big ∧ ((N i a < big ∧ N b m < big) ∨ (N i b < big ∧ N a m < big))
    · rw [if_pos c1]
      by_cases cij : N i j = big
      · by_cases c2 : N m j < R
        · rw [e, if_pos]
          · omega
          · refine ⟨cij, ?_⟩
            rcases c1.2 with c | c
            · exact .inl ⟨c.1, (hL _ _).mpr (tr _ _ m ((hL _ _).mp c.2) c2)⟩
            · exact .inr ⟨c.1, (hL _ _).mpr (tr _ _ m ((hL _ _).mp c.2) c2)⟩
        · have c2' : N m j = big := (h.fin m j).resolve_right c2
          by_cases c3 : (N m a < big ∧ N b j < big) ∨ (N m b < big ∧ N a j < big)
          · rw [e, if_pos]
            · omega
            · refine ⟨cij, ?_⟩
              simp only [hL] at c1 c3 ⊢
              rcases c1.2 with c | c <;> rcases c3 with d | d
              · exact .inl ⟨c.1, d.2⟩
              · have := tr i j a c.1 d.2; omega
              · have := tr i j b c.1 d.2; omega
              · exact .inr ⟨c.1, d.2⟩
          · rw [if_neg (fun x => c3 x.2), c2', e]
            have := le i j
            split <;> omega
      · rw [e, if_neg (fun x => cij x.1)]
        have := hF i j cij
        omega
    · rw [if_neg c1]
      by_cases c2 : N m j = big ∧ ((N m a < big ∧ N b j < big) ∨ (N m b < big ∧ N a j < big))
      · rw [if_pos c2]
        by_cases cij : N i j = big
        · by_cases c3 : N i m < R
          · rw [e, if_pos]
            · omega
            · refine ⟨cij, ?_⟩
              rcases c2.2 with c | c
              · exact .inl ⟨(hL _ _).mpr (tr _ _ m c3 ((hL _ _).mp c.1)), c.2⟩
              · exact .inr ⟨(hL _ _).mpr (tr _ _ m c3 ((hL _ _).mp c.1)), c.2⟩

          · rw [(h.fin i m).resolve_right c3, e]
            have := le i j
            split <;> omega
        · rw [e, if_neg (fun x => cij x.1)]
          have := hF i j cij
          omega
      · rw [if_neg c2, e]
        have u := h.ult i j m
        split
        · next c => rw [c.1] at u; omega
        · exact u
  · rw [e]
    have := h.fin i j
    split <;> omega
theorem nstep_ab {N : Mat} {R : Int} (h : NInv N R) (z : ZR) (h1 : R ≤ rankZ z) (hb : R ≤ big): nstep N z z.2.a.toNat z.2.b.toNat ≤ rankZ z := by
  unfold nstep
  have d1 := h.diag z.2.a.toNat
  have d2 := h.diag z.2.b.toNat
  rcases h.fin z.2.a.toNat z.2.b.toNat with c | c
  · rw [if_pos ⟨c, .inl ⟨by rw [d1]; decide, by rw [d2]; decide⟩⟩]; exact Int.le_refl _
  · rw [if_neg (fun x => by omega)]; omega
theorem nstep_le (N : Mat) (z : ZR) (h3 : rankZ z < big) : MLe (nstep N z) N := fun i j => by
  unfold nstep
  split
  · next h => rw [h.1]; exact Int.le_of_lt h3
  · exact Int.le_refl _
/-- the roads told, the cheapest first -/
noncomputable def Rising (R : Int) : List ZR → Prop
  | [] => True
  | z :: l => R ≤ rankZ z ∧ 0 ≤ rankZ z ∧ rankZ z < big ∧ Rising (rankZ z + 1) l
theorem nfold : ∀ (l : List ZR) (N : Mat) (R : Int), NInv N R → R ≤ big → Rising R l → ∃ R', R' ≤ big ∧ NInv (l.foldl nstep N) R' ∧ MLe (l.foldl nstep N) N ∧ (∀ z ∈ l, l.foldl nstep N z.2.a.toNat z.2.b.toNat ≤ rankZ z) ∧
    ∀ D : Mat, (∀ z ∈ l, z.2.a.toNat < 5 ∧ z.2.b.toNat < 5) → (∀ i j m, m < 5 → D i j ≤ max (D i m) (D m j)) → MSym D → MLe D N → (∀ z ∈ l, D z.2.a.toNat z.2.b.toNat ≤ rankZ z) → MLe D (l.foldl nstep N)
  | [], N, R, h, hb, _ => ⟨R, hb, h, fun _ _ => Int.le_refl _, (fun _ h => nomatch h), fun _ _ _ _ h _ => h⟩
  | z :: l, N, R, h, hb, hr => by
    obtain ⟨r1, r2, r3, r4⟩ := hr
    obtain ⟨R', g0, g1, g2, g3, g4⟩ := nfold l (nstep N z) (rankZ z + 1) (h.step r1 r2 r3) (by omega) r4
    refine ⟨R', g0, g1, fun i j => Int.le_trans (g2 i j) (nstep_le N z r3 i j), fun y hy => ?_, fun D ha ht hs hl hz => g4 D (fun y hy => ha y (.tail _ hy)) ht hs (fun i j => ?_) fun y hy => hz y (.tail _ hy)⟩
    · rcases List.mem_cons.mp hy with rfl | hy
      · exact Int.le_trans (g2 _ _) (nstep_ab h y r1 hb)
      · exact g3 y hy
    · unfold nstep
      split
      · next c =>
        obtain ⟨c1, c2⟩ := c
        have hz0 := hz z (.head _)
        obtain ⟨ha0, hb0⟩ := ha z (.head _)
        rcases c2 with c | c
        · have t1 := ht i j _ ha0
          have t2 := ht z.2.a.toNat j _ hb0
          have x1 := hl i z.2.a.toNat
          have x2 := hl z.2.b.toNat j
          have f1 := h.fin i z.2.a.toNat
          have f2 := h.fin z.2.b.toNat j
          omega
        · have t1 := ht i j _ hb0
          have t2 := ht z.2.b.toNat j _ ha0
          have x1 := hl i z.2.b.toNat
          have x2 := hl z.2.a.toNat j
          have f1 := h.fin i z.2.b.toNat
          have f2 := h.fin z.2.a.toNat j
          have := hs z.2.b.toNat z.2.a.toNat
          omega
      · exact hl i j
/-- the nearest ways are what merging gives -/
theorem near_merge (zs l : List ZR) (hp : ∀ z, z ∈ l ↔ z ∈ zs) (hr : Rising 0 l) (hab : ∀ z ∈ zs, z.2.a.toNat < 5 ∧ z.2.b.toNat < 5) (i j : Nat) : fwK (zs.foldl roadM near0) 5 i j = l.foldl nstep near0 i j := by
  obtain ⟨m1, m2, m3, m4⟩ := roads_M zs near0 near0_sym
  obtain ⟨R', -, n1, n2, n3, n4⟩ := nfold l near0 0 .start (by decide) hr
  apply Int.le_antisymm
  · refine n4 _ (fun z hz => hab z ((hp z).mp hz)) (fun i j m h => fwK_tri _ 5 i j m h) (fwK_sym m1 5) (fun i j => Int.le_trans (fwK_le _ 5 i j) (m2 i j)) (fun z hz => Int.le_trans (fwK_le _ 5 _ _) (m3 z ((hp z).mp hz))) i j
  · exact fwK_ge n1.ult (m4 _ n1.sym n2 fun z hz => n3 z ((hp z).mpr hz)) 5 i j
end Mine
end
section
open PySem PySem.Calls PySem.Spec PySem.W PyProof.Rows
set_option maxRecDepth 100000
set_option maxHeartbeats 4000000
namespace Mine
/-! the heap gives the roads off in their order: by way of the indices -/
section
variable {α β : Type} (lt : α → α → Bool)
noncomputable def sdG (new : α) (start : Nat) : Nat → List α → Nat → List α
  | 0, L, p => L.set p new
  | f + 1, L, p => if start < p then (match L[(p - 1) / 2]? with | some par => if lt new par = true then sdG new start f (L.set p par) ((p - 1) / 2) else L.set p new | none => L.set p new) else L.set p new
noncomputable def siftdownG (L : List α) (start pos : Nat) : List α := match L[pos]? with
  | some new => sdG lt new start pos L pos
  | none => L
noncomputable def childG (M : List α) (p : Nat) : Nat := match M[2 * p + 1]?, M[2 * p + 2]? with
  | some z, some y => if lt z y = true then 2 * p + 1 else 2 * p + 2
  | _, _ => 2 * p + 1
noncomputable def suG : Nat → List α → Nat → List α × Nat
  | 0, M, p => (M, p)
  | f + 1, M, p => match M[childG lt M p]? with
    | some z => suG f (M.set p z) (childG lt M p)
    | none => (M, p)
noncomputable def siftupG (M : List α) (pos : Nat) : List α := match M[pos]? with
  | some new => siftdownG lt ((suG lt M.length M pos).1.set (suG lt M.length M pos).2 new) pos (suG lt M.length M pos).2
  | none => M
noncomputable def popG (zs : List α) (d : α) : α × List α := match zs.dropLast with
  | [] => (zs.getLastD d, [])
  | z :: r => (z, siftupG lt ((z :: r).set 0 (zs.getLastD d)) 0)
noncomputable def popSeqG : Nat → List α → List α
  | 0, _ => []
  | _ + 1, [] => []
  | k + 1, z :: r => (popG lt (z :: r) z).1 :: popSeqG k (popG lt (z :: r) z).2
noncomputable def heapG (zs : List α) : List α := siftupG lt (siftupG lt (siftupG lt zs 2) 1) 0
variable {lt} {lt' : β → β → Bool} {φ : α → β} (hφ : ∀ x y, lt' (φ x) (φ y) = lt x y)
include hφ
theorem sdG_map (new : α) (start : Nat) : ∀ f L p, sdG lt' (φ new) start f (L.map φ) p = (sdG lt new start f L p).map φ
  | 0, L, p => by simp [sdG, List.map_set]
  | f + 1, L, p => by
    unfold sdG
    rw [List.getElem?_map]
    by_cases hs : start < p
    · rw [if_pos hs, if_pos hs]
      cases L[(p - 1) / 2]? with
      | none => simp [List.map_set]
      | some par =>
        dsimp only [Option.map_some]
        rw [hφ]
        split
        · rw [← List.map_set, sdG_map new start f]
        · rw [List.map_set]
    · rw [if_neg hs, if_neg hs, List.map_set]
theorem siftdownG_map (L : List α) (s p : Nat) : siftdownG lt' (L.map φ) s p = (siftdownG lt L s p).map φ := by
  unfold siftdownG
  rw [List.getElem?_map]
  cases L[p]? with
  | none => rfl
  | some new => exact sdG_map hφ new s p L p
theorem childG_map (M : List α) (p : Nat) : childG lt' (M.map φ) p = childG lt M p := by
  unfold childG
  rw [List.getElem?_map, List.getElem?_map]
  cases M[2 * p + 1]? with
  | none => rfl
  | some z =>
    cases M[2 * p + 2]? with
    | none => rfl
    | some y => dsimp only [Option.map_some]; rw [hφ]
theorem suG_map : ∀ f (M : List α) p, suG lt' f (M.map φ) p = ((suG lt f M p).1.map φ, (suG lt f M p).2)
  | 0, M, p => rfl
  | f + 1, M, p => by
    unfold suG
    rw [childG_map hφ, List.getElem?_map]
    cases M[childG lt M p]? with
    | none => rfl
    | some z =>
      dsimp only [Option.map_some]
      rw [← List.map_set, suG_map f]
theorem siftupG_map (M : List α) (p : Nat) : siftupG lt' (M.map φ) p = (siftupG lt M p).map φ := by
  unfold siftupG
  rw [List.getElem?_map]
  cases M[p]? with
  | none => rfl
  | some new =>
    dsimp only [Option.map_some]
    rw [List.length_map, suG_map hφ, ← List.map_set, siftdownG_map hφ]
theorem popG_map (M : List α) (d : α) : popG lt' (M.map φ) (φ d) = (φ (popG lt M d).1, (popG lt M d).2.map φ) := by
  unfold popG
  rw [← List.map_dropLast]
  have e : (M.map φ).getLastD (φ d) = φ (M.getLastD d) := by
    rw [List.getLastD_eq_getLast?, List.getLastD_eq_getLast?, List.getLast?_map]
    cases M.getLast? <;> rfl
  rw [e]
  cases M.dropLast with
  | nil => rfl
  | cons z r =>
    show (φ z, siftupG lt' (((z :: r).map φ).set 0 (φ (M.getLastD d))) 0) = _
    rw [← List.map_set, siftupG_map hφ]
theorem popSeqG_map : ∀ k (M : List α), popSeqG lt' k (M.map φ) = (popSeqG lt k M).map φ
  | 0, M => by cases M <;> rfl
  | k + 1, [] => rfl
  | k + 1, z :: r => by
    show (popG lt' ((z :: r).map φ) (φ z)).1 :: popSeqG lt' k (popG lt' ((z :: r).map φ) (φ z)).2 = _
    rw [popG_map hφ, popSeqG_map k]
    rfl
theorem heapG_map (M : List α) : heapG lt' (M.map φ) = (heapG lt M).map φ := by
  unfold heapG
  rw [siftupG_map hφ, siftupG_map hφ, siftupG_map hφ]
end
noncomputable abbrev ltZ (x y : ZR) : Bool := ltR x.2 y.2
theorem sdG_z (new : ZR) (s : Nat) : ∀ f L p, sdGo new s f L p = sdG ltZ new s f L p
  | 0, _, _ => rfl
  | f + 1, L, p => by
    unfold sdGo sdG
    cases L[(p - 1) / 2]? with
    | none => rfl
    | some par => dsimp only; rw [sdG_z new s f]
theorem suG_z : ∀ f (M : List ZR) p, suGo f M p = suG ltZ f M p
  | 0, _, _ => rfl
  | f + 1, M, p => by
    unfold suGo suG
    have e : childP M p = childG ltZ M p := by
      unfold childP childG
      cases M[2 * p + 1]? with
      | none => rfl
      | some z => cases M[2 * p + 2]? <;> rfl
    rw [e]
    cases M[childG ltZ M p]? with
    | none => rfl
    | some z => dsimp only; rw [suG_z f]
theorem siftdownG_z (L : List ZR) (s p : Nat) : siftdownP L s p = siftdownG ltZ L s p := by
  unfold siftdownP siftdownG
  cases L[p]? with
  | none => rfl
  | some new => exact sdG_z ..
theorem siftupG_z (M : List ZR) (p : Nat) : siftupP M p = siftupG ltZ M p := by
  unfold siftupP siftupG
  cases M[p]? with
  | none => rfl
  | some new => dsimp only; rw [suG_z, siftdownG_z]
theorem popG_z (M : List ZR) (d : ZR) : popP M d = popG ltZ M d := by
  unfold popP popG
  cases M.dropLast with
  | nil => rfl
  | cons z r => dsimp only; rw [siftupG_z]
theorem popSeqG_z : ∀ k (M : List ZR), popSeq k M = popSeqG ltZ k M
  | 0, M => by cases M <;> rfl
  | k + 1, [] => rfl
  | k + 1, z :: r => by
    show (popP (z :: r) z).1 :: popSeq k (popP (z :: r) z).2 = (popG ltZ (z :: r) z).1 :: popSeqG ltZ k (popG ltZ (z :: r) z).2
    rw [popG_z, popSeqG_z k]
theorem heapG_z (M : List ZR) : heapP M = heapG ltZ M := by
  unfold heapP heapG
  rw [siftupG_z, siftupG_z, siftupG_z]
noncomputable abbrev ltF (x y : Fin 6) : Bool := decide (x.val < y.val)
noncomputable abbrev ltN (x y : Nat) : Bool := Nat.blt x y
/-- told by figures alone: light for the kernel -/
noncomputable def fN (n : Nat) (k : Nat → Bool) : Bool := match n with
  | 0 => k 0
  | 1 => k 1
  | 2 => k 2
  | 3 => k 3
  | 4 => k 4
  | 5 => k 5
  | n => k n
theorem fN_eq (n : Nat) (k : Nat → Bool) : fN n k = k n := by unfold fN; split <;> rfl
noncomputable def fL : List Nat → (List Nat → Bool) → Bool
  | [], k => k []
  | a :: l, k => fN a fun a => fL l fun l => k (a :: l)
theorem fL_eq : ∀ (l : List Nat) (k : List Nat → Bool), fL l k = k l
  | [], _ => rfl
  | a :: l, k => by unfold fL; rw [fN_eq, fL_eq l]
noncomputable def popN : Nat → List Nat → List Nat → Bool
  | 0, _, xs => xs.isEmpty
  | _ + 1, [], xs => xs.isEmpty
  | _ + 1, _ :: _, [] => false
  | k + 1, z :: r, x :: xs => Nat.beq (popG ltN (z :: r) z).1 x && fL (popG ltN (z :: r) z).2 fun M => popN k M xs
theorem popN_eq : ∀ (k : Nat) (M xs : List Nat), popN k M xs = true → popSeqG ltN k M = xs
  | 0, M, xs, h => by cases xs with
    | nil => cases M <;> rfl
    | cons => exact absurd h (by simp [popN])
  | k + 1, [], xs, h => by cases xs with
    | nil => rfl
    | cons => exact absurd h (by simp [popN])
  | k + 1, z :: r, [], h => absurd h (by simp [popN])
  | k + 1, z :: r, x :: xs, h => by
    unfold popN at h
    rw [Bool.and_eq_true, fL_eq] at h
    show (popG ltN (z :: r) z).1 :: popSeqG ltN k (popG ltN (z :: r) z).2 = _
    rw [Nat.eq_of_beq_eq_true h.1, popN_eq k _ _ h.2]
noncomputable def okN (a b c d e f : Nat) : Bool := fL (siftupG ltN [a, b, c, d, e, f] 2) fun M => fL (siftupG ltN M 1) fun M => fL (siftupG ltN M 0) fun M => popN 6 M [0, 1, 2, 3, 4, 5]
noncomputable def allN (p : Nat → Bool) : Bool := p 0 && p 1 && p 2 && p 3 && p 4 && p 5
theorem allN_at {p : Nat → Bool} (h : allN p = true) : ∀ a : Fin 6, p a.val = true := by
  unfold allN at h
  simp only [Bool.and_eq_true] at h
  obtain ⟨⟨⟨⟨⟨h0, h1⟩, h2⟩, h3⟩, h4⟩, h5⟩ := h
  intro a
  match a with
  | 0 => exact h0
  | 1 => exact h1
  | 2 => exact h2
  | 3 => exact h3
  | 4 => exact h4
  | 5 => exact h5
theorem heap720 : (allN fun a => allN fun b => Nat.beq a b || allN fun c => Nat.beq a c || Nat.beq b c || allN fun d => Nat.beq a d || Nat.beq b d || Nat.beq c d || allN fun e => Nat.beq a e || Nat.beq b e || Nat.beq c e || Nat.beq d e || allN fun f => Nat.beq a f || Nat.beq b f || Nat.beq c f || Nat.beq d f || Nat.beq e f || okN a b c d e f) = true := by decide +kernel
theorem beqF {a b : Fin 6} (h : ¬ a = b) : Nat.beq a.val b.val = false := by
  cases e : Nat.beq a.val b.val with
  | false => rfl
  | true => exact absurd (Fin.ext (Nat.eq_of_beq_eq_true e)) h
theorem valF_inj : ∀ {l m : List (Fin 6)}, l.map Fin.val = m.map Fin.val → l = m
  | [], [], _ => rfl
  | [], _ :: _, h => by simp at h
  | _ :: _, [], h => by simp at h
  | a :: l, b :: m, h => by
    simp only [List.map_cons, List.cons.injEq] at h
    rw [Fin.ext h.1, valF_inj h.2]
theorem heap_at {a b c d e f : Fin 6} (h : [a, b, c, d, e, f].Nodup) : popSeqG ltF 6 (heapG ltF [a, b, c, d, e, f]) = [0, 1, 2, 3, 4, 5] := by
  have h0 := allN_at (allN_at heap720 a) b
  simp only [List.nodup_cons, List.mem_cons, List.not_mem_nil, or_false, not_or, not_false_eq_true, List.nodup_nil, and_true] at h
  obtain ⟨⟨ab, ac, ad, ae, af⟩, ⟨bc, bd, be, bf⟩, ⟨cd, ce, cf⟩, ⟨de, df⟩, ef⟩ := h
  rw [beqF ab, Bool.false_or] at h0
  replace h0 := allN_at h0 c
  rw [beqF ac, beqF bc, Bool.false_or, Bool.false_or] at h0
  replace h0 := allN_at h0 d
  rw [beqF ad, beqF bd, beqF cd, Bool.false_or, Bool.false_or, Bool.false_or] at h0
  replace h0 := allN_at h0 e
  rw [beqF ae, beqF be, beqF ce, beqF de, Bool.false_or, Bool.false_or, Bool.false_or, Bool.false_or] at h0
  replace h0 := allN_at h0 f
  rw [beqF af, beqF bf, beqF cf, beqF df, beqF ef, Bool.false_or, Bool.false_or, Bool.false_or, Bool.false_or, Bool.false_or] at h0
  unfold okN at h0
  rw [fL_eq, fL_eq, fL_eq] at h0
  have hv : ∀ x y : Fin 6, ltN x.val y.val = ltF x y := fun x y => Bool.eq_iff_iff.mpr (by rw [Nat.blt_eq, decide_eq_true_iff])
  have h1 := popN_eq _ _ _ h0
  refine valF_inj ?_
  rw [← popSeqG_map hv, ← heapG_map hv]
  exact h1
/-- a list in its order -/
noncomputable def putZ (z : ZR) : List ZR → List ZR
  | [] => [z]
  | y :: l => if rankZ z < rankZ y then z :: y :: l else y :: putZ z l
noncomputable def sortZ : List ZR → List ZR
  | [] => []
  | z :: l => putZ z (sortZ l)
theorem putZ_perm (z : ZR) : ∀ l, (putZ z l).Perm (z :: l)
  | [] => .refl _
  | y :: l => by
    unfold putZ
    split
    · exact .refl _
    · exact ((putZ_perm z l).cons y).trans (.swap z y l)
theorem sortZ_perm : ∀ l, (sortZ l).Perm l
  | [] => .refl _
  | z :: l => (putZ_perm z (sortZ l)).trans ((sortZ_perm l).cons z)
theorem putZ_sorted (z : ZR) : ∀ l, l.Pairwise (fun x y => rankZ x ≤ rankZ y) → (putZ z l).Pairwise (fun x y => rankZ x ≤ rankZ y)
  | [], _ => by simp [putZ]
  | y :: l, h => by
    obtain ⟨h1, h2⟩ := List.pairwise_cons.mp h
    unfold putZ
    split
    · refine List.pairwise_cons.mpr ⟨fun x hx => ?_, h⟩
      rcases List.mem_cons.mp hx with rfl | hx
      · omega
      · have := h1 x hx; omega
    · refine List.pairwise_cons.mpr ⟨fun x hx => ?_, putZ_sorted z l h2⟩
      rcases List.mem_cons.mp ((putZ_perm z l).mem_iff.mp hx) with rfl | hx
      · omega
      · exact h1 x hx
theorem sortZ_sorted : ∀ l, (sortZ l).Pairwise (fun x y => rankZ x ≤ rankZ y)
  | [] => .nil
  | z :: l => putZ_sorted z _ (sortZ_sorted l)
theorem map_of_mem {β : Type} {φ : β → ZR} : ∀ (l : List ZR), (∀ z ∈ l, ∃ i, φ i = z) → ∃ π : List β, l = π.map φ
  | [], _ => ⟨[], rfl⟩
  | z :: l, h => by
    obtain ⟨i, hi⟩ := h z (.head _)
    obtain ⟨π, hπ⟩ := map_of_mem l fun y hy => h y (.tail _ hy)
    exact ⟨i :: π, by rw [List.map_cons, hi, ← hπ]⟩
theorem ltR_rank {x y : ZR} (hx : 0 ≤ x.2.t ∧ x.2.t ≤ 5) (hy : 0 ≤ y.2.t ∧ y.2.t ≤ 5) (hxy : x = y ∨ x.2.t ≠ y.2.t) : ltZ x y = decide (rankZ x < rankZ y) := by
  show (if x.2.p = y.2.p then (if x.2.t = y.2.t then (if x.2.a = y.2.a then decide (x.2.b < y.2.b) else decide (x.2.a < y.2.a)) else decide (x.2.t < y.2.t)) else decide (x.2.p < y.2.p)) = decide (6 * x.2.p + x.2.t < 6 * y.2.p + y.2.t)
  rcases hxy with rfl | hne
  · simp
  · by_cases hp : x.2.p = y.2.p
    · rw [if_pos hp, if_neg hne]
      apply decide_eq_decide.mpr
      omega
    · rw [if_neg hp]
      apply decide_eq_decide.mpr
      omega
theorem list_six {α : Type} (l : List α) (h : l.length = 6) : ∃ a b c d e f, l = [a, b, c, d, e, f] := by
  obtain ⟨a, l, rfl⟩ := List.exists_cons_of_length_eq_add_one h
  obtain ⟨b, l, rfl⟩ := List.exists_cons_of_length_eq_add_one (Nat.succ.inj h)
  obtain ⟨c, l, rfl⟩ := List.exists_cons_of_length_eq_add_one (Nat.succ.inj (Nat.succ.inj h))
  obtain ⟨d, l, rfl⟩ := List.exists_cons_of_length_eq_add_one (Nat.succ.inj (Nat.succ.inj (Nat.succ.inj h)))
  obtain ⟨e, l, rfl⟩ := List.exists_cons_of_length_eq_add_one (Nat.succ.inj (Nat.succ.inj (Nat.succ.inj (Nat.succ.inj h))))
  obtain ⟨f, l, rfl⟩ := List.exists_cons_of_length_eq_add_one (Nat.succ.inj (Nat.succ.inj (Nat.succ.inj (Nat.succ.inj (Nat.succ.inj h)))))
  obtain rfl := List.eq_nil_of_length_eq_zero (Nat.succ.inj (Nat.succ.inj (Nat.succ.inj (Nat.succ.inj (Nat.succ.inj (Nat.succ.inj h))))))
  exact ⟨a, b, c, d, e, f, rfl⟩
/-- what the heap gives off: the roads, the cheapest first -/
theorem heap_sorted {zs : List ZR} (ht : zs.map (·.2.t) = [0, 1, 2, 3, 4, 5]) : popSeq 6 (heapP zs) = sortZ zs ∧ (sortZ zs).Pairwise (fun x y => rankZ x < rankZ y) := by
  have hlen : zs.length = 6 := by have := congrArg List.length ht; simpa using this
  have hnd : (zs.map (·.2.t)).Nodup := by rw [ht]; decide
  have hz : ∀ z ∈ zs, 0 ≤ z.2.t ∧ z.2.t ≤ 5 := fun z hz => by
    have : z.2.t ∈ zs.map (·.2.t) := List.mem_map_of_mem hz
    rw [ht] at this
    simp only [List.mem_cons, List.not_mem_nil, or_false] at this
    omega
  have pm := sortZ_perm zs
  have hs := sortZ_sorted zs
  have hnd' : ((sortZ zs).map (·.2.t)).Nodup := (pm.map _).nodup_iff.mpr hnd
  have hsl : (sortZ zs).length = 6 := by rw [pm.length_eq, hlen]
  have hzs : ∀ z ∈ sortZ zs, 0 ≤ z.2.t ∧ z.2.t ≤ 5 := fun z h => hz z (pm.mem_iff.mp h)
  have hst : (sortZ zs).Pairwise (fun x y => rankZ x < rankZ y) := by
    have h2 := List.pairwise_map.mp hnd'
    refine (List.pairwise_and_iff.mpr ⟨hs, h2⟩ |>.imp_of_mem fun {x y} hx hy ⟨a, b⟩ => ?_)
    have := hzs x hx
    have := hzs y hy
    unfold rankZ at a ⊢
    omega
  refine ⟨?_, hst⟩
  generalize hS : sortZ zs = S at *
  obtain ⟨s0, s1, s2, s3, s4, s5, rfl⟩ := list_six S hsl
  let φ : Fin 6 → ZR := fun i => [s0, s1, s2, s3, s4, s5].get i
  have hφ : ∀ i j, ltZ (φ i) (φ j) = ltF i j := fun i j => by
    have mi : φ i ∈ [s0, s1, s2, s3, s4, s5] := List.get_mem _ _
    have mj : φ j ∈ [s0, s1, s2, s3, s4, s5] := List.get_mem _ _
    have tr : ∀ i j : Fin 6, i < j → rankZ (φ i) < rankZ (φ j) := fun i j hij => List.pairwise_iff_getElem.mp hst i.val j.val i.isLt j.isLt hij
    have tt : ∀ i j : Fin 6, i < j → (φ i).2.t ≠ (φ j).2.t := fun i j hij => List.pairwise_iff_getElem.mp (List.pairwise_map.mp hnd') i.val j.val i.isLt j.isLt hij
    rcases Nat.lt_trichotomy i.val j.val with h | h | h
    · rw [ltR_rank (hzs _ mi) (hzs _ mj) (.inr (tt i j h))]
      have := tr i j h
      exact (decide_eq_true this).trans (decide_eq_true h).symm
    · obtain rfl := Fin.ext h
      rw [ltR_rank (hzs _ mi) (hzs _ mj) (.inl rfl)]
      exact (decide_eq_false (Int.lt_irrefl _)).trans (decide_eq_false (Nat.lt_irrefl _)).symm
    · rw [ltR_rank (hzs _ mi) (hzs _ mj) (.inr (tt j i h).symm)]
      have := tr j i h
      exact (decide_eq_false (by omega)).trans (decide_eq_false (by omega)).symm
  obtain ⟨π, hπ⟩ : ∃ π : List (Fin 6), zs = π.map φ := map_of_mem zs fun z hz => by
    obtain ⟨i, hi⟩ := List.mem_iff_get.mp (pm.mem_iff.mpr hz)
    exact ⟨i, hi⟩
  have hπn : π.Nodup := by
    rw [hπ, List.map_map] at hnd
    exact (List.pairwise_map.mp hnd).imp fun {a b} h e => h (by rw [e])
  have hπl : π.length = 6 := by rw [hπ, List.length_map] at hlen; exact hlen
  rw [popSeqG_z, heapG_z, hπ, heapG_map hφ, popSeqG_map hφ]
  obtain ⟨a, b, c, d, e, f, rfl⟩ := list_six π hπl
  rw [heap_at hπn]
  rfl
end Mine
end
section
open PySem PySem.Calls PySem.Spec PySem.W PyProof.Rows
set_option maxRecDepth 100000
set_option maxHeartbeats 4000000
namespace Mine
/-! the chains of folders -/
noncomputable def maskB (b0 b1 b2 b3 b4 : Bool) : Nat := (if b0 then 1 else 0) + (if b1 then 2 else 0) + (if b2 then 4 else 0) + (if b3 then 8 else 0) + (if b4 then 16 else 0)
noncomputable def maskP (p : Nat → Bool) : Nat := maskB (p 0) (p 1) (p 2) (p 3) (p 4)
theorem maskB_or : ∀ a0 a1 a2 a3 a4 b0 b1 b2 b3 b4 : Bool, maskB a0 a1 a2 a3 a4 ||| maskB b0 b1 b2 b3 b4 = maskB (a0 || b0) (a1 || b1) (a2 || b2) (a3 || b3) (a4 || b4) := by decide +kernel
theorem maskB_bit : ∀ a0 a1 a2 a3 a4 : Bool, (maskB a0 a1 a2 a3 a4 / 2 ^ 0 % 2 = 1 ↔ a0 = true) ∧ (maskB a0 a1 a2 a3 a4 / 2 ^ 1 % 2 = 1 ↔ a1 = true) ∧ (maskB a0 a1 a2 a3 a4 / 2 ^ 2 % 2 = 1 ↔ a2 = true) ∧ (maskB a0 a1 a2 a3 a4 / 2 ^ 3 % 2 = 1 ↔ a3 = true) ∧ (maskB a0 a1 a2 a3 a4 / 2 ^ 4 % 2 = 1 ↔ a4 = true) ∧ maskB a0 a1 a2 a3 a4 < 32 := by decide +kernel
theorem mask_bit {p : Nat → Bool} {i : Nat} (h : i < 5) : maskP p / 2 ^ i % 2 = 1 ↔ p i = true := by
  obtain ⟨h0, h1, h2, h3, h4, -⟩ := maskB_bit (p 0) (p 1) (p 2) (p 3) (p 4)
  exact five (P := fun i => maskP p / 2 ^ i % 2 = 1 ↔ p i = true) h0 h1 h2 h3 h4 i h
theorem mask_or (p q : Nat → Bool) : maskP p ||| maskP q = maskP fun j => p j || q j := maskB_or ..
theorem mask_lt (p : Nat → Bool) : maskP p < 32 := (maskB_bit (p 0) (p 1) (p 2) (p 3) (p 4)).2.2.2.2.2
theorem mask_congr {p q : Nat → Bool} (h : ∀ i, i < 5 → p i = q i) : maskP p = maskP q := by
  unfold maskP
  rw [h 0 (by decide), h 1 (by decide), h 2 (by decide), h 3 (by decide), h 4 (by decide)]
theorem mask_inj {p q : Nat → Bool} (h : maskP p = maskP q) {i : Nat} (hi : i < 5) : p i = q i := by
  have a := mask_bit (p := p) hi
  have b := mask_bit (p := q) hi
  rw [h] at a
  exact Bool.eq_iff_iff.mpr (a.symm.trans b)
noncomputable abbrev maskR (f : Nat → Int) (r : Int) : Nat := maskP fun j => decide (f j ≤ r)
structure KN (s : KS) (N : Mat) : Prop where
  g : ∀ i, i < 5 → s.g i = maskP fun j => decide (N i j < big)
  c : ∀ i, i < 5 → ∃ V : List Int, s.c i = V.map (maskR (N i)) ∧ V.Pairwise (· > ·) ∧ ∀ x, x ∈ V ↔ x < big ∧ ∃ j, j < 5 ∧ N i j = x
theorem KN.start : KN ks0 near0 := by
  refine ⟨five (by decide) (by decide) (by decide) (by decide) (by decide), fun i hi => ⟨[-1], ?_, by simp, fun x => ⟨fun h => ?_, ?_⟩⟩⟩
  · exact five (P := fun i => ks0.c i = [-1].map (maskR (near0 i))) (by decide) (by decide) (by decide) (by decide) (by decide) i hi
  · obtain rfl := List.mem_singleton.mp h
    exact ⟨by decide, i, hi, by simp [near0]⟩
  · rintro ⟨h1, j, hj, rfl⟩
    unfold near0 at h1 ⊢
    unfold big at h1
    split at h1
    · next h => rw [if_pos h]; simp
    · omega
theorem KN.step {s : KS} {N : Mat} {R : Int} (k : KN s N) (h : NInv N R) {z : ZR} (h1 : R ≤ rankZ z) (h2 : 0 ≤ rankZ z) (h3 : rankZ z < big) (ha5 : z.2.a.toNat < 5) (hb5 : z.2.b.toNat < 5) : KN (kstep s z.2) (nstep N z) := by
  have hF : ∀ i j, N i j ≠ big → N i j < R := fun i j e => (h.fin i j).resolve_left e
  have le : ∀ i j, N i j ≤ big := fun i j => by have := h.fin i j; omega
  have tr : ∀ i m j, N i m < big → N m j < big → N i j < big := fun i m j x y => by have := h.ult i j m; omega
  have sy : ∀ i j, N i j < big → N j i < big := fun i j x => by rw [h.sym]; exact x
  have dg : ∀ i, N i i < big := fun i => by rw [h.diag]; decide
  unfold kstep
  generalize ha : z.2.a.toNat = a at *
  generalize hb : z.2.b.toNat = b at *
  have e : ∀ i j, nstep N z i j = if N i j = big ∧ ((N i a < big ∧ N b j < big) ∨ (N i b < big ∧ N a j < big)) then rankZ z else N i j := fun i j => by unfold nstep; rw [ha, hb]
  by_cases hg : s.g a = s.g b
  · rw [if_pos hg]
    rw [k.g a ha5, k.g b hb5] at hg
    have hab : N a b < big := by
      have := mask_inj hg hb5
      rw [decide_eq_true (dg b)] at this
      exact of_decide_eq_true this
    have : nstep N z = N := by
      funext i j
      rw [e, if_neg]
      rintro ⟨x, y | y⟩
      · have := tr i b j (tr i a b y.1 hab) y.2; omega
      · have := tr i a j (tr i b a y.1 (sy _ _ hab)) y.2; omega
    rw [this]; exact k
  · rw [if_neg hg]
    have hab : ¬ N a b < big := fun x => hg (by
      rw [k.g a ha5, k.g b hb5]
      refine mask_congr fun j hj => ?_
      exact decide_eq_decide.mpr ⟨fun y => tr b a j (sy _ _ x) y, fun y => tr a b j x y⟩)
    have hor : s.g a ||| s.g b = maskP fun j => decide (N a j < big) || decide (N b j < big) := by rw [k.g a ha5, k.g b hb5, mask_or]
    rw [hor]
    -- one row
    have row : ∀ i, i < 5 → (N a i < big ∨ N b i < big) → ∀ j, (nstep N z i j < big ↔ (N a j < big ∨ N b j < big)) ∧ (nstep N z i j ≤ rankZ z ↔ nstep N z i j < big) := fun i hi hl j => by
      have f := h.fin i j
      rw [e]
      by_cases c : N i j = big
      · by_cases d : (N i a < big ∧ N b j < big) ∨ (N i b < big ∧ N a j < big)
        · rw [if_pos ⟨c, d⟩]
          exact ⟨⟨fun _ => d.elim (fun x => .inr x.2) fun x => .inl x.2, fun _ => h3⟩, by omega⟩
        · rw [if_neg (fun x => d x.2), c]
          refine ⟨⟨fun x => absurd x (Int.lt_irrefl _), fun x => ?_⟩, by omega⟩
          exfalso
          rcases hl with y | y <;> rcases x with x | x
          · have := tr i a j (sy _ _ y) x; omega
          · exact d (.inl ⟨sy _ _ y, x⟩)
          · exact d (.inr ⟨sy _ _ y, x⟩)
          · have := tr i b j (sy _ _ y) x; omega
      · rw [if_neg (fun x => c x.1)]
        have f' := hF i j c
        refine ⟨⟨fun _ => ?_, fun _ => by omega⟩, by omega⟩
        rcases hl with y | y
        · exact .inl (tr a i j y (by omega))
        · exact .inr (tr b i j y (by omega))
    have bit : ∀ i, i < 5 → ((maskP fun j => decide (N a j < big) || decide (N b j < big)) / 2 ^ i % 2 = 1 ↔ (N a i < big ∨ N b i < big)) := fun i hi => by
      rw [mask_bit hi, Bool.or_eq_true, decide_eq_true_iff, decide_eq_true_iff]
    have off : ∀ i, ¬ (N a i < big ∨ N b i < big) → ∀ j, nstep N z i j = N i j := fun i hn j => by
      rw [e, if_neg]
      rintro ⟨-, x | x⟩
      · exact hn (.inl (sy _ _ x.1))
      · exact hn (.inr (sy _ _ x.1))
    refine ⟨fun i hi => ?_, fun i hi => ?_⟩
    · dsimp only
      by_cases c : N a i < big ∨ N b i < big
      · rw [if_pos ((bit i hi).mpr c)]
        refine mask_congr fun j hj => ?_
        rw [Bool.eq_iff_iff, Bool.or_eq_true, decide_eq_true_iff, decide_eq_true_iff, decide_eq_true_iff]
        exact (row i hi c j).1.symm
      · rw [if_neg (fun x => c ((bit i hi).mp x)), k.g i hi]
        refine mask_congr fun j hj => ?_
        rw [off i c]
    · dsimp only
      obtain ⟨V, hc, hV, hm⟩ := k.c i hi
      by_cases c : N a i < big ∨ N b i < big
      · rw [if_pos ((bit i hi).mpr c)]
        have hlt : ∀ x ∈ V, x < R := fun x hx => by
          obtain ⟨x1, j, hj, rfl⟩ := (hm x).mp hx
          exact hF i j (by omega)
        refine ⟨rankZ z :: V, ?_, List.pairwise_cons.mpr ⟨fun x hx => ?_, hV⟩, fun x => ⟨fun hx => ?_, ?_⟩⟩
        · rw [List.map_cons, hc]
          congr 1
          · refine mask_congr fun j hj => ?_
            rw [Bool.eq_iff_iff, Bool.or_eq_true, decide_eq_true_iff, decide_eq_true_iff, decide_eq_true_iff, (row i hi c j).2]
            exact (row i hi c j).1.symm
          · refine List.map_congr_left fun x hx => ?_
            refine mask_congr fun j hj => decide_eq_decide.mpr ?_
            have := hlt x hx
            rw [e]
            split
            · next d => rw [d.1]; omega
            · exact Iff.rfl
        · have := hlt x hx
          show rankZ z > x
          omega
        · rcases List.mem_cons.mp hx with rfl | hx
          · refine ⟨h3, ?_⟩
            rcases c with c | c
            · refine ⟨b, hb5, ?_⟩
              rw [e, if_pos]
              refine ⟨(h.fin i b).resolve_right fun x => hab (tr a i b c (by omega)), .inl ⟨sy _ _ c, dg b⟩⟩
            · refine ⟨a, ha5, ?_⟩
              rw [e, if_pos]
              refine ⟨(h.fin i a).resolve_right fun x => hab (sy _ _ (tr b i a c (by omega))), .inr ⟨sy _ _ c, dg a⟩⟩
          · obtain ⟨x1, j, hj, rfl⟩ := (hm x).mp hx
            exact ⟨x1, j, hj, by rw [e, if_neg (fun d => by omega)]⟩
        · rintro ⟨x1, j, hj, rfl⟩
          rw [e] at x1 ⊢
          split
          · exact .head _
          · next d =>
            rw [if_neg d] at x1
            exact .tail _ ((hm _).mpr ⟨x1, j, hj, rfl⟩)
      · rw [if_neg (fun x => c ((bit i hi).mp x))]
        have : nstep N z i = N i := funext (off i c)
        rw [this]
        exact ⟨V, hc, hV, hm⟩
theorem KN.fold : ∀ (l : List ZR) (s : KS) (N : Mat) (R : Int), KN s N → NInv N R → Rising R l → (∀ z ∈ l, z.2.a.toNat < 5 ∧ z.2.b.toNat < 5) → KN (l.foldl (fun s z => kstep s z.2) s) (l.foldl nstep N) ∧ ∃ R', NInv (l.foldl nstep N) R'
  | [], _, _, R, k, h, _, _ => ⟨k, R, h⟩
  | z :: l, s, N, R, k, h, hr, hab => by
    obtain ⟨r1, r2, r3, r4⟩ := hr
    exact KN.fold l _ _ _ (k.step h r1 r2 r3 (hab z (.head _)).1 (hab z (.head _)).2) (h.step r1 r2 r3) r4 fun y hy => hab y (.tail _ hy)
end Mine
end
section
open PySem PySem.Calls PySem.Spec PySem.W PyProof.Rows
set_option maxRecDepth 100000
set_option maxHeartbeats 4000000
namespace Mine
/-! what the law asks -/
theorem desc_eq : ∀ (l m : List Int), l.Pairwise (· > ·) → m.Pairwise (· > ·) → (∀ x, x ∈ l ↔ x ∈ m) → l = m
  | [], [], _, _, _ => rfl
  | [], b :: m, _, _, h => absurd ((h b).mpr (.head _)) (List.not_mem_nil)
  | a :: l, [], _, _, h => absurd ((h a).mp (.head _)) (List.not_mem_nil)
  | a :: l, b :: m, hl, hm, h => by
    obtain ⟨l1, l2⟩ := List.pairwise_cons.mp hl
    obtain ⟨m1, m2⟩ := List.pairwise_cons.mp hm
    have e : a = b := by
      rcases List.mem_cons.mp ((h a).mp (.head _)) with e | x
      · exact e
      · rcases List.mem_cons.mp ((h b).mpr (.head _)) with e | y
        · exact e.symm
        · have := m1 a x; have := l1 b y; omega
    subst e
    rw [desc_eq l m l2 m2 fun x => ⟨fun hx => ?_, fun hx => ?_⟩]
    · rcases List.mem_cons.mp ((h x).mp (.tail _ hx)) with rfl | y
      · exact absurd (l1 _ hx) (Int.lt_irrefl _)
      · exact y
    · rcases List.mem_cons.mp ((h x).mpr (.tail _ hx)) with rfl | y
      · exact absurd (m1 _ hx) (Int.lt_irrefl _)
      · exact y
theorem len_sub : ∀ (l m : List Int), l.Nodup → (∀ x ∈ l, x ∈ m) → l.length ≤ m.length
  | [], _, _, _ => Nat.zero_le _
  | a :: l, m, hn, h => by
    obtain ⟨h1, h2⟩ := List.nodup_cons.mp hn
    have ha := h a (.head _)
    have := len_sub l (m.erase a) h2 fun x hx => (List.mem_erase_of_ne (fun e => by subst e; exact h1 hx)).mpr (h x (.tail _ hx))
    rw [List.length_erase_of_mem ha] at this
    have := List.length_pos_of_mem ha
    rw [List.length_cons]
    omega
theorem nm_mask (f : Nat → Int) (r : Int) : nmS (maskR f r) = wordsP f r := by
  have : idxBelow (maskR f r) 5 = belowP f r := by
    unfold idxBelow belowP
    refine List.filter_congr fun k hk => ?_
    have := mask_bit (p := fun j => decide (f j ≤ r)) (List.mem_range.mp hk)
    rw [Bool.eq_iff_iff, ← this]
    exact beq_iff_eq
  unfold nmS wordsP flagsBelow
  rw [this]
/-- a row of the matrix, its values above a bound from the dearest down -/
structure RowV (f : Nat → Int) (V : List Int) : Prop where
  desc : V.Pairwise (· > ·)
  mem : ∀ x, x ∈ V ↔ x < big ∧ ∃ j, j < 5 ∧ f j = x
theorem toldP_eq {f : Nat → Int} {V rs : List Int} {b : Int} (hV : RowV f V) (h1 : rs.Pairwise (· ≥ ·)) (h2 : rs.Nodup) (h3 : ∀ x, x ∈ rs ↔ x ∈ (List.range 5).map f) : toldP f b rs = (V.filter fun r => decide (b ≤ r)).map (wordsP f) := by
  unfold toldP
  have e : (rs.filter fun r => decide (b ≤ r) && decide (r < 100000000)) = V.filter fun r => decide (b ≤ r) := by
    refine desc_eq _ _ ?_ (hV.desc.filter _) fun x => ?_
    · refine List.Pairwise.filter _ (List.pairwise_and_iff.mpr ⟨h1, h2⟩ |>.imp fun {x y} h => ?_)
      obtain ⟨a, c⟩ := h
      show y < x
      have : y ≤ x := a
      omega
    · rw [List.mem_filter, List.mem_filter, hV.mem, h3]
      simp only [Bool.and_eq_true, decide_eq_true_iff, List.mem_map, List.mem_range]
      exact ⟨fun h => ⟨⟨h.2.2, h.1⟩, h.2.1⟩, fun h => ⟨h.1.2, h.2, h.1.1⟩⟩
  rw [e]
theorem told_det {f : Nat → Int} {V : List Int} {b : Int} {r : Value} (hV : RowV f V) (h : ToldRet f b r) : ∃ t, r = .str (cpS ((V.filter fun r => decide (b ≤ r)).map (wordsP f))) t := by
  obtain ⟨rs, h1, h2, h3, t, rfl⟩ := h
  exact ⟨t, by rw [toldP_eq hV h1 h2 h3]⟩
theorem desc_split : ∀ (V : List Int) (b : Int), V.Pairwise (· > ·) → V = V.filter (fun r => decide (b ≤ r)) ++ V.filter (fun r => decide (r < b))
  | [], _, _ => rfl
  | a :: V, b, h => by
    obtain ⟨h1, h2⟩ := List.pairwise_cons.mp h
    by_cases c : b ≤ a
    · rw [List.filter_cons_of_pos (by simpa using c), List.filter_cons_of_neg (by simpa using c), List.cons_append, ← desc_split V b h2]
    · have e : V.filter (fun r => decide (b ≤ r)) = [] := List.filter_eq_nil_iff.mpr fun x hx => by
        have := h1 x hx
        simp only [decide_eq_true_iff]
        omega
      have e2 : V.filter (fun r => decide (r < b)) = V := List.filter_eq_self.mpr fun x hx => by
        have := h1 x hx
        simp only [decide_eq_true_iff]
        omega
      rw [List.filter_cons_of_neg (by simpa using c), List.filter_cons_of_pos (by simp only [decide_eq_true_iff]; omega), e, e2]; rfl
/-- what the matrix of the nearest ways is -/
structure NearOk (D : Mat) : Prop where
  sym : MSym D
  diag : ∀ i, D i i = -1
  off : ∀ i j, i ≠ j → 0 ≤ D i j
  ult : MUlt D
  top : ∀ i j, D i j ≤ big
theorem near_ge {D : Mat} (h : NearOk D) (i j : Nat) : -1 ≤ D i j := by
  by_cases e : i = j
  · subst e; rw [h.diag]; exact Int.le_refl _
  · have := h.off i j e; omega
noncomputable def chainW (D : Mat) (V : Nat → List Int) (i : Nat) : List Str := (V i).map (wordsP (D i))
theorem above_same {D : Mat} (h : NearOk D) {V : Nat → List Int} (hV : ∀ i, i < 5 → RowV (D i) (V i)) {e l o : Nat} (he : e < 5) (hl : l < 5) (ho : o < 5) (hm : D e o ≤ D e l) :
    (V o).filter (fun r => decide (D e l ≤ r)) = (V e).filter (fun r => decide (D e l ≤ r)) := by
  refine desc_eq _ _ ((hV o ho).desc.filter _) ((hV e he).desc.filter _) fun x => ?_
  rw [List.mem_filter, List.mem_filter, (hV o ho).mem, (hV e he).mem, decide_eq_true_iff]
  constructor
  · rintro ⟨⟨h1, j, hj, rfl⟩, h2⟩
    refine ⟨⟨h1, ?_⟩, h2⟩
    have a := h.ult o j e
    have b := h.ult e j o
    have c := h.sym o e
    by_cases x : D o j = D e l
    · exact ⟨l, hl, x.symm⟩
    · exact ⟨j, hj, by omega⟩
  · rintro ⟨⟨h1, j, hj, rfl⟩, h2⟩
    refine ⟨⟨h1, ?_⟩, h2⟩
    have a := h.ult o j e
    have b := h.ult e j o
    have c := h.sym o e
    by_cases x : D e j = D e l
    · by_cases y : D e o = D e l
      · exact ⟨e, he, by omega⟩
      · have a := h.ult o l e
        have b := h.ult e l o
        exact ⟨l, hl, by omega⟩
    · exact ⟨j, hj, by omega⟩
theorem words_same {D : Mat} (h : NearOk D) {e o : Nat} {x r : Int} (hm : D e o ≤ r) (hx : r ≤ x) : wordsP (D o) x = wordsP (D e) x := by
  rw [← nm_mask, ← nm_mask]
  congr 1
  refine mask_congr fun j hj => decide_eq_decide.mpr ?_
  have a := h.ult o j e
  have b := h.ult e j o
  have c := h.sym o e
  omega
/-- the path of a place in the folder: the folder, and something below it -/
theorem chain_split {D : Mat} (h : NearOk D) {V : Nat → List Int} (hV : ∀ i, i < 5 → RowV (D i) (V i)) {e l o : Nat} (he : e < 5) (hl : l < 5) (ho : o < 5) (hel : e ≠ l) (hm : D e o ≤ D e l) :
    ∃ x r, chainW D V o = ((V e).filter (fun r => decide (D e l ≤ r))).map (wordsP (D e)) ++ wordsP (D o) x :: r ∧ -1 ≤ x ∧ x < D e l := by
  have sp := desc_split (V o) (D e l) (hV o ho).desc
  have hin : (-1 : Int) ∈ (V o).filter fun r => decide (r < D e l) := by
    rw [List.mem_filter, (hV o ho).mem, decide_eq_true_iff]
    have := h.off e l hel
    exact ⟨⟨by decide, o, ho, h.diag o⟩, by omega⟩
  cases hq : (V o).filter fun r => decide (r < D e l) with
  | nil => rw [hq] at hin; exact absurd hin List.not_mem_nil
  | cons x q =>
    have hx : x ∈ (V o).filter fun r => decide (r < D e l) := by rw [hq]; exact .head _
    rw [List.mem_filter, (hV o ho).mem, decide_eq_true_iff] at hx
    obtain ⟨⟨h1, j, hj, rfl⟩, h2⟩ := hx
    refine ⟨D o j, q.map (wordsP (D o)), ?_, near_ge h o j, h2⟩
    unfold chainW
    rw [sp, hq, above_same h hV he hl ho hm, List.map_append, List.map_cons]
    congr 1
    refine List.map_congr_left fun y hy => ?_
    have := of_decide_eq_true (List.mem_filter.mp hy).2
    exact words_same h hm this
theorem nm_inj : ∀ a, a < 32 → ∀ b, b < 32 → nmS a = nmS b → a = b := by decide +kernel
theorem nm_comp : ∀ n, n < 32 → 1 ≤ n → 1 ≤ (nmS n).length ∧ 47 ∉ (nmS n).cps.toList ∧ nmS n ≠ Str.ofString "." := by decide +kernel
theorem mask_pos {p : Nat → Bool} {i : Nat} (hi : i < 5) (h : p i = true) : 1 ≤ maskP p := by
  have := (mask_bit hi).mpr h
  cases e : maskP p with
  | zero => rw [e] at this; simp at this
  | succ n => omega
theorem chain_len {D : Mat} {V : Nat → List Int} (hV : ∀ i, i < 5 → RowV (D i) (V i)) {o : Nat} (ho : o < 5) : (V o).length ≤ 5 := by
  have := len_sub (V o) ((List.range 5).map (D o)) ((hV o ho).desc.imp fun {x y} h e => by subst e; exact absurd h (Int.lt_irrefl _)) fun x hx => by
    obtain ⟨-, j, hj, rfl⟩ := ((hV o ho).mem x).mp hx
    exact List.mem_map_of_mem (List.mem_range.mpr hj)
  simpa using this
theorem chain_nm (D : Mat) (V : Nat → List Int) (o : Nat) : chainW D V o = ((V o).map (maskR (D o))).map nmS := by
  unfold chainW
  rw [List.map_map]
  exact List.map_congr_left fun x _ => (nm_mask (D o) x).symm
theorem chain_mask {D : Mat} {V : Nat → List Int} (hV : ∀ i, i < 5 → RowV (D i) (V i)) {o : Nat} (ho : o < 5) : ∀ x ∈ (V o).map (maskR (D o)), 1 ≤ x ∧ x < 32 := by
  intro x hx
  obtain ⟨r, hr, rfl⟩ := List.mem_map.mp hx
  obtain ⟨-, j, hj, rfl⟩ := ((hV o ho).mem r).mp hr
  exact ⟨mask_pos hj (decide_eq_true (Int.le_refl _)), mask_lt _⟩
theorem chain_comp {D : Mat} {V : Nat → List Int} (hV : ∀ i, i < 5 → RowV (D i) (V i)) {o : Nat} (ho : o < 5) : ∀ c ∈ chainW D V o, 1 ≤ c.length ∧ 47 ∉ c.cps.toList ∧ c ≠ Str.ofString "." := by
  intro c hc
  rw [chain_nm] at hc
  obtain ⟨n, hn, rfl⟩ := List.mem_map.mp hc
  have := chain_mask hV ho n hn
  exact nm_comp n this.2 this.1
theorem chain_size {D : Mat} {V : Nat → List Int} (hV : ∀ i, i < 5 → RowV (D i) (V i)) {o : Nat} (ho : o < 5) : (chainW D V o).length ≤ 6 ∧ (cpS (chainW D V o)).length ≤ 700 := by
  have h1 := chain_len hV ho
  have h2 := pathS_len _ (chain_mask hV ho)
  refine ⟨by unfold chainW; rw [List.length_map]; omega, ?_⟩
  rw [chain_nm]
  show (Str.ofString "/" ++ pathS _).length ≤ 700
  rw [Str.length_append]
  rw [List.length_map] at h2
  have : (Str.ofString "/").length = 1 := by decide +kernel
  omega
theorem cp_ok {D : Mat} (h : NearOk D) {V : Nat → List Int} (hV : ∀ i, i < 5 → RowV (D i) (V i)) {e l : Nat} (he : e < 5) (hl : l < 5) (hel : e ≠ l) (os : List Nat) (hos : ∀ o ∈ os, o < 5 ∧ D e o ≤ D e l) (h1 : e ∈ os) (h2 : l ∈ os) (n1 : 2 ≤ os.length) (n2 : os.length ≤ 5) :
    CpOk (os.map (chainW D V)) (((V e).filter (fun r => decide (D e l ≤ r))).map (wordsP (D e))) where
  n1 := by rw [List.length_map]; exact n1
  n2 := by rw [List.length_map]; exact n2
  comp ws hws := by
    obtain ⟨o, ho, rfl⟩ := List.mem_map.mp hws
    exact chain_comp hV (hos o ho).1
  size ws hws := by
    obtain ⟨o, ho, rfl⟩ := List.mem_map.mp hws
    exact chain_size hV (hos o ho).1
  pre ws hws := by
    obtain ⟨o, ho, rfl⟩ := List.mem_map.mp hws
    obtain ⟨x, r, e1, -⟩ := chain_split h hV he hl (hos o ho).1 hel (hos o ho).2
    exact ⟨_, _, e1⟩
  dif := by
    refine ⟨_, List.mem_map_of_mem h1, _, List.mem_map_of_mem h2, ?_⟩
    obtain ⟨x, r, e1, x1, x2⟩ := chain_split h hV he hl he hel (hos e h1).2
    obtain ⟨y, q, e2, y1, y2⟩ := chain_split h hV he hl hl hel (hos l h2).2
    rw [e1, e2, List.getElem?_append_right (Nat.le_refl _), List.getElem?_append_right (Nat.le_refl _), Nat.sub_self]
    intro w
    simp only [List.getElem?_cons_zero, Option.some.injEq] at w
    rw [← nm_mask, ← nm_mask] at w
    have := mask_inj (nm_inj _ (mask_lt _) _ (mask_lt _) w) hl
    rw [decide_eq_false (by omega), decide_eq_true (by rw [h.diag]; exact y1)] at this
    exact absurd this (by decide)
theorem rising_of : ∀ (l : List ZR) (R : Int), l.Pairwise (fun x y => rankZ x < rankZ y) → (∀ z ∈ l, R ≤ rankZ z ∧ 0 ≤ rankZ z ∧ rankZ z < big) → Rising R l
  | [], _, _, _ => trivial
  | z :: l, R, h, hz => by
    obtain ⟨h1, h2⟩ := List.pairwise_cons.mp h
    obtain ⟨a, b, c⟩ := hz z (.head _)
    refine ⟨a, b, c, rising_of l _ h2 fun y hy => ?_⟩
    obtain ⟨-, b', c'⟩ := hz y (.tail _ hy)
    have := h1 y hy
    exact ⟨by omega, b', c'⟩
/-- the plain law: the chains of the folders are the rows of the nearest ways -/
theorem plain {zs : List ZR} (ht : zs.map (·.2.t) = [0, 1, 2, 3, 4, 5]) (hok : ∀ z ∈ zs, RoadOk z.2) :
    NearOk (fwK (zs.foldl roadM near0) 5) ∧ ∃ V : Nat → List Int, (∀ i, i < 5 → RowV (fwK (zs.foldl roadM near0) 5 i) (V i)) ∧ ∀ i, i < 5 → ((kfold (popSeq 6 (heapP zs))).c i).map nmS = chainW (fwK (zs.foldl roadM near0) 5) V i := by
  obtain ⟨hs, hp⟩ := heap_sorted ht
  have pm := sortZ_perm zs
  have hz : ∀ z ∈ zs, 0 ≤ z.2.t ∧ z.2.t ≤ 5 := fun z hz => by
    have : z.2.t ∈ zs.map (·.2.t) := List.mem_map_of_mem hz
    rw [ht] at this
    simp only [List.mem_cons, List.not_mem_nil, or_false] at this
    omega
  have hab : ∀ z ∈ zs, z.2.a.toNat < 5 ∧ z.2.b.toNat < 5 := fun z h => by
    have := hok z h
    have := this.a0; have := (hok z h).a1; have := (hok z h).b0; have := (hok z h).b1
    omega
  have hr : Rising 0 (sortZ zs) := rising_of _ _ hp fun z h => by
    have h := pm.mem_iff.mp h
    have := hz z h
    have := (hok z h).p0
    have := (hok z h).p1
    unfold rankZ big
    omega
  have hD : fwK (zs.foldl roadM near0) 5 = (sortZ zs).foldl nstep near0 := by
    funext i j
    exact near_merge zs (sortZ zs) (fun z => pm.mem_iff) hr hab i j
  obtain ⟨k, R', n⟩ := KN.fold (sortZ zs) ks0 near0 0 .start .start hr fun z h => hab z (pm.mem_iff.mp h)
  obtain ⟨_, _, _, le, _⟩ := nfold (sortZ zs) near0 0 .start (by decide) hr
  rw [hD, hs]
  refine ⟨⟨n.sym, n.diag, n.off, n.ult, fun i j => Int.le_trans (le i j) (by unfold near0 big; split <;> omega)⟩, ?_⟩
  have hc := k.c
  refine ⟨fun i => if h : i < 5 then Classical.choose (hc i h) else [], fun i hi => ?_, fun i hi => ?_⟩
  · dsimp only
    rw [dif_pos hi]
    have := Classical.choose_spec (hc i hi)
    exact ⟨this.2.1, this.2.2⟩
  · rw [chain_nm, dif_pos hi]
    have := (Classical.choose_spec (hc i hi)).1
    exact congrArg (List.map nmS) this
theorem chain_path {c : List Nat} {ws : List Str} (h : c.map nmS = ws) : Str.ofString "/" ++ pathS c = cpS ws := by subst h; rfl
/-- the whole path of a place -/
theorem told_all {D : Mat} (h : NearOk D) {V : Nat → List Int} (hV : ∀ i, i < 5 → RowV (D i) (V i)) {i : Nat} (hi : i < 5) {r : Value} (hr : ToldRet (D i) (-1) r) : ∃ t, r = .str (cpS (chainW D V i)) t := by
  obtain ⟨t, e⟩ := told_det (hV i hi) hr
  refine ⟨t, ?_⟩
  rw [e]
  have : (V i).filter (fun r => decide ((-1 : Int) ≤ r)) = V i := List.filter_eq_self.mpr fun x hx => by
    obtain ⟨-, j, hj, rfl⟩ := ((hV i hi).mem x).mp hx
    exact decide_eq_true (near_ge h i j)
  rw [this]
  rfl
theorem two_mem {a b : Nat} {l : List Nat} (ha : a ∈ l) (hb : b ∈ l) (h : a ≠ b) : 2 ≤ l.length := by
  match l, ha, hb with
  | [x], ha, hb => exact absurd ((List.mem_singleton.mp ha).trans (List.mem_singleton.mp hb).symm) h
  | _ :: _ :: _, _, _ => simp
theorem cp_pair {D : Mat} (h : NearOk D) {V : Nat → List Int} (hV : ∀ i, i < 5 → RowV (D i) (V i)) {e l : Nat} (he : e < 5) (hl : l < 5) (hel : e ≠ l) : CpOk [chainW D V e, chainW D V l] (((V e).filter (fun r => decide (D e l ≤ r))).map (wordsP (D e))) :=
  cp_ok h hV he hl hel [e, l] (fun o ho => by
    rcases List.mem_cons.mp ho with rfl | ho
    · exact ⟨he, by rw [h.diag]; exact near_ge h _ _⟩
    · rw [List.mem_singleton.mp ho]; exact ⟨hl, Int.le_refl _⟩) (by simp) (by simp) (by simp) (by simp)
theorem cp_members {D : Mat} (h : NearOk D) {V : Nat → List Int} (hV : ∀ i, i < 5 → RowV (D i) (V i)) {e l : Nat} (he : e < 5) (hl : l < 5) (hel : e ≠ l) : CpOk ((belowP (D e) (D e l)).map (chainW D V)) (((V e).filter (fun r => decide (D e l ≤ r))).map (wordsP (D e))) := by
  have me : e ∈ belowP (D e) (D e l) := List.mem_filter.mpr ⟨List.mem_range.mpr he, decide_eq_true (by rw [h.diag]; exact near_ge h _ _)⟩
  have ml : l ∈ belowP (D e) (D e l) := List.mem_filter.mpr ⟨List.mem_range.mpr hl, decide_eq_true (Int.le_refl _)⟩
  exact cp_ok h hV he hl hel _ (fun o ho => ⟨below_lt o ho, of_decide_eq_true (List.mem_filter.mp ho).2⟩) me ml (two_mem me ml hel) below_len
end Mine
end
section
open PySem PySem.Calls PySem.Spec PySem.W PyProof.Rows
set_option maxRecDepth 100000
set_option maxHeartbeats 8000000
set_option hygiene false
set_option linter.all false
namespace Mine
theorem roads_P {h₀ h : Heap} {L D : Addr} {nw : List (Addr × Obj)} {zs : List ZR} {ep : Nat} (N : News h₀ L h nw) (hm : (D, zlist zs ep) ∈ nw) (hr : ∀ z ∈ zs, ∃ T k, z.1 = .ref T ∧ (T, tupO z.2 k) ∈ nw) : h.IsList D (zs.map (·.1)).toArray ∧ RoadsAt h zs :=
  ⟨⟨_, (N _ hm).1, rfl, _, rfl⟩, fun z hz => by obtain ⟨T, k, e, hm'⟩ := hr z hz; exact ⟨T, k, e, _, (N _ hm').1, rfl, _, rfl⟩⟩
theorem roads_Q {h₀ h : Heap} {L D : Addr} {nw nw0 : List (Addr × Obj)} {zs : List ZR} {ep : Nat} (N : News h₀ L h nw) (hsub : ∀ p ∈ nw0, p ∈ nw) (hm : (D, zlist zs ep) ∈ nw0) (hr : ∀ z ∈ zs, ∃ T k, z.1 = .ref T ∧ (T, tupO z.2 k) ∈ nw0) : h.IsList D (zs.map (·.1)).toArray ∧ RoadsAt h zs :=
  roads_P N (hsub _ hm) fun z hz => by obtain ⟨T, k, e, h⟩ := hr z hz; exact ⟨T, k, e, hsub _ h⟩
theorem newsSwap {h₀ h : Heap} {L : Addr} {a b : List (Addr × Obj)} (N : News h₀ L h (a ++ b)) : News h₀ L h (b ++ a) := fun p hp => N p (List.mem_append.mpr (List.mem_append.mp hp).symm)
theorem mem_four {p : Addr × Obj} {l : List (Addr × Obj)} (a b c d : Addr × Obj) (h : p ∈ l) : p ∈ [a, b, c, d] ++ l := List.mem_append_right _ h
/-- the cells in front, all else behind -/
noncomputable def OffC (b : Nat) (nw : List (Addr × Obj)) : Prop := ∀ p ∈ nw, (@Ne Nat p.1 (b + 1)) ∧ (@Ne Nat p.1 (b + 1 + 1)) ∧ (@Ne Nat p.1 (b + 1 + 1 + 1)) ∧ (@Ne Nat p.1 (b + 1 + 1 + 1 + 1))
theorem updC1 {b : Nat} {nw : List (Addr × Obj)} {o1 o2 o3 o4 : Obj} (h : OffC b nw) : UpdF (b + 1) o1 ((b + 1 + 1 + 1 + 1, o4) :: (b + 1 + 1 + 1, o3) :: (b + 1 + 1, o2) :: (b + 1, o1) :: nw) (fun o => (b + 1 + 1 + 1 + 1, o4) :: (b + 1 + 1 + 1, o3) :: (b + 1 + 1, o2) :: (b + 1, o) :: nw) :=
  .tail (Nat.ne_of_gt (by omega)) (.tail (Nat.ne_of_gt (by omega)) (.tail (Nat.ne_of_gt (by omega)) (.head fun p hp => (h p hp).1)))
theorem updC2 {b : Nat} {nw : List (Addr × Obj)} {o1 o2 o3 o4 : Obj} (h : OffC b nw) : UpdF (b + 1 + 1) o2 ((b + 1 + 1 + 1 + 1, o4) :: (b + 1 + 1 + 1, o3) :: (b + 1 + 1, o2) :: (b + 1, o1) :: nw) (fun o => (b + 1 + 1 + 1 + 1, o4) :: (b + 1 + 1 + 1, o3) :: (b + 1 + 1, o) :: (b + 1, o1) :: nw) :=
  .tail (Nat.ne_of_gt (by omega)) (.tail (Nat.ne_of_gt (by omega)) (.head fun p hp => by
    rcases List.mem_cons.mp hp with rfl | hp
    · exact Nat.ne_of_lt (by omega)
    · exact (h p hp).2.1))
theorem updC3 {b : Nat} {nw : List (Addr × Obj)} {o1 o2 o3 o4 : Obj} (h : OffC b nw) : UpdF (b + 1 + 1 + 1) o3 ((b + 1 + 1 + 1 + 1, o4) :: (b + 1 + 1 + 1, o3) :: (b + 1 + 1, o2) :: (b + 1, o1) :: nw) (fun o => (b + 1 + 1 + 1 + 1, o4) :: (b + 1 + 1 + 1, o) :: (b + 1 + 1, o2) :: (b + 1, o1) :: nw) :=
  .tail (Nat.ne_of_gt (by omega)) (.head fun p hp => by
    rcases List.mem_cons.mp hp with rfl | hp
    · exact Nat.ne_of_lt (by omega)
    · rcases List.mem_cons.mp hp with rfl | hp
      · exact Nat.ne_of_lt (by omega)
      · exact (h p hp).2.2.1)
theorem updC4 {b : Nat} {nw : List (Addr × Obj)} {o1 o2 o3 o4 : Obj} (h : OffC b nw) : UpdF (b + 1 + 1 + 1 + 1) o4 ((b + 1 + 1 + 1 + 1, o4) :: (b + 1 + 1 + 1, o3) :: (b + 1 + 1, o2) :: (b + 1, o1) :: nw) (fun o => (b + 1 + 1 + 1 + 1, o) :: (b + 1 + 1 + 1, o3) :: (b + 1 + 1, o2) :: (b + 1, o1) :: nw) :=
  .head fun p hp => by
    rcases List.mem_cons.mp hp with rfl | hp
    · exact Nat.ne_of_lt (by omega)
    · rcases List.mem_cons.mp hp with rfl | hp
      · exact Nat.ne_of_lt (by omega)
      · rcases List.mem_cons.mp hp with rfl | hp
        · exact Nat.ne_of_lt (by omega)
        · exact (h p hp).2.2.2
theorem offC_of {b : Nat} {nw : List (Addr × Obj)} {o1 o2 o3 o4 : Obj} (h : ∀ p ∈ nw, LCg.Off1 p.1 [(b + 1 + 1 + 1 + 1, o4), (b + 1 + 1 + 1, o3), (b + 1 + 1, o2), (b + 1, o1)]) : OffC b nw := fun p hp => by
  have z := h p hp
  simp only [LCg.Off1, and_true] at z
  exact ⟨Ne.symm z.2.2.2, Ne.symm z.2.2.1, Ne.symm z.2.1, Ne.symm z.1⟩
theorem offC_mid {b : Nat} {made nw : List (Addr × Obj)} {o1 o2 o3 o4 : Obj} (h : ∀ p ∈ made, LCg.Off1 p.1 ([(b + 1 + 1 + 1 + 1, o4), (b + 1 + 1 + 1, o3), (b + 1 + 1, o2), (b + 1, o1)] ++ nw)) : OffC b made := fun p hp => by
  have z := h p hp
  simp only [List.cons_append, List.nil_append, LCg.Off1] at z
  exact ⟨Ne.symm z.2.2.2.1, Ne.symm z.2.2.1, Ne.symm z.2.1, Ne.symm z.1⟩
theorem offC_all {b : Nat} {l1 l2 l3 : List (Addr × Obj)} (h1 : OffC b l1) (h2 : OffC b l2) (h3 : OffC b l3) : OffC b (l1 ++ (l2 ++ l3)) := fun p hp => by
  rcases List.mem_append.mp hp with hp | hp
  · exact h1 p hp
  · rcases List.mem_append.mp hp with hp | hp
    · exact h2 p hp
    · exact h3 p hp
theorem newsTurn {h₀ h : Heap} {L : Addr} {l1 l2 l3 l4 : List (Addr × Obj)} (N : News h₀ L h (l1 ++ (l2 ++ (l3 ++ l4)))) : News h₀ L h (l3 ++ (l1 ++ (l2 ++ l4))) := fun p hp => N p (by
  simp only [List.mem_append] at hp ⊢
  rcases hp with h | h | h | h <;> simp [h])
theorem ints_range : ∀ (rs : List Value) (f : Nat → Int), (∀ j, j < rs.length → ∃ t, rs[j]? = some (.int (f j) t)) → IntsAre rs ((List.range rs.length).map f)
  | [], _, _ => .nil
  | v :: rs, f, h => by
    obtain ⟨t, e⟩ := h 0 (Nat.succ_pos _)
    cases e
    rw [List.length_cons, List.range_succ_eq_map, List.map_cons, List.map_map]
    exact .cons _ _ (ints_range rs (f ∘ Nat.succ) fun j hj => h (j + 1) (Nat.succ_lt_succ hj))
theorem mrow_ints {M : Nat → Nat → Int} {i : Nat} {rs : List Value} (h : MRow M i rs) : IntsAre rs ((List.range 5).map (M i)) := by
  rw [← h.1]
  exact ints_range rs (M i) fun j hj => h.2 j (h.1 ▸ hj)
theorem matL_row {Nn : Addr} {R : Nat → Addr} {rs : Nat → List Value} {ep : Nat → Nat} {e a : Nat} (h : a < 5) : (R a, PySem.W.listOf (rs a).toArray (ep a)) ∈ matL Nn R rs ep e := mem_row a h
theorem listP {h₀ h : Heap} {L l : Addr} {nw nw0 : List (Addr × Obj)} {vs : List Value} {ep : Nat} (N : News h₀ L h nw) (hsub : ∀ p ∈ nw0, p ∈ nw) (hm : (l, PySem.W.listOf vs.toArray ep) ∈ nw0) : h.IsList l vs.toArray := ⟨_, (N _ (hsub _ hm)).1, rfl, _, rfl⟩
section
variable {prog : Program} {w : World} {A : Around} {E : Value → Shared → Prop} {s : Shared}
theorem neSame {a b : Addr} {vs ws : List Value} {xs : List Str} {Q : Value → Shared → Prop} (ha : s.heap.IsList a vs.toArray) (hb : s.heap.IsList b ws.toArray) (h1 : StrsAre vs xs) (h2 : StrsAre ws xs) (hu : A.units < cLine) (h : Q (.bool false) s) : wpAny (model prog w) A (compareOp .NotEq (.ref a) (.ref b)) Q E s := by
  show wpAny _ _ (richCompare .NotEq _ _) _ _ _
  have l1 := strsLen h1
  have l2 := strsLen h2
  refine SeqAt.RcNeAt.lists (e := fun _ => true) ha hb (by rw [List.size_toArray, List.size_toArray, l1, l2]) hu (fun j j1 j2 => ?_) prog w E Q ?_
  · rw [List.size_toArray] at j1 j2
    obtain ⟨x, t, hx, e⟩ := strs_at h1 j vs[j] (List.getElem?_eq_getElem j1)
    obtain ⟨y, u, hy, f⟩ := strs_at h2 j ws[j] (List.getElem?_eq_getElem j2)
    rw [hx] at hy
    cases hy
    have := SeqAt.EqAt.str_str (A := A.in1) (s := s) x t x u
    rw [beq_self_eq_true] at this
    simp only [List.getElem_toArray]
    rw [e, f]
    exact this
  · have : (List.range vs.toArray.size).all (fun _ => true) = true := List.all_eq_true.mpr fun _ _ => rfl
    rw [this]; exact h
end
theorem rels_imp {α : Type} {R R' : α → Value → Prop} {as : List α} {vs : List Value} (h : Rels R as vs) (hi : ∀ a ∈ as, ∀ v, R a v → R' a v) : Rels R' as vs := by
  induction h with
  | nil => exact .nil
  | cons h1 h2 ih => exact .cons (hi _ (.head _) _ h1) (ih fun a ha => hi a (.tail _ ha))
/-- what the law's loops keep: the four cells in front -/
noncomputable def LoopN (b : Nat) (oN oP : Obj) (nw : List (Addr × Obj)) (news : List (Addr × Obj)) : Prop := ∃ o4 o3 v4 v3, news = (b + 1 + 1 + 1 + 1, o4) :: (b + 1 + 1 + 1, o3) :: (b + 1 + 1, oN) :: (b + 1, oP) :: nw ∧ o4.data = .cell v4 ∧ o3.data = .cell v3
theorem loop_off {b : Nat} {oN oP : Obj} {nw news : List (Addr × Obj)} {I : Addr} {oI : Obj} (h : LoopN b oN oP nw news) (ho : OffC b nw) (off : ∀ p ∈ news, p.1 ≠ I) : OffC b ((I, oI) :: nw) := by
  obtain ⟨o4, o3, v4, v3, rfl, -, -⟩ := h
  intro p hp
  rcases List.mem_cons.mp hp with rfl | hp
  · exact ⟨(off (b + 1, oP) (by simp)).symm, (off (b + 1 + 1, oN) (by simp)).symm, (off (b + 1 + 1 + 1, o3) (by simp)).symm, (off (b + 1 + 1 + 1 + 1, o4) (by simp)).symm⟩
  · exact ho p hp
theorem loop_front {h₀ h : Heap} {L I : Addr} {oI : Obj} {a b c d : Addr × Obj} {nw : List (Addr × Obj)} (N : News h₀ L h ((I, oI) :: a :: b :: c :: d :: nw)) : News h₀ L h (a :: b :: c :: d :: (I, oI) :: nw) := fun p hp => N p (by
  simp only [List.mem_cons] at hp ⊢
  rcases hp with h | h | h | h | h | h <;> simp [h])
theorem loop_turn_off {b I : Nat} {oN oP o4 o3 q4 q3 : Obj} {nw : List (Addr × Obj)} (h : ∀ p ∈ (b + 1 + 1 + 1 + 1, o4) :: (b + 1 + 1 + 1, o3) :: (b + 1 + 1, oN) :: (b + 1, oP) :: nw, p.1 ≠ I) : ∀ p ∈ (b + 1 + 1 + 1 + 1, q4) :: (b + 1 + 1 + 1, q3) :: (b + 1 + 1, oN) :: (b + 1, oP) :: nw, p.1 ≠ I := fun p hp => by
  simp only [List.mem_cons] at hp
  rcases hp with rfl | rfl | rfl | rfl | hp
  · exact h (b + 1 + 1 + 1 + 1, o4) (by simp)
  · exact h (b + 1 + 1 + 1, o3) (by simp)
  · exact h (b + 1 + 1, oN) (by simp)
  · exact h (b + 1, oP) (by simp)
  · exact h p (by simp [hp])
theorem loop_end {h₀ h : Heap} {L : Addr} {a b c d x : Addr × Obj} {nw nw5 : List (Addr × Obj)} (N : News h₀ L h (a :: b :: c :: d :: nw5)) (hs : ∀ p ∈ x :: nw, p ∈ nw5) : News h₀ L h (x :: a :: b :: c :: d :: nw) := fun p hp => N p (by
  simp only [List.mem_cons] at hp ⊢
  rcases hp with h | h | h | h | h | h
  · exact .inr (.inr (.inr (.inr (hs p (by simp [h])))))
  · exact .inl h
  · exact .inr (.inl h)
  · exact .inr (.inr (.inl h))
  · exact .inr (.inr (.inr (.inl h)))
  · exact .inr (.inr (.inr (.inr (hs p (by simp [h]))))))
theorem range_k {k : Nat} (h : k < 5) : Builtin.Range.small 0 (k : Int) 1 = true ∧ Builtin.Range.rangeSize 0 (k : Int) 1 = k := five (P := fun k => Builtin.Range.small 0 (k : Int) 1 = true ∧ Builtin.Range.rangeSize 0 (k : Int) 1 = k) (by decide) (by decide) (by decide) (by decide) (by decide) k h
theorem mem_t2 {p a b : Addr × Obj} {l : List (Addr × Obj)} (h : p ∈ l) : p ∈ a :: b :: l := .tail _ (.tail _ h)
theorem mem_t4 {p a b c d : Addr × Obj} {l : List (Addr × Obj)} (h : p ∈ l) : p ∈ a :: b :: c :: d :: l := mem_t2 (mem_t2 h)
local macro_rules | `(tactic| k_qdec) => `(tactic| decide +kernel)
theorem law_holds : PySem.Challenge.rw_ik0184_01.Holds := by
  k_with_none
  k_with "CT intro" => ((unfold Ct; k_fill; intro dp un gd cn cs a ccd cl outer A₀ base h₀ L m s Q E B F X N T hk hP hd hu hret; refine wpAny_call ?_))
  k_with "CT enter" => ((k_dflt (refine' code_defG ?k1 ?k2 ?k3 ?k4 ?k5 ?kA ?kF ?kK ?k6 ?k7 ?k8 ?k9 ?kB ?_ ?c2 ?c3 ?c4 ?c5; (case kA => exact rfl); (case kF => exact rfl); (case kK => assumption); (case k1 => k_asm); (case k2 => k_asm); (case k3 => k_asm); (case k4 => k_asm); (case k5 => k_asm); (case k6 => k_is); (case k7 => k_is); (case k8 => ktr_room); (case k9 => exact BindsTo.of_eq rfl); (case c5 => decide); (case kB => exact locs rfl); (case c2 => exact rfl); (case c3 => exact rfl); (case c4 => exact rfl); k_whole; intro g' L' h' FG' F' N' B' X' T' G'; (try dsimp only); (try k_lift B'); (try k_fold))))
  k_with "CT enterC" => ((k_dflt (refine' enterCG ?k1 ?k2 ?k3 ?k4 ?k5 ?kA ?kF ?kK ?k6 ?k7 ?k8 ?k9 ?kB ?kD ?_ ?c2 ?c3 ?c4; (case kA => exact rfl); (case kF => exact rfl); (case kK => assumption); (case k1 => k_asm); (case k2 => k_asm); (case k3 => k_asm); (case k4 => k_asm); (case k5 => k_asm); (case k6 => k_is); (case k7 => k_is); (case k8 => ktr_room); (case k9 => exact BindsTo.of_eq rfl); (case kB => exact rfl); (case kD => decide +kernel); (case c2 => exact rfl); (case c3 => exact rfl); (case c4 => exact rfl); k_whole; intro g' L' h' tk' cells' FG' F' N' Y' B' X' T' l1 G'; (try k_lt l1); k_cells Y'; (try simp only [List.cons_append, List.nil_append] at N'); (try dsimp only); (try k_lift B'); (try k_fold))))
  k_with "CT use0" => (((case k1 => k_asm); (case k2 => k_asm); (case k3 => k_asm); (case k4 => k_asm); (case k5 => k_asm); (case kK => first | exact rfl | assumption); (case kd => ktr_room); (case ku => ktr_units)))
  k_with "CT useM" => (((case k1 => k_asm); (case k2 => k_asm); (case k3 => k_asm); (case k4 => k_asm); (case k5 => k_asm); (case kK => first | exact rfl | assumption); (case kd => ktr_room); (case ku => ktr_units); (case kU => k_upd)))
  k_with "NEP" => (first | (with_reducible first | exact h9e | exact Ne.symm h9e | exact Nat.ne_of_gt h9e | exact Nat.ne_of_lt h9e) | (replace h9e := And.left h9e; walk_at "NEP") | (replace h9e := And.right h9e; walk_at "NEP"))
  k_with "NEX" => (first | ((with_reducible rename Hid _ => h9e); walk_at "NEP") | ((with_reducible rename _ ∧ _ => h9e); first | walk_at "NEP" | (clear h9e; walk_at "NEX")))
  k_with "KNE" => ((refine neN ?_; (try dsimp only); first | (with_reducible first | assumption | exact Ne.symm (by assumption) | exact Nat.ne_of_gt (by assumption) | exact Nat.ne_of_lt (by assumption)) | walk_at "NEX" | omega))
  k_with "CT useN" => (((case k1 => k_asm); (case k2 => k_asm); (case k3 => k_asm); (case k4 => k_asm); (case k5 => k_asm); (case kK => first | exact rfl | assumption); (case kd => ktr_room); (case ku => ktr_units)))
  k_with "call ref" => (((guard_hyp mkLaw : True); refine Halt.out ?_))
  k_with "call ref" => (((guard_hyp mkLaw2 : True); k_here; (with_reducible show wpAny _ _ (call (Value.ref 171) [Value.ref _]) _ _ _); refine Halt.out ?_))
  k_with "call ref" => (((guard_hyp mkLaw2 : True); k_here; (with_reducible show wpAny _ _ (call (Value.ref 166) [Value.ref _]) _ _ _); k_dflt (refine' ct_use (hung_ct _ _ _ _ _ zs hz6 hok) ?k1 ?k2 ?k3 ?k4 ?k5 ?kK ?kd ?ku (fun _ h => nomatch h) (roads_Q (by assumption) (fun p hp => by simp [hp]) hmD0 hrs0) ?_; walk_at "CT useN"; rintro r8 made8 h8 tk8 ⟨D8, ys8, e8, em8, hS8⟩ F8 N8 off8 k8; subst e8; subst em8)))
  k_with "storeName" => (((guard_hyp mkLaw2 : True); k_here; k_dflt (refine' storeX_C ?F ?N ?c ?U ?d ?_ ?a ?b; (case a => rfl); (case b => rfl); (case F => k_asm); (case N => k_asm); (case c => rfl); (case U => first | exact updC1 hOff | exact updC2 hOff | exact updC3 hOff | exact updC4 hOff); (case d => k_asm); k_whole); intro h' o' F' N' d'; (try dsimp only at N'); (try k_sweep)))
  k_with "storeName" => (((guard_hyp mkLaw3 : True); k_here; k_dflt (refine' storeX_C ?sF9 ?sN9 ?sc9 ?sU9 ?sd9 ?_ ?sa9 ?sb9; (case sa9 => rfl); (case sb9 => rfl); (case sF9 => k_asm); (case sN9 => k_asm); (case sc9 => rfl); (case sU9 => first | exact updC1 hOff1 | exact updC2 hOff1 | exact updC3 hOff1 | exact updC4 hOff1 | exact UpdF.tail (by k_ne) (updC1 hOff1) | exact UpdF.tail (by k_ne) (updC2 hOff1)); (case sd9 => k_asm); k_whole); intro h' o' F' N' d'; (try dsimp only at N'); (try k_sweep)))
  k_with "eval ListComp" => (((guard_hyp mkLaw3 : True); refine Halt.out ?_))
  k_with "call ref" => (((guard_hyp mkTd : True); k_here; (with_reducible show wpAny _ _ (call (Value.ref 181) [Value.ref _, Value.int _ _]) _ _ _); k_dflt (refine' ct_use0 (told_ct _ _ _ _ _ (rs a) _ (-1) _ hI6) ?k1 ?k2 ?k3 ?k4 ?k5 ?kK ?kd ?ku (listP (by assumption) (fun p hp => by simp [hp]) hmr6) ?_; walk_at "CT useN"; rintro r4 h4 tk4 hR4 F4 N4 k4)))
  k_with "storeName" => (((guard_hyp mkLaw5 : True); k_here; k_dflt (refine' storeX_C ?sF8 ?sN8 ?sc8 ?sU8 ?sd8 ?_ ?sa8 ?sb8; (case sa8 => rfl); (case sb8 => rfl); (case sF8 => k_asm); (case sN8 => k_asm); (case sc8 => rfl); (case sU8 => first | exact updC3 hOff5 | exact updC4 hOff5); (case sd8 => k_asm); k_whole); intro h' o' F' N' d'; (try dsimp only at N'); (try k_sweep)))
  k_with "LIX" => (first | exact Int.zero_add _ | rfl)
  k_with "LMEM" => (first | exact mem_t4 hx5 | exact .tail _ (mem_t4 hx5) | exact mem_t2 (mem_t4 hx5) | exact .tail _ (mem_t2 (mem_t4 hx5)) | exact mem_t4 (mem_t4 hx5))
  k_with "LSUB" => (first | ((with_reducible show wpAny _ _ (subscriptTail _ _ (Value.ref Nn) _) _ _ _); k_dflt (refine matRow (N := Nn) (R := R) (by k_asm) (by (have hx5 := hmN5); walk_at "LMEM") _ (by walk_at "LIX") (by assumption) ?_)) | ((with_reducible show wpAny _ _ (subscriptTail _ _ (Value.ref (R _)) _) _ _ _); k_dflt (refine matGet (N := Nn) (R := R) (ep := ep) (e := e) _ (by k_asm) (by (intro p9 hp9; have hx5 := hmM5 p9 hp9; walk_at "LMEM")) hM (by assumption) (by walk_at "LIX") (by assumption) ?_); intro t8))
  k_with "LWALK" => (repeat (first | walk_at "LSUB" | walk1 | (dsimp only; walk1)))
  k_with "compareOp NotEq str str" => (((guard_hyp mkLaw6 : True); k_here; k_dflt (refine strEq rfl ?_)))
  k_with "CompSrc" => (((guard_hyp mkLaw6 : True); refine Halt.out ?_))
  k_with "PSUB" => (first | ((with_reducible show wpAny _ _ (subscriptTail _ _ (Value.ref D8) (Value.int (ea : Int) _)) _ _ _); k_dflt (refine cpGet (i := ea) (n := ys8.length) (it := ys8.toArray) (by k_asm) (by (have hx5 := hmP6); walk_at "LMEM") hge (by omega) ?_)) | ((with_reducible show wpAny _ _ (subscriptTail _ _ (Value.ref D8) (Value.int (k : Int) _)) _ _ _); k_dflt (refine cpGet (i := k) (n := ys8.length) (it := ys8.toArray) (by k_asm) (by (have hx5 := hmP6); walk_at "LMEM") hgk (by omega) ?_)))
  k_with "call ref" => (((guard_hyp mkLaw6 : True); refine Halt.out ?_))
  k_with "CompSrcT" => (((guard_hyp mkLaw5 : True); refine Halt.out ?_))
  k_with "CompEnd" => (((guard_hyp mkLaw5 : True); refine Halt.out ?_))
  k_with "exec For Name Call cons nil" => (((guard_hyp mkLaw4 : True); refine Halt.out ?_))
  refine holds_law hd.said fun said => ?_
  refine holds_open (q := hd.view_39) (loose := [Str.ofString "COMPILER_FLAG_NAMES"]) (Xt := fun s => xlAt hd.view_39 [] s && recOk (RowW.records PySem.Challenge.rw_ik0184_01.row.toRowW) s) (XP := XL hd.view_39 []) (Yf := Hook.obs hd.hook) (Ya := Hook.val hd.hook) (YP := Hook.says hd.hook) (N := 2726) hd.left (Hook.of hd.hook) (Hook.keeps hd.hook) (fun s e => xl_of s (Bool.and_eq_true_iff.mp e).1) XL.keeps (by rfl) (by rfl) (by rfl) (fun s e => recFacts_of (Bool.and_eq_true_iff.mp e).2) (by rfl) said (by decide +kernel) ⟨rfl, rfl, rfl, rfl, rfl, by decide +kernel⟩ ?hw ?hc
  case hw => w_witness2
  case hc =>
  clear said
  delta hd.hook
  have mkLaw : True := trivial
  k_go0
  all_goals (try k_fold)
  k_steps
  unfold Halt
  rename IntsAre _ _ => hI
  rename (¬ _ < _) => hc63
  rename Heap.IsList _ _ _ => hL
  (try k_here)
  k_dflt (refine' ct_use (roads_ct _ _ _ _ _ _ _ hI (by omega)) ?k1 ?k2 ?k3 ?k4 ?k5 ?kK ?kd ?ku (fun _ h => nomatch h) (Fr.lst (by assumption) hL) ?_)
  walk_at "CT useN"
  rintro r9 made9 h9 tk9 ⟨D9, zs, ep9, rest9, rfl, rfl, ht9, hok, hrest⟩ F9 N9 off9 k9
  have hz6 : zs.length = 6 := by have := congrArg List.length ht9; simpa using this
  have hmD0 : (D9, zlist zs ep9) ∈ (D9, zlist zs ep9) :: rest9 := .head _
  have hrs0 : ∀ z ∈ zs, ∃ T k, z.1 = .ref T ∧ (T, tupO z.2 k) ∈ (D9, zlist zs ep9) :: rest9 := fun z hz => by obtain ⟨T, k, e, h⟩ := hrest z hz; exact ⟨T, k, e, .tail _ h⟩
  generalize hnw : (D9, zlist zs ep9) :: rest9 = nw0 at N9 off9 hmD0 hrs0
  have hOff := offC_of off9
  replace N9 := newsSwap N9
  clear mkLaw
  have mkLaw2 : True := trivial
  (refine (show wpAny _ _ _ _ _ _ from ?_))
  k_steps
  unfold Halt
  k_dflt (refine' ct_use (near_ct _ _ _ _ D9 zs hok) ?k1 ?k2 ?k3 ?k4 ?k5 ?kK ?kd ?ku (fun _ h => nomatch h) (roads_Q (by assumption) (fun p hp => by simp [hp]) hmD0 hrs0) ?_)
  walk_at "CT useN"
  rintro r7 made7 h7 tk7 ⟨Nn, R, rs, ep, e, rfl, rfl, hM⟩ F7 N7 off7 k7
  have hOff1 := offC_all (offC_mid (fun p hp => by obtain ⟨-, z⟩ := off7 p hp; exact z)) (offC_mid (fun p hp => off8 p hp)) hOff
  have N6 := newsTurn N7
  have hmP1 : (D8, LCg.lst ys8) ∈ matL Nn R rs ep e ++ ([(D8, LCg.lst ys8)] ++ nw0) := by simp
  have hmM1 : ∀ p ∈ matL Nn R rs ep e, p ∈ matL Nn R rs ep e ++ ([(D8, LCg.lst ys8)] ++ nw0) := fun p hp => List.mem_append_left _ hp
  generalize hnw1 : matL Nn R rs ep e ++ ([(D8, LCg.lst ys8)] ++ nw0) = nw1 at N6 hOff1 hmP1 hmM1
  clear N7 off7 off8 off9 k7 k8 k9 mkLaw2
  simp only [List.cons_append, List.nil_append] at N6
  have mkLaw3 : True := trivial
  (refine (show wpAny _ _ _ _ _ _ from ?_))
  k_steps
  unfold Halt
  rename Fr _ _ _ _ => F5
  rename News _ _ _ _ => N5
  k_dflt (refine LCg.ListComp_U (F₀ := F5) (by rfl) (by decide) (by rfl) (by decide) (by rfl) ?_)
  walk1
  k_dflt (refine LCg.CompSrc.ledger (its := #[.ref (R 0), .ref (R 1), .ref (R 2), .ref (R 3), .ref (R 4)]) (k := e) (by rfl) F5 N5 (.tail _ (.tail _ (.tail _ (.tail _ (.tail _ (hmM1 _ (.head _))))))) (by rw [sizeLine_eq]; exact Nat.le_of_ble_eq_true rfl) ?_)
  intro g6
  refine' comp_gen (xs := List.range 5) (fun (a : Nat) v => v = .ref (R a)) (fun a y => ToldRet (fwK (zs.foldl roadM near0) 5 a) (-1) y) ?la1 (fun i v hi hv => ⟨i, List.getElem?_range hi, ?_⟩) (fun a v I6 oI6 C6 oC6 D6 m6 ys6 h6 tk6 E6 ha6 hv6 hC6 hx6 F6 N6 off6 ne6 => ?_) (fun ys6 hy6 => ?_)
  · rfl
  · rcases i with _ | _ | _ | _ | _ | i <;> simp at hv hi ⊢ <;> first | exact hv.symm | omega
  · obtain rfl := hv6
    have ha5 := List.mem_range.mp ha6
    have hI6 := mrow_ints (hM a ha5)
    have hmr6 : (R a, PySem.W.listOf (rs a).toArray (ep a)) ∈ nw1 := hmM1 _ (matL_row ha5)
    have mkTd : True := trivial
    clear mkLaw3
    (refine (show wpAny _ _ _ _ _ _ from ?_))
    k_steps
    exact LCg.CompEnd.intro F4 N4 _ (fun p hp => hp) off6 (.inr ⟨_, .tail _ (.tail _ (.tail _ (.tail _ (.tail _ (hmM1 _ (.head _)))))), rfl, _, rfl⟩) ⟨rfl, hR4⟩
  · intro D6 h6 tk6 F6 N6 o6
    (refine (show wpAny _ _ _ _ _ _ from ?_))
    obtain ⟨hNO, V, hRV, hCH⟩ := plain ht9 hok
    generalize hDD : fwK (zs.foldl roadM near0) 5 = DD at *
    have hP8 : StrsAre ys8 ((List.range 5).map fun i => cpS (chainW DD V i)) := by
      have e : ((List.range 5).map fun i => Str.ofString "/" ++ pathS ((kfold (popSeq 6 (heapP zs))).c i)) = (List.range 5).map fun i => cpS (chainW DD V i) := List.map_congr_left fun i hi => chain_path (hCH i (List.mem_range.mp hi))
      rw [← e]; exact hS8
    have hP6 : StrsAre ys6 ((List.range 5).map fun i => cpS (chainW DD V i)) := Rels.strs (rels_imp hy6 fun i hi y hr => told_all hNO hRV (List.mem_range.mp hi) hr)
    refine neSame (listP N6 (fun p hp => .tail _ (.tail _ (.tail _ (.tail _ (.tail _ (.tail _ hp)))))) hmP1) (listP N6 (fun p hp => hp) (.head _)) hP8 hP6 (by ktr_units) ?_
    replace N6 : News _ _ _ _ := fun p hp => N6 p (.tail _ (.tail _ hp))
    clear hy6 hP6 hS8 hCH o6
    have mkLaw4 : True := trivial
    (refine (show wpAny _ _ _ _ _ _ from ?_))
    k_steps
    unfold Halt
    clear mkLaw3
    have hdN : o'.data = .cell (some (.ref Nn)) := by assumption
    rename (_ : Obj).data = Data.cell (some (Value.ref D8)) => hdP
    refine For_R F6 ?_
    k_steps
    rename IsRange _ _ _ _ _ _ _ _ => hr5
    rename Fr _ _ _ _ => F5
    rename News _ _ _ _ => N5
    refine ⟨5, _, _, _, fun k m news => LoopN _ o' _ nw1 news, ⟨_, _, _, _, rfl, by assumption, by assumption⟩, F5, N5, rfl, .inl ⟨_, 0, 5, _, _, _, _, _, rfl, rfl, hr5, by decide, by decide, rfl⟩, ?_, ?_⟩
    · rintro k v m₁ news₁ h tk I oI hk5 ⟨t3, rfl⟩ hJ1 F3 N3 off3
      have hOff3 := loop_off (oI := oI) hJ1 hOff1 off3
      obtain ⟨o4, o3, v4, v3, rfl, hd4, hd3⟩ := hJ1
      rw [Int.zero_add]
      (refine (show wpAny _ _ _ _ _ _ from ?_))
      k_steps
      unfold Halt
      refine For_R (by k_asm) ?_
      k_steps
      rename IsRange _ _ _ _ _ _ _ _ => hr7
      rename Fr _ _ _ _ => F7
      rename News _ _ _ _ => N7
      replace N7 := loop_front N7
      generalize hnw2 : (I, oI) :: nw1 = nw2 at N7 hOff3
      have hmP2 : (D8, LCg.lst ys8) ∈ nw2 := hnw2 ▸ .tail _ hmP1
      have hmM2 : ∀ p ∈ matL Nn R rs ep e, p ∈ nw2 := fun p hp => hnw2 ▸ .tail _ (hmM1 p hp)
      refine ⟨k, _, _, _, fun i m news => ∃ u : Str → Option Value, m = (fun y => if y = Str.ofString "late" then some (.int k t3) else u y) ∧ LoopN _ o' _ nw2 news, ⟨_, rfl, _, _, _, _, rfl, by assumption, by assumption⟩, F7, N7, rfl, .inl ⟨_, 0, k, _, _, _, _, _, rfl, rfl, hr7, (range_k hk5).1, (range_k hk5).2, rfl⟩, ?_, ?_⟩
      · clear F7 N7 hr7 hd4 hd3 N3 F3
        rintro ea v m₂ news₂ h tk I2 oI2 hek ⟨t4, rfl⟩ ⟨u, rfl, hJ2⟩ F3 N3 off4
        have hOff5 := loop_off (oI := oI2) hJ2 hOff3 off4
        obtain ⟨o4, o3, v4, v3, rfl, hd4, hd3⟩ := hJ2
        replace N3 := loop_front N3
        obtain ⟨nw5, hnw5⟩ : ∃ l, (I2, oI2) :: nw2 = l := ⟨_, rfl⟩
        rw [hnw5] at N3 hOff5
        have hmP5 : (D8, LCg.lst ys8) ∈ nw5 := hnw5 ▸ .tail _ hmP2
        have hmM5 : ∀ p ∈ matL Nn R rs ep e, p ∈ nw5 := fun p hp => hnw5 ▸ .tail _ (hmM2 p hp)
        have hmN5 : (Nn, W.listOf #[.ref (R 0), .ref (R 1), .ref (R 2), .ref (R 3), .ref (R 4)] e) ∈ nw5 := hmM5 _ (.head _)
        have hea5 : ea < 5 := by omega
        rw [Int.zero_add]
        clear mkLaw4
        have mkLaw5 : True := trivial
        (refine (show wpAny _ _ _ _ _ _ from ?_))
        walk_at "LWALK"
        unfold Halt
        k_dflt (refine LCt.CompSrcT.range (n := 5) (by rfl) (by k_asm) (by k_asm) (by assumption) (by decide) (by rfl) (by decide) ?_)
        intro ga
        refine' comp_genT (xs := List.range 5) (fun (a : Nat) v => ∃ t, v = .int (0 + (a : Int)) t) (fun a y => ∃ t, y = .int (a : Int) t) (fun o => decide (DD ea o ≤ DD ea k)) rfl (fun i v hi hv => ⟨i, List.getElem?_range hi, hv⟩) (fun a v Ia oIa Ca oCa Da ma ysa ha tka Ea haa hva hCa hxa Fa Na offa nea => ?_) (fun ysa hya => ?_)
        · obtain ⟨ta, hva⟩ := hva
          subst hva
          have ha5 := List.mem_range.mp haa
          rw [Int.zero_add] at hxa
          (refine (show wpAny _ _ _ _ _ _ from ?_))
          iterate 10 (first | walk_at "LSUB" | walk1 | (dsimp only; walk1))
          k_steps
          · exact LCg.CompEnd.intro (by k_asm) (by k_asm) _ (fun p hp => hp) offa trivial ⟨rfl, decide_eq_true (by assumption), _, rfl⟩
          · exact LCg.CompEnd.intro (by k_asm) (by k_asm) _ (fun p hp => hp) offa trivial ⟨rfl, decide_eq_false (by assumption)⟩
        · intro Dm hm tkm Fm Nm offm
          (refine (show wpAny _ _ _ _ _ _ from ?_))
          replace Nm := loop_front Nm
          obtain ⟨nw6, hnw6⟩ : ∃ l, (Dm, LCg.lst ysa) :: nw5 = l := ⟨_, rfl⟩
          rw [hnw6] at Nm
          have hmP6 : (D8, LCg.lst ys8) ∈ nw6 := hnw6 ▸ .tail _ hmP5
          have hmM6 : ∀ p ∈ matL Nn R rs ep e, p ∈ nw6 := fun p hp => hnw6 ▸ .tail _ (hmM5 p hp)
          have hmD6 : (Dm, LCg.lst ysa) ∈ nw6 := hnw6 ▸ .head _
          obtain ⟨tge, hge⟩ : ∃ t, ys8.toArray.toList[ea]? = some (.str (cpS (chainW DD V ea)) t) := by
            obtain ⟨t, e⟩ := strs_get hP8 ea (by simpa using hea5); exact ⟨t, by rw [e]; simp⟩
          obtain ⟨tgk, hgk⟩ : ∃ t, ys8.toArray.toList[k]? = some (.str (cpS (chainW DD V k)) t) := by
            obtain ⟨t, e⟩ := strs_get hP8 k (by simpa using hk5); exact ⟨t, by rw [e]; simp⟩
          have hcp1 := cp_pair hNO hRV hea5 hk5 (by omega)
          have hcp2 := cp_members hNO hRV hea5 hk5 (by omega)
          clear mkLaw5
          have mkLaw6 : True := trivial
          (refine (show wpAny _ _ _ _ _ _ from ?_))
          repeat (first | walk_at "PSUB" | walk1)
          unfold Halt
          rename Fr _ _ _ _ => F10
          rename News _ _ _ _ => N10
          k_dflt (refine' ct_use0 (common_ct _ _ _ _ _ [.str (cpS (chainW DD V ea)) tge, .str (cpS (chainW DD V k)) tgk] [chainW DD V ea, chainW DD V k] _ (.cons _ _ (.cons _ _ .nil)) hcp1) ?k1 ?k2 ?k3 ?k4 ?k5 ?kK ?kd ?ku ⟨_, (N10 _ (.head _)).1, rfl, _, rfl⟩ ?_)
          walk_at "CT useN"
          rintro r11 h11 tk11 ⟨t11, hR11⟩ F11 N11 k11
          subst hR11
          replace N11 : News _ _ _ _ := fun p hp => N11 p (.tail _ hp)
          clear N10 F10 hge hgk
          (refine (show wpAny _ _ _ _ _ _ from ?_))
          have hmN5 : (Nn, W.listOf #[.ref (R 0), .ref (R 1), .ref (R 2), .ref (R 3), .ref (R 4)] e) ∈ nw6 := hmM6 _ (.head _)
          have hIe := mrow_ints (hM ea hea5)
          repeat (first | walk_at "LSUB" | walk1)
          unfold Halt
          rename Fr _ _ _ _ => F12
          rename News _ _ _ _ => N12
          k_dflt (refine' ct_use0 (told_ct _ _ _ _ _ (rs ea) (DD ea) (DD ea k) _ hIe) ?k1 ?k2 ?k3 ?k4 ?k5 ?kK ?kd ?ku (listP N12 (fun p hp => mem_t4 hp) (hmM6 _ (matL_row hea5))) ?_)
          walk_at "CT useN"
          rintro r13 h13 tk13 hR13 F13 N13 k13
          obtain ⟨t13, hR13⟩ := told_det (hRV ea hea5) hR13
          subst hR13
          clear N12 F12
          (refine (show wpAny _ _ _ _ _ _ from ?_))
          repeat walk1
          unfold Halt
          have hIm := below_ints hya
          have hlm : ysa.length = (belowP (DD ea) (DD ea k)).length := Rels.length hya
          have hl5 := below_len (f := DD ea) (r := DD ea k)
          k_dflt (refine LCg.CompSrc.ledger (its := ysa.toArray) (k := ysa.length) (by rfl) (by k_asm) (by k_asm) (by (have hx5 := hmD6); walk_at "LMEM") (by rw [sizeLine_eq, List.size_toArray]; omega) ?_)
          intro gb
          refine' comp_gen (xs := belowP (DD ea) (DD ea k)) (fun (a : Nat) v => ∃ k t, v = .int k t ∧ k = (a : Int)) (fun o y => ∃ t, y = .str (cpS (chainW DD V o)) t) ?lb1 (fun i v _ hv => ints_nat hIm (by simpa using hv)) (fun a v Ib oIb Cb oCb Db mb ysb hb tkb Eb hab hvb hCb hxb Fb Nb offb neb => ?_) (fun ysb hyb => ?_)
          · rw [List.size_toArray]; exact hlm.symm
          · obtain ⟨kb, tb, hvb, hkb⟩ := hvb
            subst hvb
            subst hkb
            have ha5 := below_lt a hab
            obtain ⟨tgb, hgb⟩ : ∃ t, ys8.toArray.toList[a]? = some (.str (cpS (chainW DD V a)) t) := by
              obtain ⟨t, e⟩ := strs_get hP8 a (by simpa using ha5); exact ⟨t, by rw [e]; simp⟩
            (refine (show wpAny _ _ _ _ _ _ from ?_))
            walk1
            walk1
            walk1
            k_dflt (refine cpGet (i := a) (n := ys8.length) (it := ys8.toArray) (by k_asm) (by (have hx5 := hmP6); walk_at "LMEM") hgb (by omega) ?_)
            exact LCg.CompEnd.intro (by k_asm) (by k_asm) _ (fun p hp => hp) offb (.inr ⟨_, mem_t4 hmD6, rfl, _, rfl⟩) ⟨rfl, _, rfl⟩
          · intro Db hb tkb Fb Nb offb
            (refine (show wpAny _ _ _ _ _ _ from ?_))
            repeat walk1
            unfold Halt
            have hvb : StrsAre ysb (((belowP (DD ea) (DD ea k)).map (chainW DD V)).map cpS) := by rw [List.map_map]; exact Rels.strs hyb
            k_dflt (refine' ct_use0 (common_ct _ _ _ _ _ ysb _ _ hvb hcp2) ?k1 ?k2 ?k3 ?k4 ?k5 ?kK ?kd ?ku ⟨_, (Nb _ (.head _)).1, rfl, _, rfl⟩ ?_)
            walk_at "CT useN"
            rintro r14 h14 tk14 ⟨t14, hR14⟩ F14 N14 k14
            subst hR14
            replace N14 : News _ _ _ _ := fun p hp => N14 p (.tail _ hp)
            clear Nb Fb
            (refine (show wpAny _ _ _ _ _ _ from ?_))
            repeat walk1
            exact turn_next F14 (loop_end N14 (fun p hp => hnw6 ▸ .tail _ (hnw5 ▸ hp))) (loop_turn_off off4) ⟨_, fr1 rfl, _, _, _, _, rfl, by assumption, by assumption⟩
      · rintro m₂ news₂ h tk ⟨u, rfl, hJ2⟩ F3 N3
        obtain ⟨o4, o3, v4, v3, rfl, hd4, hd3⟩ := hJ2
        (refine (show wpAny _ _ _ _ _ _ from ?_))
        repeat walk1
        exact turn_next F3 (loop_end N3 (fun p hp => hnw2 ▸ hp)) (loop_turn_off off3) ⟨_, _, _, _, rfl, by assumption, by assumption⟩
    · rintro m₁ news₁ h tk hJ1 F3 N3
      k_steps
end Mine
end
open PySem PySem.W PyProof.Rows
set_option maxRecDepth 100000 in
set_option maxHeartbeats 8000000 in
theorem PySem.Challenge.cw_ik0184_01_holds : PySem.Challenge.rw_ik0184_01.Holds := by
  exact Mine.law_holds
