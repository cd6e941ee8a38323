import PyProof.Rows.All
import Wide.All
import OpenK.AllK
import Wide.FinOn
import PySem.Challenge.RW_pm0059_01

set_option Elab.async false

namespace Mine

-- part T0
open PySem PySem.W PyProof.Rows
set_option maxRecDepth 100000 in
set_option maxHeartbeats 8000000 in
open_top hd for PySem.Challenge.rw_pm0059_01


-- part M0
open PySem PySem.W PySem.Spec PySem.Calls PyProof.Rows PyProof.V
noncomputable abbrev P0 := PySem.Challenge.pw_pm0059_01
noncomputable abbrev loose0 : List Str := looseW Mine.hd.view_39 [Str.ofString "bisect_right", Str.ofString "bisect_left", Str.ofString "tspecials", Str.ofString "_name_disallowed_re", Str.ofString "_value_disallowed_re", Str.ofString "_formatparam"]

theorem warm : (fun (_ : OpenLaw) (_ : Params → Frag) => True) PySem.Challenge.rw_pm0059_01 Mine.hd.heap_39 := by
  k_fill
  trivial

/-- the dict at t bears c, in the ledger -/
def DT (w : World) (news : List (Addr × Obj)) (t : Addr) (c : List (Str × Int)) : Prop :=
  (t == sysModules) = false ∧ ∃ o kvs, (t, o) ∈ news ∧ o.IsDictOf (strKind P0 w) kvs ∧ FlatPairs PyData.str kvs (kdpD c)
def Kn (m : Str → Option Value) : List (Str × Value) → Prop
  | [] => True
  | (x, v) :: r => m x = some v ∧ Kn m r
def kn (m : Str → Option Value) : List (Str × Value) → Str → Option Value
  | [] => m
  | (x, v) :: r => fun y => if y = x then some v else kn m r y
theorem kn_eq {m : Str → Option Value} : ∀ {l : List (Str × Value)}, Kn m l → kn m l = m
  | [], _ => rfl
  | (x, v) :: r, h => by
    funext y
    show (if y = x then some v else kn m r y) = m y
    rw [kn_eq h.2]
    by_cases q : y = x
    · subst q; simp [h.1]
    · simp [q]
theorem frKn {h₀ h : Heap} {L : Addr} {m : Str → Option Value} {l : List (Str × Value)} (F : Fr h₀ L h m) (e : Kn m l) : Fr h₀ L h (kn m l) := by
  rw [kn_eq e]; exact F

def upd1 (c : List (Str × Int)) (p : Str × Int) : List (Str × Int) := kdpPut c p.1 (if kdpHas c p.1 = true then kdpLook c p.1 0 + p.2 else p.2)
def addC (ct cu : List (Str × Int)) : List (Str × Int) := cu.foldl upd1 (ct.foldl (fun c p => kdpPut c p.1 p.2) [])

def Hold (p : Prop) : Prop := p
theorem hold {p : Prop} (h : Hold p) : p := h
theorem unhold {p : Prop} (h : p) : Hold p := h

def bsL (x y : Str) : Nat → Int → Int → Int
  | 0, lo, _ => lo
  | n + 1, lo, hi => if lo < hi then (if (Txt.item x ((lo + hi).fdiv 2)).cps.toList < y.cps.toList then bsL x y n ((lo + hi).fdiv 2 + 1) hi else bsL x y n lo ((lo + hi).fdiv 2)) else lo
def bsR (x y : Str) : Nat → Int → Int → Int
  | 0, lo, _ => lo
  | n + 1, lo, hi => if lo < hi then (if y.cps.toList < (Txt.item x ((lo + hi).fdiv 2)).cps.toList then bsR x y n lo ((lo + hi).fdiv 2) else bsR x y n ((lo + hi).fdiv 2 + 1) hi) else lo
theorem bsL_done {x y : Str} {n : Nat} {lo hi : Int} (h : ¬ lo < hi) : bsL x y n lo hi = lo := by
  cases n with
  | zero => rfl
  | succ n => show (if lo < hi then _ else lo) = lo; rw [if_neg h]
theorem bsR_done {x y : Str} {n : Nat} {lo hi : Int} (h : ¬ lo < hi) : bsR x y n lo hi = lo := by
  cases n with
  | zero => rfl
  | succ n => show (if lo < hi then _ else lo) = lo; rw [if_neg h]

abbrev HD (w : World) (hl : Addr) (tk : Tok) : Obj := dictOf [{ hash := PyData.keyHash w.params (Str.ofString "_headers"), key := .str (Str.ofString "_headers") tk, val := .ref hl }] 1
abbrev tupObj (vs : List Value) (n : Nat) : Obj := { cls := .type "tuple", data := .seq vs.toArray n }
/-- the header tuples in the ledger -/
inductive HIn (news : List (Addr × Obj)) : List Value → List (Str × Str) → Prop
  | nil : HIn news [] []
  | cons {a : Addr} {n : Nat} {x y : Str} {t u : Tok} {vs : List Value} {H : List (Str × Str)} : (a, tupObj [.str x t, .str y u] n) ∈ news → HIn news vs H → HIn news (.ref a :: vs) ((x, y) :: H)
theorem HIn.mono {news news' : List (Addr × Obj)} {vs : List Value} {H : List (Str × Str)} (h : HIn news vs H) (s : ∀ p ∈ news, p ∈ news') : HIn news' vs H := by
  induction h with
  | nil => exact .nil
  | cons hm _ ih => exact .cons (s _ hm) ih
theorem HIn.length {news : List (Addr × Obj)} {vs : List Value} {H : List (Str × Str)} (h : HIn news vs H) : vs.length = H.length := by
  induction h with
  | nil => rfl
  | cons _ _ ih => rw [List.length_cons, List.length_cons, ih]
theorem HIn.append {news : List (Addr × Obj)} {vs vs' : List Value} {H H' : List (Str × Str)} (h : HIn news vs H) (h' : HIn news vs' H') : HIn news (vs ++ vs') (H ++ H') := by
  induction h with
  | nil => exact h'
  | cons hm _ ih => exact .cons hm ih
/-- a list of texts -/
inductive SIn : List Value → List Str → Prop
  | nil : SIn [] []
  | cons {x : Str} {t : Tok} {vs : List Value} {xs : List Str} : SIn vs xs → SIn (.str x t :: vs) (x :: xs)
theorem SIn.append {vs vs' : List Value} {H H' : List Str} (h : SIn vs H) (h' : SIn vs' H') : SIn (vs ++ vs') (H ++ H') := by
  induction h with
  | nil => exact h'
  | cons _ ih => exact .cons ih
def okH (H : List (Str × Str)) : Prop := ∀ e ∈ H, e.1 ∈ [Str.ofString "a", Str.ofString "b", Str.ofString "c", Str.ofString "d", Str.ofString "A", Str.ofString "B", Str.ofString "C", Str.ofString "D"]

open LCg LCt
theorem compEnd_mono {h₀ : Heap} {L : Addr} {m : Str → Option Value} {s₁ s₂ : Shared} {I C D : Addr} {oI oC oD : Obj} {S : List (Addr × Obj) → Prop} {rest rest' : Value → List (Addr × Obj) → Prop} {y : Value}
    (h : CompEnd h₀ L m s₁ I oI C oC D oD S rest y s₂) (hr : ∀ y n, rest y n → rest' y n) : CompEnd h₀ L m s₁ I oI C oC D oD S rest' y s₂ := by
  obtain ⟨h', tk, news', e, F, N, off, hS, r⟩ := h
  exact ⟨h', tk, news', e, F, N, off, hS, hr _ _ r⟩
theorem compT_ind {prog : Program} {w : World} {A : Around} {h₀ : Heap} {L : Addr} {m : Str → Option Value} {env : Env} {ct elt : Expr} {x : Str} {scope : Scope} {cl : List (Str × Addr)} {s : Shared} {S : List (Addr × Obj) → Prop} {P : Nat → Value → Prop} {Fin : List Value → List (Addr × Obj) → Prop} {n : Nat} {news : List (Addr × Obj)}
    (J : Nat → List Value → List (Addr × Obj) → Prop) (j0 : J 0 [] news)
    (turn : ∀ i ys news, i < n → J i ys news → ∀ v I oI C oC D m₂ h tk (E' : Value → Shared → Prop), P i v → NsObj oC m₂ → m₂ x = some v → Fr h₀ L h m → News h₀ L h ((I, oI) :: (C, oC) :: (D, lst ys) :: news) → Off3 I C D news → ((@Ne Nat I C) ∧ (@Ne Nat I D) ∧ (@Ne Nat C D)) →
      wpAny (model prog w) A (isTrue ct (compEnvC scope cl C env) (eval ct (compEnvC scope cl C env))) (fun ok s' => if ok = true then
        wpAny (model prog w) A (eval elt (compEnvC scope cl C env)) (CompEnd h₀ L m { s with heap := h, toks := tk } I oI C oC D (lst ys) S (fun y news' => J (i + 1) (ys ++ [y]) news')) E' s'
        else CompEnd h₀ L m { s with heap := h, toks := tk } I oI C oC D (lst ys) S (fun _ news' => J (i + 1) ys news') Value.none s') E' { s with heap := h, toks := tk })
    (fin : ∀ ys news, J n ys news → Fin ys news) : CompRestT prog w A h₀ L m env ct elt x scope cl s S P Fin n 0 [] news := by
  have key : ∀ k i ys news, i + k = n → J i ys news → CompRestT prog w A h₀ L m env ct elt x scope cl s S P Fin k i ys news := by
    intro k
    induction k with
    | zero => intro i ys news e j; exact CompRestT.zero (fin _ _ ((by omega : i = n) ▸ j))
    | succ k ih =>
      intro i ys news e j
      refine CompRestT.succ ?_
      intro v I oI C oC D m₂ h tk E' hP hC hx F N off ne
      refine wpAny_mono (turn i ys news (by omega) j v I oI C oC D m₂ h tk E' hP hC hx F N off ne) (fun ok s' h' => ?_) fun _ _ e => e
      cases ok with
      | true =>
        simp only [if_true] at h' ⊢
        exact wpAny_mono h' (fun y s'' h'' => compEnd_mono h'' fun y n r => ih _ _ _ (by omega) r) fun _ _ e => e
      | false =>
        simp only [Bool.false_eq_true, if_false] at h' ⊢
        exact compEnd_mono h' fun y n r => ih _ _ _ (by omega) r
  exact key n 0 [] news (by omega) j0
theorem compU_ind {prog : Program} {w : World} {A : Around} {h₀ : Heap} {L : Addr} {m : Str → Option Value} {env : Env} {elt : Expr} {x : Str} {scope : Scope} {cl : List (Str × Addr)} {s : Shared} {S : List (Addr × Obj) → Prop} {P : Nat → Value → Prop} {Fin : List Value → List (Addr × Obj) → Prop} {n : Nat} {news : List (Addr × Obj)}
    (J : Nat → List Value → List (Addr × Obj) → Prop) (j0 : J 0 [] news)
    (turn : ∀ i ys news, i < n → J i ys news → ∀ v I oI C oC D m₂ h tk (E' : Value → Shared → Prop), P i v → NsObj oC m₂ → m₂ x = some v → Fr h₀ L h m → News h₀ L h ((I, oI) :: (C, oC) :: (D, lst ys) :: news) → Off3 I C D news → ((@Ne Nat I C) ∧ (@Ne Nat I D) ∧ (@Ne Nat C D)) →
      wpAny (model prog w) A (eval elt (compEnvC scope cl C env)) (CompEnd h₀ L m { s with heap := h, toks := tk } I oI C oC D (lst ys) S (fun y news' => J (i + 1) (ys ++ [y]) news')) E' { s with heap := h, toks := tk })
    (fin : ∀ ys news, J n ys news → Fin ys news) : CompRest prog w A h₀ L m env elt x scope cl s S P Fin n 0 [] news := by
  have key : ∀ k i ys news, i + k = n → J i ys news → CompRest prog w A h₀ L m env elt x scope cl s S P Fin k i ys news := by
    intro k
    induction k with
    | zero => intro i ys news e j; exact CompRest.zero (fin _ _ ((by omega : i = n) ▸ j))
    | succ k ih =>
      intro i ys news e j
      refine CompRest.succ ?_
      intro v I oI C oC D m₂ h tk E' hP hC hx F N off ne
      exact wpAny_mono (turn i ys news (by omega) j v I oI C oC D m₂ h tk E' hP hC hx F N off ne) (fun y s'' h'' => compEnd_mono h'' fun y n r => ih _ _ _ (by omega) r) fun _ _ e => e
  exact key n 0 [] news (by omega) j0
theorem HIn.at {news : List (Addr × Obj)} {vs : List Value} {H : List (Str × Str)} (h : HIn news vs H) : ∀ {i : Nat} {v : Value}, vs[i]? = some v → ∃ a n x y t u, v = .ref a ∧ H[i]? = some (x, y) ∧ (a, tupObj [.str x t, .str y u] n) ∈ news := by
  induction h with
  | nil => intro i v e; cases e
  | cons hm _ ih =>
    intro i v e
    cases i with
    | zero => cases e; exact ⟨_, _, _, _, _, _, rfl, rfl, hm⟩
    | succ i => exact ih e
theorem take_succ_of {α : Type} {l : List α} {i : Nat} {a : α} (h : l[i]? = some a) : l.take (i + 1) = l.take i ++ [a] := by
  rw [List.take_add_one, h]; rfl

theorem off1_mem {D : Addr} : ∀ {l : List (Addr × Obj)}, LCg.Off1 D l → ∀ p ∈ l, p.1 ≠ D
  | [], _, _, h => nomatch h
  | _ :: _, x, p, h => by
    rcases List.mem_cons.mp h with rfl | h
    · exact x.1
    · exact off1_mem x.2 p h

theorem allLt_mem {d : Addr} : ∀ {l : List (Addr × Obj)}, AllLt d l → ∀ p ∈ l, p.1 < d
  | [], _, _, h => nomatch h
  | _ :: _, x, p, h => by
    rcases List.mem_cons.mp h with rfl | h
    · exact x.1
    · exact allLt_mem x.2 p h


-- part M1
theorem calm_M1 : True := by
  w_top off
  trivial
open PySem PySem.W PySem.Spec PySem.Calls PyProof.Rows PyProof.V
theorem warm1 : (fun (_ : OpenLaw) (_ : Params → Frag) => True) PySem.Challenge.rw_pm0059_01 Mine.hd.heap_39 := by
  k_fill
  trivial
local macro_rules | `(tactic| k_mem) => `(tactic| first | assumption | (refine List.mem_cons_of_mem _ ?_; k_mem))
local macro_rules | `(tactic| walk_at "getMethod ref") => `(tactic| (k_here; refine' getMethod_tab_any (knd := strKind _ _) (enc := PyData.str) ?k1 ?k2 ?_; (case k1 => exact rfl); (case k2 => exact TabAt.ofNews (by k_asm) (by k_mem) (by k_asm) (by k_asm) (by k_asm))))
section
variable {w : World} {mean : ExcName → Option Value} {mg mb : Str → Option Value} {dp un : Nat} {gd : Option (List Code)} {cn : Str} {cs : Scope} {a : Addr} {ccd : Value} {cl : List (Str × Addr)} {outer : List Env} {A₀ : Around} {base h₀ : Heap} {L : Addr} {m : Str → Option Value} {s : Shared} {Q E : Value → Shared → Prop} {news : List (Addr × Obj)}

set_option maxRecDepth 100000 in
set_option maxHeartbeats 8000000 in
theorem add_callers_ct {t u : Addr} {ct cu : List (Str × Int)}
    (B : Below A₀ base outer h₀) (F : Fr h₀ L s.heap m) (X : (Mine.hd.heap_39 w.params).In h₀) (N : News h₀ L s.heap news) (T : Top Mine.hd.view_39 loose0 mean mg mb h₀) (hk : cs.kind = .function)
    (hd : dp + 1 < recursionLimit) (hu : un + 8 < cLine)
    (Dt : DT w news t ct) (Du : DT w news u cu) (hlt : ct.length < 1000) (hlu : cu.length < 1000)
    (ret : ∀ (d : Addr) (o : Obj) (h' : Heap) (tk' : Nat), Fr h₀ L h' m → News h₀ L h' ((d, o) :: news) → (∀ p ∈ news, p.1 < d) → DT w [(d, o)] d (addC ct cu) → Q (.ref d) { s with heap := h', toks := tk' }) :
    wpAny (model P0 w) (ktrTop dp un gd cn cs L a ccd cl outer) (call (.ref 38) [.ref t, .ref u]) Q E s := by
  obtain ⟨lot, ot, kt, ht, hkt, hft⟩ := Dt
  obtain ⟨lou, ou, ku, hu, hku, hfu⟩ := Du
  refine wpAny_call ?_
  k_dflt cell_enter
  k_steps
  rename_i lF lN
  with_unfolding_all refine For_turns lF ?_
  k_steps
  rename_i lF2 lN2 l1
  refine kti_items (knd := strKind _ _) (enc := PyData.str) (d := t) (hh := rfl) lF2 lN2 ⟨_, (lN2 _ (List.Mem.head _)).1, rfl, rfl⟩ (TabAt.ofNews lN2 (by k_mem) lot hkt hft) (by k_mem) ?_ rfl ?_
  · intro k v hv
    obtain ⟨t, rfl⟩ := Value.isStrOf_shape hv
    exact ⟨t, rfl⟩
  · intro I hI
    unfold kdpD
    rw [List.map_map]
    rename_i g0 L0 _ _ _ _ _ d0 _ o0 l0 lo0 hs0 fs0 hi0 fi0 _ D0 _
    clear hi0 fi0
    generalize hm : (fun y => if y = Str.ofString "new_callers" then some (Value.ref d0) else _) = m1 at lF2 ⊢
    have e1 : Kn m1 [(Str.ofString "new_callers", .ref d0), (Str.ofString "source", .ref u)] := by rw [← hm]; exact ⟨rfl, rfl, trivial⟩
    have hI1 : D0 < I := hI _ (List.Mem.head _)
    have hI2 : d0 < I := hI (d0, o0) (by k_mem)
    have hI3 : ∀ p ∈ news, p.1 < I := fun p hp => hI p (List.mem_cons_of_mem _ (List.mem_cons_of_mem _ hp))
    clear hm lF lN lF2 lN2 hI
    unfold addC at ret
    generalize hCT : ct.foldl (fun c p => kdpPut c p.1 p.2) [] = CT at ret
    clear hft
    have fs1 : FlatPairs PyData.str [] (kdpD []) := fs0
    clear fs0
    generalize hkv : ([] : List (Str × Value)) = kvs at hs0 fs1
    clear hkv
    generalize hc0 : ([] : List (Str × Int)) = c0 at hCT fs1
    have hlc : c0.length + ct.length < 1000 := by rw [← hc0]; simpa using hlt
    clear hc0 hlt
    induction ct generalizing c0 o0 kvs m1 with
    | nil =>
      refine ItemsRest.zero ?_
      intro h tk lF3 lN3
      have lF4 := frKn lF3 e1
      clear lF3 e1
      have hc0 : c0 = CT := hCT
      subst hc0
      clear hCT
      replace hlc : c0.length + cu.length < 2000 := by simp only [List.length_nil] at hlc; omega
      k_steps
      with_unfolding_all refine For_turns lF4 ?_
      k_steps
      rename_i lF5 lN5 l5
      refine kti_items (knd := strKind _ _) (enc := PyData.str) (d := u) (hh := rfl) lF5 lN5 ⟨_, (lN5 _ (List.Mem.head _)).1, rfl, rfl⟩ (TabAt.ofNews lN5 (by k_mem) lou hku hfu) (by k_mem) ?_ rfl ?_
      · intro k v hv
        obtain ⟨t, rfl⟩ := Value.isStrOf_shape hv
        exact ⟨t, rfl⟩
      intro I2 hI
      unfold kdpD
      rw [List.map_map]
      rename_i D5 _
      have e1 : Kn (kn m1 [(Str.ofString "new_callers", Value.ref d0), (Str.ofString "source", .ref u)]) [(Str.ofString "new_callers", .ref d0)] := ⟨rfl, trivial⟩
      generalize kn m1 _ = m2 at lF5 e1 ⊢
      have hI0 : D5 < I2 := hI _ (List.Mem.head _)
      have hI1 : D0 < I2 := hI (D0, _) (by k_mem)
      have hI2 : d0 < I2 := hI (d0, o0) (by k_mem)
      have hI3 : ∀ p ∈ news, p.1 < I2 := fun p hp => hI p (by k_mem)
      have n5 : D5 ≠ d0 := Nat.ne_of_gt l5.2.1
      have n0 : D0 ≠ d0 := Nat.ne_of_gt l1.1
      clear hI lF4 lF5 lN5 hfu lN3 hlu
      generalize hCU : cu.foldl upd1 c0 = CU at ret
      induction cu generalizing c0 o0 kvs m2 with
      | nil =>
        refine ItemsRest.zero ?_
        intro h tk lF3 lN3
        have lF4 := frKn lF3 e1
        have hc0 : c0 = CU := hCU
        subst hc0
        clear lF3 e1 hCU
        k_steps
        refine ret d0 o0 h tk (by assumption) ?_ l0 ⟨lo0, o0, kvs, List.Mem.head _, hs0, fs1⟩
        intro p hp
        rename News h₀ L h _ => lNz
        rcases List.mem_cons.mp hp with rfl | hp
        · exact lNz _ (by k_mem)
        · exact lNz _ (by k_mem)
      | cons p r ih =>
        obtain ⟨x, i⟩ := p
        refine ItemsRest.pairF ?_
        intro TT tt xx h tk hfl htup lF3
        dsimp only [Function.comp, kyVal] at hfl htup
        obtain ⟨ti, rfl⟩ := PyProof.V.Flat.int_inv hfl
        refine AllObj.cons ?_
        intro oi hoi
        refine AllObj.nil ?_
        intro lN3
        have lF4 := frKn lF3 e1
        clear lF3
        have n1 : I2 ≠ d0 := Nat.ne_of_gt hI2
        simp only [List.cons_append, List.nil_append] at lN3
        have hl2 : c0.length < 1999 := by rw [List.length_cons] at hlc; omega
        have hl3 : ∀ v, (kdpPut c0 x v).length + r.length < 2000 := by
          intro v
          have := kdpPut_len c0 x v
          rw [List.length_cons] at hlc
          omega
        have off : ∀ oa ob o5 : Obj, ∀ p ∈ (D5, oa) :: (D0, ob) :: (d0, o5) :: news, ∀ q ∈ [(I2, oi)], p.1 ≠ q.1 := by
          intro oa ob o5 p hp q hq
          rw [List.mem_singleton.mp hq]
          rcases List.mem_cons.mp hp with rfl | hp
          · exact Nat.ne_of_lt hI0
          rcases List.mem_cons.mp hp with rfl | hp
          · exact Nat.ne_of_lt hI1
          rcases List.mem_cons.mp hp with rfl | hp
          · exact Nat.ne_of_lt hI2
          · exact Nat.ne_of_lt (hI3 p hp)
        k_steps
        all_goals
          rename_i h5 o5 kv5 lF5 lN5 hs5 fs5
          refine ⟨_, _, _, (D5, _) :: (D0, _) :: (d0, o5) :: news, rfl, lF5, lN5, off _ _ _, ⟨by k_mem, trivial⟩, ?_⟩
          refine ih o5 kv5 hs5 _ fs5 (hl3 _) _ ⟨rfl, trivial⟩ ?_
          rw [← hCU, List.foldl_cons]
          congr 1
          unfold upd1
          simp_all
    | cons p r ih =>
      obtain ⟨x, i⟩ := p
      refine ItemsRest.pairF ?_
      intro TT tt xx h tk hfl htup lF3
      dsimp only [Function.comp, kyVal] at hfl htup
      obtain ⟨ti, rfl⟩ := PyProof.V.Flat.int_inv hfl
      refine AllObj.cons ?_
      intro oi hoi
      refine AllObj.nil ?_
      intro lN3
      have lF4 := frKn lF3 e1
      clear lF3
      have n1 : I ≠ d0 := Nat.ne_of_gt hI2
      simp only [List.cons_append, List.nil_append] at lN3
      k_steps
      rename_i h5 o5 kv5 lF5 lN5 hs5 fs5
      refine ⟨_, _, _, (D0, _) :: (d0, o5) :: news, rfl, lF5, lN5, ?_, ⟨by k_mem, trivial⟩, ?_⟩
      · intro p hp q hq
        rw [List.mem_singleton.mp hq]
        rcases List.mem_cons.mp hp with rfl | hp
        · exact Nat.ne_of_lt hI1
        rcases List.mem_cons.mp hp with rfl | hp
        · exact Nat.ne_of_lt hI2
        · exact Nat.ne_of_lt (hI3 p hp)
      · refine ih o5 _ ⟨rfl, rfl, trivial⟩ kv5 hs5 (kdpPut c0 x i) hCT fs5 ?_
        have := kdpPut_len c0 x i
        rw [List.length_cons] at hlc
        omega
end


-- part M2
theorem calm_M2 : True := by
  w_top off
  trivial
open PySem PySem.W PySem.Spec PySem.Calls PyProof.Rows PyProof.V
theorem warm2 : (fun (_ : OpenLaw) (_ : Params → Frag) => True) PySem.Challenge.rw_pm0059_01 Mine.hd.heap_39 := by
  k_fill
  trivial
local macro_rules | `(tactic| walk_at "exec For Name Call cons nil") => `(tactic| (k_here; (rename Fr _ _ _ _ => lF'); with_unfolding_all refine For_turns lF' ?_))
section
variable {w : World} {mean : ExcName → Option Value} {mg mb : Str → Option Value} {dp un : Nat} {gd : Option (List Code)} {cn : Str} {cs : Scope} {a : Addr} {ccd : Value} {cl : List (Str × Addr)} {outer : List Env} {A₀ : Around} {base h₀ : Heap} {L : Addr} {m : Str → Option Value} {s : Shared} {Q E : Value → Shared → Prop} {news : List (Addr × Obj)}

set_option maxRecDepth 100000 in
set_option maxHeartbeats 8000000 in
theorem count_calls_ct {t : Addr} {ct : List (Str × Int)}
    (B : Below A₀ base outer h₀) (F : Fr h₀ L s.heap m) (X : (Mine.hd.heap_39 w.params).In h₀) (N : News h₀ L s.heap news) (T : Top Mine.hd.view_39 loose0 mean mg mb h₀) (hk : cs.kind = .function)
    (hd : dp + 1 < recursionLimit) (hu : un + 8 < cLine)
    (Dt : DT w news t ct)
    (ret : ∀ (tk : Tok) (h' : Heap) (tk' : Nat), Fr h₀ L h' m → News h₀ L h' news → Q (.int (ct.map (·.2)).sum tk) { s with heap := h', toks := tk' }) :
    wpAny (model P0 w) (ktrTop dp un gd cn cs L a ccd cl outer) (call (.ref 45) [.ref t]) Q E s := by
  obtain ⟨lot, ot, kt, ht, hkt, hft⟩ := Dt
  refine wpAny_call ?_
  k_dflt cell_enter
  k_steps
  rename_i g0 L0 _ _ _ _ _ h1 lF1 lN1 D0 h2 lF2 lN2 l1
  refine kti_vals (knd := strKind _ _) (enc := PyData.str) (d := t) (hh := rfl) lF2 lN2 ⟨_, (lN2 _ (List.Mem.head _)).1, rfl, rfl⟩ (TabAt.ofNews lN2 (by k_mem) lot hkt hft) (by k_mem) rfl ?_
  intro I hI
  unfold kdpD
  rw [List.map_map]
  generalize hm : (fun y => if y = Str.ofString "nc" then some (Value.int 0 _) else _) = m1 at lF2 ⊢
  have e1 : ∃ tk, Kn m1 [(Str.ofString "nc", .int 0 tk)] := by rw [← hm]; exact ⟨_, rfl, trivial⟩
  have hI1 : D0 < I := hI _ (List.Mem.head _)
  have hI3 : ∀ p ∈ news, p.1 < I := fun p hp => hI p (List.mem_cons_of_mem _ hp)
  have off : ∀ oa oi : Obj, ∀ p ∈ (D0, oa) :: news, ∀ q ∈ [(I, oi)], p.1 ≠ q.1 := by
    intro oa oi p hp q hq
    rw [List.mem_singleton.mp hq]
    rcases List.mem_cons.mp hp with rfl | hp
    · exact Nat.ne_of_lt hI1
    · exact Nat.ne_of_lt (hI3 p hp)
  clear hm lF1 lN1 lF2 lN2 hI hft hI1 hI3
  generalize hs0 : (ct.map (·.2)).sum = S at ret
  generalize hac : (0 : Int) = ac at e1
  replace hs0 : ac + (ct.map (·.2)).sum = S := by rw [← hac, hs0]; exact Int.zero_add _
  clear hac
  induction ct generalizing ac m1 with
  | nil =>
    refine ItemsRest.zero ?_
    intro h tk lF3 lN3
    obtain ⟨tk1, e1⟩ := e1
    have lF4 := frKn lF3 e1
    have hS : ac = S := by simpa using hs0
    subst hS
    clear lF3 e1 hs0
    k_steps
    rename News h₀ L h _ => lNz
    exact ret _ h tk (by assumption) fun p hp => lNz p (by k_mem)
  | cons p r ih =>
    obtain ⟨x, i⟩ := p
    refine ItemsRest.flat ?_
    intro xx h tk hfl lF3
    dsimp only [Function.comp] at hfl
    obtain ⟨ti, rfl⟩ := PyProof.V.Flat.int_inv hfl
    obtain ⟨tk1, e1⟩ := e1
    refine AllObj.cons ?_
    intro oi hoi
    refine AllObj.nil ?_
    intro lN3
    have lF4 := frKn lF3 e1
    clear lF3
    simp only [List.cons_append, List.nil_append] at lN3
    k_steps
    trace_state
    rename_i h5 lF5 lN5
    refine ⟨_, _, _, (D0, _) :: news, rfl, lF5, lN5, off _ _, ⟨by k_mem, trivial⟩, ?_⟩
    refine ih _ _ ⟨_, rfl, trivial⟩ ?_
    rw [← hs0, List.map_cons, List.sum_cons]
    omega
end


-- part M3
theorem calm_M3 : True := by
  w_top off
  trivial
open PySem PySem.W PySem.Spec PySem.Calls PyProof.Rows PyProof.V
theorem warm3 : (fun (_ : OpenLaw) (_ : Params → Frag) => True) PySem.Challenge.rw_pm0059_01 Mine.hd.heap_39 := by
  k_fill
  trivial
local macro_rules | `(tactic| walk_at "enter") => `(tactic| (refine' code_def ?k1 ?k2 ?k3 ?k4 ?k5 ?kA ?kF ?kK ?k6 ?k7 ?k8 ?k9 ?kB ?_ ?c2 ?c3 ?c4 ?c5; (case kA => exact rfl); (case kF => exact rfl); (case kK => assumption); (case k1 => k_asm); (case k2 => k_asm); (case k3 => k_asm); (case k4 => k_asm); (case k5 => k_asm); (case k6 => k_is); (case k7 => k_is); (case k8 => ktr_room); (case k9 => (refine' kp_binds ?kx ?ke; (case kx => k_in); (case ke => exact fun _ => rfl))); (case c5 => decide); (case kB => exact locs rfl); (case c2 => exact rfl); (case c3 => exact rfl); (case c4 => exact rfl); k_whole; intro g' L' h' FG' F' N' B' X' T'; (try dsimp only); (try k_lift B'); (try k_fold)))
local macro_rules | `(tactic| walk_at "exec While Compare cons nil") => `(tactic| (k_here; refine hold ?_))
section
variable {w : World} {mean : ExcName → Option Value} {mg mb : Str → Option Value} {dp un : Nat} {gd : Option (List Code)} {cn : Str} {cs : Scope} {a : Addr} {ccd : Value} {cl : List (Str × Addr)} {outer : List Env} {A₀ : Around} {base h₀ : Heap} {L : Addr} {m : Str → Option Value} {s : Shared} {Q E : Value → Shared → Prop} {news : List (Addr × Obj)}

set_option maxRecDepth 100000 in
set_option maxHeartbeats 8000000 in
theorem bisect_left_ct {x y : Str} {tx ty : Tok}
    (B : Below A₀ base outer h₀) (F : Fr h₀ L s.heap m) (X : (Mine.hd.heap_39 w.params).In h₀) (N : News h₀ L s.heap news) (T : Top Mine.hd.view_39 loose0 mean mg mb h₀) (hk : cs.kind = .function)
    (hd : dp + 1 < recursionLimit) (hu : un + 8 < cLine)
    (hlen : x.length < 10)
    (ret : ∀ (tk : Tok) (h' : Heap) (tk' : Nat), Fr h₀ L h' m → News h₀ L h' news → Q (.int (bsL x y 10 0 x.length) tk) { s with heap := h', toks := tk' }) :
    wpAny (model P0 w) (ktrTop dp un gd cn cs L a ccd cl outer) (call (.ref 63) [.str x tx, .str y ty]) Q E s := by
  refine wpAny_call ?_
  k_dflt (walk_at "enter")
  k_steps
  rename_i g0 L0 _ _ _ _ _ _ _ h1 lF lN
  refine unhold ?_
  have hfd : ∀ lo hi : Int, (lo + hi).fdiv 2 = (lo + hi) / 2 := fun lo hi => by rw [Int.fdiv_eq_ediv_of_nonneg _ (by decide)]
  with_unfolding_all refine While_inv (fun n m₁ news₁ => news₁ = news ∧ ∃ (k : Nat) (lo hi : Int) (tl th : Tok), Kn m₁ [(Str.ofString "lo", .int lo tl), (Str.ofString "hi", .int hi th), (Str.ofString "a", .str x tx), (Str.ofString "x", .str y ty)] ∧ n = (hi - lo).toNat ∧ n ≤ k ∧ 0 ≤ lo ∧ hi ≤ x.length ∧ lo ≤ hi ∧ bsL x y k lo hi = bsL x y 10 0 x.length) (n₀ := x.length) lF lN ?_ ?_
  · refine ⟨rfl, 10, 0, x.length, _, _, ⟨rfl, rfl, rfl, rfl, trivial⟩, ?_, ?_, ?_, ?_, ?_, rfl⟩ <;> omega
  · rintro n m₁ news₁ h₁ tk₁ lF1 lN1 ⟨rfl, k, lo, hi, tl, th, e1, hn, hnk, h0, hl, hlh, hR⟩
    have lF2 := frKn lF1 e1
    have hmid := hfd lo hi
    clear lF1 lF lN
    k_steps
    · rename_i hlt _ _ hc h' lF5 lN5
      obtain ⟨k, rfl⟩ : ∃ j, k = j + 1 := ⟨k - 1, by omega⟩
      refine ⟨rfl, _, _, _, _, _, rfl, lF5, lN5, ?_, rfl, k, _, hi, _, _, ⟨rfl, rfl, rfl, rfl, trivial⟩, rfl, ?_, ?_, ?_, ?_, ?_⟩
      iterate 5 omega
      rw [← hR]
      show _ = (if lo < hi then _ else lo)
      rw [if_pos hlt, if_pos hc]
    · rename_i hlt _ _ hc h' lF5 lN5
      obtain ⟨k, rfl⟩ : ∃ j, k = j + 1 := ⟨k - 1, by omega⟩
      refine ⟨rfl, _, _, _, _, _, rfl, lF5, lN5, ?_, rfl, k, lo, _, _, _, ⟨rfl, rfl, rfl, rfl, trivial⟩, rfl, ?_, ?_, ?_, ?_, ?_⟩
      iterate 5 omega
      rw [← hR]
      show _ = (if lo < hi then _ else lo)
      rw [if_pos hlt, if_neg hc]
    · rename_i hge kF kN _ _
      rw [bsL_done hge] at hR
      subst hR
      exact ret _ _ _ kF kN
set_option maxRecDepth 100000 in
set_option maxHeartbeats 8000000 in
theorem bisect_right_ct {x y : Str} {tx ty : Tok}
    (B : Below A₀ base outer h₀) (F : Fr h₀ L s.heap m) (X : (Mine.hd.heap_39 w.params).In h₀) (N : News h₀ L s.heap news) (T : Top Mine.hd.view_39 loose0 mean mg mb h₀) (hk : cs.kind = .function)
    (hd : dp + 1 < recursionLimit) (hu : un + 8 < cLine)
    (hlen : x.length < 10)
    (ret : ∀ (tk : Tok) (h' : Heap) (tk' : Nat), Fr h₀ L h' m → News h₀ L h' news → Q (.int (bsR x y 10 0 x.length) tk) { s with heap := h', toks := tk' }) :
    wpAny (model P0 w) (ktrTop dp un gd cn cs L a ccd cl outer) (call (.ref 54) [.str x tx, .str y ty]) Q E s := by
  refine wpAny_call ?_
  k_dflt (walk_at "enter")
  k_steps
  rename_i g0 L0 _ _ _ _ _ _ _ h1 lF lN
  refine unhold ?_
  have hfd : ∀ lo hi : Int, (lo + hi).fdiv 2 = (lo + hi) / 2 := fun lo hi => by rw [Int.fdiv_eq_ediv_of_nonneg _ (by decide)]
  with_unfolding_all refine While_inv (fun n m₁ news₁ => news₁ = news ∧ ∃ (k : Nat) (lo hi : Int) (tl th : Tok), Kn m₁ [(Str.ofString "lo", .int lo tl), (Str.ofString "hi", .int hi th), (Str.ofString "a", .str x tx), (Str.ofString "x", .str y ty)] ∧ n = (hi - lo).toNat ∧ n ≤ k ∧ 0 ≤ lo ∧ hi ≤ x.length ∧ lo ≤ hi ∧ bsR x y k lo hi = bsR x y 10 0 x.length) (n₀ := x.length) lF lN ?_ ?_
  · refine ⟨rfl, 10, 0, x.length, _, _, ⟨rfl, rfl, rfl, rfl, trivial⟩, ?_, ?_, ?_, ?_, ?_, rfl⟩ <;> omega
  · rintro n m₁ news₁ h₁ tk₁ lF1 lN1 ⟨rfl, k, lo, hi, tl, th, e1, hn, hnk, h0, hl, hlh, hR⟩
    have lF2 := frKn lF1 e1
    have hmid := hfd lo hi
    clear lF1 lF lN
    k_steps
    · rename_i hlt _ _ hc h' lF5 lN5
      obtain ⟨k, rfl⟩ : ∃ j, k = j + 1 := ⟨k - 1, by omega⟩
      refine ⟨rfl, _, _, _, _, _, rfl, lF5, lN5, ?_, rfl, k, lo, _, _, _, ⟨rfl, rfl, rfl, rfl, trivial⟩, rfl, ?_, ?_, ?_, ?_, ?_⟩
      iterate 5 omega
      rw [← hR]
      show _ = (if lo < hi then _ else lo)
      rw [if_pos hlt, if_pos hc]
    · rename_i hlt _ _ hc h' lF5 lN5
      obtain ⟨k, rfl⟩ : ∃ j, k = j + 1 := ⟨k - 1, by omega⟩
      refine ⟨rfl, _, _, _, _, _, rfl, lF5, lN5, ?_, rfl, k, _, hi, _, _, ⟨rfl, rfl, rfl, rfl, trivial⟩, rfl, ?_, ?_, ?_, ?_, ?_⟩
      iterate 5 omega
      rw [← hR]
      show _ = (if lo < hi then _ else lo)
      rw [if_pos hlt, if_neg hc]
    · rename_i hge kF kN _ _
      rw [bsR_done hge] at hR
      subst hR
      exact ret _ _ _ kF kN
end


-- part M4
open PySem PySem.W PySem.Spec PySem.Calls PyProof.Rows PyProof.V
set_option maxRecDepth 100000
theorem warm4 : (fun (_ : OpenLaw) (_ : Params → Frag) => True) PySem.Challenge.rw_pm0059_01 Mine.hd.heap_39 := by
  k_fill
  trivial
theorem slot_search : Slot "re.Pattern" "search" "re.Pattern.search" :=
  .of (owner := "re.Pattern") (n := "search") (by rw [typeLookup_type, builtinLookup_eq_fast]; kernel_rfl) (by decide +kernel) (by decide +kernel) (by decide +kernel)
    (by first | exact .inl (by decide +kernel) | exact .inr (by decide +kernel)) (by rw [isSubtype_type]; kernel_rfl)
theorem entry_search : entryFor table "re.Pattern.search" = some Builtin.«re.Pattern.search» := entryFor_of_tree (by kernel_rfl)
theorem args_search (a b : Value) : argsOk "re.Pattern.search" ⟨[a, b], []⟩ := by unfold argsOk; kernel_rfl
def L8 : List Str := [Str.ofString "a", Str.ofString "b", Str.ofString "c", Str.ofString "d", Str.ofString "A", Str.ofString "B", Str.ofString "C", Str.ofString "D"]
def D10 : List Str := [Str.ofString "0", Str.ofString "1", Str.ofString "2", Str.ofString "3", Str.ofString "4", Str.ofString "5", Str.ofString "6", Str.ofString "7", Str.ofString "8", Str.ofString "9"]
theorem look_n0 (S : Setting) (P : Params) (t : Tok) : peek (Mine.hd.heap_39 P) S (Builtin.«re.Pattern.search» ⟨[.ref 73, .str (Str.ofString "a") t], []⟩) = some (.done (.ret .none)) := by kernel_rfl
theorem look_n1 (S : Setting) (P : Params) (t : Tok) : peek (Mine.hd.heap_39 P) S (Builtin.«re.Pattern.search» ⟨[.ref 73, .str (Str.ofString "b") t], []⟩) = some (.done (.ret .none)) := by kernel_rfl
theorem look_n2 (S : Setting) (P : Params) (t : Tok) : peek (Mine.hd.heap_39 P) S (Builtin.«re.Pattern.search» ⟨[.ref 73, .str (Str.ofString "c") t], []⟩) = some (.done (.ret .none)) := by kernel_rfl
theorem look_n3 (S : Setting) (P : Params) (t : Tok) : peek (Mine.hd.heap_39 P) S (Builtin.«re.Pattern.search» ⟨[.ref 73, .str (Str.ofString "d") t], []⟩) = some (.done (.ret .none)) := by kernel_rfl
theorem look_n4 (S : Setting) (P : Params) (t : Tok) : peek (Mine.hd.heap_39 P) S (Builtin.«re.Pattern.search» ⟨[.ref 73, .str (Str.ofString "A") t], []⟩) = some (.done (.ret .none)) := by kernel_rfl
theorem look_n5 (S : Setting) (P : Params) (t : Tok) : peek (Mine.hd.heap_39 P) S (Builtin.«re.Pattern.search» ⟨[.ref 73, .str (Str.ofString "B") t], []⟩) = some (.done (.ret .none)) := by kernel_rfl
theorem look_n6 (S : Setting) (P : Params) (t : Tok) : peek (Mine.hd.heap_39 P) S (Builtin.«re.Pattern.search» ⟨[.ref 73, .str (Str.ofString "C") t], []⟩) = some (.done (.ret .none)) := by kernel_rfl
theorem look_n7 (S : Setting) (P : Params) (t : Tok) : peek (Mine.hd.heap_39 P) S (Builtin.«re.Pattern.search» ⟨[.ref 73, .str (Str.ofString "D") t], []⟩) = some (.done (.ret .none)) := by kernel_rfl
theorem look_d0 (S : Setting) (P : Params) (t : Tok) : peek (Mine.hd.heap_39 P) S (Builtin.«re.Pattern.search» ⟨[.ref 78, .str (Str.ofString "0") t], []⟩) = some (.done (.ret .none)) := by kernel_rfl
theorem look_d1 (S : Setting) (P : Params) (t : Tok) : peek (Mine.hd.heap_39 P) S (Builtin.«re.Pattern.search» ⟨[.ref 78, .str (Str.ofString "1") t], []⟩) = some (.done (.ret .none)) := by kernel_rfl
theorem look_d2 (S : Setting) (P : Params) (t : Tok) : peek (Mine.hd.heap_39 P) S (Builtin.«re.Pattern.search» ⟨[.ref 78, .str (Str.ofString "2") t], []⟩) = some (.done (.ret .none)) := by kernel_rfl
theorem look_d3 (S : Setting) (P : Params) (t : Tok) : peek (Mine.hd.heap_39 P) S (Builtin.«re.Pattern.search» ⟨[.ref 78, .str (Str.ofString "3") t], []⟩) = some (.done (.ret .none)) := by kernel_rfl
theorem look_d4 (S : Setting) (P : Params) (t : Tok) : peek (Mine.hd.heap_39 P) S (Builtin.«re.Pattern.search» ⟨[.ref 78, .str (Str.ofString "4") t], []⟩) = some (.done (.ret .none)) := by kernel_rfl
theorem look_d5 (S : Setting) (P : Params) (t : Tok) : peek (Mine.hd.heap_39 P) S (Builtin.«re.Pattern.search» ⟨[.ref 78, .str (Str.ofString "5") t], []⟩) = some (.done (.ret .none)) := by kernel_rfl
theorem look_d6 (S : Setting) (P : Params) (t : Tok) : peek (Mine.hd.heap_39 P) S (Builtin.«re.Pattern.search» ⟨[.ref 78, .str (Str.ofString "6") t], []⟩) = some (.done (.ret .none)) := by kernel_rfl
theorem look_d7 (S : Setting) (P : Params) (t : Tok) : peek (Mine.hd.heap_39 P) S (Builtin.«re.Pattern.search» ⟨[.ref 78, .str (Str.ofString "7") t], []⟩) = some (.done (.ret .none)) := by kernel_rfl
theorem look_d8 (S : Setting) (P : Params) (t : Tok) : peek (Mine.hd.heap_39 P) S (Builtin.«re.Pattern.search» ⟨[.ref 78, .str (Str.ofString "8") t], []⟩) = some (.done (.ret .none)) := by kernel_rfl
theorem look_d9 (S : Setting) (P : Params) (t : Tok) : peek (Mine.hd.heap_39 P) S (Builtin.«re.Pattern.search» ⟨[.ref 78, .str (Str.ofString "9") t], []⟩) = some (.done (.ret .none)) := by kernel_rfl
theorem look_n {v : Str} (hv : v ∈ L8) (S : Setting) (P : Params) (t : Tok) : peek (Mine.hd.heap_39 P) S (Builtin.«re.Pattern.search» ⟨[.ref 73, .str v t], []⟩) = some (.done (.ret .none)) := by
  simp only [L8, List.mem_cons, List.not_mem_nil, or_false] at hv
  rcases hv with rfl | rfl | rfl | rfl | rfl | rfl | rfl | rfl
  · exact look_n0 S P t
  · exact look_n1 S P t
  · exact look_n2 S P t
  · exact look_n3 S P t
  · exact look_n4 S P t
  · exact look_n5 S P t
  · exact look_n6 S P t
  · exact look_n7 S P t
theorem look_d {v : Str} (hv : v ∈ D10) (S : Setting) (P : Params) (t : Tok) : peek (Mine.hd.heap_39 P) S (Builtin.«re.Pattern.search» ⟨[.ref 78, .str v t], []⟩) = some (.done (.ret .none)) := by
  simp only [D10, List.mem_cons, List.not_mem_nil, or_false] at hv
  rcases hv with rfl | rfl | rfl | rfl | rfl | rfl | rfl | rfl | rfl | rfl
  · exact look_d0 S P t
  · exact look_d1 S P t
  · exact look_d2 S P t
  · exact look_d3 S P t
  · exact look_d4 S P t
  · exact look_d5 S P t
  · exact look_d6 S P t
  · exact look_d7 S P t
  · exact look_d8 S P t
  · exact look_d9 S P t
def lowS (v : Str) : Str := if v = Str.ofString "A" then Str.ofString "a" else if v = Str.ofString "B" then Str.ofString "b" else if v = Str.ofString "C" then Str.ofString "c" else if v = Str.ofString "D" then Str.ofString "d" else v
theorem lowS_mem {v : Str} (hv : v ∈ L8) : lowS v ∈ L8 := by
  have : ∀ v ∈ L8, lowS v ∈ L8 := by decide +kernel
  exact this v hv
theorem lower8 {prog : Program} {w : World} {A : Around} {E : Value → Shared → Prop} {s : Shared} {v : Str} {t : Tok} {Q : Value → Shared → Prop} (hv : v ∈ L8) (h : ∀ t' k, Q (.str (lowS v) t') { s with toks := k }) :
    wpAny (model prog w) A (call (.builtin "str.lower") [.str v t]) Q E s := by
  have e : ∀ v ∈ L8, Txt.lower v = lowS v ∧ PySem.Builtin.Str.tooLong (Txt.lower v).length = false := by decide +kernel
  exact KXw.lower (e v hv).1 (e v hv).2 h
theorem len8 {v : Str} (hv : v ∈ L8) : v.length = 1 := by
  have : ∀ v ∈ L8, v.length = 1 := by decide +kernel
  exact this v hv
theorem type_73 (S : Setting) (P : Params) : peek (Mine.hd.heap_39 P) S (typeOf (.ref 73)) = some (.type "re.Pattern") := by kernel_rfl
theorem meth_73 (S : Setting) (P : Params) : peek (Mine.hd.heap_39 P) S (getMethod (.ref 73) (Str.ofString "search") (pure true)) = some (.builtin "re.Pattern.search", [.ref 73]) := by kernel_rfl


-- part M5
theorem calm_M5 : True := by
  w_top off
  trivial
open PySem PySem.W PySem.Spec PySem.Calls PyProof.Rows PyProof.V
set_option maxRecDepth 100000
theorem warm5 : (fun (_ : OpenLaw) (_ : Params → Frag) => True) PySem.Challenge.rw_pm0059_01 Mine.hd.heap_39 := by
  k_fill
  trivial
local macro_rules | `(tactic| walk_at "getMethod ref") => `(tactic| (k_here; (show wpAny _ _ (getMethod (Value.ref 73) (Str.ofString "search") _) _ _ _); refine (Looks.of_peek (Frag.In.keeps (by k_asm) (Fr.keep (by k_asm))) (r := (Value.builtin "re.Pattern.search", [Value.ref 73])) (by kernel_rfl)).here ?_))
local macro_rules | `(tactic| walk_at "getMethod ref") => `(tactic| (k_here; (show wpAny _ _ (getMethod (Value.ref 78) (Str.ofString "search") _) _ _ _); refine (Looks.of_peek (Frag.In.keeps (by k_asm) (Fr.keep (by k_asm))) (r := (Value.builtin "re.Pattern.search", [Value.ref 78])) (by kernel_rfl)).here ?_))
theorem search_n {prog : Program} {w : World} {A : Around} {E : Value → Shared → Prop} {s : Shared} {h₀ : Heap} {L : Addr} {m : Str → Option Value} {v : Str} {t : Tok} {Q : Value → Shared → Prop} (F : Fr h₀ L s.heap m) (X : (Mine.hd.heap_39 w.params).In h₀) (hv : v ∈ L8) (h : Q .none s) :
    wpAny (model prog w) A (call (.builtin "re.Pattern.search") [.ref 73, .str v t]) Q E s := by
  have X' := X.keeps F.keep
  refine wpAny_call_entry slot_search ?_ entry_search ?_ (args_search _ _)
  · have h : ((Mine.hd.heap_39 w.params).lookup 73).map (·.cls) = some (.type "re.Pattern") := by kernel_rfl
    cases e : (Mine.hd.heap_39 w.params).lookup 73 with
    | none => rw [e] at h; cases h
    | some o => rw [e] at h; exact ⟨o, X' _ _ e, Option.some.inj h⟩
  · exact (Looks.of_peek X' (look_n hv _ _ _)).here ⟨.none, rfl, h⟩
theorem search_d {prog : Program} {w : World} {A : Around} {E : Value → Shared → Prop} {s : Shared} {h₀ : Heap} {L : Addr} {m : Str → Option Value} {v : Str} {t : Tok} {Q : Value → Shared → Prop} (F : Fr h₀ L s.heap m) (X : (Mine.hd.heap_39 w.params).In h₀) (hv : v ∈ D10) (h : Q .none s) :
    wpAny (model prog w) A (call (.builtin "re.Pattern.search") [.ref 78, .str v t]) Q E s := by
  have X' := X.keeps F.keep
  refine wpAny_call_entry slot_search ?_ entry_search ?_ (args_search _ _)
  · have h : ((Mine.hd.heap_39 w.params).lookup 78).map (·.cls) = some (.type "re.Pattern") := by kernel_rfl
    cases e : (Mine.hd.heap_39 w.params).lookup 78 with
    | none => rw [e] at h; cases h
    | some o => rw [e] at h; exact ⟨o, X' _ _ e, Option.some.inj h⟩
  · exact (Looks.of_peek X' (look_d hv _ _ _)).here ⟨.none, rfl, h⟩
local macro_rules | `(tactic| walk_at "call builtin:re.Pattern.search") => `(tactic| (k_here; first | refine search_n (by k_asm) (by k_asm) (by k_asm) ?_ | refine search_d (by k_asm) (by k_asm) (by k_asm) ?_))
section
variable {w : World} {mean : ExcName → Option Value} {mg mb : Str → Option Value} {dp un : Nat} {gd : Option (List Code)} {cn : Str} {cs : Scope} {a : Addr} {ccd : Value} {cl : List (Str × Addr)} {outer : List Env} {A₀ : Around} {base h₀ : Heap} {L : Addr} {m : Str → Option Value} {s : Shared} {Q E : Value → Shared → Prop} {news : List (Addr × Obj)}


set_option maxHeartbeats 8000000 in
theorem conv_n_ct {x : Addr} {v : Str} {t : Tok}
    (B : Below A₀ base outer h₀) (F : Fr h₀ L s.heap m) (X : (Mine.hd.heap_39 w.params).In h₀) (N : News h₀ L s.heap news) (T : Top Mine.hd.view_39 loose0 mean mg mb h₀) (hk : cs.kind = .function)
    (hd : dp + 1 < recursionLimit) (hu : un + 8 < cLine)
    (hv : v ∈ L8)
    (ret : ∀ (h' : Heap) (tk' : Nat), Fr h₀ L h' m → News h₀ L h' news → Q (.str v t) { s with heap := h', toks := tk' }) :
    wpAny (model P0 w) (ktrTop dp un gd cn cs L a ccd cl outer) (call (.ref 108) [.ref x, .str v t] [(Str.ofString "name", .bool true)]) Q E s := by
  refine wpAny_call ?_
  k_dflt (walk_at "enter")
  k_steps
  rename Fr h₀ L _ m => kF
  rename News h₀ L _ news => kN
  exact ret _ _ kF kN
set_option maxHeartbeats 8000000 in
theorem conv_d_ct {x : Addr} {v : Str} {t : Tok}
    (B : Below A₀ base outer h₀) (F : Fr h₀ L s.heap m) (X : (Mine.hd.heap_39 w.params).In h₀) (N : News h₀ L s.heap news) (T : Top Mine.hd.view_39 loose0 mean mg mb h₀) (hk : cs.kind = .function)
    (hd : dp + 1 < recursionLimit) (hu : un + 8 < cLine)
    (hv : v ∈ D10)
    (ret : ∀ (h' : Heap) (tk' : Nat), Fr h₀ L h' m → News h₀ L h' news → Q (.str v t) { s with heap := h', toks := tk' }) :
    wpAny (model P0 w) (ktrTop dp un gd cn cs L a ccd cl outer) (call (.ref 108) [.ref x, .str v t] [(Str.ofString "name", .bool false)]) Q E s := by
  refine wpAny_call ?_
  k_dflt (walk_at "enter")
  k_steps
  rename Fr h₀ L _ m => kF
  rename News h₀ L _ news => kN
  exact ret _ _ kF kN
end


-- part M7
theorem calm_M7 : True := by
  w_top off
  trivial
open PySem PySem.W PySem.Spec PySem.Calls PyProof.Rows PyProof.V
set_option maxRecDepth 100000
theorem warm7 : (fun (_ : OpenLaw) (_ : Params → Frag) => True) PySem.Challenge.rw_pm0059_01 Mine.hd.heap_39 := by
  k_fill
  trivial
local macro_rules | `(tactic| walk_at "enterC") => `(tactic| (refine' code_defC ?k1 ?k2 ?k3 ?k4 ?k5 ?kA ?kF ?kK ?k6 ?k7 ?k8 ?k9 ?kB ?kD ?_ ?c2 ?c3 ?c4; (case kA => exact rfl); (case kF => exact rfl); (case kK => assumption); (case k1 => k_asm); (case k2 => k_asm); (case k3 => k_asm); (case k4 => k_asm); (case k5 => k_asm); (case k6 => k_is); (case k7 => k_is); (case k8 => ktr_room); (case k9 => (refine' kp_binds ?kx ?ke; (case kx => k_in); (case ke => exact fun _ => rfl))); (case kB => exact rfl); (case kD => decide +kernel); (case c2 => exact rfl); (case c3 => exact rfl); (case c4 => exact rfl); k_whole; intro g' L' h' tk' cells' FG' F' N' Y' B' X' T' l1; (try k_lt l1); k_cells Y'; (try simp only [List.cons_append, List.nil_append] at N'); (try dsimp only); (try k_lift B'); (try k_fold)))
local macro_rules | `(tactic| k_room) => `(tactic| ktr_room)
local macro_rules | `(tactic| walk_at "call builtin:str.lower") => `(tactic| (k_here; (refine lower8 (by k_asm) ?_); intro _ _))
local macro_rules | `(tactic| walk_at "eval ListComp") => `(tactic| (k_here; refine hold ?_))
local macro_rules | `(tactic| walk_at "call ref") => `(tactic| (k_here; k_dflt (show wpAny _ _ (call (Value.ref 108) [_, _] [(_, Value.bool true)]) _ _ _); k_dflt (refine' conv_n_ct ?B1 ?F1 ?X1 ?N1 ?T1 ?hk1 ?hd1 ?hu1 ?hv1 ?_); (case B1 => k_asm); (case F1 => k_asm); (case X1 => k_asm); (case N1 => k_asm); (case T1 => k_asm); (case hk1 => first | exact rfl | assumption); (case hd1 => k_dflt ktr_room); (case hu1 => k_dflt ktr_units); (case hv1 => k_asm); intro h' tk' F' N'))
local macro_rules | `(tactic| walk_at "call ref") => `(tactic| (k_here; k_dflt (show wpAny _ _ (call (Value.ref 108) [_, _] [(_, Value.bool false)]) _ _ _); k_dflt (refine' conv_d_ct ?B2 ?F2 ?X2 ?N2 ?T2 ?hk2 ?hd2 ?hu2 ?hv2 ?_); (case B2 => k_asm); (case F2 => k_asm); (case X2 => k_asm); (case N2 => k_asm); (case T2 => k_asm); (case hk2 => first | exact rfl | assumption); (case hd2 => k_dflt ktr_room); (case hu2 => k_dflt ktr_units); (case hv2 => k_asm); intro h' tk' F' N'))
local macro_rules | `(tactic| k_all) => `(tactic| assumption)
section
variable {w : World} {mean : ExcName → Option Value} {mg mb : Str → Option Value} {dp un : Nat} {gd : Option (List Code)} {cn : Str} {cs : Scope} {a : Addr} {ccd : Value} {cl : List (Str × Addr)} {outer : List Env} {A₀ : Around} {base h₀ : Heap} {L : Addr} {m : Str → Option Value} {s : Shared} {Q E : Value → Shared → Prop} {news : List (Addr × Obj)}


set_option maxHeartbeats 8000000 in
theorem get_all_ct {x dx hl : Addr} {tkH : Tok} {hvs : List Value} {nh : Nat} {H : List (Str × Str)} {name : Str} {t : Tok}
    (B : Below A₀ base outer h₀) (F : Fr h₀ L s.heap m) (X : (Mine.hd.heap_39 w.params).In h₀) (N : News h₀ L s.heap news) (T : Top Mine.hd.view_39 loose0 mean mg mb h₀) (hk : cs.kind = .function)
    (hd : dp + 5 < recursionLimit) (hu : un + 40 < cLine)
    (hx : (x, instObj 207 dx) ∈ news) (hdx : (dx, HD w hl tkH) ∈ news) (hhl : (hl, listOf hvs.toArray nh) ∈ news) (hH : HIn news hvs H) (hname : name ∈ L8) (hok : ∀ e ∈ H, e.1 ∈ L8) (hlH : H.length < 1000)
    (ret : ∀ (d : Addr) (ys : List Value) (n : Nat) (h' : Heap) (tk' : Nat), Fr h₀ L h' m → News h₀ L h' ((d, listOf ys.toArray n) :: news) → (∀ p ∈ news, p.1 ≠ d) → SIn ys ((H.filter fun e => decide (lowS e.1 = lowS name)).map (·.2)) → Q (.ref d) { s with heap := h', toks := tk' }) :
    wpAny (model P0 w) (ktrTop dp un gd cn cs L a ccd cl outer) (call (.ref 146) [.ref x, .str name t]) Q E s := by
  refine wpAny_call ?_
  k_dflt (walk_at "enterC")
  have hlow := lowS_mem hname
  rename_i g0 L0 h1 tk1 FG lF B0 X0 T0 l1 o1 d1 lN
  have hne : ∀ p ∈ news, p.1 ≠ L0 + 1 := fun p hp => Nat.ne_of_lt (Nat.lt_succ_of_lt (l1 p hp))
  k_steps
  refine unhold ?_
  rename_i h2 o2 lF2 lN2 d2
  with_unfolding_all refine LCt.ListComp_T (cl := [(Str.ofString "name", L0 + 1)]) lF2 ?clos ?cell ?kind ?names ?hx ?_
  case clos => rfl
  case cell => decide
  case kind => rfl
  case names => decide
  case hx => rfl
  k_steps
  have hsz : hvs.toArray.size ≤ sizeLine := by rw [List.size_toArray, hH.length, sizeLine_eq]; omega
  refine LCt.CompSrcT.ledger rfl (by assumption) (by assumption) (by k_mem) hsz ?_
  intro g
  refine compT_ind (fun i ys led => led = (L0 + 1, o2) :: news ∧ SIn ys (((H.take i).filter fun e => decide (lowS e.1 = lowS name)).map (·.2))) ⟨rfl, .nil⟩ ?_ ?_
  · rintro i ys _ hi ⟨rfl, hys⟩ v I oI C oC D m₂ h tk E' hP hC hx F2 N2 off ne
    have hP' : hvs[i]? = some v := by simpa using hP
    obtain ⟨ea, en, ex, ey, et, eu, rfl, eH, em⟩ := hH.at hP'
    have hex : ex ∈ L8 := hok (ex, ey) (List.mem_of_getElem? eH)
    have hS : LCg.SrcAt g0 hl hvs.toArray ((L0 + 1, o2) :: news) := .inr ⟨_, by k_mem, rfl, _, rfl⟩
    have hT : ∀ ys', ys' = ys ++ (if lowS ex = lowS name then [Value.str ey eu] else []) → SIn ys' (((H.take (i + 1)).filter fun e => decide (lowS e.1 = lowS name)).map (·.2)) := by
      intro ys' e
      rw [take_succ_of eH, List.filter_append, List.map_append, e]
      refine hys.append ?_
      by_cases q : lowS ex = lowS name
      · simpa [q] using SIn.cons .nil
      · simpa [q] using SIn.nil
    k_steps
    · rename_i hc
      refine ⟨_, _, (L0 + 1, o2) :: news, rfl, F2, N2, off, hS, rfl, hT _ ?_⟩
      rw [if_pos (by simpa using hc)]
    · rename_i hc
      refine ⟨_, _, (L0 + 1, o2) :: news, rfl, F2, N2, off, hS, rfl, hT _ ?_⟩
      rw [if_neg (by simpa using hc), List.append_nil]
  · rintro ys _ ⟨rfl, hys⟩ D h tk F2 N2 off
    have hsz2 : hvs.toArray.size = H.length := by rw [List.size_toArray, hH.length]
    rw [hsz2, List.take_length] at hys
    k_steps
    rename_i kF kN _ _
    exact ret D ys ys.length _ _ kF (fun p hp => kN p (by rcases List.mem_cons.mp hp with rfl | hp; exact List.Mem.head _; k_mem)) (fun p hp => off1_mem off p (by k_mem)) hys
end


-- part M8
theorem calm_M8 : True := by
  w_top off
  trivial
open PySem PySem.W PySem.Spec PySem.Calls PyProof.Rows PyProof.V
set_option maxRecDepth 100000
theorem warm8 : (fun (_ : OpenLaw) (_ : Params → Frag) => True) PySem.Challenge.rw_pm0059_01 Mine.hd.heap_39 := by
  k_fill
  trivial
local macro_rules | `(tactic| walk_at "exec For Tuple Attribute") => `(tactic| (k_here; (rename Fr _ _ _ _ => lF'); with_unfolding_all refine For_turns lF' ?_))
local macro_rules | `(tactic| walk_at "exec For Tuple Name") => `(tactic| (k_here; (rename Fr _ _ _ _ => lF'); with_unfolding_all refine For_turns lF' ?_))
section
variable {w : World} {mean : ExcName → Option Value} {mg mb : Str → Option Value} {dp un : Nat} {gd : Option (List Code)} {cn : Str} {cs : Scope} {a : Addr} {ccd : Value} {cl : List (Str × Addr)} {outer : List Env} {A₀ : Around} {base h₀ : Heap} {L : Addr} {m : Str → Option Value} {s : Shared} {Q E : Value → Shared → Prop} {news : List (Addr × Obj)}


set_option maxHeartbeats 8000000 in
theorem get_ct {x dx hl : Addr} {tkH : Tok} {hvs : List Value} {nh : Nat} {H : List (Str × Str)} {name : Str} {t : Tok}
    (B : Below A₀ base outer h₀) (F : Fr h₀ L s.heap m) (X : (Mine.hd.heap_39 w.params).In h₀) (N : News h₀ L s.heap news) (T : Top Mine.hd.view_39 loose0 mean mg mb h₀) (hk : cs.kind = .function)
    (hd : dp + 5 < recursionLimit) (hu : un + 40 < cLine)
    (hx : (x, instObj 207 dx) ∈ news) (hdx : (dx, HD w hl tkH) ∈ news) (hhl : (hl, listOf hvs.toArray nh) ∈ news) (hH : HIn news hvs H) (hname : name ∈ L8) (hok : ∀ e ∈ H, e.1 ∈ L8) (hlH : H.length < 1000)
    (ret1 : ∀ e, H.find? (fun e => decide (lowS e.1 = lowS name)) = some e → ∀ (t : Tok) (h' : Heap) (tk' : Nat), Fr h₀ L h' m → News h₀ L h' news → Q (.str e.2 t) { s with heap := h', toks := tk' })
    (ret2 : H.find? (fun e => decide (lowS e.1 = lowS name)) = none → ∀ (h' : Heap) (tk' : Nat), Fr h₀ L h' m → News h₀ L h' news → Q .none { s with heap := h', toks := tk' }) :
    wpAny (model P0 w) (ktrTop dp un gd cn cs L a ccd cl outer) (call (.ref 154) [.ref x, .str name t]) Q E s := by
  have hlow := lowS_mem hname
  refine wpAny_call ?_
  k_dflt (walk_at "enter")
  k_steps
  rename_i h1 lF1 lN1
  refine iter_listTurns rfl lF1 lN1 hhl rfl rfl ?_
  intro I hI
  generalize hm : (fun y => if y = Str.ofString "name" then some (Value.str (lowS name) _) else _) = m1 at lF1 ⊢
  have e1 : ∃ tk, Kn m1 [(Str.ofString "name", .str (lowS name) tk), (Str.ofString "default", .none)] := by rw [← hm]; exact ⟨_, rfl, rfl, trivial⟩
  have off : ∀ oi : Obj, ∀ p ∈ news, ∀ q ∈ [(I, oi)], p.1 ≠ q.1 := by
    intro oi p hp q hq
    rw [List.mem_singleton.mp hq]
    exact Nat.ne_of_lt (hI p hp)
  have hsub : SubL [(hl, listOf hvs.toArray nh)] news := ⟨hhl, trivial⟩
  generalize [(hl, listOf hvs.toArray nh)] = kp at hsub ⊢
  clear hm lF1 lN1 hlH hhl
  induction hH generalizing m1 with
  | nil =>
    obtain ⟨tk1, e1⟩ := e1
    refine ItemsRest.zero ?_
    intro h tk lF3 lN3
    have lF4 := frKn lF3 e1
    clear lF3 e1
    k_steps
    rename Fr h₀ L _ m => kF
    rename News h₀ L _ news => kN
    exact ret2 rfl _ _ kF kN
  | cons hm hr ih =>
    rename_i ea en ex ey et eu vs H'
    obtain ⟨tk1, e1⟩ := e1
    have hex : ex ∈ L8 := hok (ex, ey) (List.Mem.head _)
    refine ItemsRest.val ?_
    intro h tk lF3
    refine AllObj.cons ?_
    intro oi hoi
    refine AllObj.nil ?_
    intro lN3
    have lF4 := frKn lF3 e1
    clear lF3
    simp only [List.cons_append, List.nil_append] at lN3
    k_steps
    · rename_i hc kF kN _ _
      refine ret1 (ex, ey) ?_ _ _ _ kF (fun p hp => kN p (by k_mem))
      rw [List.find?_cons]
      simp only [show lowS ex = lowS name from by simpa using hc, decide_true]
    · rename_i h5 lF5 lN5 _ _ hc
      refine ⟨_, _, _, news, rfl, lF5, lN5, off _, hsub, ?_⟩
      have hcn : decide (lowS ex = lowS name) = false := by simpa using hc
      refine ih (fun e he => hok e (List.Mem.tail _ he)) (fun e he => ret1 e ?_) (fun he => ret2 ?_) _ ⟨_, rfl, rfl, trivial⟩
      · rw [List.find?_cons]; simp only [hcn]; exact he
      · rw [List.find?_cons]; simp only [hcn]; exact he
end


-- part M9a
open PySem PySem.W PySem.Spec PySem.Calls PyProof.Rows PyProof.V
set_option maxRecDepth 100000
section
variable {prog : Program} {w : World} {A : Around} {E : Value → Shared → Prop} {s : Shared}
theorem setItem_whole {l sl D : Addr} {items new : Array Value} {n k : Nat} {Q : Unit → Shared → Prop} (ho : s.heap.get? l = some (listOf items n)) (hs : s.heap.IsSliceOf sl .none .none .none)
    (hD : s.heap.get? D = some (listOf new k)) (hne : l ≠ D) (hsz : items.size + new.size ≤ sizeLine)
    (h : ∀ h' n', h'.get? l = some (listOf new n') → Heap.SameBut l s.heap h' → Q () { s with heap := h' }) : wpAny (model prog w) A (setItem (.ref l) (.ref sl) (.ref D)) Q E s := by
  obtain ⟨os, hos, hcs, hds⟩ := id hs
  have hTs : s.TypeIs (.ref sl) "slice" := ⟨os, hos, hcs⟩
  have hl : s.heap.IsList l items := ⟨_, ho, rfl, n, rfl⟩
  have hlD : s.heap.IsList D new := ⟨_, hD, rfl, k, rfl⟩
  unfold setItem
  try with_reducible refine wpAny_holding ?_
  first | refine wpAny_bind (wpAny_pure ?_) | skip
  refine wpAny_bind (wpAny_sequenceKey hl.typeIs (by decide) ?_)
  refine wpAny_bind (wpAny_callSpecial?_slot (name := Str.ofString "__setitem__") hl.typeIs slot_list_setitem
    (wpAny_call_entry slot_list_setitem hl.typeIs entry_list_setitem ?_ (args_list_setitem _ _ _)))
  show wpAny _ _ (Builtin.List.listSubscript? (.ref sl) >>= _) _ _ s
  refine wpAny_bind ?_
  unfold Builtin.List.listSubscript?
  refine wpAny_bind (wpAny_specialOf hTs slice_no_index ?_)
  simp only [Option.isNone_none, if_true]
  refine wpAny_pure ?_
  show wpAny _ _ (typeOf (.ref sl) >>= _) _ _ s
  refine wpAny_bind (wpAny_typeOf hTs ?_)
  rw [if_neg (by decide)]
  rw [listSliceParts_eq]
  refine wpAny_bind (wpAny_bind (wpAny_field hos hds (x := .none) rfl (wpAny_bind (wpAny_listPart .none ?_))))
  rw [if_neg (by decide)]
  refine wpAny_bind (wpAny_field hos hds (x := .none) rfl (wpAny_bind (wpAny_listPart .none ?_)))
  refine wpAny_bind (wpAny_field hos hds (x := .none) rfl (wpAny_bind (wpAny_listPart .none (wpAny_pure ?_))))
  rw [if_neg (by show ¬ ((l == D) = true); simpa using hne)]
  refine wpAny_bind (m := Builtin.List.listAllItems (.ref D) _) ?_
  unfold Builtin.List.listAllItems
  refine wpAny_bind (wpAny_typeOf hlD.typeIs ?_)
  rw [if_pos (by decide)]
  refine wpAny_listItems hD rfl ?_
  refine wpAny_bind (wpAny_listItems ho rfl ?_)
  refine wpAny_bind (wpAny_of_eq (sliceIndices_raw none none none items.size (by simp)) ?_)
  rw [if_pos (by rfl)]
  refine wpAny_bind (wpAny_rule ?_)
  rw [if_neg (by show ¬ (decide (items.size + new.size > sizeLine) = true); simpa using hsz)]
  have e1 : (sliceBounds none none none items.size).1 = 0 := rfl
  have e2 : (sliceBounds none none none items.size).2.1 = items.size := rfl
  have ef : items.extract 0 (sliceBounds none none none items.size).1.toNat ++ new ++ items.extract (max (sliceBounds none none none items.size).1 (sliceBounds none none none items.size).2.1).toNat items.size = new := by
    rw [e1, e2]
    simp
  refine wpAny_bind (m := Builtin.List.listUpdate (.ref l) _) ?_
  show wpAny _ _ (updateSeq l _) _ _ s
  refine wpAny_updateSeq ho rfl ?_ (by omega) (by rw [ef]; omega)
  refine wpAny_bind (wpAny_letGo (wpAny_pure ⟨.none, rfl, wpAny_pure ?_⟩))
  refine h _ (if new.size == items.size then n else n + 1) ?_ (Heap.SameBut.update ..)
  rw [Heap.get?_update_self _ ho rfl]
  show some (Obj.mk _ _ (Data.seq (items.extract 0 (sliceBounds none none none items.size).1.toNat ++ new ++ items.extract (max (sliceBounds none none none items.size).1 (sliceBounds none none none items.size).2.1).toNat items.size) (if (items.extract 0 (sliceBounds none none none items.size).1.toNat ++ new ++ items.extract (max (sliceBounds none none none items.size).1 (sliceBounds none none none items.size).2.1).toNat items.size).size == items.size then n else n + 1)) _) = _
  rw [ef]
end


-- part M9
theorem calm_M9 : True := by
  w_top off
  trivial
open PySem PySem.W PySem.Spec PySem.Calls PyProof.Rows PyProof.V
set_option maxRecDepth 100000
theorem warm9 : (fun (_ : OpenLaw) (_ : Params → Frag) => True) PySem.Challenge.rw_pm0059_01 Mine.hd.heap_39 := by
  k_fill
  trivial
section
variable {w : World} {mean : ExcName → Option Value} {mg mb : Str → Option Value} {dp un : Nat} {gd : Option (List Code)} {cn : Str} {cs : Scope} {a : Addr} {ccd : Value} {cl : List (Str × Addr)} {outer : List Env} {A₀ : Around} {base h₀ : Heap} {L : Addr} {m : Str → Option Value} {s : Shared} {Q E : Value → Shared → Prop} {news : List (Addr × Obj)}


set_option maxHeartbeats 8000000 in
theorem delitem_ct {x dx hl : Addr} {tkH : Tok} {hvs : List Value} {nh : Nat} {H : List (Str × Str)} {name : Str} {t : Tok}
    (B : Below A₀ base outer h₀) (F : Fr h₀ L s.heap m) (X : (Mine.hd.heap_39 w.params).In h₀) (N : News h₀ L s.heap ((hl, listOf hvs.toArray nh) :: news)) (hoff : ∀ p ∈ news, p.1 ≠ hl) (T : Top Mine.hd.view_39 loose0 mean mg mb h₀) (hk : cs.kind = .function)
    (hd : dp + 5 < recursionLimit) (hu : un + 40 < cLine)
    (hx : (x, instObj 207 dx) ∈ news) (hdx : (dx, HD w hl tkH) ∈ news) (hH : HIn news hvs H) (hname : name ∈ L8) (hok : ∀ e ∈ H, e.1 ∈ L8) (hlH : H.length < 1000)
    (ret : ∀ (ys : List Value) (n : Nat) (h' : Heap) (tk' : Nat), Fr h₀ L h' m → News h₀ L h' ((hl, listOf ys.toArray n) :: news) → HIn news ys (H.filter fun e => !decide (lowS e.1 = lowS name)) → ys.toArray.size ≤ sizeLine → Q .none { s with heap := h', toks := tk' }) :
    wpAny (model P0 w) (ktrTop dp un gd cn cs L a ccd cl outer) (call (.ref 127) [.ref x, .str name t]) Q E s := by
  have hlow := lowS_mem hname
  refine wpAny_call ?_
  k_dflt (walk_at "enterC")
  rename_i g0 L0 h1 tk1 FG lF B0 X0 T0 l1 o1 d1 lN
  have hne : ∀ p ∈ news, p.1 ≠ L0 + 1 := fun p hp => Nat.ne_of_lt (Nat.lt_succ_of_lt (allLt_mem l1.2 p hp))
  k_steps
  refine unhold ?_
  rename_i h2 o2 lF2 lN2 d2
  with_unfolding_all refine LCt.ListComp_T (cl := [(Str.ofString "name", L0 + 1)]) lF2 ?clos ?cell ?kind ?names ?hx ?_
  case clos => rfl
  case cell => decide
  case kind => rfl
  case names => decide
  case hx => rfl
  k_steps
  have hsz : hvs.toArray.size ≤ sizeLine := by rw [List.size_toArray, hH.length, sizeLine_eq]; omega
  refine LCt.CompSrcT.ledger rfl (by assumption) (by assumption) (List.Mem.tail _ (List.Mem.head _)) hsz ?_
  intro g
  refine compT_ind (fun i ys led => led = (L0 + 1, o2) :: (hl, listOf hvs.toArray nh) :: news ∧ HIn news ys ((H.take i).filter fun e => !decide (lowS e.1 = lowS name))) ⟨rfl, .nil⟩ ?_ ?_
  · rintro i ys _ hi ⟨rfl, hys⟩ v I oI C oC D m₂ h tk E' hP hC hx F2 N2 off ne
    have hP' : hvs[i]? = some v := by simpa using hP
    obtain ⟨ea, en, ex, ey, et, eu, rfl, eH, em⟩ := hH.at hP'
    have hex : ex ∈ L8 := hok (ex, ey) (List.mem_of_getElem? eH)
    have hS : LCg.SrcAt g0 hl hvs.toArray ((L0 + 1, o2) :: (hl, listOf hvs.toArray nh) :: news) := .inr ⟨_, List.Mem.tail _ (List.Mem.head _), rfl, _, rfl⟩
    have hT : ∀ ys', ys' = ys ++ (if lowS ex = lowS name then [] else [Value.ref ea]) → HIn news ys' ((H.take (i + 1)).filter fun e => !decide (lowS e.1 = lowS name)) := by
      intro ys' e
      rw [take_succ_of eH, List.filter_append, e]
      refine hys.append ?_
      by_cases q : lowS ex = lowS name
      · simpa [q] using HIn.nil
      · simpa [q] using HIn.cons em .nil
    k_steps
    · rename_i hc
      refine ⟨_, _, (L0 + 1, o2) :: (hl, listOf hvs.toArray nh) :: news, rfl, F2, N2, off, hS, rfl, hT _ ?_⟩
      rw [if_neg (by simpa using hc)]
    · rename_i hc
      refine ⟨_, _, (L0 + 1, o2) :: (hl, listOf hvs.toArray nh) :: news, rfl, F2, N2, off, hS, rfl, hT _ ?_⟩
      rw [if_pos (by simpa using hc), List.append_nil]
  · rintro ys _ ⟨rfl, hys⟩ D h tk F2 N2 off
    have hsz2 : hvs.toArray.size = H.length := by rw [List.size_toArray, hH.length]
    rw [hsz2, List.take_length] at hys
    k_steps
    have hml := N2 (hl, listOf hvs.toArray nh) (List.Mem.tail _ (List.Mem.tail _ (List.Mem.head _)))
    have hDl : hl ≠ D := off.2.1
    have hyl : ys.length ≤ H.length := by rw [hys.length]; exact List.length_filter_le _ _
    refine setItem_whole (n := nh) (k := ys.length) (items := hvs.toArray) (new := ys.toArray) (Heap.get?_push_of_some _ hml.1) (Heap.IsSliceOf.new ..) (Heap.get?_push_of_some _ (N2 _ (List.Mem.head _)).1) hDl ?_ ?_
    · rw [hsz2, List.size_toArray, sizeLine_eq]; omega
    · intro h3 n3 hg hs
      have F3 := (F2.push { cls := .type "slice", data := .fields #[.none, .none, .none] }).change hs hml.2.1 hml.2.2
      have N3 : News g0 L0 h3 ((hl, listOf ys.toArray n3) :: news) := by
        intro p hp
        rcases List.mem_cons.mp hp with rfl | hp
        · exact ⟨hg, hml.2⟩
        · have z := N2 p (List.Mem.tail _ (List.Mem.tail _ (List.Mem.tail _ hp)))
          exact ⟨(hs.2 _ (hoff p hp)).trans (Heap.get?_push_of_some _ z.1), z.2⟩
      clear F2 N2
      k_steps
      rename_i kF kN _ _
      exact ret ys n3 _ _ kF kN hys (by rw [List.size_toArray, sizeLine_eq]; omega)
end


-- part M9b
open PySem PySem.W PySem.Spec PySem.Calls PyProof.Rows PyProof.V
set_option maxRecDepth 100000
section
variable {M : Model} {A : Around} {E : Value → Shared → Prop} {s : Shared} {K : Frag} {x C L f : Addr} {h₀ : Heap} {m : Str → Option Value} {ox : Obj} {od : Option Obj} {i : Value}
theorem delItem_own {Q : Unit → Shared → Prop} (F : Fr h₀ L s.heap m) (X₀ : K.In h₀) (I : InstAt s.heap x ox C od) (hq : noSeq K C = true) (hs : findIn K (.ref C) "__delitem__" = some (some (.ref f))) (hf : isFn K (.ref f) = true)
    (h : wpAny M A (call (.ref f) [.ref x, i]) (fun _ s' => Q () s') E s) : wpAny M A (delItem (.ref x) i) Q E s := by
  have X := X₀.keeps F.keep
  unfold delItem sequenceKey
  refine wpAny_holding (wpAny_bind (wpAny_bind (I.type.here ?_)))
  refine wpAny_bind ((anyM_none X hq).here ?_)
  rw [if_pos (show (!false) = true from rfl)]
  exact wpAny_pure (wpAny_bind (special_fn X I hs (beq_iff_eq.mp hf) (wpAny_mono h (fun _ _ z => wpAny_pure z) fun _ _ z => z)))
end
theorem fin_app {h₀ h : Heap} {L D hl : Addr} {ys : List Value} {n : Nat} {news : List (Addr × Obj)} {H' : List (Str × Str)} {nm vl : Str} {t u : Tok}
    (kN : News h₀ L h ((D, tupObj [.str nm t, .str vl u] 0) :: (hl, listOf (ys.toArray.push (.ref D)) n) :: news)) (hys : HIn news ys H') (l1 : hl < D ∧ AllLt D news) :
    News h₀ L h ((hl, listOf (ys ++ [Value.ref D]).toArray n) :: ([(D, tupObj [.str nm t, .str vl u] 0)] ++ news)) ∧ (∀ p ∈ [(D, tupObj [.str nm t, .str vl u] 0)], hl < p.1) ∧
      (∀ p ∈ [(D, tupObj [.str nm t, .str vl u] 0)], ∀ q ∈ news, q.1 < p.1) ∧ HIn ([(D, tupObj [.str nm t, .str vl u] 0)] ++ news) (ys ++ [Value.ref D]) (H' ++ [(nm, vl)]) := by
  refine ⟨?_, ?_, ?_, ?_⟩
  · intro p hp
    have ep : (ys ++ [Value.ref D]).toArray = ys.toArray.push (.ref D) := by simp
    rw [ep] at hp
    rcases List.mem_cons.mp hp with rfl | hp
    · exact kN _ (List.Mem.tail _ (List.Mem.head _))
    rcases List.mem_cons.mp hp with rfl | hp
    · exact kN _ (List.Mem.head _)
    · exact kN _ (List.Mem.tail _ (List.Mem.tail _ hp))
  · intro p hp
    rw [List.mem_singleton.mp hp]; exact l1.1
  · intro p hp q hq
    rw [List.mem_singleton.mp hp]; exact allLt_mem l1.2 q hq
  · exact (hys.mono fun p hp => List.mem_append_right _ hp).append (.cons (List.mem_append_left _ (List.Mem.head _)) .nil)


-- part M11
theorem calm_M11 : True := by
  w_top off
  trivial
open PySem PySem.W PySem.Spec PySem.Calls PyProof.Rows PyProof.V
set_option maxRecDepth 100000
theorem warm11 : (fun (_ : OpenLaw) (_ : Params → Frag) => True) PySem.Challenge.rw_pm0059_01 Mine.hd.heap_39 := by
  k_fill
  trivial
local macro_rules | `(tactic| walk_at "call ref") => `(tactic| (k_here; k_dflt (show wpAny _ _ (call (Value.ref 127) [Value.ref _, Value.str _ _] _) _ _ _); k_dflt (refine' delitem_ct (H := _) ?B3 ?F3 ?X3 ?N3 ?hoff3 ?T3 ?hk3 ?hd3 ?hu3 ?hx3 ?hdx3 ?hH3 ?hname3 ?hok3 ?hlH3 ?_); (case B3 => k_asm); (case F3 => k_asm); (case X3 => k_asm); (case N3 => k_asm); (case T3 => k_asm); (case hk3 => first | exact rfl | assumption); (case hd3 => k_dflt ktr_room); (case hu3 => k_dflt ktr_units); (case hoff3 => k_asm); (case hx3 => k_dflt k_mem); (case hdx3 => k_dflt k_mem); (case hH3 => k_asm); (case hname3 => k_asm); (case hok3 => k_asm); (case hlH3 => k_asm); intro ys' n' h' tk' F' N' hys' hsz'))
local macro_rules | `(tactic| walk_at "delItem ref") => `(tactic| (k_here; k_dflt (refine' delItem_own ?F ?X ?I ?hQ ?hS ?hF ?_; (case F => k_asm); (case X => k_asm); (case I => k_inst); (case hS => k_is); (case hQ => k_is); (case hF => k_is))))
local macro_rules | `(tactic| walk_at "call builtin:list.append") => `(tactic| (k_here; k_dflt (refine' append_K (hsz := ?z) ?F ?N ?U ?_; (case F => k_asm); (case N => k_asm); (case U => k_upd); (case z => assumption)); intro h' F' N'))
section
variable {w : World} {mean : ExcName → Option Value} {mg mb : Str → Option Value} {dp un : Nat} {gd : Option (List Code)} {cn : Str} {cs : Scope} {a : Addr} {ccd : Value} {cl : List (Str × Addr)} {outer : List Env} {A₀ : Around} {base h₀ : Heap} {L : Addr} {m : Str → Option Value} {s : Shared} {Q E : Value → Shared → Prop} {news : List (Addr × Obj)}


set_option maxHeartbeats 8000000 in
theorem setitem_ct {x dx hl : Addr} {tkH : Tok} {hvs : List Value} {nh : Nat} {H : List (Str × Str)} {name val : Str} {t u : Tok}
    (B : Below A₀ base outer h₀) (F : Fr h₀ L s.heap m) (X : (Mine.hd.heap_39 w.params).In h₀) (N : News h₀ L s.heap ((hl, listOf hvs.toArray nh) :: news)) (hoff : ∀ p ∈ news, p.1 ≠ hl) (T : Top Mine.hd.view_39 loose0 mean mg mb h₀) (hk : cs.kind = .function)
    (hd : dp + 7 < recursionLimit) (hu : un + 80 < cLine)
    (hx : (x, instObj 207 dx) ∈ news) (hdx : (dx, HD w hl tkH) ∈ news) (hH : HIn news hvs H) (hname : name ∈ L8) (hok : ∀ e ∈ H, e.1 ∈ L8) (hlH : H.length < 1000)
    (hval : val ∈ D10)
    (ret : ∀ (ys : List Value) (n : Nat) (tl : List (Addr × Obj)) (h' : Heap) (tk' : Nat), Fr h₀ L h' m → News h₀ L h' ((hl, listOf ys.toArray n) :: (tl ++ news)) → (∀ p ∈ tl, hl < p.1) → (∀ p ∈ tl, ∀ q ∈ news, q.1 < p.1) → HIn (tl ++ news) ys ((H.filter fun e => !decide (lowS e.1 = lowS name)) ++ [(name, val)]) → Q .none { s with heap := h', toks := tk' }) :
    wpAny (model P0 w) (ktrTop dp un gd cn cs L a ccd cl outer) (call (.ref 122) [.ref x, .str name t, .str val u]) Q E s := by
  refine wpAny_call ?_
  k_dflt (walk_at "enter")
  have hlow := lowS_mem hname
  k_steps
  rename_i ys' n' _ _ hys' _ _ _ _ _ D' _ _ _ l1 _ _ _ kF kN _ _
  obtain ⟨a1, a2, a3, a4⟩ := fin_app kN hys' l1
  exact ret _ _ _ _ _ kF a1 a2 a3 a4
end


-- part M12
theorem calm_M12 : True := by
  w_top off
  trivial
open PySem PySem.W PySem.Spec PySem.Calls PyProof.Rows PyProof.V
set_option maxRecDepth 100000
theorem warm12 : (fun (_ : OpenLaw) (_ : Params → Frag) => True) PySem.Challenge.rw_pm0059_01 Mine.hd.heap_39 := by
  k_fill
  trivial
local macro_rules | `(tactic| walk_at "call ref") => `(tactic| (k_here; k_dflt (show wpAny _ _ (call (Value.ref 154) [Value.ref _, Value.str _ _] _) _ _ _); k_dflt (refine' get_ct ?B9 ?F9 ?X9 ?N9 ?T9 ?hk9 ?hd9 ?hu9 ?hx9 ?hdx9 ?hhl9 ?hH9 ?hname9 ?hok9 ?hlH9 (fun e' hfind' t' h' tk' F' N' => ?_) (fun hnone' h' tk' F' N' => ?_)); (case B9 => k_asm); (case F9 => k_asm); (case X9 => k_asm); (case N9 => k_asm); (case T9 => k_asm); (case hk9 => first | exact rfl | assumption); (case hd9 => k_dflt ktr_room); (case hu9 => k_dflt ktr_units); (case hx9 => k_dflt k_mem); (case hdx9 => k_dflt k_mem); (case hhl9 => k_dflt k_mem); (case hH9 => k_asm); (case hname9 => k_asm); (case hok9 => k_asm); (case hlH9 => k_asm)))
section
variable {w : World} {mean : ExcName → Option Value} {mg mb : Str → Option Value} {dp un : Nat} {gd : Option (List Code)} {cn : Str} {cs : Scope} {a : Addr} {ccd : Value} {cl : List (Str × Addr)} {outer : List Env} {A₀ : Around} {base h₀ : Heap} {L : Addr} {m : Str → Option Value} {s : Shared} {Q E : Value → Shared → Prop} {news : List (Addr × Obj)}


set_option maxHeartbeats 8000000 in
theorem setdefault_ct {x dx hl : Addr} {tkH : Tok} {hvs : List Value} {nh : Nat} {H : List (Str × Str)} {name val : Str} {t u : Tok}
    (B : Below A₀ base outer h₀) (F : Fr h₀ L s.heap m) (X : (Mine.hd.heap_39 w.params).In h₀) (N : News h₀ L s.heap ((hl, listOf hvs.toArray nh) :: news)) (hoff : ∀ p ∈ news, p.1 ≠ hl) (T : Top Mine.hd.view_39 loose0 mean mg mb h₀) (hk : cs.kind = .function)
    (hd : dp + 7 < recursionLimit) (hu : un + 80 < cLine)
    (hx : (x, instObj 207 dx) ∈ news) (hdx : (dx, HD w hl tkH) ∈ news) (hH : HIn news hvs H) (hname : name ∈ L8) (hok : ∀ e ∈ H, e.1 ∈ L8) (hlH : H.length < 1000)
    (hval : val ∈ D10)
    (ret : ∀ (v : Value) (ys : List Value) (n : Nat) (tl : List (Addr × Obj)) (h' : Heap) (tk' : Nat), Fr h₀ L h' m → News h₀ L h' ((hl, listOf ys.toArray n) :: (tl ++ news)) → (∀ p ∈ tl, hl < p.1) → (∀ p ∈ tl, ∀ q ∈ news, q.1 < p.1) → HIn (tl ++ news) ys (if (H.any fun e => decide (lowS e.1 = lowS name)) = true then H else H ++ [(name, val)]) → Q v { s with heap := h', toks := tk' }) :
    wpAny (model P0 w) (ktrTop dp un gd cn cs L a ccd cl outer) (call (.ref 197) [.ref x, .str name t, .str val u]) Q E s := by
  have hH2 : HIn ((hl, listOf hvs.toArray nh) :: news) hvs H := hH.mono fun p hp => List.mem_cons_of_mem _ hp
  have hszY : hvs.toArray.size ≤ sizeLine := by rw [List.size_toArray, hH.length, sizeLine_eq]; omega
  refine wpAny_call ?_
  k_dflt (walk_at "enter")
  k_steps
  · rename_i tk kF kN Tc kX
    have hany : (H.any fun e => decide (lowS e.1 = lowS name)) = true := by
      rename (List.find? _ _ = some _) => hf
      rw [List.any_eq_true]
      exact ⟨_, List.mem_of_find?_eq_some hf, by have := List.find?_some hf; exact this⟩
    refine ret _ hvs nh [] _ _ kF kN (by intro p hp; cases hp) (by intro p hp; cases hp) ?_
    rw [if_pos hany]
    exact hH
  · rename_i l1 _ _ _ kF kN _ _
    have hany : ¬ (H.any fun e => decide (lowS e.1 = lowS name)) = true := by
      rename (List.find? _ _ = none) => hf
      rw [List.any_eq_true]
      rintro ⟨e, he, h1⟩
      exact (List.find?_eq_none.1 hf e he) h1
    obtain ⟨a1, a2, a3, a4⟩ := fin_app kN hH l1
    refine ret _ _ _ _ _ _ kF a1 a2 a3 ?_
    rw [if_neg hany]
    exact a4
end


-- part M10
theorem calm_M10 : True := by
  w_top off
  trivial
open PySem PySem.W PySem.Spec PySem.Calls PyProof.Rows PyProof.V
set_option maxRecDepth 100000
theorem warm10 : (fun (_ : OpenLaw) (_ : Params → Frag) => True) PySem.Challenge.rw_pm0059_01 Mine.hd.heap_39 := by
  k_fill
  trivial
theorem join_ok : ∀ v ∈ D10, JoinOk (Str.ofString "; ") [v] = true := by decide +kernel
theorem join_one : ∀ v ∈ D10, Txt.join (Str.ofString "; ") [v] = v := by decide +kernel
local macro_rules | `(tactic| walk_at "call builtin:str.join") => `(tactic| (k_here; k_dflt (refine' SC.join (l := [(_, _)]) (texts := [_]) ?jl ?jt ?jo ?_; (case jl => is_list); (case jt => exact rfl); (case jo => exact join_ok _ (by assumption))); intro _ _; rw [join_one _ (by assumption)]))
local macro_rules | `(tactic| walk_at "enterM") => `(tactic| (refine' kp_more ?k1 ?k2 ?k3 ?k4 ?k5 ?kA ?kF ?kK ?k6 ?k7 ?k8 ?kX ?kM ?kN ?kD ?kR ?kP ?kT ?kB ?_ ?c2 ?c3 ?c4 ?c5; (case kA => exact rfl); (case kF => exact rfl); (case kK => assumption); (case k1 => k_asm); (case k2 => k_asm); (case k3 => k_asm); (case k4 => k_asm); (case k5 => k_asm); (case k6 => k_is); (case k7 => k_is); (case k8 => ktr_room); (case kX => kp_lit); (case kM => exact rfl); (case kN => exact rfl); (case kD => kp_flats); (case kR => exact rfl); (case kP => exact rfl); (case kT => exact fun _ => rfl); (case kB => exact fun _ => locs rfl); (case c5 => decide); (case c2 => exact rfl); (case c3 => exact rfl); (case c4 => exact rfl); k_whole; intro D' o' g' L' h' tk' l1 lo' hs' fs' FG' F' N' B' X' T'; (try k_lt l1); (try dsimp only); (try k_lift B'); (try k_fold)))
section
variable {w : World} {mean : ExcName → Option Value} {mg mb : Str → Option Value} {dp un : Nat} {gd : Option (List Code)} {cn : Str} {cs : Scope} {a : Addr} {ccd : Value} {cl : List (Str × Addr)} {outer : List Env} {A₀ : Around} {base h₀ : Heap} {L : Addr} {m : Str → Option Value} {s : Shared} {Q E : Value → Shared → Prop} {news : List (Addr × Obj)}


set_option maxHeartbeats 8000000 in
theorem add_header_ct {x dx hl : Addr} {tkH : Tok} {hvs : List Value} {nh : Nat} {H : List (Str × Str)} {name val : Str} {t u : Tok}
    (B : Below A₀ base outer h₀) (F : Fr h₀ L s.heap m) (X : (Mine.hd.heap_39 w.params).In h₀) (N : News h₀ L s.heap ((hl, listOf hvs.toArray nh) :: news)) (hoff : ∀ p ∈ news, p.1 ≠ hl) (T : Top Mine.hd.view_39 loose0 mean mg mb h₀) (hk : cs.kind = .function)
    (hd : dp + 7 < recursionLimit) (hu : un + 80 < cLine)
    (hx : (x, instObj 207 dx) ∈ news) (hdx : (dx, HD w hl tkH) ∈ news) (hH : HIn news hvs H) (hname : name ∈ L8) (hok : ∀ e ∈ H, e.1 ∈ L8) (hlH : H.length < 1000)
    (hval : val ∈ D10)
    (ret : ∀ (ys : List Value) (n : Nat) (tl : List (Addr × Obj)) (h' : Heap) (tk' : Nat), Fr h₀ L h' m → News h₀ L h' ((hl, listOf ys.toArray n) :: (tl ++ news)) → (∀ p ∈ tl, hl < p.1) → (∀ p ∈ tl, ∀ q ∈ news, q.1 < p.1) → HIn (tl ++ news) ys (H ++ [(name, val)]) → Q .none { s with heap := h', toks := tk' }) :
    wpAny (model P0 w) (ktrTop dp un gd cn cs L a ccd cl outer) (call (.ref 204) [.ref x, .str name t, .str val u]) Q E s := by
  have hH2 : HIn ((hl, listOf hvs.toArray nh) :: news) hvs H := hH.mono fun p hp => List.mem_cons_of_mem _ hp
  have hszY : hvs.toArray.size ≤ sizeLine := by rw [List.size_toArray, hH.length, sizeLine_eq]; omega
  refine wpAny_call ?_
  k_dflt (walk_at "enterM")
  k_steps
  rename News _ _ _ _ => NJ
  refine SC.join (l := [(val, u)]) (texts := [val]) ⟨_, (NJ _ (List.Mem.tail _ (List.Mem.head _))).1, rfl, _, rfl⟩ rfl (join_ok _ hval) ?_
  intro _ _
  rw [join_one _ hval]
  have kN := NJ
  clear NJ
  have kN2 := fun p hp => kN p (List.mem_cons_of_mem _ hp)
  clear kN
  have kN3 : News _ _ _ _ := kN2
  clear kN2
  k_steps
  rename_i l1 _ _ _ kF kN _ _
  obtain ⟨a1, a2, a3, a4⟩ := fin_app (news := news) (h := _) (fun p hp => by
    rcases List.mem_cons.mp hp with rfl | hp
    · exact kN _ (List.Mem.head _)
    · exact kN _ (List.Mem.tail _ (List.Mem.tail _ (List.Mem.tail _ hp)))) hH ⟨l1.2.2.1, l1.2.2.2⟩
  exact ret _ _ _ _ _ kF a1 a2 a3 a4
end


-- part M13a
open PySem PySem.W PySem.Spec PySem.Calls PyProof.Rows PyProof.V
set_option maxRecDepth 100000
section
variable {prog : Program} {w : World} {A : Around} {E : Value → Shared → Prop} {s : Shared} {env : Env} {h₀ : Heap} {x : Str} {body : List Stmt} {Q : Flow → Shared → Prop}
theorem unrPost_mono {L I : Addr} {it : Obj} {R R' : (Str → Option Value) → List (Addr × Obj) → Prop} {s₁ : Shared} (hR : ∀ m n, R m n → R' m n) (f : Flow) (s₂ : Shared) (p : UnrPost h₀ L s₁ I it R Q f s₂) : UnrPost h₀ L s₁ I it R' Q f s₂ := by
  have fin : UnrEnd h₀ L s₁ I it R s₂ → UnrEnd h₀ L s₁ I it R' s₂ := by
    rintro ⟨h', tk, m', n', e, F, N, o, r⟩
    exact ⟨h', tk, m', n', e, F, N, o, hR _ _ r⟩
  cases f with
  | ret v => exact p
  | brk => exact p
  | next => exact fin p
  | cont => exact fin p
theorem RangeRest_ind {I : Addr} {a : Int} {n : Nat} {m₀ : Str → Option Value} {led₀ : List (Addr × Obj)} (J : Nat → (Str → Option Value) → List (Addr × Obj) → Prop) (init : J 0 m₀ led₀)
    (step : ∀ i m led, i < n → J i m led → ∀ t h tk, Fr h₀ env.locals h (fun y => if y = x then some (.int (a + (i : Int)) t) else m y) → News h₀ env.locals h ((I, itR (a + ((i + 1 : Nat) : Int)) ((n : Int) - ((i + 1 : Nat) : Int))) :: led) →
      wpAny (model prog w) A (execs body env) (UnrPost h₀ env.locals { s with heap := h, toks := tk } I (itR (a + ((i + 1 : Nat) : Int)) ((n : Int) - ((i + 1 : Nat) : Int))) (J (i + 1)) Q) E { s with heap := h, toks := tk })
    (done : ∀ m led, J n m led → ∀ h tk, Fr h₀ env.locals h m → News h₀ env.locals h led → Q .next { s with heap := h, toks := tk }) :
    RangeRest prog w A E h₀ env x body Q s I a n n 0 m₀ led₀ := by
  have key : ∀ k i m led, i + k = n → J i m led → RangeRest prog w A E h₀ env x body Q s I a n k i m led := by
    intro k
    induction k with
    | zero =>
      intro i m led e j
      have e' : i = n := by omega
      subst e'
      exact RangeRest.zero (done m led j)
    | succ k ih =>
      intro i m led e j
      refine RangeRest.succ fun t h tk F N => ?_
      exact wpAny_mono (step i m led (by omega) j t h tk F N) (fun f s₂ p => unrPost_mono (fun m' n' j' => ih (i + 1) m' n' (by omega) j') f s₂ p) fun _ _ e => e
  exact key n 0 m₀ led₀ (by omega) init
end
/-- the plain tuples in the ledger -/
inductive TIn (news : List (Addr × Obj)) : List Value → List (Str × Str × Int) → Prop
  | nil : TIn news [] []
  | cons {a : Addr} {n : Nat} {x y : Str} {z : Int} {t u v : Tok} {vs : List Value} {H : List (Str × Str × Int)} : (a, tupObj [.str x t, .str y u, .int z v] n) ∈ news → TIn news vs H → TIn news (.ref a :: vs) ((x, y, z) :: H)
theorem TIn.mono {news news' : List (Addr × Obj)} {vs : List Value} {H : List (Str × Str × Int)} (h : TIn news vs H) (s : ∀ p ∈ news, p ∈ news') : TIn news' vs H := by
  induction h with
  | nil => exact .nil
  | cons hm _ ih => exact .cons (s _ hm) ih
theorem TIn.length {news : List (Addr × Obj)} {vs : List Value} {H : List (Str × Str × Int)} (h : TIn news vs H) : vs.length = H.length := by
  induction h with
  | nil => rfl
  | cons _ _ ih => rw [List.length_cons, List.length_cons, ih]
theorem TIn.append {news : List (Addr × Obj)} {vs vs' : List Value} {H H' : List (Str × Str × Int)} (h : TIn news vs H) (h' : TIn news vs' H') : TIn news (vs ++ vs') (H ++ H') := by
  induction h with
  | nil => exact h'
  | cons hm _ ih => exact .cons hm ih
theorem TIn.at {news : List (Addr × Obj)} {vs : List Value} {H : List (Str × Str × Int)} (h : TIn news vs H) : ∀ {i : Nat} {v : Value}, vs[i]? = some v → ∃ a n x y z t u r, v = .ref a ∧ H[i]? = some (x, y, z) ∧ (a, tupObj [.str x t, .str y u, .int z r] n) ∈ news := by
  induction h with
  | nil => intro i v e; cases i <;> cases e
  | cons hm _ ih =>
    intro i v e
    cases i with
    | zero => cases e; exact ⟨_, _, _, _, _, _, _, _, rfl, rfl, hm⟩
    | succ i => exact ih e
def c4 (n : Int) : Str := Txt.item (Str.ofString "abcd") (Int.fmod (Int.fdiv n 4) 4)
def e5 (n : Int) : Str := Txt.item (Str.ofString "abcdr") (Int.fmod (Int.fdiv n 16) 5)
def nmOf (n : Int) (k : Nat) : Str := if k % 2 = 0 then c4 n else Txt.upper (c4 n)
theorem c4_cases (n : Int) : c4 n = Str.ofString "a" ∨ c4 n = Str.ofString "b" ∨ c4 n = Str.ofString "c" ∨ c4 n = Str.ofString "d" := by
  unfold c4
  have h0 : 0 ≤ (n.fdiv 4).fmod 4 := Int.fmod_nonneg_of_pos _ (by decide)
  have h1 : (n.fdiv 4).fmod 4 < 4 := Int.fmod_lt_of_pos _ (by decide)
  generalize (n.fdiv 4).fmod 4 = j at *
  have : j = 0 ∨ j = 1 ∨ j = 2 ∨ j = 3 := by omega
  rcases this with rfl | rfl | rfl | rfl
  · exact .inl (by decide +kernel)
  · exact .inr (.inl (by decide +kernel))
  · exact .inr (.inr (.inl (by decide +kernel)))
  · exact .inr (.inr (.inr (by decide +kernel)))
theorem e5_cases (n : Int) : e5 n = Str.ofString "a" ∨ e5 n = Str.ofString "b" ∨ e5 n = Str.ofString "c" ∨ e5 n = Str.ofString "d" ∨ e5 n = Str.ofString "r" := by
  unfold e5
  have h0 : 0 ≤ (n.fdiv 16).fmod 5 := Int.fmod_nonneg_of_pos _ (by decide)
  have h1 : (n.fdiv 16).fmod 5 < 5 := Int.fmod_lt_of_pos _ (by decide)
  generalize (n.fdiv 16).fmod 5 = j at *
  have : j = 0 ∨ j = 1 ∨ j = 2 ∨ j = 3 ∨ j = 4 := by omega
  rcases this with rfl | rfl | rfl | rfl | rfl
  · exact .inl (by decide +kernel)
  · exact .inr (.inl (by decide +kernel))
  · exact .inr (.inr (.inl (by decide +kernel)))
  · exact .inr (.inr (.inr (.inl (by decide +kernel))))
  · exact .inr (.inr (.inr (.inr (by decide +kernel))))
theorem nmOf_mem (n : Int) (k : Nat) : nmOf n k ∈ L8 := by
  unfold nmOf
  split <;> rcases c4_cases n with h | h | h | h <;> rw [h] <;> decide +kernel
theorem pick2 (i : Nat) (c u : Str) (t t' : Tok) : #[Value.str c t, Value.str u t'][((i : Int).fmod 2).toNat]? = some (.str (if i % 2 = 0 then c else u) (if i % 2 = 0 then t else t')) := by
  have e : (i : Int).fmod 2 = ((i % 2 : Nat) : Int) := by
    rw [Int.fmod_eq_emod_of_nonneg _ (by decide)]; omega
  rw [e, Int.toNat_natCast]
  have : i % 2 = 0 ∨ i % 2 = 1 := by omega
  rcases this with h | h <;> rw [h] <;> rfl
/-- one deed of the script -/
def laidStep (n : Int) (k : Nat) (S : List (Str × Str) × List (Str × Str × Int)) : List (Str × Str) × List (Str × Str × Int) :=
  let c := c4 n
  let nm := nmOf n k
  let dg := D10.getD k (Str.ofString "0")
  let tp := (c, e5 n, 2 * n + 1)
  let there := S.2.filter fun p => decide (p.1 = c)
  if Int.fmod n 4 = 3 then
    ((if (S.1.any fun e => decide (lowS e.1 = lowS nm)) = true then S.1 else S.1 ++ [(nm, dg)]), if there = [] then S.2 ++ [tp] else S.2)
  else if Int.fmod n 4 = 0 then
    ((S.1.filter fun e => !decide (lowS e.1 = lowS nm)) ++ [(nm, dg)], (S.2.filter fun p => !decide (p.1 = c)) ++ [tp])
  else (S.1 ++ [(nm, dg)], S.2 ++ [tp])
def laidSt (ns : List Int) : Nat → List (Str × Str) × List (Str × Str × Int)
  | 0 => ([], [])
  | k + 1 => laidStep (ns.getD k 0) k (laidSt ns k)
theorem laidSt_len (ns : List Int) (i : Nat) : (laidSt ns i).1.length ≤ i ∧ (laidSt ns i).2.length ≤ i := by
  induction i with
  | zero => exact ⟨Nat.le_refl _, Nat.le_refl _⟩
  | succ k ih =>
    obtain ⟨h1, h2⟩ := ih
    show (laidStep (ns.getD k 0) k (laidSt ns k)).1.length ≤ _ ∧ (laidStep (ns.getD k 0) k (laidSt ns k)).2.length ≤ _
    unfold laidStep
    dsimp only
    have f1 := fun q : Str × Str → Bool => List.length_filter_le q (laidSt ns k).1
    have f2 := fun q : Str × Str × Int → Bool => List.length_filter_le q (laidSt ns k).2
    have g1 := f1 (fun e => !decide (lowS e.1 = lowS (nmOf (ns.getD k 0) k)))
    have g2 := f2 (fun p => !decide (p.1 = c4 (ns.getD k 0)))
    split
    · dsimp only
      constructor <;> split <;> (try simp only [List.length_append, List.length_singleton]) <;> omega
    · split
      · dsimp only
        constructor <;> simp only [List.length_append, List.length_singleton] <;> omega
      · dsimp only
        constructor <;> simp only [List.length_append, List.length_singleton] <;> omega
theorem laidSt_ok (ns : List Int) (i : Nat) : ∀ e ∈ (laidSt ns i).1, e.1 ∈ L8 := by
  induction i with
  | zero => intro e he; cases he
  | succ k ih =>
    show ∀ e ∈ (laidStep (ns.getD k 0) k (laidSt ns k)).1, _
    unfold laidStep
    dsimp only
    have hn : nmOf (ns.getD k 0) k ∈ L8 := nmOf_mem _ _
    split
    · split
      · exact ih
      · intro e he
        rcases List.mem_append.mp he with he | he
        · exact ih e he
        · rw [List.mem_singleton.mp he]; exact hn
    · split
      · intro e he
        rcases List.mem_append.mp he with he | he
        · exact ih e (List.mem_filter.mp he).1
        · rw [List.mem_singleton.mp he]; exact hn
      · intro e he
        rcases List.mem_append.mp he with he | he
        · exact ih e he
        · rw [List.mem_singleton.mp he]; exact hn
def LaidJ (w : World) (news : List (Addr × Obj)) (nl hl x d C I : Addr) (ns : List Int) (i : Nat) (m : Str → Option Value) (led : List (Addr × Obj)) : Prop :=
  ∃ P hvs nh pvs np oC v0 tkH base, led = (C, oC) :: (hl, listOf hvs.toArray nh) :: base ∧ Kn m [(Str.ofString "numbers", .ref nl), (Str.ofString "calls", .ref x), (Str.ofString "plain", .ref P)] ∧ oC.data = .cell v0 ∧
    (∀ p ∈ news, p ∈ base) ∧ (x, instObj 207 d) ∈ base ∧ (d, HD w hl tkH) ∈ base ∧ (P, listOf pvs.toArray np) ∈ base ∧ HIn base hvs (laidSt ns i).1 ∧ TIn base pvs (laidSt ns i).2 ∧ (∀ p ∈ base, p.1 ≠ C) ∧ (∀ p ∈ base, p.1 ≠ hl) ∧ (∀ p ∈ base, p.1 ≠ I)
theorem dig_eq : ∀ {i : Nat}, i < 10 → Str.ofString (toString (i : Int)) = D10.getD i (Str.ofString "0")
  | 0, _ => by decide +kernel
  | 1, _ => by decide +kernel
  | 2, _ => by decide +kernel
  | 3, _ => by decide +kernel
  | 4, _ => by decide +kernel
  | 5, _ => by decide +kernel
  | 6, _ => by decide +kernel
  | 7, _ => by decide +kernel
  | 8, _ => by decide +kernel
  | 9, _ => by decide +kernel
  | n + 10, h => absurd h (by omega)
theorem dig_mem {i : Nat} (h : i < 10) : D10.getD i (Str.ofString "0") ∈ D10 := by
  rw [List.getD_eq_getElem?_getD, List.getElem?_eq_getElem (show i < D10.length from h)]
  exact List.getElem_mem _
theorem HIn.sub {news news' : List (Addr × Obj)} {vs : List Value} {H : List (Str × Str)} (h : HIn news vs H) (s : ∀ a n x y t u, (a, tupObj [.str x t, .str y u] n) ∈ news → (a, tupObj [.str x t, .str y u] n) ∈ news') : HIn news' vs H := by
  induction h with
  | nil => exact .nil
  | cons hm _ ih => exact .cons (s _ _ _ _ _ _ hm) ih
theorem pack {g1 h' : Heap} {L0 C I hl D : Addr} {oD oIt oC oh : Obj} {tl led : List (Addr × Obj)} {v : Option Value} {ys : List Value} {H : List (Str × Str)}
    (N' : News g1 L0 h' ((hl, oh) :: (tl ++ (D, oD) :: (I, oIt) :: (C, oC) :: led))) (t1 : ∀ p ∈ tl, hl < p.1) (t2 : ∀ p ∈ tl, ∀ q ∈ (D, oD) :: (I, oIt) :: (C, oC) :: led, q.1 < p.1)
    (hH : HIn (tl ++ (D, oD) :: (I, oIt) :: (C, oC) :: led) ys H) (hD : oD.cls ≠ .type "tuple") (hI : oIt.cls ≠ .type "tuple") (hC : oC.data = .cell v)
    (nC : ∀ p ∈ led, p.1 ≠ C) (nl : ∀ p ∈ led, p.1 ≠ hl) (nI : ∀ p ∈ led, p.1 ≠ I) (nD : ∀ p ∈ led, p.1 ≠ D) :
    ∃ led2, News g1 L0 h' ((D, oD) :: (I, oIt) :: (C, oC) :: (hl, oh) :: led2) ∧ (∀ p ∈ led, p ∈ led2) ∧ HIn led2 ys H ∧ (∀ p ∈ led2, p.1 ≠ C) ∧ (∀ p ∈ led2, p.1 ≠ hl) ∧ (∀ p ∈ led2, p.1 ≠ I) ∧ (∀ p ∈ led2, p.1 ≠ D) := by
  refine ⟨tl ++ led, ?_, fun p hp => List.mem_append_right _ hp, hH.sub ?_, ?_, ?_, ?_, ?_⟩
  · intro p hp
    refine N' p ?_
    simp only [List.mem_cons, List.mem_append] at hp ⊢
    rcases hp with h | h | h | h | h | h <;> simp [h]
  · intro a n x y t u hm
    simp only [List.mem_cons, List.mem_append] at hm ⊢
    rcases hm with h | h | h | h | h
    · exact .inl h
    · exact absurd (congrArg (fun q : Addr × Obj => q.2.cls) h).symm hD
    · exact absurd (congrArg (fun q : Addr × Obj => q.2.cls) h).symm hI
    · have := congrArg (fun q : Addr × Obj => q.2.data) h
      dsimp only at this
      rw [hC] at this
      cases this
    · exact .inr h
  · intro p hp
    rcases List.mem_append.mp hp with hp | hp
    · exact Nat.ne_of_gt (t2 p hp (C, oC) (by simp))
    · exact nC p hp
  · intro p hp
    rcases List.mem_append.mp hp with hp | hp
    · exact Nat.ne_of_gt (t1 p hp)
    · exact nl p hp
  · intro p hp
    rcases List.mem_append.mp hp with hp | hp
    · exact Nat.ne_of_gt (t2 p hp (I, oIt) (by simp))
    · exact nI p hp
  · intro p hp
    rcases List.mem_append.mp hp with hp | hp
    · exact Nat.ne_of_gt (t2 p hp (D, oD) (by simp))
    · exact nD p hp
theorem mem_rot3 {α : Type} {p a b c d : α} {l : List α} (h : p ∈ d :: a :: b :: c :: l) : p ∈ a :: b :: c :: d :: l := by
  simp only [List.mem_cons] at h ⊢
  rcases h with h | h | h | h | h <;> simp [h]
theorem eq_nil {prog : Program} {w : World} {A : Around} {E : Value → Shared → Prop} {s : Shared} {l b : Addr} {ys : List Value} {Q : Value → Shared → Prop} (hl : s.heap.IsList l ys.toArray) (hb : s.heap.IsList b #[]) (hu : A.units < cLine)
    (h : Q (.bool (decide (ys = []))) s) : wpAny (model prog w) A (compareOp .Eq (.ref l) (.ref b)) Q E s := by
  cases ys with
  | nil =>
    refine SeqAt.eq_listAt (e := fun _ => true) hl hb rfl hu (fun j h1 _ => absurd h1 (Nat.not_lt_zero _)) ?_
    exact h
  | cons y r =>
    refine SeqAt.eq_list_lengthsAt hl hb ?_ hu ?_
    · simp
    · exact h
theorem laid_end {w : World} {g1 h' : Heap} {L0 C I hl x d nl P' : Addr} {oIt oC : Obj} {ext led2 all news : List (Addr × Obj)} {v0 : Option Value} {ys2 pvs' : List Value} {n2 np' : Nat} {H' : List (Str × Str)} {Pl' : List (Str × Str × Int)} {ns : List Int} {i : Nat} {m' : Str → Option Value} {s1 : Shared} {tk : Nat} {tkH : Tok}
    (F : Fr g1 L0 h' m') (N : News g1 L0 h' all) (hall : ∀ p ∈ (I, oIt) :: (C, oC) :: (hl, listOf ys2.toArray n2) :: (ext ++ led2), p ∈ all) (eK : Kn m' [(Str.ofString "numbers", .ref nl), (Str.ofString "calls", .ref x), (Str.ofString "plain", .ref P')])
    (hoC : oC.data = .cell v0) (hsub : ∀ p ∈ news, p ∈ led2) (hx : (x, instObj 207 d) ∈ led2) (hdx : (d, HD w hl tkH) ∈ led2) (hP : (P', listOf pvs'.toArray np') ∈ ext ++ led2) (hH : HIn led2 ys2 H') (hT : TIn (ext ++ led2) pvs' Pl')
    (e : laidSt ns (i + 1) = (H', Pl')) (hext : ∀ p ∈ ext, @LT.lt Nat _ I p.1) (nC2 : ∀ p ∈ led2, p.1 ≠ C) (nl2 : ∀ p ∈ led2, p.1 ≠ hl) (nI2 : ∀ p ∈ led2, p.1 ≠ I) (hCI : @LT.lt Nat _ C I) (hlI : @LT.lt Nat _ hl I) :
    UnrEnd g1 L0 s1 I oIt (LaidJ w news nl hl x d C I ns (i + 1)) { s1 with heap := h', toks := tk } := by
  have hR : ∀ p ∈ led2, p ∈ ext ++ led2 := fun p hp => List.mem_append_right _ hp
  refine ⟨h', tk, m', (C, oC) :: (hl, listOf ys2.toArray n2) :: (ext ++ led2), rfl, F, fun p hp => N p (hall p hp), ?_, ?_⟩
  · intro p hp
    rcases List.mem_cons.mp hp with rfl | hp
    · exact Nat.ne_of_lt hCI
    rcases List.mem_cons.mp hp with rfl | hp
    · exact Nat.ne_of_lt hlI
    rcases List.mem_append.mp hp with hp | hp
    · exact Nat.ne_of_gt (hext p hp)
    · exact nI2 p hp
  · refine ⟨P', ys2, n2, pvs', np', oC, v0, tkH, ext ++ led2, rfl, eK, hoC, fun p hp => hR _ (hsub p hp), hR _ hx, hR _ hdx, hP, ?_, ?_, ?_, ?_, ?_⟩
    · rw [e]; exact hH.mono hR
    · rw [e]; exact hT
    · intro p hp
      rcases List.mem_append.mp hp with hp | hp
      · exact Nat.ne_of_gt (Nat.lt_trans hCI (hext p hp))
      · exact nC2 p hp
    · intro p hp
      rcases List.mem_append.mp hp with hp | hp
      · exact Nat.ne_of_gt (Nat.lt_trans hlI (hext p hp))
      · exact nl2 p hp
    · intro p hp
      rcases List.mem_append.mp hp with hp | hp
      · exact Nat.ne_of_gt (hext p hp)
      · exact nI2 p hp
theorem TIn.nil_iff {news : List (Addr × Obj)} {vs : List Value} {H : List (Str × Str × Int)} (h : TIn news vs H) : vs = [] ↔ H = [] := by
  cases h with
  | nil => simp
  | cons => simp
theorem perm5 {α : Type} {p a b x d c : α} {l : List α} (h : p ∈ c :: b :: a :: x :: d :: l) : p ∈ a :: b :: x :: d :: c :: l := by
  simp only [List.mem_cons] at h ⊢
  rcases h with h | h | h | h | h | h <;> simp [h]


-- part M13
theorem calm_M13 : True := by
  w_top off
  trivial
section
open PySem PySem.W PySem.Spec PySem.Calls PyProof.Rows PyProof.V
set_option maxRecDepth 100000
theorem warm13 : (fun (_ : OpenLaw) (_ : Params → Frag) => True) PySem.Challenge.rw_pm0059_01 Mine.hd.heap_39 := by
  k_fill
  trivial
local macro_rules | `(tactic| walk_at "pyIter ref") => `(tactic| ((with_reducible show wpAny _ _ (pyIter (Value.ref _)) (fun it s₂ => LoopAtV _ _ _ _ _ _ _ _ _ it s₂) _ _); refine hold ?_))
local macro_rules | `(tactic| walk_at "exec For Name Call cons nil") => `(tactic| (k_here; (rename Fr _ _ _ _ => lF'); (with_unfolding_all refine' For_invVF lF' ?k1 ?k2 ?_; (case k1 => exact rfl); (case k2 => exact rfl); k_whole)))
local macro_rules | `(tactic| walk_at "call ref") => `(tactic| (k_here; k_dflt (show wpAny _ _ (call (Value.ref 197) _ _) _ _ _); refine hold ?_))
local macro_rules | `(tactic| walk_at "call ref") => `(tactic| (k_here; k_dflt (show wpAny _ _ (call (Value.ref 122) _ _) _ _ _); refine hold ?_))
local macro_rules | `(tactic| walk_at "call ref") => `(tactic| (k_here; k_dflt (show wpAny _ _ (call (Value.ref 204) _ _) _ _ _); refine hold ?_))
local macro_rules | `(tactic| walk_at "exec Assign cons ListComp") => `(tactic| (k_here; refine hold ?_))
local macro_rules | `(tactic| walk_at "compareOp Eq ref ref") => `(tactic| (k_here; refine hold ?_))
local macro_rules | `(tactic| walk_at "binaryOp Add ref ref") => `(tactic| (k_here; refine hold ?_))
local macro_rules | `(tactic| walk_at "UnrEnd") => `(tactic| (refine hold ?_))
section
variable {w : World} {mean : ExcName → Option Value} {mg mb : Str → Option Value} {dp un : Nat} {gd : Option (List Code)} {cn : Str} {cs : Scope} {a : Addr} {ccd : Value} {cl : List (Str × Addr)} {outer : List Env} {A₀ : Around} {base h₀ : Heap} {L : Addr} {m : Str → Option Value} {s : Shared} {Q E : Value → Shared → Prop} {news : List (Addr × Obj)}


set_option maxHeartbeats 8000000 in
theorem laid_ct {nl : Addr} {vs : List Value} {nn : Nat} {ns : List Int}
    (B : Below A₀ base outer h₀) (F : Fr h₀ L s.heap m) (X : (Mine.hd.heap_39 w.params).In h₀) (N : News h₀ L s.heap news) (T : Top Mine.hd.view_39 loose0 mean mg mb h₀) (hk : cs.kind = .function)
    (hd : dp + 9 < recursionLimit) (hu : un + 120 < cLine)
    (hnl : (nl, listOf vs.toArray nn) ∈ news) (hns : IntsAre vs ns) (hlen : ns.length = 10)
    (ret : ∀ (T hl x d P : Addr) (hvs : List Value) (nh : Nat) (pvs : List Value) (np : Nat) (tkH : Tok) (led : List (Addr × Obj)) (h' : Heap) (tk' : Nat), Fr h₀ L h' m → News h₀ L h' ((T, tupObj [.ref x, .ref P] 0) :: (hl, listOf hvs.toArray nh) :: led) →
      (∀ p ∈ news, p ∈ led) → (x, instObj 207 d) ∈ led → (d, HD w hl tkH) ∈ led → (P, listOf pvs.toArray np) ∈ led → HIn led hvs (laidSt ns 10).1 → TIn led pvs (laidSt ns 10).2 → (∀ p ∈ led, p.1 ≠ hl) → Q (.ref T) { s with heap := h', toks := tk' }) :
    wpAny (model P0 w) (ktrTop dp un gd cn cs L a ccd cl outer) (call (.ref 216) [.ref nl]) Q E s := by
  refine wpAny_call ?_
  k_dflt (walk_at "enterC")
  k_steps
  rename_i lF N1
  refine iter_listTurns (vs := []) (by rfl) lF N1 (List.Mem.head _) rfl rfl fun I lI => ?_
  refine ItemsRest.zero ?_
  intro h2 tk2 F2 N2
  clear N1
  k_steps
  rename_i N3
  have esz : ((vs.toArray.size : Nat) : Int) = 10 := by rw [List.size_toArray, hns.length, hlen]; rfl
  refine len_list (items := vs.toArray) ⟨_, (N3 _ (List.mem_cons_of_mem _ (List.mem_cons_of_mem _ (List.mem_cons_of_mem _ (List.mem_cons_of_mem _ (List.mem_cons_of_mem _ hnl)))))).1, rfl, _, rfl⟩ (by rw [esz]; decide) ?_
  rw [esz]
  k_steps
  refine unhold ?_
  rename IsRange _ _ _ _ _ _ _ _ => hr4
  rename_i lF4 lN4 _
  have lN5 := fun p hp => lN4 p (perm5 hp)
  have lN6 : News _ _ _ _ := lN5
  clear lN5
  with_unfolding_all refine iter_rangeUnr (n := 10) (by rfl) hr4 (by decide) (by decide) lF4 lN6 ?_
  intro I hI
  rename_i g1 L0 h8 tk8 FG B1 X1 T1 l0 o1 d1 x d h7 lCd ldx g2 L2 h6 B2 X2 T2 tk3 hl h5 l1h h4' tk2' h3' tk1' I0 Tc0 kX0 h2' tk0' P h1' l1P h0' F1 N1 h4 tk4 t1 u1 v1 a4
  have hIP : P < I := hI _ (List.Mem.tail _ (List.Mem.tail _ (List.Mem.head _)))
  have hIn : ∀ p ∈ news, p.1 < I := fun p hp => hI p (List.mem_cons_of_mem _ (List.mem_cons_of_mem _ (List.mem_cons_of_mem _ (List.mem_cons_of_mem _ (List.mem_cons_of_mem _ hp)))))
  obtain ⟨p1, p2, p3, p4, p5⟩ := l1P
  obtain ⟨r1, r2, r3, r4⟩ := l1h
  have hCl := ltN r3
  have hCI := ltN (Nat.lt_trans p4 hIP)
  have hlI := ltN (Nat.lt_trans p1 hIP)
  refine RangeRest_ind (LaidJ w news nl hl x d (L0 + 1) I ns) ?init ?step ?done
  case init =>
    refine ⟨P, [], 0, [], 0, o1, _, _, (P, listOf #[] 0) :: (x, instObj 207 d) :: (d, _) :: news, rfl, ⟨rfl, rfl, rfl, trivial⟩, d1, fun p hp => List.mem_cons_of_mem _ (List.mem_cons_of_mem _ (List.mem_cons_of_mem _ hp)), List.Mem.tail _ (List.Mem.head _), List.Mem.tail _ (List.Mem.tail _ (List.Mem.head _)), List.Mem.head _, .nil, .nil, ?_, ?_, ?_⟩
    · intro p hp
      rcases List.mem_cons.mp hp with rfl | hp
      · exact Nat.ne_of_gt p4
      rcases List.mem_cons.mp hp with rfl | hp
      · exact Nat.ne_of_gt (Nat.lt_trans lCd.1 ldx)
      rcases List.mem_cons.mp hp with rfl | hp
      · exact Nat.ne_of_gt lCd.1
      · exact Nat.ne_of_lt (Nat.lt_succ_of_lt (l0 p hp))
    · intro p hp
      rcases List.mem_cons.mp hp with rfl | hp
      · exact Nat.ne_of_gt p1
      rcases List.mem_cons.mp hp with rfl | hp
      · exact Nat.ne_of_lt r1
      rcases List.mem_cons.mp hp with rfl | hp
      · exact Nat.ne_of_lt r2
      · exact Nat.ne_of_lt (allLt_mem r4 p hp)
    · intro p hp
      exact Nat.ne_of_lt (hI p (List.mem_cons_of_mem _ (List.mem_cons_of_mem _ hp)))
  case done =>
    clear lF4 lN4 lN6 hI hIn hIP a4 hr4 F1 N1 p1 p2 p3 p4 p5 r1 r2 r3 r4 lCd ldx F2 N2 lI lF
    rintro m1 _ ⟨P, hvs, nh, pvs, np, oC, v0, tkH, led, rfl, e1, hoC, hsub, hx, hdx, hP, hH, hPl, nC, nl', nI⟩ h tk F5 N5
    have F6 := frKn F5 e1
    clear F5
    k_steps
    rename_i kF kN _ _
    exact ret _ hl x d P hvs nh pvs np tkH led _ _ kF (fun p hp => kN p (by
      rcases List.mem_cons.mp hp with rfl | hp
      · k_mem
      rcases List.mem_cons.mp hp with rfl | hp <;> k_mem)) hsub hx hdx hP hH hPl nl'
  case step =>
    clear lF4 lN4 lN6 hI hIn hIP a4 hr4 F1 N1 p1 p2 p3 p4 p5 r1 r2 r3 r4 lCd ldx F2 N2 lI lF
    rintro i m1 _ hi10 ⟨P, hvs, nh, pvs, np, oC, v0, tkH, led, rfl, e1, hoC, hsub, hx, hdx, hP, hH, hPl, nC, nl', nI⟩ tt h tk F5 N5
    have F6 := frKn (l := [(Str.ofString "k", .int (0 + (i : Int)) tt), (Str.ofString "numbers", .ref nl), (Str.ofString "calls", .ref x), (Str.ofString "plain", .ref P)]) F5 ⟨rfl, e1.1, e1.2.1, e1.2.2.1, trivial⟩
    clear F5
    have hnl' := hsub _ hnl
    generalize hIt : itR (0 + ((i + 1 : Nat) : Int)) (((10 : Nat) : Int) - ((i + 1 : Nat) : Int)) = oIt at N5 ⊢
    have hi0 : (0 : Int) + (i : Int) = (i : Int) := Int.zero_add _
    rw [hi0] at F6
    k_steps
    rename News _ _ _ _ => NJ
    refine item_list (items := #[.str _ _, .str _ _]) ⟨_, (NJ _ (List.Mem.head _)).1, rfl, _, rfl⟩ (Int.fmod_nonneg_of_pos _ (by decide)) (Int.lt_trans (Int.fmod_lt_of_pos _ (by decide)) (by decide)) (pick2 i _ _ _ _) ?_
    k_steps
    refine unhold ?_
    rename Fr _ _ _ _ => F6
    rename News _ _ _ _ => Nq
    have N7 : News g1 L0 _ ((I, oIt) :: (L0 + 1, _) :: (hl, listOf hvs.toArray nh) :: led) := fun p hp => Nq p (List.mem_cons_of_mem _ (List.mem_cons_of_mem _ hp))
    rename_i oC2 dC2 _ _ _ _ _ _ _
    have dC3 : oC2.data = .cell (some (.str (c4 (ns.getD i 0)) _)) := dC2
    have F7 := frKn (l := [(Str.ofString "name", .str (nmOf (ns.getD i 0) i) _), (Str.ofString "callee", .str (e5 (ns.getD i 0)) _), (Str.ofString "k", .int (i : Int) tt), (Str.ofString "numbers", .ref nl), (Str.ofString "calls", .ref x), (Str.ofString "plain", .ref P)]) F6 ⟨rfl, rfl, rfl, rfl, rfl, rfl, trivial⟩
    have hnm8 := nmOf_mem (ns.getD i 0) i
    clear dC2 F6 Nq
    generalize hc : c4 (ns.getD i 0) = c at dC3
    generalize he : e5 (ns.getD i 0) = e at F7
    generalize hnm : nmOf (ns.getD i 0) i = nm at F7 hnm8
    have hszP : pvs.toArray.size ≤ sizeLine := by rw [List.size_toArray, hPl.length, sizeLine_eq]; have := (laidSt_len ns i).2; omega
    with_unfolding_all refine LCt.Assign_ListComp_T (F₀ := F7) (cl := [(Str.ofString "caller", L0 + 1)]) (by rfl) (by with_unfolding_all rfl) ?clos ?cell ?kind ?names ?hx (by rfl) (by rfl) ?_
    case clos => rfl
    case cell => decide
    case kind => rfl
    case names => decide
    case hx => rfl
    k_steps
    refine LCt.CompSrcT.ledger rfl F7 N7 (by k_mem) hszP ?_
    intro g
    refine compT_ind (fun j ys lx => lx = ((I, oIt) :: (L0 + 1, oC2) :: (hl, listOf hvs.toArray nh) :: led) ∧ TIn led ys ((((laidSt ns i).2).take j).filter fun p => decide (p.1 = c))) ⟨rfl, .nil⟩ ?_ ?_
    · rintro j ys _ hj ⟨rfl, hys⟩ v Ij oI Cj oCj Dj m₂ h tk E' hPj hCj hx F2 N2 off ne
      have hP' : pvs[j]? = some v := by simpa using hPj
      obtain ⟨ea, en, ex, ey, ez, et, eu, er, rfl, eH, em⟩ := hPl.at hP'
      have hS : LCg.SrcAt g1 P pvs.toArray ((I, oIt) :: (L0 + 1, oC2) :: (hl, listOf hvs.toArray nh) :: led) := .inr ⟨_, by k_mem, rfl, _, rfl⟩
      have hT : ∀ ys', ys' = ys ++ (if ex = c then [Value.ref ea] else []) → TIn led ys' ((((laidSt ns i).2).take (j + 1)).filter fun p => decide (p.1 = c)) := by
        intro ys' e
        rw [take_succ_of eH, List.filter_append, e]
        refine hys.append ?_
        by_cases q : ex = c
        · simpa [q] using TIn.cons em .nil
        · simpa [q] using TIn.nil
      k_steps
      · rename_i hc2
        refine ⟨_, _, ((I, oIt) :: (L0 + 1, oC2) :: (hl, listOf hvs.toArray nh) :: led), rfl, F2, N2, off, hS, rfl, hT _ ?_⟩
        rw [if_pos (by simpa using hc2)]
      · rename_i hc2
        refine ⟨_, _, ((I, oIt) :: (L0 + 1, oC2) :: (hl, listOf hvs.toArray nh) :: led), rfl, F2, N2, off, hS, rfl, hT _ ?_⟩
        rw [if_neg (by simpa using hc2), List.append_nil]
    · rintro ys _ ⟨rfl, hys⟩ D h tk F2 N2 off
      have hsz2 : pvs.toArray.size = (laidSt ns i).2.length := by rw [List.size_toArray, hPl.length]
      rw [hsz2, List.take_length] at hys
      have F8 := frKn (l := [(Str.ofString "there", .ref D), (Str.ofString "name", .str nm _), (Str.ofString "callee", .str e _), (Str.ofString "k", .int (i : Int) tt), (Str.ofString "numbers", .ref nl), (Str.ofString "calls", .ref x), (Str.ofString "plain", .ref P)]) F2 ⟨rfl, rfl, rfl, rfl, rfl, rfl, rfl, trivial⟩
      have hDo := off1_mem off
      have nD : ∀ p ∈ led, p.1 ≠ D := fun p hp => hDo p (by k_mem)
      have hDI := neN (hDo (I, oIt) (by k_mem))
      have hDC := neN (hDo (L0 + 1, oC2) (by k_mem))
      have hDl := neN (hDo (hl, _) (by k_mem))
      have hoffX : ∀ p ∈ (D, LCg.lst ys) :: (I, oIt) :: (L0 + 1, oC2) :: led, p.1 ≠ hl := by
        intro p hp
        rcases List.mem_cons.mp hp with rfl | hp
        · exact Ne.symm hDl
        rcases List.mem_cons.mp hp with rfl | hp
        · exact Nat.ne_of_gt hlI
        rcases List.mem_cons.mp hp with rfl | hp
        · exact Nat.ne_of_lt hCl
        exact nl' p hp
      clear F7 F2 N7
      k_steps
      · refine unhold ?_
        rw [dig_eq hi10]
        have N9 : News g1 L0 h ((hl, listOf hvs.toArray nh) :: (D, LCg.lst ys) :: (I, oIt) :: (L0 + 1, oC2) :: led) := fun p hp => N2 p (mem_rot3 hp)
        clear N2
        k_dflt (refine' setdefault_ct (news := (D, LCg.lst ys) :: (I, oIt) :: (L0 + 1, oC2) :: led) (H := (laidSt ns i).1) ?B9 F8 ?X9 N9 ?hoff9 ?T9 ?hk9 ?hd9 ?hu9 ?hx9 ?hdx9 ?hH9 hnm8 (laidSt_ok ns i) ?hlH9 (dig_mem hi10) ?_)
        case B9 => k_asm
        case X9 => k_asm
        case T9 => k_asm
        case hk9 => first | exact rfl | assumption
        case hd9 => k_dflt ktr_room
        case hu9 => k_dflt ktr_units
        case hoff9 => exact hoffX
        case hx9 => k_mem
        case hdx9 => k_mem
        case hH9 => exact hH.mono fun p hp => List.mem_cons_of_mem _ (List.mem_cons_of_mem _ (List.mem_cons_of_mem _ hp))
        case hlH9 => have := (laidSt_len ns i).1; omega
        intro _ ys2 n2 tl h' tk' F9 N' t1 t2 hH'
        obtain ⟨led2, N10, sub2, hH2, nC2, nl2, nI2, nD2⟩ := pack N' t1 t2 hH' (by show Value.type "list" ≠ _; decide) (by rw [← hIt]; show Value.type "range_iterator" ≠ _; decide) dC3 nC nl' nI nD
        have hx2 := sub2 _ hx
        have hdx2 := sub2 _ hdx
        have hP2 := sub2 _ hP
        have hnl2 := sub2 _ hnl'
        have hPl2 := hPl.mono sub2
        have hys2 := hys.mono sub2
        have hsub2 : ∀ p ∈ news, p ∈ led2 := fun p hp => sub2 _ (hsub p hp)
        clear N' N9 hx hdx hP hnl' t1 t2 hH'
        k_steps
        · exact absurd (by assumption) (by assumption : ¬ (ns.getD (i : Int).toNat 0).fmod 4 = 3)
        · refine unhold ?_
          rename_i tx n3 lE hE FE NE lE1
          refine eq_nil (ys := ys) ⟨_, (NE (D, LCg.lst ys) (by k_mem)).1, rfl, _, rfl⟩ ⟨_, (NE (lE, listOf #[] 0) (by k_mem)).1, rfl, _, rfl⟩ (by k_dflt ktr_units) ?_
          have n3' : (ns.getD i 0).fmod 4 = 3 := n3
          k_steps
          · refine unhold ?_
            rename_i hy0 t9 Dt h9 lD lt hA FA NA lA
            k_dflt (refine' kmk_add_lit (its := pvs.toArray) (its2 := #[Value.ref Dt]) (zs := pvs ++ [Value.ref Dt]) FA NA ?la ?lb ?le ?_ ?lz)
            case la => exact ⟨_, (NA (P, listOf pvs.toArray np) (by k_mem)).1, rfl, _, rfl⟩
            case lb => exact ⟨_, (NA (lt, listOf #[Value.ref Dt] 0) (by k_mem)).1, rfl, _, rfl⟩
            case le => simp
            case lz => (show pvs.length + 1 ≤ sizeLine); rw [hPl2.length, sizeLine_eq]; have h1 := (laidSt_len ns i).2; have h2 := List.length_filter_le (fun p => !decide (p.1 = c)) (laidSt ns i).2; omega
            intro P2 hB FB NB lB
            clear NA FA
            k_steps
            refine unhold ?_
            rename Fr _ _ _ _ => FZ
            rename News _ _ _ _ => NZ
            refine' laid_end (ext := [(P2, listOf (List.toArray (pvs ++ [Value.ref Dt])) 0), (Dt, tupObj [.str c _, .str e _, .int (2 * ns.getD i 0 + 1) _] 0)]) FZ NZ ?hall ⟨rfl, rfl, rfl, trivial⟩ dC3 hsub2 hx2 hdx2 (P' := P2) (pvs' := pvs ++ [Value.ref Dt]) (np' := 0) (List.mem_append_left _ (List.Mem.head _)) hH2 ((hPl2.mono fun p hp => List.mem_append_right _ hp).append (TIn.cons (List.mem_append_left _ (List.Mem.tail _ (List.Mem.head _))) .nil)) ?he ?hext nC2 nl2 nI2 hCI hlI
            case hall =>
              intro p hp
              simp only [List.mem_cons, List.mem_append, List.not_mem_nil, or_false] at hp
              rcases hp with rfl | rfl | rfl | (rfl | rfl) | hp <;> k_mem
            case he =>
              show laidStep _ _ _ = _
              unfold laidStep
              dsimp only
              rw [hc, he, hnm, if_pos n3', if_pos (hys2.nil_iff.1 hy0)]
            case hext =>
              intro p hp
              simp only [List.mem_cons, List.not_mem_nil, or_false] at hp
              rcases hp with rfl | rfl
              · exact lB (I, oIt) (by k_mem)
              · exact lD.2.2.1
          · refine unhold ?_
            rename_i hy0
            refine laid_end (ext := []) FE NE (fun p hp => List.mem_cons_of_mem _ (List.mem_cons_of_mem _ hp)) ⟨rfl, rfl, rfl, trivial⟩ dC3 hsub2 hx2 hdx2 hP2 hH2 hPl2 ?he2 (fun p hp => nomatch hp) nC2 nl2 nI2 hCI hlI
            show laidStep _ _ _ = _
            unfold laidStep
            dsimp only
            rw [hc, hnm, if_pos n3', if_neg (fun h => hy0 (hys2.nil_iff.2 h))]
      · refine unhold ?_
        rw [dig_eq hi10]
        have N9 : News g1 L0 h ((hl, listOf hvs.toArray nh) :: (D, LCg.lst ys) :: (I, oIt) :: (L0 + 1, oC2) :: led) := fun p hp => N2 p (mem_rot3 hp)
        clear N2
        k_dflt (refine' setitem_ct (news := (D, LCg.lst ys) :: (I, oIt) :: (L0 + 1, oC2) :: led) (H := (laidSt ns i).1) ?B9 F8 ?X9 N9 ?hoff9 ?T9 ?hk9 ?hd9 ?hu9 ?hx9 ?hdx9 ?hH9 hnm8 (laidSt_ok ns i) ?hlH9 (dig_mem hi10) ?_)
        case B9 => k_asm
        case X9 => k_asm
        case T9 => k_asm
        case hk9 => first | exact rfl | assumption
        case hd9 => k_dflt ktr_room
        case hu9 => k_dflt ktr_units
        case hoff9 => exact hoffX
        case hx9 => k_mem
        case hdx9 => k_mem
        case hH9 => exact hH.mono fun p hp => List.mem_cons_of_mem _ (List.mem_cons_of_mem _ (List.mem_cons_of_mem _ hp))
        case hlH9 => have := (laidSt_len ns i).1; omega
        intro ys2 n2 tl h' tk' F9 N' t1 t2 hH'
        obtain ⟨led2, N10, sub2, hH2, nC2, nl2, nI2, nD2⟩ := pack N' t1 t2 hH' (by show Value.type "list" ≠ _; decide) (by rw [← hIt]; show Value.type "range_iterator" ≠ _; decide) dC3 nC nl' nI nD
        have hx2 := sub2 _ hx
        have hdx2 := sub2 _ hdx
        have hP2 := sub2 _ hP
        have hnl2 := sub2 _ hnl'
        have hPl2 := hPl.mono sub2
        have hys2 := hys.mono sub2
        have hsub2 : ∀ p ∈ news, p ∈ led2 := fun p hp => sub2 _ (hsub p hp)
        clear N' N9 hx hdx hP hnl' t1 t2 hH'
        have n3' : ¬ (ns.getD i 0).fmod 4 = 3 := (‹(ns.getD (i : Int).toNat 0).fmod 4 ≠ 3› :)
        have n0' : (ns.getD i 0).fmod 4 = 0 := (‹(ns.getD (i : Int).toNat 0).fmod 4 = 0› :)
        k_steps
        refine unhold ?_
        clear F8
        rename Fr _ _ _ _ => G7
        with_unfolding_all refine LCt.Assign_ListComp_T (F₀ := G7) (cl := [(Str.ofString "caller", L0 + 1)]) (by rfl) (by with_unfolding_all rfl) ?clos2 ?cell2 ?kind2 ?names2 ?hx3 (by rfl) (by rfl) ?_
        case clos2 => rfl
        case cell2 => decide
        case kind2 => rfl
        case names2 => decide
        case hx3 => rfl
        k_steps
        refine LCt.CompSrcT.ledger rfl G7 N10 (by k_mem) hszP ?_
        intro g8
        refine compT_ind (fun j ys3 lx => lx = ((D, LCg.lst ys) :: (I, oIt) :: (L0 + 1, oC2) :: (hl, listOf ys2.toArray n2) :: led2) ∧ TIn led2 ys3 ((((laidSt ns i).2).take j).filter fun p => !decide (p.1 = c))) ⟨rfl, .nil⟩ ?_ ?_
        · rintro j ys3 _ hj ⟨rfl, hys3⟩ v Ij oI Cj oCj Dj m₂ h8 tk8 E8 hPj hCj hx8 F3 N3 off3 ne3
          have hP' : pvs[j]? = some v := by simpa using hPj
          obtain ⟨ea, en, ex, ey, ez, et, eu, er, rfl, eH, em⟩ := hPl2.at hP'
          have hS : LCg.SrcAt g1 P pvs.toArray ((D, LCg.lst ys) :: (I, oIt) :: (L0 + 1, oC2) :: (hl, listOf ys2.toArray n2) :: led2) := .inr ⟨_, by k_mem, rfl, _, rfl⟩
          have hT : ∀ ys', ys' = ys3 ++ (if ex = c then [] else [Value.ref ea]) → TIn led2 ys' ((((laidSt ns i).2).take (j + 1)).filter fun p => !decide (p.1 = c)) := by
            intro ys' e9
            rw [take_succ_of eH, List.filter_append, e9]
            refine hys3.append ?_
            by_cases q : ex = c
            · simpa [q] using TIn.nil
            · simpa [q] using TIn.cons em .nil
          k_steps
          · rename_i hc2
            refine ⟨_, _, ((D, LCg.lst ys) :: (I, oIt) :: (L0 + 1, oC2) :: (hl, listOf ys2.toArray n2) :: led2), rfl, F3, N3, off3, hS, rfl, hT _ ?_⟩
            rw [if_neg (by simpa using hc2)]
          · rename_i hc2
            refine ⟨_, _, ((D, LCg.lst ys) :: (I, oIt) :: (L0 + 1, oC2) :: (hl, listOf ys2.toArray n2) :: led2), rfl, F3, N3, off3, hS, rfl, hT _ ?_⟩
            rw [if_pos (by simpa using hc2), List.append_nil]
        · rintro ys3 _ ⟨rfl, hys3⟩ D3 h8 tk8 F3 N3 off3
          have hsz3 : pvs.toArray.size = (laidSt ns i).2.length := by rw [List.size_toArray, hPl.length]
          rw [hsz3, List.take_length] at hys3
          clear G7 N10
          k_steps
          · refine unhold ?_
            rename_i hy0 t9 Dt h9 lD lt hA FA NA lA
            k_dflt (refine' kmk_add_lit (its := ys3.toArray) (its2 := #[Value.ref Dt]) (zs := ys3 ++ [Value.ref Dt]) FA NA ?la ?lb ?le ?_ ?lz)
            case la => exact ⟨_, (NA (D3, LCg.lst ys3) (by k_mem)).1, rfl, _, rfl⟩
            case lb => exact ⟨_, (NA (lt, listOf #[Value.ref Dt] 0) (by k_mem)).1, rfl, _, rfl⟩
            case le => simp
            case lz => (show ys3.length + 1 ≤ sizeLine); rw [hys3.length, sizeLine_eq]; have h1 := (laidSt_len ns i).2; have h2 := List.length_filter_le (fun p => !decide (p.1 = c)) (laidSt ns i).2; omega
            intro P2 hB FB NB lB
            clear NA FA
            k_steps
            refine unhold ?_
            rename Fr _ _ _ _ => FZ
            rename News _ _ _ _ => NZ
            refine' laid_end (ext := [(P2, listOf (List.toArray (ys3 ++ [Value.ref Dt])) 0), (Dt, tupObj [.str c _, .str e _, .int (2 * ns.getD i 0 + 1) _] 0)]) FZ NZ ?hall ⟨rfl, rfl, rfl, trivial⟩ dC3 hsub2 hx2 hdx2 (P' := P2) (pvs' := ys3 ++ [Value.ref Dt]) (np' := 0) (List.mem_append_left _ (List.Mem.head _)) hH2 ((hys3.mono fun p hp => List.mem_append_right _ hp).append (TIn.cons (List.mem_append_left _ (List.Mem.tail _ (List.Mem.head _))) .nil)) ?he ?hext nC2 nl2 nI2 hCI hlI
            case hall =>
              intro p hp
              simp only [List.mem_cons, List.mem_append, List.not_mem_nil, or_false] at hp
              rcases hp with rfl | rfl | rfl | (rfl | rfl) | hp <;> k_mem
            case he =>
              show laidStep _ _ _ = _
              unfold laidStep
              dsimp only
              rw [hc, he, hnm, if_neg n3', if_pos n0']
            case hext =>
              intro p hp
              simp only [List.mem_cons, List.not_mem_nil, or_false] at hp
              rcases hp with rfl | rfl
              · exact lB (I, oIt) (by k_mem)
              · exact lD.2.2.1
          · exact absurd (by assumption : (ns.getD (i : Int).toNat 0).fmod 4 = 3) n3'
      · refine unhold ?_
        rw [dig_eq hi10]
        have N9 : News g1 L0 h ((hl, listOf hvs.toArray nh) :: (D, LCg.lst ys) :: (I, oIt) :: (L0 + 1, oC2) :: led) := fun p hp => N2 p (mem_rot3 hp)
        clear N2
        k_dflt (refine' add_header_ct (news := (D, LCg.lst ys) :: (I, oIt) :: (L0 + 1, oC2) :: led) (H := (laidSt ns i).1) ?B9 F8 ?X9 N9 ?hoff9 ?T9 ?hk9 ?hd9 ?hu9 ?hx9 ?hdx9 ?hH9 hnm8 (laidSt_ok ns i) ?hlH9 (dig_mem hi10) ?_)
        case B9 => k_asm
        case X9 => k_asm
        case T9 => k_asm
        case hk9 => first | exact rfl | assumption
        case hd9 => k_dflt ktr_room
        case hu9 => k_dflt ktr_units
        case hoff9 => exact hoffX
        case hx9 => k_mem
        case hdx9 => k_mem
        case hH9 => exact hH.mono fun p hp => List.mem_cons_of_mem _ (List.mem_cons_of_mem _ (List.mem_cons_of_mem _ hp))
        case hlH9 => have := (laidSt_len ns i).1; omega
        intro ys2 n2 tl h' tk' F9 N' t1 t2 hH'
        obtain ⟨led2, N10, sub2, hH2, nC2, nl2, nI2, nD2⟩ := pack N' t1 t2 hH' (by show Value.type "list" ≠ _; decide) (by rw [← hIt]; show Value.type "range_iterator" ≠ _; decide) dC3 nC nl' nI nD
        have hx2 := sub2 _ hx
        have hdx2 := sub2 _ hdx
        have hP2 := sub2 _ hP
        have hnl2 := sub2 _ hnl'
        have hPl2 := hPl.mono sub2
        have hys2 := hys.mono sub2
        have hsub2 : ∀ p ∈ news, p ∈ led2 := fun p hp => sub2 _ (hsub p hp)
        clear N' N9 hx hdx hP hnl' t1 t2 hH'
        have n3' : ¬ (ns.getD i 0).fmod 4 = 3 := (‹(ns.getD (i : Int).toNat 0).fmod 4 ≠ 3› :)
        have n0' : ¬ (ns.getD i 0).fmod 4 = 0 := (‹(ns.getD (i : Int).toNat 0).fmod 4 ≠ 0› :)
        k_steps
        · refine unhold ?_
          rename_i hy0 t9 Dt h9 lD lt hA FA NA lA
          k_dflt (refine' kmk_add_lit (its := pvs.toArray) (its2 := #[Value.ref Dt]) (zs := pvs ++ [Value.ref Dt]) FA NA ?la ?lb ?le ?_ ?lz)
          case la => exact ⟨_, (NA (P, listOf pvs.toArray np) (by k_mem)).1, rfl, _, rfl⟩
          case lb => exact ⟨_, (NA (lt, listOf #[Value.ref Dt] 0) (by k_mem)).1, rfl, _, rfl⟩
          case le => simp
          case lz => (show pvs.length + 1 ≤ sizeLine); rw [hPl2.length, sizeLine_eq]; have h1 := (laidSt_len ns i).2; have h2 := List.length_filter_le (fun p => !decide (p.1 = c)) (laidSt ns i).2; omega
          intro P2 hB FB NB lB
          clear NA FA
          k_steps
          refine unhold ?_
          rename Fr _ _ _ _ => FZ
          rename News _ _ _ _ => NZ
          refine' laid_end (ext := [(P2, listOf (List.toArray (pvs ++ [Value.ref Dt])) 0), (Dt, tupObj [.str c _, .str e _, .int (2 * ns.getD i 0 + 1) _] 0)]) FZ NZ ?hall ⟨rfl, rfl, rfl, trivial⟩ dC3 hsub2 hx2 hdx2 (P' := P2) (pvs' := pvs ++ [Value.ref Dt]) (np' := 0) (List.mem_append_left _ (List.Mem.head _)) hH2 ((hPl2.mono fun p hp => List.mem_append_right _ hp).append (TIn.cons (List.mem_append_left _ (List.Mem.tail _ (List.Mem.head _))) .nil)) ?he ?hext nC2 nl2 nI2 hCI hlI
          case hall =>
            intro p hp
            simp only [List.mem_cons, List.mem_append, List.not_mem_nil, or_false] at hp
            rcases hp with rfl | rfl | rfl | (rfl | rfl) | hp <;> k_mem
          case he =>
            show laidStep _ _ _ = _
            unfold laidStep
            dsimp only
            rw [hc, he, hnm, if_neg n3', if_neg n0']
          case hext =>
            intro p hp
            simp only [List.mem_cons, List.not_mem_nil, or_false] at hp
            rcases hp with rfl | rfl
            · exact lB (I, oIt) (by k_mem)
            · exact lD.2.1
        · exact absurd (by assumption : (ns.getD (i : Int).toNat 0).fmod 4 = 3) n3'
end

end

-- part M14a
section
open PySem PySem.W PySem.Spec PySem.Calls PyProof.Rows PyProof.V PyProof.Rows.LCg
set_option maxRecDepth 100000
theorem kv_at {kvs : List (Str × Value)} {ct : List (Str × Int)} (hf : FlatPairs PyData.str kvs (kdpD ct)) {j : Nat} {k : Str} {v : Value} (hx : kvs[j]? = some (k, v)) : ∃ i t, ct[j]? = some (k, i) ∧ v = .int i t := by
  obtain ⟨p, hp, t, rfl⟩ := kdz_valAt hf hx
  have e := congrArg (fun l => l[j]?) (flat_keys hf)
  simp only [kdpD, List.getElem?_map, hp, hx, Option.map_some, Option.some.injEq, PyData.str.injEq] at e
  exact ⟨p.2, t, by rw [hp, ← e], rfl⟩
def dcF (p : Str → Bool) (g : Int → Int) (l : List (Str × Int)) : List (Str × Int) := l.foldl (fun c q => if p q.1 = true then kdpPut c q.1 (g q.2) else c) []
theorem dcF_snoc (p : Str → Bool) (g : Int → Int) (l : List (Str × Int)) (q : Str × Int) : dcF p g (l ++ [q]) = if p q.1 = true then kdpPut (dcF p g l) q.1 (g q.2) else dcF p g l := by
  unfold dcF
  rw [List.foldl_append]
  rfl
theorem dcF_len (p : Str → Bool) (g : Int → Int) (l : List (Str × Int)) : (dcF p g l).length ≤ l.length := by
  have key : ∀ (l c : List (Str × Int)), (l.foldl (fun c q => if p q.1 = true then kdpPut c q.1 (g q.2) else c) c).length ≤ c.length + l.length := by
    intro l
    induction l with
    | nil => intro c; exact Nat.le_refl _
    | cons q l ih =>
      intro c
      rw [List.foldl_cons, List.length_cons]
      refine Nat.le_trans (ih _) ?_
      have := kdpPut_len c q.1 (g q.2)
      split <;> omega
  have := key l []
  rw [List.length_nil, Nat.zero_add] at this
  exact this
section
variable {prog : Program} {w : World} {A : Around} {E : Value → Shared → Prop} {R : Result → Shared → Prop} {s : Shared}
theorem dc_loop {kx vx target iter c : PySem.Expr} {scope : Scope} {pos : Pos} {it : Value} {D : Addr} {env : Env} (I : Nat → Shared → Prop)
    (turn : ∀ n s, I n s → wpAny (model prog w) A (pyNext it) (fun r s₁ => match r with
      | none => R (.ok .next) s₁
      | some v => wpAny (model prog w) A (letOwnedTupleGo target it v) (fun _ s₀ => wpAny (model prog w) A (assign target env v) (fun _ s₂ =>
          wpAny (model prog w) A (isTrue c env (eval c env)) (fun ok s₃ => if ok = true then wpAny (model prog w) A (eval kx env) (fun kv s₄ => wpAny (model prog w) A (eval vx env) (fun vv s₅ =>
              wpAny (model prog w) A (dictSet D kv vv) (fun _ s₆ => ∃ m, m < n ∧ I m s₆) (notedBy (model prog w) A env fun e s' => R (.error e) s') s₅) (notedBy (model prog w) A env fun e s' => R (.error e) s') s₄) (notedBy (model prog w) A env fun e s' => R (.error e) s') s₃
            else ∃ m, m < n ∧ I m s₃) (notedBy (model prog w) A env fun e s' => R (.error e) s') s₂) (notedBy (model prog w) A env fun e s' => R (.error e) s') s₀) (notedBy (model prog w) A env fun e s' => R (.error e) s') s₁) (notedBy (model prog w) A env fun e s' => R (.error e) s') s)
    (n : Nat) (h : I n s) : codeAny (model prog w) A (.compLoop (.DictComp kx vx [⟨target, iter, [c], 0⟩] scope pos) 0 it (.ref D) env) R s := by
  refine codeAny_loop rfl I (fun n s hI => ?_) n h
  show wpAny _ A ((compTurn (.DictComp kx vx [⟨target, iter, [c], 0⟩] scope pos) 0 it (.ref D) env).onRaise (fun x => do noteFrame x env; theTreesLotGoes x)) _ _ s
  refine wpAny_noted ?_
  rw [compTurn_dict]
  refine wpAny_bind (wpAny_standAt (wpAny_bind (wpAny_mono (turn n s hI) (fun r s₁ h₁ => ?_) fun _ _ x => x)))
  cases r with
  | none => exact wpAny_pure h₁
  | some v =>
    refine wpAny_bind (wpAny_mono h₁ (fun _ s₀ h₀ => ?_) fun _ _ x => x)
    refine wpAny_bind (wpAny_mono h₀ (fun _ s₂ h₂ => ?_) fun _ _ x => x)
    refine wpAny_bind (wpAny_tests_one (wpAny_mono h₂ (fun ok s₃ h₃ => ?_) fun _ _ x => x))
    cases ok with
    | false => exact wpAny_pure ⟨rfl, h₃⟩
    | true =>
      refine wpAny_bind (wpAny_bind (wpAny_mono h₃ (fun kv s₄ h₄ => wpAny_bind (wpAny_holding (wpAny_mono h₄ (fun vv s₅ h₅ => ?_) fun _ _ x => x))) fun _ _ x => x))
      exact wpAny_bind (wpAny_standAt (wpAny_holding (wpAny_mono h₅ (fun _ s₆ h₆ => wpAny_pure ⟨rfl, h₆⟩) fun _ _ x => x)))
end
section
variable {prog : Program} {w : World} {A : Around} {E : Value → Shared → Prop} {s : Shared} {h₀ : Heap} {L : Addr} {m : Str → Option Value} {env : Env}
def DcEnd (h₀ : Heap) (L : Addr) (m : Str → Option Value) (s : Shared) (all : List (Addr × Obj)) (s₂ : Shared) : Prop :=
  ∃ h' tk, s₂ = { s with heap := h', toks := tk } ∧ Fr h₀ L h' m ∧ News h₀ L h' all
def DcTurn (prog : Program) (w : World) (A : Around) (h₀ : Heap) (L : Addr) (m : Str → Option Value) (env : Env) (c kx vx : PySem.Expr) (a b : Str) (scope : Scope) (cl : List (Str × Addr)) (s : Shared) (p : Str → Bool) (g : Int → Int) (news : List (Addr × Obj)) (ct : List (Str × Int)) : Prop :=
  ∀ (x : Str) (i : Int) (t u : Tok) (I : Addr) (oI : Obj) (C : Addr) (oC : Obj) (D : Addr) (oD : Obj) (m₂ : Str → Option Value) (h : Heap) (tk : Nat) (E' : Value → Shared → Prop), (x, i) ∈ ct → NsObj oC m₂ → m₂ a = some (.str x t) → m₂ b = some (.int i u) → Fr h₀ L h m →
    News h₀ L h ((I, oI) :: (C, oC) :: (D, oD) :: news) → Off3 I C D news → ((@Ne Nat I C) ∧ (@Ne Nat I D) ∧ (@Ne Nat C D)) →
    wpAny (model prog w) A (isTrue c (compEnvC scope cl C env) (eval c (compEnvC scope cl C env))) (fun ok s₃ => if ok = true then
      wpAny (model prog w) A (eval kx (compEnvC scope cl C env)) (fun kv s₄ => wpAny (model prog w) A (eval vx (compEnvC scope cl C env)) (fun vv s₅ =>
        (p x = true ∧ (∃ t, kv = .str x t) ∧ ∃ t, vv = .int (g i) t) ∧ DcEnd h₀ L m { s with heap := h, toks := tk } ((I, oI) :: (C, oC) :: (D, oD) :: news) s₅) E' s₄) E' s₃
      else p x = false ∧ DcEnd h₀ L m { s with heap := h, toks := tk } ((I, oI) :: (C, oC) :: (D, oD) :: news) s₃) E' { s with heap := h, toks := tk }

set_option maxHeartbeats 4000000 in
theorem dc_block {c kx vx iter : PySem.Expr} {a b : Str} {pa pb tp : Pos} {kk : Nat} {scope : Scope} {cl : List (Str × Addr)} {pos : Pos} {s₂ : Shared} {I d : Addr} {od : Obj} {ok ov : Value} {kvs : List (Str × Value)} {ep : Nat} {ct : List (Str × Int)} {news : List (Addr × Obj)}
    {p : Str → Bool} {g : Int → Int} {RR : Value → Addr → Result → Shared → Prop}
    (hh : A.handled = none) (hbig : h₀.NoLimit) (hne : d ≠ I) (hsz : ct.length < 1000) (hat : KdkAt (strKind prog w) od kvs ep) (hf : FlatPairs PyData.str kvs (kdpD ct))
    (hit : IsItemIter s₂.heap I d 0 kvs.length ep ok ov) (hmd : (d, od) ∈ news)
    (hcell : ∀ y ∈ scope.names, y.2 ≠ .cell) (hkind : scope.kind = .function) (hxa : scope.names.lookup a = some .local) (hxb : scope.names.lookup b = some .local) (hab : ¬ a = b)
    (F : Fr h₀ L s₂.heap m) (N : News h₀ L s₂.heap news) (hIL : L ≠ I) (hI₀ : h₀.get? I = none) (off : ∀ q ∈ news, q.1 ≠ I)
    (R : DcTurn prog w A h₀ L m env c kx vx a b scope cl s₂ p g news ct)
    (hRR : ∀ D C h tk m' oD, Fr h₀ L h m → News h₀ L h ((D, oD) :: news) → (∀ q ∈ news, q.1 < D) → (D == sysModules) = false → (∃ kvs', oD.IsDictOf (strKind prog w) kvs' ∧ FlatPairs PyData.str kvs' (kdpD (dcF p g ct))) → h.Ns C m' → h₀.get? C = none → h₀.get? D = none → C ≠ L → D ≠ L → C ≠ D → (∀ q ∈ news, q.1 ≠ C) → RR (.ref D) C (.ok .next) { s₂ with heap := h, toks := tk }) :
    wpAny (model prog w) A newDict (fun acc s₃ => wpAny (model prog w) A (newFunctionEnv scope env.globals cl [] env.qual none .none (some env)) (fun cenv s₄ =>
      codeAny (model prog w) A (.compStart (.DictComp kx vx [⟨.Tuple [.Name a pa, .Name b pb] kk tp, iter, [c], 0⟩] scope pos) 0 (.ref I) acc { cenv with scope := relabel scope env }) (RR acc cenv.locals) s₄) E s₃) E s₂ := by
  refine wpAny_newObj_type (wpAny_newFunctionEnv hcell (by intro y hy; simp at hy) (fun h₁ hns₁ hsb₁ => ?_) hkind)
  dsimp only at hns₁ hsb₁ ⊢
  have hsys := F.notModules (modules_low hbig)
  have hnew : (s₂.heap.push { cls := .type "dict", dict := none, data := .dict #[] }).DictOf (strKind prog w) s₂.heap.objs.size [] := Heap.DictOf.new s₂.heap
  generalize hH2 : s₂.heap.push { cls := .type "dict", dict := none, data := .dict #[] } = H2 at hns₁ hsb₁ hnew ⊢
  have hC : H2.objs.size = s₂.heap.objs.size + 1 := by rw [← hH2, Heap.size_push]
  have hDC : s₂.heap.objs.size ≠ H2.objs.size := by rw [hC]; exact Nat.ne_of_lt (Nat.lt_succ_self _)
  have low : ∀ b o, s₂.heap.get? b = some o → b ≠ H2.objs.size ∧ b ≠ s₂.heap.objs.size := fun b o e => by
    have hb := Heap.lt_size e
    exact ⟨by rw [hC]; exact Nat.ne_of_lt (Nat.lt_succ_of_lt hb), Nat.ne_of_lt hb⟩
  have old : ∀ b o, s₂.heap.get? b = some o → h₁.get? b = some o := fun b o e => hsb₁.extBut b o (low b o e).1 (Heap.get?_push_of_some _ (hH2 ▸ Heap.get?_push_of_some _ e))
  have none₀ : ∀ x, s₂.heap.objs.size ≤ x → h₀.get? x = none := fun x hx => by
    cases e : h₀.get? x with
    | none => rfl
    | some o' => exact absurd (Heap.lt_size (F.keep x o' e)) (Nat.not_lt.mpr hx)
  have hD₀ : h₀.get? s₂.heap.objs.size = none := none₀ _ (Nat.le_refl _)
  have hC₀ : h₀.get? H2.objs.size = none := none₀ _ (by rw [hC]; exact Nat.le_succ _)
  have hLlt : L < s₂.heap.objs.size := F.ns.lt
  have hDL : s₂.heap.objs.size ≠ L := Nat.ne_of_gt hLlt
  have hCL : H2.objs.size ≠ L := by rw [hC]; exact Nat.ne_of_gt (Nat.lt_succ_of_lt hLlt)
  have hCI : I ≠ H2.objs.size := (low I _ hit).1
  have hDI : I ≠ s₂.heap.objs.size := (low I _ hit).2
  have nD : ∀ q ∈ news, q.1 < s₂.heap.objs.size := fun q hq => Heap.lt_size (N q hq).1
  have nC : ∀ q ∈ news, q.1 ≠ H2.objs.size := fun q hq => (low _ _ (N q hq).1).1
  have nD' : ∀ q ∈ news, q.1 ≠ s₂.heap.objs.size := fun q hq => (low _ _ (N q hq).1).2
  have off₀ : Off3 I H2.objs.size s₂.heap.objs.size news := Off3.of fun q hq => ⟨off q hq, nC q hq, nD' q hq⟩
  obtain ⟨oD₁, hoD₁, hdD₁⟩ := Heap.dictOf_iff.mp (hnew.at (h' := h₁) fun o e => hsb₁.extBut _ _ hDC (Heap.get?_push_of_some _ e))
  have hlen : ct.length = kvs.length := by have := hf.length; rwa [kdpD_length] at this
  have W := kti_itemsTurns (prog := prog) (w := w) (A := A) (knd := strKind prog w) (elts := [.Name a pa, .Name b pb]) (kk := kk) (pos := tp) hh I d hne kvs ep
  have loop : ∀ s₃ : Shared, s₃ = { s₂ with heap := h₁, toks := s₂.toks + ([] : List (Str × Value)).length } →
      codeAny (model prog w) A (.compLoop (.DictComp kx vx [⟨.Tuple [.Name a pa, .Name b pb] kk tp, iter, [c], 0⟩] scope pos) 0 (.ref I) (.ref s₂.heap.objs.size) (compEnvC scope cl H2.objs.size env))
        (RR (.ref s₂.heap.objs.size) H2.objs.size) s₃ := by
    rintro s₃ rfl
    refine dc_loop
      (fun q s' => ∃ h' tk i m' oD kv', s' = { s₂ with heap := h', toks := tk } ∧ i ≤ kvs.length ∧ q = kvs.length + 1 - i ∧ (∃ ok ov, IsItemIter h' I d i kvs.length ep ok ov) ∧ Fr h₀ L h' m ∧ h'.Ns H2.objs.size m' ∧
        News h₀ L h' ((s₂.heap.objs.size, oD) :: news) ∧ oD.IsDictOf (strKind prog w) kv' ∧ FlatPairs PyData.str kv' (kdpD (dcF p g (ct.take i)))) ?_ (kvs.length + 1)
      ⟨h₁, _, 0, _, oD₁, [], rfl, Nat.zero_le _, rfl, ⟨_, _, old _ _ hit⟩, F.keeps old, hns₁, fun q hq => ?_, hdD₁, .nil⟩
    · rintro k s' ⟨h', tk, i, m', oD, kv', rfl, hi, rfl, hit', F', hn', N', hdD, hfD⟩
      have hD' : h'.DictAt (strKind prog w) d kvs ep := hat.dictAt (N' _ (List.mem_cons_of_mem _ hmd)).1
      have zD := (N' _ List.mem_cons_self).1
      by_cases hlt : i < kvs.length
      · refine W.item i _ _ _ hlt ⟨hit', hD'⟩ fun v h₂ tk₂ hMd hk₂ => ?_
        refine W.go i v _ _ _ hMd fun h₃ hP hst₃ hk₃ => ?_
        obtain ⟨T, key, x, v', rfl, hx, hkey, hT⟩ := hP
        obtain ⟨iv, u, hci, rfl⟩ := kv_at hf hx
        obtain ⟨t, rfl⟩ := Value.isStrOf_shape hkey
        have up₃ : ∀ c o, c ≠ I → h'.get? c = some o → h₃.get? c = some o := fun c o hc e => hk₃ c o (by simpa using hc) (hk₂ c o (by simpa using hc) e)
        refine kcp_assign (env := compEnvC scope cl H2.objs.size env) hh hT (lookup_relabel_local hxa) (lookup_relabel_local hxb) (by simp [compEnvC, relabel, hkind]) (hn'.at' fun o e => up₃ _ o (Ne.symm hCI) e) fun h₄ tk₄ hn₄ hs₄ => ?_
        have up : ∀ c o, c ≠ I → c ≠ H2.objs.size → h'.get? c = some o → h₄.get? c = some o := fun c o h1 h2 e => hs₄ c o h2 (up₃ c o h1 e)
        obtain ⟨⟨ok', ov', hI₃⟩, _⟩ := hst₃
        have hI₄ : IsItemIter h₄ I d (i + 1) kvs.length ep ok' ov' := hs₄ I _ hCI hI₃
        obtain ⟨oI, heI, hoI⟩ : ∃ oI : Obj, h₄.get? I = some oI ∧ ∀ h : Heap, h.get? I = some oI → ∃ ok ov, IsItemIter h I d (i + 1) kvs.length ep ok ov := ⟨_, hI₄, fun _ e => ⟨_, _, e⟩⟩
        obtain ⟨oC, heC, hoC⟩ := ns_obj hn₄
        have F₄ : Fr h₀ L h₄ m := ⟨F'.ns.at' fun o e => up _ o hIL (Ne.symm hCL) e, fun c o e => up c o (fun q => by rw [q, hI₀] at e; cases e) (fun q => by rw [q, hC₀] at e; cases e) (F'.keep c o e), F'.above⟩
        have N₄ : News h₀ L h₄ ((I, oI) :: (H2.objs.size, oC) :: (s₂.heap.objs.size, oD) :: news) := fun q hq => by
          rcases List.mem_cons.mp hq with rfl | hq
          · exact ⟨heI, Ne.symm hIL, hI₀⟩
          rcases List.mem_cons.mp hq with rfl | hq
          · exact ⟨heC, hCL, hC₀⟩
          have z := N' q hq
          rcases List.mem_cons.mp hq with rfl | hq
          · exact ⟨up _ _ (Ne.symm hDI) hDC z.1, z.2⟩
          · exact ⟨up _ _ (off q hq) (nC q hq) z.1, z.2⟩
        have htk : dcF p g (ct.take (i + 1)) = if p x = true then kdpPut (dcF p g (ct.take i)) x (g iv) else dcF p g (ct.take i) := by
          rw [List.take_add_one, hci]
          exact dcF_snoc p g _ (x, iv)
        refine wpAny_mono (R x iv t u I oI H2.objs.size oC s₂.heap.objs.size oD _ h₄ _ _ (List.mem_of_getElem? hci) hoC (by simp [hab]) (by simp) F₄ N₄ off₀ ⟨hCI, hDI, Ne.symm hDC⟩) (fun okb s₅ h₅ => ?_) fun _ _ e => e
        cases okb with
        | false =>
          simp only [Bool.false_eq_true, if_false] at h₅ ⊢
          obtain ⟨hp, h₅, tk₅, rfl, F₅, N₅⟩ := h₅
          have zI := (N₅ (I, oI) List.mem_cons_self).1
          have zC := (N₅ (H2.objs.size, oC) (List.mem_cons_of_mem _ List.mem_cons_self)).1
          exact ⟨kvs.length + 1 - (i + 1), by omega, h₅, tk₅, i + 1, _, oD, kv', rfl, hlt, rfl, hoI h₅ zI, F₅, hoC.ns zC, fun q hq => N₅ q (List.mem_cons_of_mem _ (List.mem_cons_of_mem _ hq)), hdD, by rw [htk, hp]; exact hfD⟩
        | true =>
          simp only [if_true] at h₅ ⊢
          refine wpAny_mono h₅ (fun kv s₆ h₆ => ?_) fun _ _ e => e
          refine wpAny_mono h₆ (fun vv s₇ h₇ => ?_) fun _ _ e => e
          obtain ⟨⟨hp, ⟨t₁, rfl⟩, ⟨t₂, rfl⟩⟩, h₅, tk₅, rfl, F₅, N₅⟩ := h₇
          have zI := (N₅ (I, oI) List.mem_cons_self).1
          have zC := (N₅ (H2.objs.size, oC) (List.mem_cons_of_mem _ List.mem_cons_self)).1
          have zD := (N₅ (s₂.heap.objs.size, oD) (List.mem_cons_of_mem _ (List.mem_cons_of_mem _ List.mem_cons_self))).1
          have hl' : kv'.length ≤ sizeLine := by
            have e1 := hfD.length
            rw [kdpD_length] at e1
            have e2 := dcF_len p g (ct.take i)
            have e3 : (ct.take i).length ≤ ct.length := by rw [List.length_take]; omega
            rw [sizeLine_eq]; omega
          refine wpAny_dictSet_pairs (hsz := hl') (knd := strKind prog w) (k := x) (strKind_is _ _ _ _) (Heap.dictOf_iff.mpr ⟨oD, zD, hdD⟩) fun h₆ hl₆ hs₆ => ?_
          obtain ⟨oD', hoD', hdD'⟩ := Heap.dictOf_iff.mp hl₆
          refine ⟨kvs.length + 1 - (i + 1), by omega, h₆, _, i + 1, _, oD', _, rfl, hlt, rfl, hoI h₆ (hs₆.extBut I oI hDI zI), F₅.change hs₆ hDL hD₀, (hoC.ns zC).sameBut hs₆ (Ne.symm hDC), fun q hq => ?_, hdD', ?_⟩
          · rcases List.mem_cons.mp hq with rfl | hq
            · exact ⟨hoD', hDL, hD₀⟩
            · have z := N₅ q (List.mem_cons_of_mem _ (List.mem_cons_of_mem _ (List.mem_cons_of_mem _ hq)))
              exact ⟨hs₆.extBut _ _ (nD' q hq) z.1, z.2⟩
          · rw [htk, if_pos hp, ← kdpD_put]
            exact hfD.stored PyProof.V.same_str x (.int _ _)
      · have hin : i = kvs.length := Nat.le_antisymm hi (Nat.not_lt.mp hlt)
        subst hin
        refine W.done _ _ _ ⟨hit', hD'⟩ fun h₂ tk₂ hk₂ => ?_
        have hl : ct.take kvs.length = ct := by rw [← hlen, List.take_length]
        rw [hl] at hfD
        exact hRR _ _ h₂ tk₂ _ oD (fr_but F' hk₂ hIL hI₀) (news_but N' hk₂ fun q hq => by
          rcases List.mem_cons.mp hq with rfl | hq
          · exact Ne.symm hDI
          · exact off q hq) nD hsys ⟨kv', hdD, hfD⟩ (hn'.at' fun o e => hk₂ _ o (by simpa using Ne.symm hCI) e) hC₀ hD₀ hCL hDL (Ne.symm hDC) nC
    · rcases List.mem_cons.mp hq with rfl | hq
      · exact ⟨hoD₁, hDL, hD₀⟩
      · exact ⟨old _ _ (N q hq).1, (N q hq).2⟩
  exact codeAny_compStart_dict (loop _ rfl) (kcp_self (old _ _ hit) (loop _ rfl))

def DcSrc (prog : Program) (w : World) (A : Around) (h₀ : Heap) (L : Addr) (m : Str → Option Value) (env : Env) (c kx vx : PySem.Expr) (a b : Str) (scope : Scope) (cl : List (Str × Addr)) (y : Str) (Q : Flow → Shared → Prop) (xv : Value) (s₁ : Shared) : Prop :=
  ∃ (vw d : Addr) (od : Obj) (kvs : List (Str × Value)) (ct : List (Str × Int)) (p : Str → Bool) (g : Int → Int) (news : List (Addr × Obj)), xv = .ref vw ∧ Fr h₀ L s₁.heap m ∧ News h₀ L s₁.heap news ∧
    (∃ ov, s₁.heap.get? vw = some ov ∧ ov.cls = .type "dict_items" ∧ ov.data = .fields #[.ref d]) ∧ (d, od) ∈ news ∧ od.IsDictOf (strKind prog w) kvs ∧ FlatPairs PyData.str kvs (kdpD ct) ∧ ct.length < 1000 ∧
    (∀ s₂ : Shared, DcTurn prog w A h₀ L m env c kx vx a b scope cl s₂ p g news ct) ∧
    ∀ D oD h' tk, Fr h₀ L h' (fun z => if z = y then some (.ref D) else m z) → News h₀ L h' ((D, oD) :: news) → (∀ q ∈ news, q.1 < D) → (D == sysModules) = false → (∃ kvs', oD.IsDictOf (strKind prog w) kvs' ∧ FlatPairs PyData.str kvs' (kdpD (dcF p g ct))) → Q .next { s₁ with heap := h', toks := tk }
theorem dc_assign {c kx vx iter : PySem.Expr} {a b y : Str} {pa pb tp py : Pos} {kk : Nat} {scope : Scope} {cl : List (Str × Addr)} {pos spos : Pos} {Q : Flow → Shared → Prop} (_F₀ : Fr h₀ L s.heap m) (hbig : h₀.NoLimit) (hh : A.handled = none) (hLe : env.locals = L)
    (hsw : swapsWith (.DictComp kx vx [⟨.Tuple [.Name a pa, .Name b pb] kk tp, iter, [c], 0⟩] scope pos) (some (.Name y py)) spos.line env = pure true)
    (hclos : closureFor scope env = pure cl) (hcell : ∀ z ∈ scope.names, z.2 ≠ .cell) (hkind : scope.kind = .function)
    (hnames : ∀ z ∈ scope.names, z.2 = .local → scope.names.lookup z.1 = some .local) (hxa : scope.names.lookup a = some .local) (hxb : scope.names.lookup b = some .local) (hab : ¬ a = b)
    (hy : env.kindOf y = some .local) (hp : (env.scope.kind == .class || (env.scope.kind == .module && env.locals != env.globals)) = false)
    (h : wpAny (model prog w) A (eval iter env) (DcSrc prog w A h₀ L m env c kx vx a b scope cl y Q) E s)
    (hs : ∀ x, foldedSetIterable iter env x = pure x := by intro _; rfl) :
    wpAny (model prog w) A (exec (.Assign [.Name y py] (.DictComp kx vx [⟨.Tuple [.Name a pa, .Name b pb] kk tp, iter, [c], 0⟩] scope pos) spos) env) Q E s := by
  subst hLe
  rw [exec_Assign_Name_used _ _ _ _ hsw]
  refine wpAny_bind (wpAny_standAt (wpAny_bind ?_))
  show wpAny _ A (do let _ ← comprehension (.DictComp kx vx [⟨.Tuple [.Name a pa, .Name b pb] kk tp, iter, [c], 0⟩] scope pos) scope env _ newDict false (eval iter env) (some (assign (.Name y py) env))) _ _ s
  refine wpAny_bind (wpAny_mono (wpAny_comprehension_free (use := some (assign (.Name y py) env)) (Q := fun _ s' => Q .next s') rfl hs hclos hkind hnames
    (wpAny_mono h (fun xv s₁ h₁ => ?_) fun _ _ e => e)) (fun _ s' hq => wpAny_pure (wpAny_pure hq)) fun _ _ e => e)
  obtain ⟨vw, d, od, kvs, ct, p, g, news, rfl, F, N, hv, hmd, hd, hf, hsz, R, fin⟩ := h₁
  obtain ⟨ep, hat⟩ := KdkAt.of hd
  refine wpAny_pyIter_items hv (hat.dictAt (N _ hmd).1) ?_
  refine dc_block (kvs := kvs) (ep := ep) hh hbig (Nat.ne_of_lt (Heap.lt_size (N _ hmd).1)) hsz hat hf (Heap.get?_push_size _ rfl) hmd hcell hkind hxa hxb hab (F.push _)
    (fun p hp => ⟨Heap.get?_push_of_some _ (N p hp).1, (N p hp).2⟩) (Nat.ne_of_lt F.ns.lt) (next_is_new F) (fun p hp => Nat.ne_of_lt (Heap.lt_size (N p hp).1)) (R _) ?_
  intro D C h tk m' oD F' N' l1 lo dt hn hC₀ hD₀ hCL hDL hCD nC
  show wpAny _ A (assign (.Name y py) env (.ref D)) _ _ _
  refine wpAny_assign_Name (wpAny_storeName_local hy F'.ns (fun h₂ hn₂ hs₂ => ?_) hp)
  have hL₀ : h₀.get? env.locals = none := Heap.get?_none_of_le F'.above
  have F₂ : Fr h₀ env.locals h₂ (fun z => if z = y then some (.ref D) else m z) := ⟨hn₂, fun b o e => hs₂.extBut b o (fun q => by rw [q, hL₀] at e; cases e) (F'.keep b o e), F'.above⟩
  refine ⟨m', hn.sameBut hs₂ hCL, fun h'' hs'' => fin D oD h'' _ (F₂.change hs'' hCL hC₀) (fun q hq => ?_) l1 lo dt⟩
  have z : h₂.get? q.1 = some q.2 := hs₂.extBut _ _ (N' q hq).2.1 (N' q hq).1
  refine ⟨hs''.extBut _ _ ?_ z, (N' q hq).2⟩
  rcases List.mem_cons.mp hq with rfl | hq
  · exact Ne.symm hCD
  · exact nC q hq
end

end

-- part M14
theorem calm_M14 : True := by
  w_top off
  trivial
open PySem PySem.W PySem.Spec PySem.Calls PyProof.Rows PyProof.V
local macro_rules | `(tactic| walk_at "pyIter ref") => `(tactic| (refine hold ?_))
local macro_rules | `(tactic| walk_at "call ref") => `(tactic| (k_here; refine hold ?_))
local macro_rules | `(tactic| walk_at "UnrEnd") => `(tactic| (refine hold ?_))
local macro_rules | `(tactic| walk_at "UnrEndW") => `(tactic| (refine hold ?_))
section
open PyProof.Rows
local macro_rules | `(tactic| walk_at "calm") => `(tactic| fail "calm")
open PySem PySem.W PySem.Spec PySem.Calls PyProof.Rows PyProof.V
set_option maxRecDepth 100000
theorem warm14 : (fun (_ : OpenLaw) (_ : Params → Frag) => True) PySem.Challenge.rw_pm0059_01 Mine.hd.heap_39 := by
  k_fill
  trivial

def digN (x : Str) : Nat := if x = Str.ofString "1" then 1 else if x = Str.ofString "2" then 2 else if x = Str.ofString "3" then 3 else if x = Str.ofString "4" then 4 else if x = Str.ofString "5" then 5 else if x = Str.ofString "6" then 6 else if x = Str.ofString "7" then 7 else if x = Str.ofString "8" then 8 else if x = Str.ofString "9" then 9 else 0
theorem digN_lt {x : Str} (h : x ∈ D10) : digN x < 10 := by
  simp only [D10, List.mem_cons, List.not_mem_nil, or_false] at h
  rcases h with rfl | rfl | rfl | rfl | rfl | rfl | rfl | rfl | rfl | rfl <;> decide +kernel
theorem call_digit {prog : Program} {w : World} {A : Around} {E : Value → Shared → Prop} {s : Shared} {x : Str} {t : Tok} {Q : Value → Shared → Prop} (hx : x ∈ D10) (h : Q (.int (digN x : Nat) s.toks) { s with toks := s.toks + 1 }) : wpAny (model prog w) A (call (.type "int") [.str x t]) Q E s := by
  refine KIN.call_text (n := (digN x : Nat)) ?_ ?_ h
  · simp only [D10, List.mem_cons, List.not_mem_nil, or_false] at hx
    rcases hx with rfl | rfl | rfl | rfl | rfl | rfl | rfl | rfl | rfl | rfl <;> decide +kernel
  · simp only [D10, List.mem_cons, List.not_mem_nil, or_false] at hx
    rcases hx with rfl | rfl | rfl | rfl | rfl | rfl | rfl | rfl | rfl | rfl <;> decide +kernel
def L4 : List Str := [Str.ofString "a", Str.ofString "b", Str.ofString "c", Str.ofString "d"]
theorem upper4 {c : Str} (h : c ∈ L4) : Txt.upper c ∈ L8 := by
  simp only [L4, List.mem_cons, List.not_mem_nil, or_false] at h
  rcases h with rfl | rfl | rfl | rfl <;> decide +kernel
theorem len4 {c : Str} (h : c ∈ L4) : c.length = 1 := by
  simp only [L4, List.mem_cons, List.not_mem_nil, or_false] at h
  rcases h with rfl | rfl | rfl | rfl <;> decide +kernel
theorem DT.mono {w : World} {news news' : List (Addr × Obj)} {t : Addr} {c : List (Str × Int)} (h : DT w news t c) (s : ∀ p ∈ news, p ∈ news') : DT w news' t c := by
  obtain ⟨lo, o, kvs, hm, r⟩ := h
  exact ⟨lo, o, kvs, s _ hm, r⟩
theorem puts_len (tb : List (Str × Int)) : ∀ c : List (Str × Int), (tb.foldl (fun c p => kdpPut c p.1 p.2) c).length ≤ c.length + tb.length := by
  induction tb with
  | nil => intro c; exact Nat.le_refl _
  | cons q l ih =>
    intro c
    rw [List.foldl_cons, List.length_cons]
    refine Nat.le_trans (ih _) ?_
    have := kdpPut_len c q.1 q.2
    omega
theorem addC_len (tb cu : List (Str × Int)) : (addC tb cu).length ≤ tb.length + cu.length := by
  have key : ∀ (cu c : List (Str × Int)), (cu.foldl upd1 c).length ≤ c.length + cu.length := by
    intro cu
    induction cu with
    | nil => intro c; exact Nat.le_refl _
    | cons q l ih =>
      intro c
      rw [List.foldl_cons, List.length_cons]
      refine Nat.le_trans (ih _) ?_
      unfold upd1
      have := kdpPut_len c q.1 (if kdpHas c q.1 = true then kdpLook c q.1 0 + q.2 else q.2)
      omega
  unfold addC
  refine Nat.le_trans (key _ _) ?_
  have := puts_len tb []
  rw [List.length_nil] at this
  omega
def tabStep (ns : List Int) (tb : List (Str × Int)) (x : Str) : List (Str × Int) := addC tb [(e5 (ns.getD (digN x) 0), 2 * ns.getD (digN x) 0 + 1)]
def tabC (ns : List Int) (xs : List Str) : List (Str × Int) := xs.foldl (tabStep ns) []
def textsOf (H : List (Str × Str)) (name : Str) : List Str := (H.filter fun e => decide (lowS e.1 = lowS name)).map (·.2)
def notR (x : Str) : Bool := !decide (x = Str.ofString "r")
def rowC (ns : List Int) (H : List (Str × Str)) (c : Str) : List (Str × Int) :=
  addC [(c, ((tabC ns (textsOf H (Txt.upper c))).map (·.2)).sum)] (dcF notR (fun i => -i) (tabC ns (textsOf H (Txt.upper c))))
local macro_rules | `(tactic| walk_at "call type:int") => `(tactic| (k_here; refine' call_digit ?hx1 ?_; (case hx1 => assumption); (try dsimp only)))
local macro_rules | `(tactic| walk_at "exec Assign cons DictComp") => `(tactic| (k_here; refine hold ?_))
local macro_rules | `(tactic| walk_at "eval Dict") => `(tactic| (k_here; k_dflt (refine' kdn_eval (knd := PySem.strKind _ _) ?F ?N ?b ?a ?l ?e ?n ?_; (case e => exact List.cons_ne_nil _ _); (case F => k_asm); (case N => first | k_asm | exact News.nil); (case b => exact Top.nolimit (by k_asm)); (case a => rfl); (case l => rfl); (case n => exact Nat.le_of_ble_eq_true rfl)); intro d' h' o' F' N' l1 lo' hd'; (try k_lt l1)))
local macro_rules | `(tactic| walk_at "DcSrc") => `(tactic| (refine hold ?_))
local macro_rules | `(tactic| walk_at "DcEnd") => `(tactic| (refine hold ?_))
section
variable {w : World} {mean : ExcName → Option Value} {mg mb : Str → Option Value} {dp un : Nat} {gd : Option (List Code)} {cn : Str} {cs : Scope} {a : Addr} {ccd : Value} {cl : List (Str × Addr)} {outer : List Env} {A₀ : Around} {base h₀ : Heap} {L : Addr} {m : Str → Option Value} {s : Shared} {Q E : Value → Shared → Prop} {news : List (Addr × Obj)}


set_option maxHeartbeats 8000000 in
theorem row_ct {x dx hl nl : Addr} {tkH : Tok} {hvs : List Value} {nh : Nat} {H : List (Str × Str)} {vs : List Value} {nn : Nat} {ns : List Int} {cr : Str} {t : Tok}
    (B : Below A₀ base outer h₀) (F : Fr h₀ L s.heap m) (X : (Mine.hd.heap_39 w.params).In h₀) (N : News h₀ L s.heap news) (T : Top Mine.hd.view_39 loose0 mean mg mb h₀) (hk : cs.kind = .function)
    (hd : dp + 9 < recursionLimit) (hu : un + 120 < cLine)
    (hx : (x, instObj 207 dx) ∈ news) (hdx : (dx, HD w hl tkH) ∈ news) (hhl : (hl, listOf hvs.toArray nh) ∈ news) (hH : HIn news hvs H) (hok : ∀ e ∈ H, e.1 ∈ L8) (hdig : ∀ e ∈ H, e.2 ∈ D10) (hlH : H.length < 100)
    (hnl : (nl, listOf vs.toArray nn) ∈ news) (hns : IntsAre vs ns) (hlen : ns.length = 10) (hcr : cr ∈ L4)
    (ret : ∀ (d : Addr) (o : Obj) (h' : Heap) (tk' : Nat), Fr h₀ L h' m → News h₀ L h' ((d, o) :: news) → (∀ p ∈ news, p.1 < d) → DT w [(d, o)] d (rowC ns H cr) → Q (.ref d) { s with heap := h', toks := tk' }) :
    wpAny (model P0 w) (ktrTop dp un gd cn cs L a ccd cl outer) (call (.ref 221) [.ref x, .ref nl, .str cr t]) Q E s := by
  have hc1 := len4 hcr
  have hup := upper4 hcr
  refine wpAny_call ?_
  k_dflt (walk_at "enter")
  k_steps
  rename_i g1 L1 h1 FG B1 X1 T1 d0 h2 o0 l0 lo0 hs0 fs0 hi0 fi0 h3 F1 N1 hul
  clear hi0 fi0
  refine unhold ?_
  k_dflt (refine' get_all_ct (H := H) (name := Txt.upper cr) B1 F1 X1 N1 T1 ?hk1 ?hd1 ?hu1 ?hx1 ?hdx1 ?hhl1 ?hH1 hup hok ?hlH1 ?_)
  case hk1 => first | exact rfl | assumption
  case hd1 => k_dflt ktr_room
  case hu1 => k_dflt ktr_units
  case hx1 => k_mem
  case hdx1 => k_mem
  case hhl1 => k_mem
  case hH1 => exact hH.mono fun p hp => List.mem_cons_of_mem _ hp
  case hlH1 => omega
  intro gl ys n4 h4 tk4 F2 N2 ne2 hys
  refine iter_listTurns (vs := ys) rfl F2 N2 (List.Mem.head _) rfl rfl ?_
  intro I hI
  have hI0 := ltN (hI _ (List.Mem.head _))
  have hI1 := ltN (hI (d0, o0) (by k_mem))
  have hI2 : ∀ p ∈ news, p.1 < I := fun p hp => hI p (by k_mem)
  have hgd := neN (ne2 (d0, o0) (List.Mem.head _))
  have hgn : ∀ p ∈ news, p.1 ≠ gl := fun p hp => ne2 p (List.Mem.tail _ hp)
  clear hI ne2 F1 N1
  have hxs : ∀ x ∈ textsOf H (Txt.upper cr), x ∈ D10 := by
    intro x hx
    obtain ⟨e, he, rfl⟩ := List.mem_map.mp hx
    exact hdig e (List.mem_filter.mp he).1
  have hlx : (textsOf H (Txt.upper cr)).length < 100 := by
    unfold textsOf
    rw [List.length_map]
    exact Nat.lt_of_le_of_lt (List.length_filter_le _ _) hlH
  change SIn ys (textsOf H (Txt.upper cr)) at hys
  unfold rowC at ret
  generalize textsOf H (Txt.upper cr) = xs at hys hxs hlx ret
  generalize hm : (fun y => if y = Str.ofString "table" then some (Value.ref d0) else _) = m1 at F2 ⊢
  have e1 : Kn m1 [(Str.ofString "table", .ref d0), (Str.ofString "numbers", .ref nl), (Str.ofString "caller", .str cr t)] := by rw [← hm]; exact ⟨rfl, rfl, rfl, trivial⟩
  have hgm : (gl, W.listOf ys.toArray n4) ∈ (gl, W.listOf ys.toArray n4) :: (d0, o0) :: news := List.Mem.head _
  have hsub : ∀ p ∈ news, p ∈ (gl, W.listOf ys.toArray n4) :: (d0, o0) :: news := fun p hp => by k_mem
  have hdt : DT w ((gl, W.listOf ys.toArray n4) :: (d0, o0) :: news) d0 [] := ⟨lo0, o0, [], by k_mem, hs0, fs0⟩
  have hnI : ∀ p ∈ (gl, W.listOf ys.toArray n4) :: (d0, o0) :: news, p.1 ≠ I := by
    intro p hp
    rcases List.mem_cons.mp hp with rfl | hp
    · exact Nat.ne_of_lt hI0
    rcases List.mem_cons.mp hp with rfl | hp
    · exact Nat.ne_of_lt hI1
    · exact Nat.ne_of_lt (hI2 p hp)
  have hkeep : SubL [(gl, W.listOf ys.toArray n4)] [(gl, W.listOf ys.toArray n4)] := ⟨List.Mem.head _, trivial⟩
  generalize hkp : (gl, W.listOf ys.toArray n4) = kp at hgm hsub hdt hnI hkeep F2 N2 ⊢
  generalize kp :: (d0, o0) :: news = led at hgm hsub hdt hnI N2 ⊢
  clear hm hkp hI0 hI1 hI2 hgd hgn lo0 hs0 fs0 hlH hdig hH hok hdx hx hhl hkeep F2 N2
  generalize htb : ([] : List (Str × Int)) = tb at hdt
  generalize hTB : tabC ns xs = TB at ret
  have hTB2 : xs.foldl (tabStep ns) tb = TB := by rw [← htb]; exact hTB
  have hsz : tb.length + xs.length < 100 := by rw [← htb]; simpa using hlx
  clear htb hTB hlx l0
  induction hys generalizing m1 d0 led tb with
  | nil =>
    refine ItemsRest.zero ?_
    intro h tk lF3 lN3
    have lF4 := frKn lF3 e1
    clear lF3 e1
    replace hTB2 : tb = TB := hTB2
    subst hTB2
    obtain ⟨lot, ot, kt, ht, hkt, hft⟩ := hdt
    k_steps
    refine unhold ?_
    with_unfolding_all refine dc_assign (cl := []) lF4 (Top.nolimit T1) rfl (by rfl) (by with_unfolding_all rfl) ?clos3 ?cell3 ?kind3 ?names3 ?xa3 ?xb3 (by decide +kernel) (by rfl) (by rfl) ?_
    case clos3 => rfl
    case cell3 => decide
    case kind3 => rfl
    case names3 => decide
    case xa3 => rfl
    case xb3 => rfl
    k_steps
    refine unhold ?_
    rename_i D5 h5 F5 N5 l5
    refine ⟨D5, d0, ot, kt, tb, notR, (fun i => -i), _ :: led, rfl, F5, N5, ⟨_, (N5 _ (List.Mem.head _)).1, rfl, rfl⟩, List.Mem.tail _ ht, hkt, hft, by omega, ?turn, ?fin⟩
    case turn =>
      intro s₂ x i t₂ u I2 oI2 C oC Dn oD m₂ h2 tk2 E' hmem hoC ha hb F6 N6 off6 ne6
      k_steps
      · exact unhold ⟨_, _, rfl, F6, N6⟩
      · exact unhold ⟨_, _, rfl, F6, N6⟩
    case fin =>
      rintro D oD h' tk' F7 N7 l7 lo7 ⟨kv, hkv, hfv⟩
      have F8 := frKn (l := [(Str.ofString "less", .ref D), (Str.ofString "table", .ref d0), (Str.ofString "caller", .str cr t)]) F7 ⟨rfl, rfl, rfl, trivial⟩
      clear F7 F5 lF4 N5 lN3
      k_steps
      refine unhold ?_
      rename_i d6 h6 o6 F6 N6 lo6 hd6 l6
      obtain ⟨l6a, l6b, l6c⟩ := l6
      k_dflt (refine' count_calls_ct (ct := tb) B1 F6 X1 N6 T1 ?hk4 ?hd4 ?hu4 ?Dt4 ?_)
      case hk4 => first | exact rfl | assumption
      case hd4 => k_dflt ktr_room
      case hu4 => k_dflt ktr_units
      case Dt4 => exact ⟨lot, ot, kt, by k_mem, hkt, hft⟩
      intro tkS h9 tk9 F9 N9
      clear F6 N6
      k_steps
      refine unhold ?_
      rename_i h10 o10 F10 N10 hd10 hf10
      have hsz1 : tb.length < 100 := by simpa using hsz
      k_dflt (refine' add_callers_ct (ct := [(cr, (tb.map (·.2)).sum)]) (cu := dcF notR (fun i => -i) tb) B1 F10 X1 N10 T1 ?hk5 ?hd5 ?hu5 ?Dt5 ?Du5 ?hlt5 ?hlu5 ?_)
      case hk5 => first | exact rfl | assumption
      case hd5 => k_dflt ktr_room
      case hu5 => k_dflt ktr_units
      case Dt5 => exact ⟨lo6, o10, _, List.Mem.head _, hd10, hf10⟩
      case Du5 => exact ⟨lo7, oD, kv, List.Mem.tail _ (List.Mem.head _), hkv, hfv⟩
      case hlt5 => show 1 < 1000; decide
      case hlu5 => exact Nat.lt_of_le_of_lt (dcF_len _ _ _) (by omega)
      intro d11 o11 h11 tk11 F11 N11 l11 dt11
      k_steps
      rename_i kF kN _ _
      refine ret d11 o11 _ _ kF (fun p hp => kN p (by
        rcases List.mem_cons.mp hp with rfl | hp
        · exact List.Mem.head _
        · have hp' := hsub p hp
          k_mem)) (fun p hp => l11 p (by have hp' := hsub p hp; k_mem)) dt11
  | cons hr ih =>
    rename_i y ty ys' xs'
    have hy10 := hxs y (List.Mem.head _)
    have hy := digN_lt hy10
    have hnl' := hsub _ hnl
    refine ItemsRest.val ?_
    intro h tk lF3
    refine AllObj.cons ?_
    intro oi hoi
    refine AllObj.nil ?_
    intro lN3
    have lF4 := frKn lF3 e1
    clear lF3
    simp only [List.cons_append, List.nil_append] at lN3
    k_steps
    refine unhold ?_
    rename_i F5 N5 d1 h6 o5 F6 N6 lo1 hd5 l6 kxiE h7 o6 F7 N7 hd6 hf6
    have hNum : (ns.getD ((digN y : Nat) : Int).toNat 0) = ns.getD (digN y) 0 := by rw [Int.toNat_natCast]
    rw [hNum] at F5 F6 F7 hd6 hf6 kxiE
    have hl2 : tb.length < 1000 := by rw [List.length_cons] at hsz; omega
    k_dflt (refine' add_callers_ct (ct := tb) (cu := [(e5 (ns.getD (digN y) 0), 2 * ns.getD (digN y) 0 + 1)]) B1 F7 X1 N7 T1 ?hk2 ?hd2 ?hu2 ?Dt2 ?Du2 hl2 ?hlu2 ?_)
    case hk2 => first | exact rfl | assumption
    case hd2 => k_dflt ktr_room
    case hu2 => k_dflt ktr_units
    case Dt2 => exact hdt.mono fun p hp => List.mem_cons_of_mem _ (List.mem_cons_of_mem _ hp)
    case Du2 => exact ⟨lo1, o6, _, List.Mem.head _, hd6, hf6⟩
    case hlu2 => show 1 < 1000; decide
    intro d2 o2 h8 tk8 F8 N8 l8 hdt8
    have hd2I := ltN (l8 (I, oi) (by k_mem))
    k_steps
    refine unhold ?_
    rename_i h9 F9 N9
    refine ⟨_, _, _, (d2, o2) :: led, rfl, F9, fun p hp => N9 p (by
      rcases List.mem_cons.mp hp with rfl | hp
      · k_mem
      rcases List.mem_cons.mp hp with rfl | hp <;> k_mem), ?_, ⟨List.mem_cons_of_mem _ hgm, trivial⟩, ?_⟩
    · intro p hp q hq
      rw [List.mem_singleton.mp hq]
      rcases List.mem_cons.mp hp with rfl | hp
      · exact Nat.ne_of_gt hd2I
      · exact hnI p hp
    · refine ih d2 (fun x hx => hxs x (List.Mem.tail _ hx)) _ ⟨rfl, rfl, rfl, trivial⟩ _ (List.mem_cons_of_mem _ hgm) (fun p hp => List.mem_cons_of_mem _ (hsub p hp)) ?_ _ (hdt8.mono fun p hp => by rw [List.mem_singleton.mp hp]; exact List.Mem.head _) hTB2 ?_
      · intro p hp
        rcases List.mem_cons.mp hp with rfl | hp
        · exact Nat.ne_of_gt hd2I
        · exact hnI p hp
      · have e := addC_len tb [(e5 (ns.getD (digN y) 0), 2 * ns.getD (digN y) 0 + 1)]
        rw [List.length_singleton] at e
        rw [List.length_cons] at hsz
        omega
end

end

-- part M15
theorem calm_M15 : True := by
  w_top off
  trivial
section
open PySem PySem.W PySem.Spec PySem.Calls PyProof.Rows PyProof.V
set_option maxRecDepth 100000
theorem warm15 : (fun (_ : OpenLaw) (_ : Params → Frag) => True) PySem.Challenge.rw_pm0059_01 Mine.hd.heap_39 := by
  k_fill
  trivial
abbrev itv (t : Addr) : Obj := { cls := .type "dict_items", data := .fields #[.ref t] }
def insL (x y : Str) : Str := Txt.slice x none (some (bsL x y 10 0 x.length)) ++ y ++ Txt.slice x (some (bsL x y 10 0 x.length)) none
def timStep (p q : Str × Int) (af : List (Str × Int)) : List (Str × Int) :=
  if bsL p.1 q.1 10 0 p.1.length = bsR p.1 q.1 10 0 p.1.length then addC af [(insL p.1 q.1, p.2 * q.2 * (-1) ^ ((p.1.length : Int) - bsL p.1 q.1 10 0 p.1.length).toNat)] else af
def timRow (cu : List (Str × Int)) (p : Str × Int) (af : List (Str × Int)) : List (Str × Int) := cu.foldl (fun af q => timStep p q af) af
def timesC (ct cu : List (Str × Int)) : List (Str × Int) := ct.foldl (fun af p => timRow cu p af) []
theorem bsL_range (x y : Str) : ∀ (n : Nat) (lo hi : Int), lo ≤ hi → lo ≤ bsL x y n lo hi ∧ bsL x y n lo hi ≤ hi := by
  intro n
  induction n with
  | zero => intro lo hi h; exact ⟨Int.le_refl _, h⟩
  | succ n ih =>
    intro lo hi h
    show lo ≤ (if lo < hi then _ else lo) ∧ (if lo < hi then _ else lo) ≤ hi
    have e : (lo + hi).fdiv 2 = (lo + hi) / 2 := by rw [Int.fdiv_eq_ediv_of_nonneg _ (by decide)]
    rw [e]
    split
    · split
      · have := ih ((lo + hi) / 2 + 1) hi (by omega)
        omega
      · have := ih lo ((lo + hi) / 2) (by omega)
        omega
    · omega
local macro_rules | `(tactic| walk_at "exec For Tuple Call cons nil") => `(tactic| (k_here; (rename Fr _ _ _ _ => lF'); with_unfolding_all refine For_turns lF' ?_))
local macro_rules | `(tactic| walk_at "exec For Tuple") => `(tactic| (k_here; (rename Fr _ _ _ _ => lF'); with_unfolding_all refine For_turns lF' ?_))
local macro_rules | `(tactic| walk_at "binaryOp Mult int int") => `(tactic| (k_here; refine' mul_int (hm := ?hm1) ?_; (case hm1 => assumption)))
local macro_rules | `(tactic| walk_at "eval Dict") => `(tactic| (k_here; k_dflt (refine' kdn_eval (knd := PySem.strKind _ _) ?F ?N ?b ?a ?l ?e ?n ?_; (case e => exact List.cons_ne_nil _ _); (case F => k_asm); (case N => first | k_asm | exact News.nil); (case b => exact Top.nolimit (by k_asm)); (case a => rfl); (case l => rfl); (case n => exact Nat.le_of_ble_eq_true rfl)); intro d' h' o' F' N' l1 lo' hd'; (try k_lt l1)))
section
variable {w : World} {mean : ExcName → Option Value} {mg mb : Str → Option Value} {dp un : Nat} {gd : Option (List Code)} {cn : Str} {cs : Scope} {a : Addr} {ccd : Value} {cl : List (Str × Addr)} {outer : List Env} {A₀ : Around} {base h₀ : Heap} {L : Addr} {m : Str → Option Value} {s : Shared} {Q E : Value → Shared → Prop} {news : List (Addr × Obj)}


set_option maxHeartbeats 8000000 in
theorem times_ct {t u : Addr} {ct cu : List (Str × Int)}
    (B : Below A₀ base outer h₀) (F : Fr h₀ L s.heap m) (X : (Mine.hd.heap_39 w.params).In h₀) (N : News h₀ L s.heap news) (T : Top Mine.hd.view_39 loose0 mean mg mb h₀) (hk : cs.kind = .function)
    (hd : dp + 3 < recursionLimit) (hu : un + 30 < cLine)
    (Dt : DT w news t ct) (Du : DT w news u cu) (hlt : ct.length * cu.length < 900) (hlu : cu.length < 1000) (hlt2 : ct.length < 1000) (hlen : ∀ p ∈ ct, p.1.length < 10) (hlen2 : ∀ q ∈ cu, q.1.length = 1) (hmul : ∀ p ∈ ct, ∀ q ∈ cu, IntMulOk p.2 q.2)
    (ret : ∀ (d : Addr) (o : Obj) (h' : Heap) (tk' : Nat), Fr h₀ L h' m → News h₀ L h' ((d, o) :: news) → (∀ p ∈ news, p.1 < d) → DT w [(d, o)] d (timesC ct cu) → Q (.ref d) { s with heap := h', toks := tk' }) :
    wpAny (model P0 w) (ktrTop dp un gd cn cs L a ccd cl outer) (call (.ref 228) [.ref t, .ref u]) Q E s := by
  obtain ⟨lot, ot, kt, ht, hkt, hft⟩ := Dt
  obtain ⟨lou, ou, ku, huM, hku, hfu⟩ := Du
  refine wpAny_call ?_
  k_dflt (walk_at "enter")
  k_steps
  refine unhold ?_
  rename_i g0 L0 h1 FG B1 X1 T1 d0 h2 o0 l0 lo0 hs0 fs0 hi0 fi0 h3 F1 N1 D0 h4 F2 N2 l2
  clear hi0 fi0 F1 N1
  refine kti_items (knd := PySem.strKind _ _) (enc := PyData.str) (d := t) (hh := rfl) F2 N2 ⟨_, (N2 _ (List.Mem.head _)).1, rfl, rfl⟩ (TabAt.ofNews N2 (by k_mem) lot hkt hft) (by k_mem) ?_ rfl ?_
  · intro k v hv
    obtain ⟨t, rfl⟩ := Value.isStrOf_shape hv
    exact ⟨t, rfl⟩
  intro I hI
  unfold kdpD
  rw [List.map_map]
  generalize hm : (fun y => if y = Str.ofString "after" then some (Value.ref d0) else _) = m1 at F2 ⊢
  have e1 : Kn m1 [(Str.ofString "after", .ref d0), (Str.ofString "row", .ref u)] := by rw [← hm]; exact ⟨rfl, rfl, trivial⟩
  have hnI : ∀ p ∈ (D0, itv t) :: (d0, o0) :: news, p.1 ≠ I := fun p hp => Nat.ne_of_lt (hI p hp)
  have hsub : ∀ p ∈ news, p ∈ (D0, itv t) :: (d0, o0) :: news := fun p hp => by k_mem
  have hdt : DT w ((D0, itv t) :: (d0, o0) :: news) d0 [] := ⟨lo0, o0, [], by k_mem, hs0, fs0⟩
  have hd0 : ∀ p ∈ news, p.1 < d0 := l0
  generalize (D0, itv t) :: (d0, o0) :: news = led at hsub hdt hnI N2 ⊢
  clear hm hI lo0 hs0 fs0 l2 l0 F2 N2
  generalize haf : ([] : List (Str × Int)) = af at hdt
  unfold timesC at ret
  rw [haf] at ret
  generalize hAF : ct.foldl (fun af p => timRow cu p af) af = AF at ret
  have hsz : af.length + ct.length * cu.length < 900 := by rw [← haf]; simpa using hlt
  clear haf
  generalize hcz : ct = cz at hAF hsz ⊢
  have hcst : ∀ p ∈ cz, p ∈ ct := by rw [hcz]; exact fun _ h => h
  clear hcz
  induction cz generalizing m1 d0 led af with
  | nil =>
    refine ItemsRest.zero ?_
    intro h tk lF3 lN3
    have lF4 := frKn lF3 e1
    clear lF3 e1
    replace hAF : af = AF := hAF
    subst hAF
    obtain ⟨loa, oa, ka, ha, hka, hfa⟩ := hdt
    k_steps
    rename_i kF kN _ _
    exact ret d0 oa _ _ kF (fun p hp => kN p (by
      rcases List.mem_cons.mp hp with rfl | hp
      · exact ha
      · exact hsub p hp)) hd0 ⟨loa, oa, ka, List.Mem.head _, hka, hfa⟩
  | cons p r ih =>
    obtain ⟨x, i⟩ := p
    have hp := hcst _ (List.Mem.head _)
    have hx10 := hlen _ hp
    dsimp only at hx10
    refine ItemsRest.pairF ?_
    intro TT tt xx h tk hfl htup lF3
    dsimp only [Function.comp, kyVal] at hfl htup
    obtain ⟨ti, rfl⟩ := PyProof.V.Flat.int_inv hfl
    refine AllObj.cons ?_
    intro oi hoi
    refine AllObj.nil ?_
    intro lN3
    have lF4 := frKn lF3 e1
    clear lF3
    simp only [List.cons_append, List.nil_append] at lN3
    have huled := hsub _ huM
    k_steps
    refine unhold ?_
    rename_i hA FA NA D5 h5 F5 N5 l5
    have hIled := hnI
    refine kti_items (knd := PySem.strKind _ _) (enc := PyData.str) (d := u) (hh := rfl) F5 N5 ⟨_, (N5 _ (List.Mem.head _)).1, rfl, rfl⟩ (TabAt.ofNews N5 (by k_mem) lou hku hfu) (by k_mem) ?_ rfl ?_
    · intro k v hv
      obtain ⟨t, rfl⟩ := Value.isStrOf_shape hv
      exact ⟨t, rfl⟩
    intro J hJ
    unfold kdpD
    rw [List.map_map]
    have hD5I := ltN l5.1
    have e3 : Kn (fun y => if y = Str.ofString "number" then some (Value.int i ti) else if y = Str.ofString "letters" then some (Value.str x tt) else kn m1 [(Str.ofString "after", Value.ref d0), (Str.ofString "row", Value.ref u)] y) [(Str.ofString "after", .ref d0), (Str.ofString "row", .ref u), (Str.ofString "letters", .str x tt), (Str.ofString "number", .int i ti)] := ⟨rfl, rfl, rfl, rfl, trivial⟩
    generalize (fun y => if y = Str.ofString "number" then some (Value.int i ti) else if y = Str.ofString "letters" then some (Value.str x tt) else kn m1 [(Str.ofString "after", Value.ref d0), (Str.ofString "row", Value.ref u)] y) = m3 at e3 F5 ⊢
    clear e1
    have hd0I : d0 ≠ I := by
      obtain ⟨_, _, _, hm, _⟩ := hdt
      exact hnI _ hm
    rw [List.foldl_cons] at hAF
    generalize hAF1 : timRow cu (x, i) af = AF1 at hAF
    unfold timRow at hAF1
    obtain ⟨K, hK1, hK2⟩ : ∃ K, af.length + cu.length ≤ K ∧ K + r.length * cu.length < 900 := by
      rw [List.length_cons, Nat.succ_mul] at hsz
      exact ⟨_, Nat.le_refl _, by omega⟩
    have hI2 : (I, oi) ∈ (D5, itv u) :: (I, oi) :: led := List.Mem.tail _ (List.Mem.head _)
    have hsub2 : ∀ p ∈ led, p ∈ (D5, itv u) :: (I, oi) :: led := fun p hp => by k_mem
    have hnJ : ∀ p ∈ (D5, itv u) :: (I, oi) :: led, p.1 ≠ J := fun p hp => Nat.ne_of_lt (hJ p hp)
    have hdt2 : DT w ((D5, itv u) :: (I, oi) :: led) d0 af := hdt.mono hsub2
    clear hdt hsz FA NA hJ hD5I l5 htup hfl
    change ItemsRest _ _ _ _ _ _ _ _ _ _ _ _ _ _ ((D5, itv u) :: (I, oi) :: led)
    generalize (D5, itv u) :: (I, oi) :: led = led2 at hI2 hsub2 hnJ hdt2 N5 ⊢
    clear N5 F5
    rename Fr g0 _ _ (kn m1 _) => FX
    clear FX
    generalize hcy : cu = cy at hAF1 hK1 ⊢
    have hcyt : ∀ q ∈ cy, q ∈ cu := by rw [hcy]; exact fun _ h => h
    clear hcy
    induction cy generalizing m3 d0 led2 af with
    | nil =>
      refine ItemsRest.zero ?_
      intro h tk lF5 lN5
      have lF6 := frKn lF5 e3
      clear lF5
      replace hAF1 : af = AF1 := hAF1
      subst hAF1
      k_steps
      refine unhold ?_
      obtain ⟨loa, oa, ka, ha, hka, hfa⟩ := hdt2
      refine ⟨_, _, _, (d0, oa) :: led, rfl, lF6, fun p hp => lN5 p (by
        rcases List.mem_cons.mp hp with rfl | hp
        · exact hI2
        rcases List.mem_cons.mp hp with rfl | hp
        · exact ha
        · exact hsub2 p hp), ?_, ⟨List.Mem.tail _ (hsub _ ht), trivial⟩, ?_⟩
      · intro p hp q hq
        rw [List.mem_singleton.mp hq]
        rcases List.mem_cons.mp hp with rfl | hp
        · exact hd0I
        · exact hnI p hp
      · refine ih d0 _ ⟨rfl, rfl, trivial⟩ hd0 _ (fun p hp => List.mem_cons_of_mem _ (hsub p hp)) ?_ _ ⟨loa, oa, ka, List.Mem.head _, hka, hfa⟩ hAF (by simp only [List.length_nil] at hK1; omega) (fun q hq => hcst q (List.Mem.tail _ hq))
        intro p hp
        rcases List.mem_cons.mp hp with rfl | hp
        · exact hd0I
        · exact hnI p hp
    | cons q r2 ih2 =>
      obtain ⟨y, e⟩ := q
      have hq := hcyt _ (List.Mem.head _)
      have hy1 := hlen2 _ hq
      dsimp only at hy1
      have hm1 := hmul _ hp _ hq
      dsimp only at hm1
      refine ItemsRest.pairF ?_
      intro TT2 ty yy h tk hfl htup lF3
      dsimp only [Function.comp, kyVal] at hfl htup
      obtain ⟨te, rfl⟩ := PyProof.V.Flat.int_inv hfl
      refine AllObj.cons ?_
      intro oj hoj
      refine AllObj.nil ?_
      intro lN3
      have lF4 := frKn lF3 e3
      clear lF3
      simp only [List.cons_append, List.nil_append] at lN3
      k_steps
      refine unhold ?_
      rename_i h6 F6 N6
      obtain ⟨hb0, hb1⟩ := bsL_range x y 10 0 x.length (Int.natCast_nonneg _)
      k_dflt (refine' bisect_left_ct B1 F6 X1 N6 T1 ?hk3 ?hd3 ?hu3 hx10 ?_)
      case hk3 => first | exact rfl | assumption
      case hd3 => k_dflt ktr_room
      case hu3 => k_dflt ktr_units
      intro tkp h7 tk7 F7 N7
      k_steps
      refine unhold ?_
      rename Fr _ _ _ _ => F8
      rename News _ _ _ _ => N8
      k_dflt (refine' bisect_right_ct B1 F8 X1 N8 T1 ?hk4 ?hd4 ?hu4 hx10 ?_)
      case hk4 => first | exact rfl | assumption
      case hd4 => k_dflt ktr_room
      case hu4 => k_dflt ktr_units
      intro tkq h9 tk9 F9 N9
      try clear F6
      try clear N6
      try clear F7
      try clear N7
      try clear F8
      try clear N8
      have hpl : (0 : Int) ≤ (x.length : Int) - bsL x y 10 0 x.length := by omega
      have hpl2 : (x.length : Int) - bsL x y 10 0 x.length ≤ 1000000 := by omega
      have hm2 : IntMulOk (i * e) ((-1) ^ ((x.length : Int) - bsL x y 10 0 x.length).toNat) := by
        refine IntMulOk.of_right ?_
        refine intBits_le_iff.mpr ?_
        rw [Int.natAbs_pow]
        show 1 ^ _ < _
        rw [Nat.one_pow]
        decide
      k_steps
      · refine unhold ?_
        rename_i h6 o6 F6 N6 hd6 hf6
        rename (_ == sysModules) = false => lo6
        rename And _ (AllLt _ led2) => l6
        obtain ⟨l6a, l6b⟩ := l6
        rename bsL x y 10 0 _ = bsR _ _ _ _ _ => hbb
        have hlaf : af.length < 1000 := by rw [List.length_cons] at hK1; omega
        k_dflt (refine' add_callers_ct (ct := af) (cu := [(insL x y, i * e * (-1) ^ ((x.length : Int) - bsL x y 10 0 x.length).toNat)]) B1 F6 X1 N6 T1 ?hk5 ?hd5 ?hu5 ?Dt5 ?Du5 hlaf ?hlu5 ?_)
        case hk5 => first | exact rfl | assumption
        case hd5 => k_dflt ktr_room
        case hu5 => k_dflt ktr_units
        case Dt5 => exact hdt2.mono fun p hp => List.mem_cons_of_mem _ (List.mem_cons_of_mem _ hp)
        case Du5 => exact ⟨lo6, o6, _, List.Mem.head _, hd6, hf6⟩
        case hlu5 => show 1 < 1000; decide
        intro d2 o2 h8 tk8 F8 N8 l8 hdt8
        have hd2J := ltN (l8 (J, oj) (by k_mem))
        have hd2I := ltN (l8 (I, oi) (by k_mem))
        have hd2n : ∀ p ∈ news, p.1 < d2 := fun p hp => l8 p (by have := hsub2 p (hsub p hp); k_mem)
        k_steps
        refine unhold ?_
        rename Fr _ _ _ _ => FZ
        rename News _ _ _ _ => NZ
        refine ⟨_, _, _, (d2, o2) :: led2, rfl, FZ, fun p hp => NZ p (by
          rcases List.mem_cons.mp hp with rfl | hp
          · k_mem
          rcases List.mem_cons.mp hp with rfl | hp <;> k_mem), ?_, ⟨List.Mem.tail _ (hsub2 _ huled), trivial⟩, ?_⟩
        · intro p hp q hq
          rw [List.mem_singleton.mp hq]
          rcases List.mem_cons.mp hp with rfl | hp
          · exact Nat.ne_of_gt hd2J
          · exact hnJ p hp
        · refine ih2 d2 hd2n _ _ ⟨rfl, rfl, rfl, rfl, trivial⟩ (Nat.ne_of_gt hd2I) _ (List.Mem.tail _ hI2) (fun p hp => List.Mem.tail _ (hsub2 p hp)) ?_ (hdt8.mono fun p hp => by rw [List.mem_singleton.mp hp]; exact List.Mem.head _) ?_ ?_ (fun q hq => hcyt q (List.Mem.tail _ hq))
          · intro p hp
            rcases List.mem_cons.mp hp with rfl | hp
            · exact Nat.ne_of_gt hd2J
            · exact hnJ p hp
          · rw [← hAF1, List.foldl_cons]
            congr 1
            unfold timStep
            rw [if_pos hbb]
          · have e9 := addC_len af [(insL x y, i * e * (-1) ^ ((x.length : Int) - bsL x y 10 0 x.length).toNat)]
            rw [List.length_singleton] at e9
            rw [List.length_cons] at hK1
            omega
      · refine unhold ?_
        rename Fr _ _ _ _ => FZ
        rename News _ _ _ _ => NZ
        rename ¬ (bsL x y 10 0 _ = bsR _ _ _ _ _) => hbb
        refine ⟨_, _, _, led2, rfl, FZ, NZ, ?_, ⟨hsub2 _ huled, trivial⟩, ?_⟩
        · intro p hp q hq
          rw [List.mem_singleton.mp hq]
          exact hnJ p hp
        · refine ih2 d0 hd0 _ _ ⟨rfl, rfl, rfl, rfl, trivial⟩ hd0I _ hI2 hsub2 hnJ hdt2 ?_ ?_ (fun q hq => hcyt q (List.Mem.tail _ hq))
          · rw [← hAF1, List.foldl_cons]
            congr 1
            unfold timStep
            rw [if_neg hbb]
          · rw [List.length_cons] at hK1
            omega
end

end

-- part M16a
section
open PySem PySem.W PySem.Spec PySem.Calls PyProof.Rows PyProof.V PyProof.Rows.LCg
set_option maxRecDepth 100000
theorem turn2_0 (elt t1 t2 i1 i2 c : PySem.Expr) (scope : Scope) (pos : Pos) (it acc : Value) (env : Env) :
    compTurn (.ListComp elt [⟨t1, i1, [], 0⟩, ⟨t2, i2, [c], 0⟩] scope pos) 0 it acc env = (do
      standAt i1.pos
      match ← pyNext it with
      | none => pure (.done .next)
      | some v =>
        letOwnedTupleGo t1 it v
        assign t1 env v
        let x ← eval i2 env
        standAt i2.pos
        let x ← foldedSetIterable i2 env x
        let it2 ← holding [x] (pyIter x)
        let _ ← runOwn (.compStart (.ListComp elt [⟨t1, i1, [], 0⟩, ⟨t2, i2, [c], 0⟩] scope pos) 1 it2 acc env) env
        again (.compLoop (.ListComp elt [⟨t1, i1, [], 0⟩, ⟨t2, i2, [c], 0⟩] scope pos) 0 it acc env)) := by rfl
theorem turn2_1 (elt t1 t2 i1 i2 c : PySem.Expr) (scope : Scope) (pos : Pos) (it acc : Value) (env : Env) :
    compTurn (.ListComp elt [⟨t1, i1, [], 0⟩, ⟨t2, i2, [c], 0⟩] scope pos) 1 it acc env = (do
      standAt i2.pos
      match ← pyNext it with
      | none => pure (.done .next)
      | some v =>
        letOwnedTupleGo t2 it v
        assign t2 env v
        let mut ok := true
        for c in [c] do
          if ok then ok ← isTrue c env (eval c env)
        if ok then
          (do let _ ← call (.builtin "list.append") [acc, ← eval elt env])
        again (.compLoop (.ListComp elt [⟨t1, i1, [], 0⟩, ⟨t2, i2, [c], 0⟩] scope pos) 1 it acc env)) := by rfl
section
variable {prog : Program} {w : World} {A : Around} {E : Value → Shared → Prop} {R : Result → Shared → Prop} {s : Shared}
theorem start2_1 {elt t1 t2 i1 i2 c : PySem.Expr} {scope : Scope} {pos : Pos} {it acc : Value} {env : Env}
    (h0 : codeAny (model prog w) A (.compLoop (.ListComp elt [⟨t1, i1, [], 0⟩, ⟨t2, i2, [c], 0⟩] scope pos) 1 it acc env) R s)
    (h : wpAny (model prog w) A (pyIter it) (fun it' s' => codeAny (model prog w) A (.compLoop (.ListComp elt [⟨t1, i1, [], 0⟩, ⟨t2, i2, [c], 0⟩] scope pos) 1 it' acc env) R s')
      (notedBy (model prog w) A env fun x s' => R (.error x) s') s) :
    codeAny (model prog w) A (.compStart (.ListComp elt [⟨t1, i1, [], 0⟩, ⟨t2, i2, [c], 0⟩] scope pos) 1 it acc env) R s := by
  refine codeAny_of_tree ?_
  show wpAny _ A ((compStart (.ListComp elt [⟨t1, i1, [], 0⟩, ⟨t2, i2, [c], 0⟩] scope pos) 1 it acc env).onRaise (fun x => do noteFrame x env; standAt theWindowsPlace)) _ _ s
  refine wpAny_notedAt ?_
  unfold compStart
  show wpAny _ A (ask >>= _) _ _ s
  refine wpAny_bind (wpAny_askSetting (wpAny_ite ?_))
  split
  · first
      | exact wpAny_bind (wpAny_pure (wpAny_pure (And.intro rfl h0)))
      | exact wpAny_pure (And.intro rfl h0)
  · first
      | exact wpAny_bind (wpAny_rule (wpAny_bind (wpAny_standAt (wpAny_bind (wpAny_mono h (fun it' s' h' => wpAny_pure (And.intro rfl h')) fun _ _ x => x)))))
      | (refine wpAny_bind (wpAny_rule ?_); show wpAny _ _ (standAt i2.pos >>= _) _ _ s; exact wpAny_bind (wpAny_standAt (wpAny_bind (wpAny_mono h (fun it' s' h' => wpAny_pure (And.intro rfl h')) fun _ _ x => x))))
theorem loop2_1 {elt t1 t2 i1 i2 c : PySem.Expr} {scope : Scope} {pos : Pos} {it acc : Value} {env : Env} (I : Nat → Shared → Prop)
    (turn : ∀ n s, I n s → wpAny (model prog w) A (pyNext it) (fun r s₁ => match r with
      | none => R (.ok .next) s₁
      | some v => wpAny (model prog w) A (letOwnedTupleGo t2 it v) (fun _ s₀ => wpAny (model prog w) A (assign t2 env v) (fun _ s₂ =>
          wpAny (model prog w) A (isTrue c env (eval c env)) (fun ok s₃ => if ok = true then wpAny (model prog w) A (eval elt env) (fun x s₄ =>
            wpAny (model prog w) A (call (.builtin "list.append") [acc, x]) (fun _ s₅ => ∃ m, m < n ∧ I m s₅) (notedBy (model prog w) A env fun e s' => R (.error e) s') s₄) (notedBy (model prog w) A env fun e s' => R (.error e) s') s₃
            else ∃ m, m < n ∧ I m s₃) (notedBy (model prog w) A env fun e s' => R (.error e) s') s₂)
          (notedBy (model prog w) A env fun e s' => R (.error e) s') s₀) (notedBy (model prog w) A env fun e s' => R (.error e) s') s₁) (notedBy (model prog w) A env fun e s' => R (.error e) s') s)
    (n : Nat) (h : I n s) : codeAny (model prog w) A (.compLoop (.ListComp elt [⟨t1, i1, [], 0⟩, ⟨t2, i2, [c], 0⟩] scope pos) 1 it acc env) R s := by
  refine codeAny_loop rfl I (fun n s hI => ?_) n h
  show wpAny _ A ((compTurn (.ListComp elt [⟨t1, i1, [], 0⟩, ⟨t2, i2, [c], 0⟩] scope pos) 1 it acc env).onRaise (fun x => do noteFrame x env; theTreesLotGoes x)) _ _ s
  refine wpAny_noted ?_
  rw [turn2_1]
  refine wpAny_bind (wpAny_standAt (wpAny_bind (wpAny_mono (turn n s hI) (fun r s₁ h₁ => ?_) fun _ _ x => x)))
  cases r with
  | none => exact wpAny_pure h₁
  | some v =>
    refine wpAny_bind (wpAny_mono h₁ (fun _ s₀ h₀ => ?_) fun _ _ x => x)
    refine wpAny_bind (wpAny_mono h₀ (fun _ s₂ h₂ => ?_) fun _ _ x => x)
    refine wpAny_bind (wpAny_tests_one (wpAny_mono h₂ (fun ok s₃ h₃ => ?_) fun _ _ x => x))
    cases ok with
    | false => exact wpAny_pure ⟨rfl, h₃⟩
    | true => exact wpAny_bind (wpAny_bind (wpAny_mono h₃ (fun x s₄ h₄ => wpAny_bind (wpAny_mono h₄ (fun _ s₅ h₅ => wpAny_pure (wpAny_pure ⟨rfl, h₅⟩)) fun _ _ x => x)) fun _ _ x => x))
theorem loop2_0 {elt t1 t2 i1 i2 c : PySem.Expr} {scope : Scope} {pos : Pos} {it acc : Value} {env : Env} (I : Nat → Shared → Prop) (hs : ∀ x, foldedSetIterable i2 env x = pure x)
    (turn : ∀ n s, I n s → wpAny (model prog w) A (pyNext it) (fun r s₁ => match r with
      | none => R (.ok .next) s₁
      | some v => wpAny (model prog w) A (letOwnedTupleGo t1 it v) (fun _ s₀ => wpAny (model prog w) A (assign t1 env v) (fun _ s₂ =>
          wpAny (model prog w) A (eval i2 env) (fun x s₃ => wpAny (model prog w) A (pyIter x) (fun it2 s₄ =>
            codeAny (model prog w) A (.compStart (.ListComp elt [⟨t1, i1, [], 0⟩, ⟨t2, i2, [c], 0⟩] scope pos) 1 it2 acc env) (fun r s' => match r with | .ok _ => ∃ m, m < n ∧ I m s' | .error _ => False) s₄)
            (notedBy (model prog w) A env fun e s' => R (.error e) s') s₃) (notedBy (model prog w) A env fun e s' => R (.error e) s') s₂)
          (notedBy (model prog w) A env fun e s' => R (.error e) s') s₀) (notedBy (model prog w) A env fun e s' => R (.error e) s') s₁) (notedBy (model prog w) A env fun e s' => R (.error e) s') s)
    (n : Nat) (h : I n s) : codeAny (model prog w) A (.compLoop (.ListComp elt [⟨t1, i1, [], 0⟩, ⟨t2, i2, [c], 0⟩] scope pos) 0 it acc env) R s := by
  refine codeAny_loop rfl I (fun n s hI => ?_) n h
  show wpAny _ A ((compTurn (.ListComp elt [⟨t1, i1, [], 0⟩, ⟨t2, i2, [c], 0⟩] scope pos) 0 it acc env).onRaise (fun x => do noteFrame x env; theTreesLotGoes x)) _ _ s
  refine wpAny_noted ?_
  rw [turn2_0]
  refine wpAny_bind (wpAny_standAt (wpAny_bind (wpAny_mono (turn n s hI) (fun r s₁ h₁ => ?_) fun _ _ x => x)))
  cases r with
  | none => exact wpAny_pure h₁
  | some v =>
    refine wpAny_bind (wpAny_mono h₁ (fun _ s₀ h₀ => ?_) fun _ _ x => x)
    refine wpAny_bind (wpAny_mono h₀ (fun _ s₂ h₂ => ?_) fun _ _ x => x)
    refine wpAny_bind (wpAny_mono h₂ (fun x s₃ h₃ => ?_) fun _ _ x => x)
    refine wpAny_bind (wpAny_standAt (wpAny_bind (wpAny_of_eq (hs x) ?_)))
    refine wpAny_bind (wpAny_holding (wpAny_mono h₃ (fun it2 s₄ h₄ => ?_) fun _ _ x => x))
    refine wpAny_bind (wpAny_runOwn ?_)
    refine codeAny_mono (R := fun r s' => match r with | .ok _ => ∃ m, m < n ∧ I m s' | .error _ => False) h₄ fun r s' hr => ?_
    cases r with
    | ok f => exact wpAny_pure ⟨rfl, hr⟩
    | error e => exact hr.elim
end
section
variable {prog : Program} {w : World} {A : Around} {E : Value → Shared → Prop} {s : Shared} {h₀ : Heap} {L : Addr} {m : Str → Option Value} {env : Env}
abbrev tup2 (va vb : Value) (n : Nat) : Obj := { cls := .type "tuple", data := .seq #[va, vb] n }
def C2Yes (h₀ : Heap) (L : Addr) (m : Str → Option Value) (s : Shared) (own led : List (Addr × Obj)) (J : Value → List (Addr × Obj) → Prop) (y : Value) (s₄ : Shared) : Prop :=
  ∃ h' tk' ext, s₄ = { s with heap := h', toks := tk' } ∧ Fr h₀ L h' m ∧ News h₀ L h' (ext ++ (own ++ led)) ∧ (∀ p ∈ ext, ∀ q ∈ own ++ led, q.1 < p.1) ∧ J y (ext ++ led)
def C2No (h₀ : Heap) (L : Addr) (m : Str → Option Value) (s : Shared) (all : List (Addr × Obj)) (J : Prop) (s₃ : Shared) : Prop :=
  ∃ h' tk', s₃ = { s with heap := h', toks := tk' } ∧ Fr h₀ L h' m ∧ News h₀ L h' all ∧ J
def C2Turn (prog : Program) (w : World) (A : Around) (h₀ : Heap) (L : Addr) (m : Str → Option Value) (env : Env) (c elt : PySem.Expr) (a b x : Str) (scope : Scope) (cl : List (Str × Addr)) (s : Shared) (its jts : Array Value) (base : List (Addr × Obj)) (J : Nat → Nat → List Value → List (Addr × Obj) → Prop) : Prop :=
  ∀ (i j : Nat) (ys : List Value) (led : List (Addr × Obj)) (T : Addr) (k : Nat) (va vb vx : Value) (I1 : Addr) (o1 : Obj) (I2 : Addr) (o2 : Obj) (C : Addr) (oC : Obj) (D : Addr) (m₂ : Str → Option Value) (h : Heap) (tk : Nat) (E' : Value → Shared → Prop),
    J i j ys led → its[i]? = some (.ref T) → (T, tup2 va vb k) ∈ base → jts[j]? = some vx → NsObj oC m₂ → m₂ a = some va → m₂ b = some vb → m₂ x = some vx → Fr h₀ L h m → News h₀ L h ((I1, o1) :: (I2, o2) :: (C, oC) :: (D, lst ys) :: led) →
    wpAny (model prog w) A (isTrue c (compEnvC scope cl C env) (eval c (compEnvC scope cl C env))) (fun ok s₃ => if ok = true then
      wpAny (model prog w) A (eval elt (compEnvC scope cl C env)) (C2Yes h₀ L m { s with heap := h, toks := tk } [(I1, o1), (I2, o2), (C, oC), (D, lst ys)] led fun y led' => J i (j + 1) (ys ++ [y]) led') E' s₃
      else C2No h₀ L m { s with heap := h, toks := tk } ((I1, o1) :: (I2, o2) :: (C, oC) :: (D, lst ys) :: led) (J i (j + 1) ys led) s₃) E' { s with heap := h, toks := tk }
def C2Iter (prog : Program) (w : World) (A : Around) (h₀ : Heap) (L : Addr) (m : Str → Option Value) (env : Env) (i2 : PySem.Expr) (scope : Scope) (cl : List (Str × Addr)) (s : Shared) (base : List (Addr × Obj)) (ay : Addr) : Prop :=
  ∀ (C : Addr) (h : Heap) (tk : Nat) (E' : Value → Shared → Prop), Fr h₀ L h m → News h₀ L h base → wpAny (model prog w) A (eval i2 (compEnvC scope cl C env)) (fun v s' => v = .ref ay ∧ s' = { s with heap := h, toks := tk }) E' { s with heap := h, toks := tk }

set_option maxHeartbeats 8000000 in
theorem c2_block {c elt i1 i2 : PySem.Expr} {a b x : Str} {pa pb tp px : Pos} {kk : Nat} {scope : Scope} {cl : List (Str × Addr)} {pos : Pos} {s₂ : Shared} {I ax ay : Addr} {its jts : Array Value} {n1 n2 bound : Nat} {news base : List (Addr × Obj)}
    {J : Nat → Nat → List Value → List (Addr × Obj) → Prop} {RR : Value → Addr → Result → Shared → Prop}
    (hh : A.handled = none) (hb : bound ≤ sizeLine)
    (hmx : (ax, listOf its n1) ∈ base) (hmy : (ay, listOf jts n2) ∈ base) (hits : ∀ (i : Nat) (v : Value), its[i]? = some v → ∃ (T : Addr) (va vb : Value) (k : Nat), v = Value.ref T ∧ (T, tup2 va vb k) ∈ base)
    (hsi : its.size ≤ sizeLine) (hsj : jts.size ≤ sizeLine)
    (hit : s₂.heap.IsListIter I ax 0) (hs2 : ∀ env x, foldedSetIterable i2 env x = pure x)
    (hcell : ∀ y ∈ scope.names, y.2 ≠ .cell) (hkind : scope.kind = .function) (hxa : scope.names.lookup a = some .local) (hxb : scope.names.lookup b = some .local) (hxx : scope.names.lookup x = some .local) (hab : ¬ a = b) (hax : ¬ a = x) (hbx : ¬ b = x)
    (F : Fr h₀ L s₂.heap m) (N : News h₀ L s₂.heap news) (hIL : L ≠ I) (hI₀ : h₀.get? I = none) (off : ∀ q ∈ news, q.1 ≠ I)
    (J0 : J 0 0 [] news) (Jn : ∀ i ys led, J i jts.size ys led → J (i + 1) 0 ys led) (Jb : ∀ i j ys led, J i j ys led → (∀ p ∈ base, p ∈ led) ∧ ys.length ≤ bound)
    (R : C2Turn prog w A h₀ L m env c elt a b x scope cl s₂ its jts base J) (RI : C2Iter prog w A h₀ L m env i2 scope cl s₂ base ay)
    (hRR : ∀ D C h tk m' ys led, Fr h₀ L h m → News h₀ L h ((D, lst ys) :: led) → (∀ q ∈ led, q.1 ≠ D) → J its.size 0 ys led → h.Ns C m' → h₀.get? C = none → h₀.get? D = none → C ≠ L → D ≠ L → C ≠ D → (∀ q ∈ led, q.1 ≠ C) → RR (.ref D) C (.ok .next) { s₂ with heap := h, toks := tk }) :
    wpAny (model prog w) A (newList []) (fun acc s₃ => wpAny (model prog w) A (newFunctionEnv scope env.globals cl [] env.qual none .none (some env)) (fun cenv s₄ =>
      codeAny (model prog w) A (.compStart (.ListComp elt [⟨.Tuple [.Name a pa, .Name b pb] kk tp, i1, [], 0⟩, ⟨.Name x px, i2, [c], 0⟩] scope pos) 0 (.ref I) acc { cenv with scope := relabel scope env }) (RR acc cenv.locals) s₄) E s₃) E s₂ := by
  refine wpAny_newObj_type (wpAny_newFunctionEnv hcell (by intro y hy; simp at hy) (fun h₁ hns₁ hsb₁ => ?_) hkind)
  dsimp only at hns₁ hsb₁ ⊢
  generalize hH2 : s₂.heap.push { cls := .type "list", dict := none, data := .seq ([] : List Value).toArray } = H2 at hns₁ hsb₁ ⊢
  have hC : H2.objs.size = s₂.heap.objs.size + 1 := by rw [← hH2, Heap.size_push]
  have hDC : s₂.heap.objs.size ≠ H2.objs.size := by rw [hC]; exact Nat.ne_of_lt (Nat.lt_succ_self _)
  have low : ∀ b o, s₂.heap.get? b = some o → b ≠ H2.objs.size ∧ b ≠ s₂.heap.objs.size := fun b o e => by
    have hb := Heap.lt_size e
    exact ⟨by rw [hC]; exact Nat.ne_of_lt (Nat.lt_succ_of_lt hb), Nat.ne_of_lt hb⟩
  have old : ∀ b o, s₂.heap.get? b = some o → h₁.get? b = some o := fun b o e => hsb₁.extBut b o (low b o e).1 (Heap.get?_push_of_some _ (hH2 ▸ Heap.get?_push_of_some _ e))
  have none₀ : ∀ x, s₂.heap.objs.size ≤ x → h₀.get? x = none := fun x hx => by
    cases e : h₀.get? x with
    | none => rfl
    | some o' => exact absurd (Heap.lt_size (F.keep x o' e)) (Nat.not_lt.mpr hx)
  have hD₀ : h₀.get? s₂.heap.objs.size = none := none₀ _ (Nat.le_refl _)
  have hC₀ : h₀.get? H2.objs.size = none := none₀ _ (by rw [hC]; exact Nat.le_succ _)
  have hLlt : L < s₂.heap.objs.size := F.ns.lt
  have hDL : s₂.heap.objs.size ≠ L := Nat.ne_of_gt hLlt
  have hCL : H2.objs.size ≠ L := by rw [hC]; exact Nat.ne_of_gt (Nat.lt_succ_of_lt hLlt)
  obtain ⟨oIt, hoIt, hIt⟩ := hit
  have hCI : I ≠ H2.objs.size := (low I _ hoIt).1
  have hDI : I ≠ s₂.heap.objs.size := (low I _ hoIt).2
  have hacc : h₁.get? s₂.heap.objs.size = some (lst []) := hsb₁.extBut _ _ hDC (Heap.get?_push_of_some _ (hH2 ▸ Heap.get?_push_size _ rfl))
  have off₀ : ∀ q ∈ news, q.1 ≠ I ∧ q.1 ≠ H2.objs.size ∧ q.1 ≠ s₂.heap.objs.size := fun q hq => ⟨off q hq, low _ _ (N q hq).1⟩
  have sub0 := (Jb _ _ _ _ J0).1
  have hxI : ax ≠ I := off _ (sub0 _ hmx)
  have W := Walks.list (prog := prog) (w := w) (A := A) hh I ax hxI its
  have isL : ∀ {h : Heap} {a : Addr} {ar : Array Value} {n : Nat} {led : List (Addr × Obj)}, News h₀ L h led → (a, listOf ar n) ∈ led → h.IsList a ar := fun N' hm => ⟨_, (N' _ hm).1, rfl, _, rfl⟩
  have loop : ∀ s₃ : Shared, s₃ = { s₂ with heap := h₁, toks := s₂.toks + ([] : List (Str × Value)).length } →
      codeAny (model prog w) A (.compLoop (.ListComp elt [⟨.Tuple [.Name a pa, .Name b pb] kk tp, i1, [], 0⟩, ⟨.Name x px, i2, [c], 0⟩] scope pos) 0 (.ref I) (.ref s₂.heap.objs.size) (compEnvC scope cl H2.objs.size env))
        (RR (.ref s₂.heap.objs.size) H2.objs.size) s₃ := by
    rintro s₃ rfl
    refine loop2_0
      (fun k s' => ∃ h' tk i m' ys led, s' = { s₂ with heap := h', toks := tk } ∧ i ≤ its.size ∧ k = its.size + 1 - i ∧ h'.IsListIter I ax i ∧ Fr h₀ L h' m ∧ h'.Ns H2.objs.size m' ∧
        News h₀ L h' ((s₂.heap.objs.size, lst ys) :: led) ∧ (∀ q ∈ led, q.1 ≠ I ∧ q.1 ≠ H2.objs.size ∧ q.1 ≠ s₂.heap.objs.size) ∧ J i 0 ys led) (hs2 _) ?_ (its.size + 1)
      ⟨h₁, _, 0, _, [], news, rfl, Nat.zero_le _, rfl, ⟨oIt, old _ _ hoIt, hIt⟩, F.keeps old, hns₁, fun q hq => ?_, off₀, J0⟩
    · rintro k s' ⟨h', tk, i, m', ys, led, rfl, hi, rfl, hit', F', hn', N', off', hJ⟩
      have subB := (Jb _ _ _ _ hJ).1
      have hlx : h'.IsList ax its := isL N' (List.mem_cons_of_mem _ (subB _ hmx))
      by_cases hlt : i < its.size
      · refine W.item i _ _ _ hlt ⟨hit', hlx⟩ fun v h₂ tk₂ hPv hst₂ hk₂ => ?_
        obtain ⟨T, va, vb, kT, rfl, hTm⟩ := hits i v hPv
        have F₂ : Fr h₀ L h₂ m := fr_but F' hk₂ hIL hI₀
        have N₂ : News h₀ L h₂ ((s₂.heap.objs.size, lst ys) :: led) := news_but N' hk₂ fun p hp => by
          rcases List.mem_cons.mp hp with rfl | hp
          · exact Ne.symm hDI
          · exact (off' p hp).1
        refine letGo_listiter hst₂.1 ?_
        have hT : h₂.IsTuple T #[va, vb] := ⟨_, (N₂ _ (List.mem_cons_of_mem _ (subB _ hTm))).1, rfl, _, rfl⟩
        refine kcp_assign (env := compEnvC scope cl H2.objs.size env) hh hT (lookup_relabel_local hxa) (lookup_relabel_local hxb) (by simp [compEnvC, relabel, hkind]) (hn'.at' fun o e => hk₂ _ o (by simpa using Ne.symm hCI) e) fun h₄ tk₄ hn₄ hs₄ => ?_
        have F₄ : Fr h₀ L h₄ m := ⟨F₂.ns.at' fun o e => hs₄ _ o (Ne.symm hCL) e, fun c o e => hs₄ c o (fun q => by rw [q] at e; have := hC₀.symm.trans e; cases this) (F₂.keep c o e), F₂.above⟩
        have N₄ : News h₀ L h₄ ((s₂.heap.objs.size, lst ys) :: led) := fun p hp => by
          have z := N₂ p hp
          refine ⟨hs₄ _ _ ?_ z.1, z.2⟩
          rcases List.mem_cons.mp hp with rfl | hp
          · exact hDC
          · exact (off' p hp).2.1
        have hit₄ : h₄.IsListIter I ax (i + 1) := hst₂.1.at fun o e => hs₄ _ _ hCI e
        refine wpAny_mono (RI H2.objs.size h₄ _ _ F₄ fun p hp => N₄ p (List.mem_cons_of_mem _ (subB p hp))) (fun v s₅ hv => ?_) fun _ _ e => e
        obtain ⟨rfl, rfl⟩ := hv
        refine wpAny_pyIter_list (isL N₄ (List.mem_cons_of_mem _ (subB _ hmy))) ?_
        have up₅ : ∀ b o, h₄.get? b = some o → (h₄.push { cls := .type "list_iterator", data := .fields #[.ref ay, .int 0 0] }).get? b = some o := fun b o e => Heap.get?_push_of_some _ e
        have hI2₀ : h₀.get? h₄.objs.size = none := by
          cases e : h₀.get? h₄.objs.size with
          | none => rfl
          | some o' => exact absurd (Heap.lt_size (F₄.keep _ o' e)) (Nat.lt_irrefl _)
        have hI2L : L ≠ h₄.objs.size := Nat.ne_of_lt F₄.ns.lt
        have hI2C : h₄.objs.size ≠ H2.objs.size := Nat.ne_of_gt hn₄.lt
        obtain ⟨oI4, hoI4, hrI4⟩ := hit₄
        have hI2I : I ≠ h₄.objs.size := Nat.ne_of_lt (Heap.lt_size hoI4)
        have hI2D : h₄.objs.size ≠ s₂.heap.objs.size := Nat.ne_of_gt (Heap.lt_size (N₄ _ List.mem_cons_self).1)
        have hyI2 : ay ≠ h₄.objs.size := Nat.ne_of_lt (Heap.lt_size (N₄ _ (List.mem_cons_of_mem _ (subB _ hmy))).1)
        have W2 := Walks.list (prog := prog) (w := w) (A := A) hh h₄.objs.size ay hyI2 jts
        have hitJ : (h₄.push { cls := .type "list_iterator", data := .fields #[.ref ay, .int 0 0] }).IsListIter h₄.objs.size ay 0 := ⟨_, Heap.get?_push_size _ rfl, rfl, rfl⟩
        have offJ : ∀ q ∈ led, q.1 ≠ h₄.objs.size := fun q hq => Nat.ne_of_lt (Heap.lt_size (N₄ q (List.mem_cons_of_mem _ hq)).1)
        have inner : ∀ s₆ : Shared, s₆ = { s₂ with heap := h₄.push { cls := .type "list_iterator", data := .fields #[.ref ay, .int 0 0] }, toks := tk₄ } →
            codeAny (model prog w) A (.compLoop (.ListComp elt [⟨.Tuple [.Name a pa, .Name b pb] kk tp, i1, [], 0⟩, ⟨.Name x px, i2, [c], 0⟩] scope pos) 1 (.ref h₄.objs.size) (.ref s₂.heap.objs.size) (compEnvC scope cl H2.objs.size env))
              (fun r s' => match r with | .ok _ => ∃ k', k' < its.size + 1 - i ∧ (∃ h' tk i m' ys led, s' = { s₂ with heap := h', toks := tk } ∧ i ≤ its.size ∧ k' = its.size + 1 - i ∧ h'.IsListIter I ax i ∧ Fr h₀ L h' m ∧ h'.Ns H2.objs.size m' ∧
                News h₀ L h' ((s₂.heap.objs.size, lst ys) :: led) ∧ (∀ q ∈ led, q.1 ≠ I ∧ q.1 ≠ H2.objs.size ∧ q.1 ≠ s₂.heap.objs.size) ∧ J i 0 ys led) | .error _ => False) s₆ := by
          rintro s₆ rfl
          refine loop2_1
            (fun k s' => ∃ h' tk j m' ys led, s' = { s₂ with heap := h', toks := tk } ∧ j ≤ jts.size ∧ k = jts.size + 1 - j ∧ h'.IsListIter I ax (i + 1) ∧ h'.IsListIter h₄.objs.size ay j ∧ Fr h₀ L h' m ∧ (h'.Ns H2.objs.size m' ∧ m' a = some va ∧ m' b = some vb) ∧
              News h₀ L h' ((s₂.heap.objs.size, lst ys) :: led) ∧ (∀ q ∈ led, q.1 ≠ I ∧ q.1 ≠ H2.objs.size ∧ q.1 ≠ s₂.heap.objs.size ∧ q.1 ≠ h₄.objs.size) ∧ J i j ys led) ?_ (jts.size + 1)
            ⟨_, tk₄, 0, _, ys, led, rfl, Nat.zero_le _, rfl, ⟨oI4, up₅ _ _ hoI4, hrI4⟩, hitJ, F₄.keeps up₅, ⟨hn₄.at' fun o e => up₅ _ o e, by simp [hab], by simp⟩, fun p hp => ⟨up₅ _ _ (N₄ p hp).1, (N₄ p hp).2⟩, fun q hq => ⟨(off' q hq).1, (off' q hq).2.1, (off' q hq).2.2, offJ q hq⟩, hJ⟩
          rintro k s' ⟨h', tk, j, m', ys, led, rfl, hj, rfl, hit1, hit2, F', ⟨hn', hma, hmb⟩, N', off', hJ⟩
          have subB := (Jb _ _ _ _ hJ).1
          have hly : h'.IsList ay jts := isL N' (List.mem_cons_of_mem _ (subB _ hmy))
          by_cases hltj : j < jts.size
          · refine W2.item j _ _ _ hltj ⟨hit2, hly⟩ fun vx h₂ tk₂ hPx hst₂ hk₂ => ?_
            refine letGo_listiter hst₂.1 ?_
            have F₂ : Fr h₀ L h₂ m := fr_but F' hk₂ hI2L hI2₀
            have N₂ : News h₀ L h₂ ((s₂.heap.objs.size, lst ys) :: led) := news_but N' hk₂ fun p hp => by
              rcases List.mem_cons.mp hp with rfl | hp
              · exact Ne.symm hI2D
              · exact (off' p hp).2.2.2
            refine wpAny_assign_Name (wpAny_storeName_local (env := compEnvC scope cl H2.objs.size env) (lookup_relabel_local hxx) (hn'.at' fun o e => hk₂ _ o (by simpa using Ne.symm hI2C) e) (fun h₃ hn₃ hs₃ => ?_) (by simp [compEnvC, relabel, hkind]))
            have F₃ : Fr h₀ L h₃ m := F₂.change hs₃ hCL hC₀
            obtain ⟨oC, heC, hoC⟩ := ns_obj hn₃
            obtain ⟨o1, he1, hr1⟩ := hit1
            obtain ⟨o2, he2, hr2⟩ := hst₂.1
            have he1' : h₃.get? I = some o1 := hs₃.extBut _ _ hCI (hk₂ _ _ (by simpa using hI2I) he1)
            have he2' : h₃.get? h₄.objs.size = some o2 := hs₃.extBut _ _ hI2C he2
            have N₃ : News h₀ L h₃ ((I, o1) :: (h₄.objs.size, o2) :: (H2.objs.size, oC) :: (s₂.heap.objs.size, lst ys) :: led) := fun p hp => by
              rcases List.mem_cons.mp hp with rfl | hp
              · exact ⟨he1', Ne.symm hIL, hI₀⟩
              rcases List.mem_cons.mp hp with rfl | hp
              · exact ⟨he2', Ne.symm hI2L, hI2₀⟩
              rcases List.mem_cons.mp hp with rfl | hp
              · exact ⟨heC, hCL, hC₀⟩
              have z := N₂ p hp
              refine ⟨hs₃.extBut _ _ ?_ z.1, z.2⟩
              rcases List.mem_cons.mp hp with rfl | hp
              · exact hDC
              · exact (off' p hp).2.1
            have again : ∀ (ys' : List Value) (led' : List (Addr × Obj)) (h₅ : Heap) (tk₅ : Nat), Fr h₀ L h₅ m → News h₀ L h₅ ((I, o1) :: (h₄.objs.size, o2) :: (H2.objs.size, oC) :: (s₂.heap.objs.size, lst ys') :: led') →
                (∀ q ∈ led', q.1 ≠ I ∧ q.1 ≠ H2.objs.size ∧ q.1 ≠ s₂.heap.objs.size ∧ q.1 ≠ h₄.objs.size) → J i (j + 1) ys' led' →
                ∃ k', k' < jts.size + 1 - j ∧ ∃ h' tk j m' ys led, ({ s₂ with heap := h₅, toks := tk₅ } : Shared) = { s₂ with heap := h', toks := tk } ∧ j ≤ jts.size ∧ k' = jts.size + 1 - j ∧ h'.IsListIter I ax (i + 1) ∧ h'.IsListIter h₄.objs.size ay j ∧ Fr h₀ L h' m ∧ (h'.Ns H2.objs.size m' ∧ m' a = some va ∧ m' b = some vb) ∧
                  News h₀ L h' ((s₂.heap.objs.size, lst ys) :: led) ∧ (∀ q ∈ led, q.1 ≠ I ∧ q.1 ≠ H2.objs.size ∧ q.1 ≠ s₂.heap.objs.size ∧ q.1 ≠ h₄.objs.size) ∧ J i j ys led := by
              intro ys' led' h₅ tk₅ F₅ N₅ off₅ hJ₅
              refine ⟨jts.size + 1 - (j + 1), by omega, h₅, tk₅, j + 1, _, ys', led', rfl, hltj, rfl, ⟨o1, (N₅ _ List.mem_cons_self).1, hr1⟩, ⟨o2, (N₅ _ (List.mem_cons_of_mem _ List.mem_cons_self)).1, hr2⟩, F₅,
                ⟨hoC.ns (N₅ _ (List.mem_cons_of_mem _ (List.mem_cons_of_mem _ List.mem_cons_self))).1, ?_, ?_⟩, fun p hp => N₅ p (List.mem_cons_of_mem _ (List.mem_cons_of_mem _ (List.mem_cons_of_mem _ hp))), off₅, hJ₅⟩
              · simp [hax, hma]
              · simp [hbx, hmb]
            refine wpAny_mono (R i j ys led T kT va vb vx I o1 h₄.objs.size o2 H2.objs.size oC s₂.heap.objs.size _ h₃ _ _ hJ hPv hTm hPx hoC (by simp [hax, hma]) (by simp [hbx, hmb]) (by simp) F₃ N₃) (fun ok s₅ h₅ => ?_) fun _ _ e => e
            cases ok with
            | false =>
              simp only [Bool.false_eq_true, if_false] at h₅ ⊢
              obtain ⟨h₅, tk₅, rfl, F₅, N₅, hJ₅⟩ := h₅
              exact again ys led h₅ tk₅ F₅ N₅ off' hJ₅
            | true =>
              simp only [if_true] at h₅ ⊢
              refine wpAny_mono h₅ (fun y s₆ h₆ => ?_) fun _ _ e => e
              obtain ⟨h₅, tk₅, ext, rfl, F₅, N₅, lx, hJ₅⟩ := h₆
              have hM : ∀ p ∈ (I, o1) :: (h₄.objs.size, o2) :: (H2.objs.size, oC) :: (s₂.heap.objs.size, lst ys) :: led, p ∈ ext ++ (I, o1) :: (h₄.objs.size, o2) :: (H2.objs.size, oC) :: (s₂.heap.objs.size, lst ys) :: led := fun p hp => List.mem_append_right _ hp
              have zD := (N₅ _ (hM (s₂.heap.objs.size, lst ys) (List.mem_cons_of_mem _ (List.mem_cons_of_mem _ (List.mem_cons_of_mem _ List.mem_cons_self))))).1
              have hyb := (Jb _ _ _ _ hJ).2
              refine append_at (hsz := by show ys.toArray.size ≤ sizeLine; rw [List.size_toArray]; exact Nat.le_trans hyb hb) zD fun h₆ hs₆ hD₆ => ?_
              have offE : ∀ q ∈ ext ++ led, q.1 ≠ I ∧ q.1 ≠ H2.objs.size ∧ q.1 ≠ s₂.heap.objs.size ∧ q.1 ≠ h₄.objs.size := fun q hq => by
                rcases List.mem_append.mp hq with hq | hq
                · have z := lx q hq
                  exact ⟨Nat.ne_of_gt (z (I, o1) List.mem_cons_self), Nat.ne_of_gt (z (H2.objs.size, oC) (List.mem_cons_of_mem _ (List.mem_cons_of_mem _ List.mem_cons_self))), Nat.ne_of_gt (z (s₂.heap.objs.size, lst ys) (List.mem_cons_of_mem _ (List.mem_cons_of_mem _ (List.mem_cons_of_mem _ List.mem_cons_self)))), Nat.ne_of_gt (z (h₄.objs.size, o2) (List.mem_cons_of_mem _ List.mem_cons_self))⟩
                · exact off' q hq
              refine again (ys ++ [y]) (ext ++ led) h₆ _ (F₅.change hs₆ hDL hD₀) (fun p hp => ?_) offE hJ₅
              rcases List.mem_cons.mp hp with rfl | hp
              · have z := N₅ _ (hM (I, o1) List.mem_cons_self)
                exact ⟨hs₆.extBut _ _ hDI z.1, z.2⟩
              rcases List.mem_cons.mp hp with rfl | hp
              · have z := N₅ _ (hM (h₄.objs.size, o2) (List.mem_cons_of_mem _ List.mem_cons_self))
                exact ⟨hs₆.extBut _ _ hI2D z.1, z.2⟩
              rcases List.mem_cons.mp hp with rfl | hp
              · have z := N₅ _ (hM (H2.objs.size, oC) (List.mem_cons_of_mem _ (List.mem_cons_of_mem _ List.mem_cons_self)))
                exact ⟨hs₆.extBut _ _ (Ne.symm hDC) z.1, z.2⟩
              rcases List.mem_cons.mp hp with rfl | hp
              · exact ⟨hD₆.trans (congrArg some (lst_snoc ys y)), hDL, hD₀⟩
              · have z : h₅.get? p.1 = some p.2 ∧ _ := N₅ p (by
                  rcases List.mem_append.mp hp with hp | hp
                  · exact List.mem_append_left _ hp
                  · exact hM p (List.mem_cons_of_mem _ (List.mem_cons_of_mem _ (List.mem_cons_of_mem _ (List.mem_cons_of_mem _ hp)))))
                exact ⟨hs₆.extBut _ _ (offE p hp).2.2.1 z.1, z.2⟩
          · obtain rfl : j = jts.size := Nat.le_antisymm hj (Nat.not_lt.mp hltj)
            refine W2.done _ _ _ ⟨hit2, hly⟩ fun h₂ tk₂ hk₂ => ?_
            refine ⟨its.size + 1 - (i + 1), by omega, h₂, tk₂, i + 1, m', ys, led, rfl, hlt, rfl, hit1.at fun o e => hk₂ _ o (by simpa using hI2I) e, fr_but F' hk₂ hI2L hI2₀, hn'.at' fun o e => hk₂ _ o (by simpa using Ne.symm hI2C) e, news_but N' hk₂ fun p hp => ?_, fun q hq => ⟨(off' q hq).1, (off' q hq).2.1, (off' q hq).2.2.1⟩, Jn _ _ _ hJ⟩
            rcases List.mem_cons.mp hp with rfl | hp
            · exact Ne.symm hI2D
            · exact (off' p hp).2.2.2
        exact start2_1 (inner _ rfl) (W2.self 0 _ _ _ ⟨hitJ, (isL N₄ (List.mem_cons_of_mem _ (subB _ hmy))).push _⟩ (inner _ rfl))
      · obtain rfl : i = its.size := Nat.le_antisymm hi (Nat.not_lt.mp hlt)
        refine W.done _ _ _ ⟨hit', hlx⟩ fun h₂ tk₂ hk₂ => ?_
        exact hRR _ _ h₂ tk₂ _ ys led (fr_but F' hk₂ hIL hI₀) (news_but N' hk₂ fun p hp => by
          rcases List.mem_cons.mp hp with rfl | hp
          · exact Ne.symm hDI
          · exact (off' p hp).1) (fun q hq => (off' q hq).2.2) hJ (hn'.at' fun o e => hk₂ _ o (by simpa using Ne.symm hCI) e) hC₀ hD₀ hCL hDL (Ne.symm hDC) (fun p hp => (off' p hp).2.1)
    · rcases List.mem_cons.mp hq with rfl | hq
      · exact ⟨hacc, hDL, hD₀⟩
      · exact ⟨old _ _ (N q hq).1, (N q hq).2⟩
  exact codeAny_compStart_list (loop _ rfl) (W.self 0 _ _ _ ⟨⟨oIt, old _ _ hoIt, hIt⟩, isL (fun q hq => ⟨old _ _ (N q hq).1, (N q hq).2⟩ : News h₀ L h₁ news) (sub0 _ hmx)⟩ (loop _ rfl))

def C2Src (prog : Program) (w : World) (A : Around) (h₀ : Heap) (L : Addr) (m : Str → Option Value) (env : Env) (c elt i2 : PySem.Expr) (a b x : Str) (scope : Scope) (cl : List (Str × Addr)) (y : Str) (Q : Flow → Shared → Prop) (xv : Value) (s₁ : Shared) : Prop :=
  ∃ (ax ay : Addr) (its jts : Array Value) (n1 n2 bound : Nat) (base news : List (Addr × Obj)) (J : Nat → Nat → List Value → List (Addr × Obj) → Prop), xv = Value.ref ax ∧ Fr h₀ L s₁.heap m ∧ News h₀ L s₁.heap news ∧ bound ≤ sizeLine ∧
    (ax, listOf its n1) ∈ base ∧ (ay, listOf jts n2) ∈ base ∧ (∀ (i : Nat) (v : Value), its[i]? = some v → ∃ (T : Addr) (va vb : Value) (k : Nat), v = Value.ref T ∧ (T, tup2 va vb k) ∈ base) ∧ its.size ≤ sizeLine ∧ jts.size ≤ sizeLine ∧
    J 0 0 [] news ∧ (∀ i ys led, J i jts.size ys led → J (i + 1) 0 ys led) ∧ (∀ i j ys led, J i j ys led → (∀ p ∈ base, p ∈ led) ∧ ys.length ≤ bound) ∧
    (∀ s₂ : Shared, C2Turn prog w A h₀ L m env c elt a b x scope cl s₂ its jts base J) ∧ (∀ s₂ : Shared, C2Iter prog w A h₀ L m env i2 scope cl s₂ base ay) ∧
    ∀ D ys led h' tk, J its.size 0 ys led → Fr h₀ L h' (fun z => if z = y then some (.ref D) else m z) → News h₀ L h' ((D, lst ys) :: led) → (∀ q ∈ led, q.1 ≠ D) → Q .next { s₁ with heap := h', toks := tk }
theorem c2_assign {c elt i1 i2 : PySem.Expr} {a b x y : Str} {pa pb tp px py : Pos} {kk : Nat} {scope : Scope} {cl : List (Str × Addr)} {pos spos : Pos} {Q : Flow → Shared → Prop} (_F₀ : Fr h₀ L s.heap m) (hh : A.handled = none) (hLe : env.locals = L)
    (hsw : swapsWith (.ListComp elt [⟨.Tuple [.Name a pa, .Name b pb] kk tp, i1, [], 0⟩, ⟨.Name x px, i2, [c], 0⟩] scope pos) (some (.Name y py)) spos.line env = pure true)
    (hclos : closureFor scope env = pure cl) (hcell : ∀ z ∈ scope.names, z.2 ≠ .cell) (hkind : scope.kind = .function)
    (hnames : ∀ z ∈ scope.names, z.2 = .local → scope.names.lookup z.1 = some .local) (hxa : scope.names.lookup a = some .local) (hxb : scope.names.lookup b = some .local) (hxx : scope.names.lookup x = some .local) (hab : ¬ a = b) (hax : ¬ a = x) (hbx : ¬ b = x)
    (hy : env.kindOf y = some .local) (hp : (env.scope.kind == .class || (env.scope.kind == .module && env.locals != env.globals)) = false)
    (hs2 : ∀ env x, foldedSetIterable i2 env x = pure x)
    (h : wpAny (model prog w) A (eval i1 env) (C2Src prog w A h₀ L m env c elt i2 a b x scope cl y Q) E s)
    (hs : ∀ x, foldedSetIterable i1 env x = pure x := by intro _; rfl) :
    wpAny (model prog w) A (exec (.Assign [.Name y py] (.ListComp elt [⟨.Tuple [.Name a pa, .Name b pb] kk tp, i1, [], 0⟩, ⟨.Name x px, i2, [c], 0⟩] scope pos) spos) env) Q E s := by
  subst hLe
  rw [exec_Assign_Name_used _ _ _ _ hsw]
  refine wpAny_bind (wpAny_standAt (wpAny_bind ?_))
  show wpAny _ A (do let _ ← comprehension (.ListComp elt [⟨.Tuple [.Name a pa, .Name b pb] kk tp, i1, [], 0⟩, ⟨.Name x px, i2, [c], 0⟩] scope pos) scope env _ (newList []) false (eval i1 env) (some (assign (.Name y py) env))) _ _ s
  refine wpAny_bind (wpAny_mono (wpAny_comprehension_free (use := some (assign (.Name y py) env)) (Q := fun _ s' => Q .next s') rfl hs hclos hkind hnames
    (wpAny_mono h (fun xv s₁ h₁ => ?_) fun _ _ e => e)) (fun _ s' hq => wpAny_pure (wpAny_pure hq)) fun _ _ e => e)
  obtain ⟨ax, ay, its, jts, n1, n2, bound, base, news, J, rfl, F, N, hb, hmx, hmy, hits, hsi, hsj, J0, Jn, Jb, R, RI, fin⟩ := h₁
  have sub0 := (Jb _ _ _ _ J0).1
  refine wpAny_pyIter_list ⟨_, (N _ (sub0 _ hmx)).1, rfl, _, rfl⟩ ?_
  refine c2_block (J := J) (base := base) hh hb hmx hmy hits hsi hsj ⟨_, Heap.get?_push_size _ rfl, rfl, rfl⟩ hs2 hcell hkind hxa hxb hxx hab hax hbx (F.push _)
    (fun p hp => ⟨Heap.get?_push_of_some _ (N p hp).1, (N p hp).2⟩) (Nat.ne_of_lt F.ns.lt) (next_is_new F) (fun p hp => Nat.ne_of_lt (Heap.lt_size (N p hp).1)) J0 Jn Jb (R _) (RI _) ?_
  intro D C h tk m' ys led F' N' oD hJ hn hC₀ hD₀ hCL hDL hCD nC
  show wpAny _ A (assign (.Name y py) env (.ref D)) _ _ _
  refine wpAny_assign_Name (wpAny_storeName_local hy F'.ns (fun h₂ hn₂ hs₂ => ?_) hp)
  have hL₀ : h₀.get? env.locals = none := Heap.get?_none_of_le F'.above
  have F₂ : Fr h₀ env.locals h₂ (fun z => if z = y then some (.ref D) else m z) := ⟨hn₂, fun b o e => hs₂.extBut b o (fun q => by rw [q, hL₀] at e; cases e) (F'.keep b o e), F'.above⟩
  refine ⟨m', hn.sameBut hs₂ hCL, fun h'' hs'' => fin D ys led h'' _ hJ (F₂.change hs'' hCL hC₀) (fun q hq => ?_) oD⟩
  have z : h₂.get? q.1 = some q.2 := hs₂.extBut _ _ (N' q hq).2.1 (N' q hq).1
  refine ⟨hs''.extBut _ _ ?_ z, (N' q hq).2⟩
  rcases List.mem_cons.mp hq with rfl | hq
  · exact Ne.symm hCD
  · exact nC q hq
end

end

-- part M16
theorem calm_M16 : True := by
  w_top off
  trivial
section
open PySem PySem.W PySem.Spec PySem.Calls PyProof.Rows PyProof.V
set_option maxRecDepth 100000
theorem warm16 : (fun (_ : OpenLaw) (_ : Params → Frag) => True) PySem.Challenge.rw_pm0059_01 Mine.hd.heap_39 := by
  k_fill
  trivial
theorem iter_strT {prog : Program} {w : World} {A : Around} {E : Value → Shared → Prop} {s : Shared} {env : Env} {h₀ : Heap} {target : PySem.Expr} {body : List Stmt} {Q : Flow → Shared → Prop} {tx : Str} {t : Tok} {l : List Str} {m₀ : Str → Option Value} {news : List (Addr × Obj)} (hh : A.handled = none) (F : Fr h₀ env.locals s.heap m₀) (N : News h₀ env.locals s.heap news)
    (ha : tx.cps.all (· < 128) = true) (hx : tx.cps.toList.map (fun c => (⟨#[c]⟩ : Str)) = l) (htg : ∀ it v, letOwnedTupleGo target it v = pure ())
    (rest₀ : ∀ I : Addr, (∀ p ∈ news, p.1 < I) → ItemsRest prog w A E h₀ env target body Q s [(I, "str_ascii_iterator")] [] (l.map fun c => .tok (fun u => .str c u)) m₀ news) :
    wpAny (model prog w) A (pyIter (.str tx t)) (fun it s₂ => TurnsAt prog w A h₀ env target body Q E it s₂) E s := by
  refine wpAny_pyIter_ascii ha ?_
  have hnI : env.locals ≠ s.heap.objs.size := Nat.ne_of_lt F.ns.lt
  refine ktu_core (tk0 := s.toks) (keep := []) (KTurns.ofWalks (Walks.strAscii hh s.heap.objs.size tx t) fun i v s Q E st q => wpAny_of_eq (htg _ v) q) ?_ (fun i v h hp => ?_) (fun i h st => ?_) (fun b hb => ?_) (fun b hb => by simpa using hb) (fun b hb => ?_) ?_ (fun p hp hI => ?_) ?_ (F.push _) (fun p hp => ⟨Heap.get?_push_of_some _ (N p hp).1, (N p hp).2⟩) trivial (rest₀ _ fun p hp => Heap.lt_size (N p hp).1)
  · rw [List.length_map, ← hx, List.length_map, Array.length_toList]
  · obtain ⟨c, u, hc, rfl⟩ := hp
    refine ⟨.tok (fun u => .str ⟨#[c]⟩ u), ?_, u, rfl⟩
    rw [← hx, List.map_map, List.getElem?_map, Array.getElem?_toList, hc]
    rfl
  · obtain ⟨it, hit, hic, _⟩ := st
    exact ⟨[(s.heap.objs.size, it)], ⟨⟨rfl, hic⟩, trivial⟩, fun p hp => by rw [List.mem_singleton.mp hp]; exact hit⟩
  · have hb' : b = s.heap.objs.size := by simpa using hb
    rw [hb']
    exact ⟨List.mem_cons_self .., next_is_new F⟩
  · have hb' : b = s.heap.objs.size := by simpa using hb
    exact .inl (by simp [hb'])
  · intro hI
    exact hnI (List.mem_singleton.mp hI)
  · exact absurd (Heap.lt_size (N p hp).1) ((List.mem_singleton.mp hI) ▸ Nat.lt_irrefl _)
  · exact ⟨_, Heap.get?_push_size _ rfl, rfl, rfl⟩
def catS (l : List Str) : Str := l.foldl (fun a x => a ++ x) (Str.ofString "")
theorem catS_snoc (l : List Str) (x : Str) : catS (l ++ [x]) = catS l ++ x := by
  unfold catS
  rw [List.foldl_append]
  rfl
/-- the ways in the ledger -/
inductive WIn (news : List (Addr × Obj)) : List Value → List (List Str × Int) → Prop
  | nil : WIn news [] []
  | cons {a : Addr} {n : Nat} {l : List Str} {z : Int} {t u : Tok} {vs : List Value} {H : List (List Str × Int)} : (a, tupObj [.str (catS l) t, .int z u] n) ∈ news → WIn news vs H → WIn news (.ref a :: vs) ((l, z) :: H)
theorem WIn.mono {news news' : List (Addr × Obj)} {vs : List Value} {H : List (List Str × Int)} (h : WIn news vs H) (s : ∀ p ∈ news, p ∈ news') : WIn news' vs H := by
  induction h with
  | nil => exact .nil
  | cons hm _ ih => exact .cons (s _ hm) ih
theorem WIn.length {news : List (Addr × Obj)} {vs : List Value} {H : List (List Str × Int)} (h : WIn news vs H) : vs.length = H.length := by
  induction h with
  | nil => rfl
  | cons _ _ ih => rw [List.length_cons, List.length_cons, ih]
theorem WIn.append {news : List (Addr × Obj)} {vs vs' : List Value} {H H' : List (List Str × Int)} (h : WIn news vs H) (h' : WIn news vs' H') : WIn news (vs ++ vs') (H ++ H') := by
  induction h with
  | nil => exact h'
  | cons hm _ ih => exact .cons hm ih
theorem WIn.at {news : List (Addr × Obj)} {vs : List Value} {H : List (List Str × Int)} (h : WIn news vs H) : ∀ {i : Nat} {v : Value}, vs[i]? = some v → ∃ a n l z t u, v = .ref a ∧ H[i]? = some (l, z) ∧ (a, tupObj [.str (catS l) t, .int z u] n) ∈ news := by
  induction h with
  | nil => intro i v e; cases i <;> cases e
  | cons hm _ ih =>
    intro i v e
    cases i with
    | zero => cases e; exact ⟨_, _, _, _, _, _, rfl, rfl, hm⟩
    | succ i => exact ih e
theorem WIn.one {TT : Addr} {l : List Str} {x : Str} {z : Int} {t u : Tok} {o : Obj} {ext : List (Addr × Obj)} (h : o = tupObj [.str (catS l ++ x) t, .int z u] 0) : WIn ((TT, o) :: ext) [.ref TT] [(l ++ [x], z)] := by
  rw [← catS_snoc] at h
  rw [h]
  exact .cons (List.Mem.head _) .nil
def L5 : List Str := [Str.ofString "a", Str.ofString "b", Str.ofString "c", Str.ofString "d", Str.ofString "r"]
def wayF (Pl : List (Str × Str × Int)) (c : Str) (p : List Str × Int) : List (List Str × Int) := (Pl.filter fun q => decide (q.1 = c)).map fun q => (p.1 ++ [q.2.1], p.2 * q.2.2)
def wayStep (Pl : List (Str × Str × Int)) (ways : List (List Str × Int)) (c : Str) : List (List Str × Int) := ways.flatMap (wayF Pl c)
def ways4 (Pl : List (Str × Str × Int)) : List (List Str × Int) := L4.foldl (wayStep Pl) [([], 1)]
def wayPre (Pl : List (Str × Str × Int)) (ways : List (List Str × Int)) (c : Str) (i j : Nat) : List (List Str × Int) := (ways.take i).flatMap (wayF Pl c) ++ ((ways[i]?).map fun p => wayF (Pl.take j) c p).getD []
structure GoodW (ways : List (List Str × Int)) (k : Nat) : Prop where
  len : ways.length ≤ 10 ^ k
  row : ∀ p ∈ ways, p.1.length = k ∧ (∀ x ∈ p.1, x ∈ L5) ∧ Builtin.Int.intBits p.2 ≤ 1 + k * 1100000
theorem wayF_len (Pl : List (Str × Str × Int)) (c : Str) (p : List Str × Int) : (wayF Pl c p).length ≤ Pl.length := by
  unfold wayF
  rw [List.length_map]
  exact List.length_filter_le _ _
theorem wayStep_len (Pl : List (Str × Str × Int)) (c : Str) : ∀ ways : List (List Str × Int), (ways.flatMap (wayF Pl c)).length ≤ ways.length * Pl.length := by
  intro ways
  induction ways with
  | nil => simp
  | cons p r ih =>
    rw [List.flatMap_cons, List.length_append, List.length_cons, Nat.succ_mul]
    have := wayF_len Pl c p
    omega
theorem wayPre_len (Pl : List (Str × Str × Int)) (ways : List (List Str × Int)) (c : Str) (i j : Nat) : (wayPre Pl ways c i j).length ≤ (ways.length + 1) * Pl.length := by
  unfold wayPre
  rw [List.length_append, Nat.succ_mul]
  have h1 := wayStep_len Pl c (ways.take i)
  have h2 : (ways.take i).length * Pl.length ≤ ways.length * Pl.length := Nat.mul_le_mul_right _ (by rw [List.length_take]; exact Nat.min_le_right _ _)
  have h3 : (((ways[i]?).map fun p => wayF (Pl.take j) c p).getD []).length ≤ Pl.length := by
    cases ways[i]? with
    | none => exact Nat.zero_le _
    | some p =>
      refine Nat.le_trans (wayF_len _ _ _) ?_
      rw [List.length_take]; exact Nat.min_le_right _ _
  omega
theorem wayPre_next (Pl : List (Str × Str × Int)) (ways : List (List Str × Int)) (c : Str) (i : Nat) : wayPre Pl ways c i Pl.length = wayPre Pl ways c (i + 1) 0 := by
  unfold wayPre
  rw [List.take_length, List.take_zero]
  have e : (((ways[i + 1]?).map fun p => wayF [] c p).getD []) = [] := by
    cases ways[i + 1]? <;> rfl
  rw [e, List.append_nil, List.take_add_one]
  cases h : ways[i]? with
  | none => simp
  | some p => simp [List.flatMap_append]
theorem wayPre_snoc (Pl : List (Str × Str × Int)) (ways : List (List Str × Int)) (c : Str) {i j : Nat} {p : List Str × Int} {q : Str × Str × Int} (hi : ways[i]? = some p) (hj : Pl[j]? = some q) :
    wayPre Pl ways c i (j + 1) = wayPre Pl ways c i j ++ (if q.1 = c then [(p.1 ++ [q.2.1], p.2 * q.2.2)] else []) := by
  unfold wayPre
  rw [hi, Option.map_some, Option.map_some, Option.getD_some, Option.getD_some, List.append_assoc]
  congr 1
  unfold wayF
  rw [take_succ_of hj, List.filter_append, List.map_append]
  congr 1
  by_cases e : q.1 = c
  · simp [e]
  · simp [e]
theorem wayPre_done (Pl : List (Str × Str × Int)) (ways : List (List Str × Int)) (c : Str) : wayPre Pl ways c ways.length 0 = wayStep Pl ways c := by
  unfold wayPre wayStep
  rw [List.take_length, List.getElem?_eq_none (Nat.le_refl _)]
  simp
theorem GoodW.step {Pl : List (Str × Str × Int)} {ways : List (List Str × Int)} {k : Nat} (h : GoodW ways k) (hP : Pl.length ≤ 10) (hq : ∀ q ∈ Pl, q.2.1 ∈ L5 ∧ Builtin.Int.intBits q.2.2 ≤ 1100000) (c : Str) : GoodW (wayStep Pl ways c) (k + 1) := by
  constructor
  · refine Nat.le_trans (wayStep_len Pl c ways) ?_
    rw [Nat.pow_succ]
    exact Nat.mul_le_mul h.len hP
  · intro p hp
    obtain ⟨p0, h0, hp⟩ := List.mem_flatMap.mp hp
    obtain ⟨q, hq', rfl⟩ := List.mem_map.mp hp
    have hq1 := hq q (List.mem_filter.mp hq').1
    obtain ⟨r1, r2, r3⟩ := h.row p0 h0
    refine ⟨by rw [List.length_append, r1]; rfl, ?_, ?_⟩
    · intro x hx
      rcases List.mem_append.mp hx with hx | hx
      · exact r2 x hx
      · rw [List.mem_singleton.mp hx]; exact hq1.1
    · have := intBits_mul_le r3 hq1.2
      refine Nat.le_trans this ?_
      rw [Nat.succ_mul]; omega
def idx5 (x : Str) : Nat := if x = Str.ofString "b" then 1 else if x = Str.ofString "c" then 2 else if x = Str.ofString "d" then 3 else if x = Str.ofString "r" then 4 else 0
def endStep (l : List Str) (ends : List Str) : List Str := ends.map fun e => (l ++ [Str.ofString "r"]).getD (idx5 e) (Str.ofString "r")
def R4 : List Str := [Str.ofString "r", Str.ofString "r", Str.ofString "r", Str.ofString "r"]
theorem permT {α : Type} {p a b c d e : α} {l : List α} (h : p ∈ c :: d :: e :: a :: b :: l) : p ∈ a :: b :: c :: d :: e :: l := by
  simp only [List.mem_cons] at h ⊢
  rcases h with h | h | h | h | h | h <;> simp [h]
theorem news_same {h₀ h : Heap} {L T : Addr} {led : List (Addr × Obj)} {o o' : Obj} (N : News h₀ L h led) (a : (T, o) ∈ led) (b : (T, o') ∈ led) : o = o' := by
  have h1 := (N _ a).1
  have h2 := (N _ b).1
  rw [show (T, o).1 = (T, o').1 from rfl] at h1
  exact Option.some.inj (h1.symm.trans h2)
theorem tup2_inj {a b c d : Value} {n k : Nat} (h : tup2 a b n = tupObj [c, d] k) : a = c ∧ b = d := by
  have e := congrArg Obj.data h
  simp only [Data.seq.injEq] at e
  have e2 := e.1
  simp only [Array.mk.injEq, List.cons.injEq, and_true] at e2
  exact e2
theorem len5 {x : Str} (h : x ∈ L5) : x.length = 1 := by
  simp only [L5, List.mem_cons, List.not_mem_nil, or_false] at h
  rcases h with rfl | rfl | rfl | rfl | rfl <;> decide +kernel
theorem catS_len : ∀ {l : List Str}, (∀ x ∈ l, x ∈ L5) → (catS l).length = l.length := by
  have key : ∀ (l : List Str) (a : Str), (∀ x ∈ l, x ∈ L5) → (l.foldl (fun a x => a ++ x) a).length = a.length + l.length := by
    intro l
    induction l with
    | nil => intro a _; rfl
    | cons x l ih =>
      intro a h
      rw [List.foldl_cons, ih _ fun y hy => h y (List.Mem.tail _ hy), Str.length_append, len5 (h x (List.Mem.head _)), List.length_cons]
      omega
  intro l h
  unfold catS
  rw [key l _ h]
  show 0 + _ = _
  omega
def endsN (l : List Str) : Nat → List Str
  | 0 => L4
  | i + 1 => endStep l (endsN l i)
def treeF (acc : Int) (p : List Str × Int) : Int := if endsN p.1 4 = R4 then acc + p.2 else acc
def treesC (Pl : List (Str × Str × Int)) : Int := (ways4 Pl).foldl treeF 0
theorem SIn.at {vs : List Value} {H : List Str} (h : SIn vs H) : ∀ {i : Nat} {v : Value}, vs[i]? = some v → ∃ x t, v = .str x t ∧ H[i]? = some x := by
  induction h with
  | nil => intro i v e; cases i <;> cases e
  | cons _ ih =>
    intro i v e
    cases i with
    | zero => cases e; exact ⟨_, _, rfl, rfl⟩
    | succ i => exact ih e
theorem SIn.length {vs : List Value} {H : List Str} (h : SIn vs H) : vs.length = H.length := by
  induction h with
  | nil => rfl
  | cons _ ih => rw [List.length_cons, List.length_cons, ih]
theorem idx5_le {x : Str} : idx5 x ≤ 4 := by
  unfold idx5
  repeat' split
  all_goals omega
theorem index5 {prog : Program} {w : World} {A : Around} {E : Value → Shared → Prop} {s : Shared} {x : Str} {t u : Tok} {Q : Value → Shared → Prop} (hx : x ∈ L5) (h : Q (.int (idx5 x : Nat) s.toks) { s with toks := s.toks + 1 }) :
    wpAny (model prog w) A (call (.builtin "str.index") [.str (Str.ofString "abcdr") t, .str x u]) Q E s := by
  refine SC.index (i := idx5 x) (rest := []) ?_ h
  simp only [L5, List.mem_cons, List.not_mem_nil, or_false] at hx
  rcases hx with rfl | rfl | rfl | rfl | rfl <;> decide +kernel
theorem endsN_ok {l : List Str} (hl : ∀ x ∈ l, x ∈ L5) : ∀ i, (endsN l i).length = 4 ∧ ∀ x ∈ endsN l i, x ∈ L5
  | 0 => ⟨rfl, by show ∀ x ∈ L4, x ∈ L5; decide +kernel⟩
  | i + 1 => by
    obtain ⟨h1, h2⟩ := endsN_ok hl i
    refine ⟨by show (List.map _ _).length = 4; rw [List.length_map, h1], ?_⟩
    intro x hx
    obtain ⟨e, he, rfl⟩ := List.mem_map.mp hx
    rw [List.getD_eq_getElem?_getD]
    cases hq : (l ++ [Str.ofString "r"])[idx5 e]? with
    | none => show Str.ofString "r" ∈ L5; decide +kernel
    | some y =>
      rcases List.mem_append.mp (List.mem_of_getElem? hq) with h | h
      · exact hl y h
      · rw [List.mem_singleton.mp h]; decide +kernel
theorem cps5 {x : Str} (h : x ∈ L5) : ∃ n, x.cps.toList = [n] ∧ x = ⟨#[n]⟩ := by
  simp only [L5, List.mem_cons, List.not_mem_nil, or_false] at h
  rcases h with rfl | rfl | rfl | rfl | rfl
  · exact ⟨97, by decide +kernel, by decide +kernel⟩
  · exact ⟨98, by decide +kernel, by decide +kernel⟩
  · exact ⟨99, by decide +kernel, by decide +kernel⟩
  · exact ⟨100, by decide +kernel, by decide +kernel⟩
  · exact ⟨114, by decide +kernel, by decide +kernel⟩
theorem catS_cps (l : List Str) : ∀ a : Str, (l.foldl (fun a x => a ++ x) a).cps.toList = a.cps.toList ++ l.flatMap fun x => x.cps.toList := by
  induction l with
  | nil => intro a; simp
  | cons x l ih =>
    intro a
    rw [List.foldl_cons, ih, List.flatMap_cons, ← List.append_assoc]
    congr 1
    exact Array.toList_append
theorem flat_get : ∀ {l : List Str}, (∀ x ∈ l, x ∈ L5) → ∀ (i : Nat) (x : Str), l[i]? = some x → ∃ n, (l.flatMap fun x => x.cps.toList)[i]? = some n ∧ x = ⟨#[n]⟩ := by
  intro l
  induction l with
  | nil => intro _ i x e; cases i <;> cases e
  | cons y l ih =>
    intro h i x e
    obtain ⟨n, h1, h2⟩ := cps5 (h y (List.Mem.head _))
    rw [List.flatMap_cons, h1]
    cases i with
    | zero => cases e; exact ⟨n, rfl, h2⟩
    | succ i => exact ih (fun z hz => h z (List.Mem.tail _ hz)) i x e
theorem item_cat {l : List Str} (hl : ∀ x ∈ l, x ∈ L5) (h4 : l.length = 4) (e : Str) : Txt.item (catS l ++ Str.ofString "r") ((idx5 e : Nat) : Int) = (l ++ [Str.ofString "r"]).getD (idx5 e) (Str.ofString "r") := by
  have hl' : ∀ x ∈ l ++ [Str.ofString "r"], x ∈ L5 := by
    intro x hx
    rcases List.mem_append.mp hx with h | h
    · exact hl x h
    · rw [List.mem_singleton.mp h]; decide +kernel
  rw [← catS_snoc]
  have hle := idx5_le (x := e)
  generalize idx5 e = i at hle
  have hll : (l ++ [Str.ofString "r"]).length = 5 := by rw [List.length_append, h4]; rfl
  generalize l ++ [Str.ofString "r"] = l' at hl' hll
  have hlt : i < l'.length := by omega
  obtain ⟨n, h1, h2⟩ := flat_get hl' i _ (List.getElem?_eq_getElem hlt)
  rw [List.getD_eq_getElem?_getD, List.getElem?_eq_getElem hlt, Option.getD_some, h2]
  have hc : (catS l').length = 5 := by rw [catS_len hl', hll]
  have hcp : (catS l').cps[i]? = some n := by
    rw [← Array.getElem?_toList]
    unfold catS
    rw [catS_cps]
    exact h1
  have hs : Txt.charAt (catS l') (i : Int) = some n := by
    unfold Txt.charAt
    rw [hc]
    have : seqIndex? (i : Int) 5 = some i := by
      have : i = 0 ∨ i = 1 ∨ i = 2 ∨ i = 3 ∨ i = 4 := by omega
      rcases this with rfl | rfl | rfl | rfl | rfl <;> decide +kernel
    rw [this]
    exact hcp
  unfold Txt.item
  rw [hs]
  rfl
theorem eq_strs {prog : Program} {w : World} {A : Around} {E : Value → Shared → Prop} {s : Shared} {l b : Addr} {vs ws : List Value} {xs ys : List Str} {Q : Value → Shared → Prop} (hv : SIn vs xs) (hw : SIn ws ys) (hlen : xs.length = ys.length)
    (hl : s.heap.IsList l vs.toArray) (hb : s.heap.IsList b ws.toArray) (hu : A.units < cLine) (h : Q (.bool (decide (xs = ys))) s) : wpAny (model prog w) A (compareOp .Eq (.ref l) (.ref b)) Q E s := by
  refine SeqAt.eq_listAt (e := fun j => decide (xs[j]? = ys[j]?)) hl hb (by simp [hv.length, hw.length, hlen]) hu ?_ ?_
  · intro j h1 h2
    obtain ⟨x, t, e1, q1⟩ := hv.at (i := j) (v := vs.toArray[j]) (by rw [← Array.getElem?_eq_getElem h1]; simp)
    obtain ⟨y, u, e2, q2⟩ := hw.at (i := j) (v := ws.toArray[j]) (by rw [← Array.getElem?_eq_getElem h2]; simp)
    rw [e1, e2, q1, q2]
    have e3 : (x == y) = decide (some x = some y) := by
      rw [Bool.eq_iff_iff]
      simp
    rw [← e3]
    exact SeqAt.EqAt.str_str x t y u
  · have : (List.range vs.toArray.size).all (fun j => decide (xs[j]? = ys[j]?)) = decide (xs = ys) := by
      rw [Bool.eq_iff_iff, List.all_eq_true, decide_eq_true_iff]
      constructor
      · intro hall
        refine List.ext_getElem? fun j => ?_
        by_cases hj : j < xs.length
        · exact of_decide_eq_true (hall j (List.mem_range.mpr (by simp [hv.length]; exact hj)))
        · rw [List.getElem?_eq_none (by omega), List.getElem?_eq_none (by omega)]
      · rintro rfl j _
        exact decide_eq_true rfl
    rw [this]
    exact h
local macro_rules | `(tactic| walk_at "exec For Name Constant") => `(tactic| (k_here; (rename Fr _ _ _ _ => lF'); with_unfolding_all refine For_turns lF' ?_))
local macro_rules | `(tactic| walk_at "exec For Name") => `(tactic| (k_here; (rename Fr _ _ _ _ => lF'); with_unfolding_all refine For_turns lF' ?_))
local macro_rules | `(tactic| walk_at "pyIter str") => `(tactic| (refine hold ?_))
local macro_rules | `(tactic| walk_at "exec Assign cons ListComp") => `(tactic| (k_here; refine hold ?_))
local macro_rules | `(tactic| walk_at "compareOp Eq ref ref") => `(tactic| (k_here; refine hold ?_))
local macro_rules | `(tactic| walk_at "C2Src") => `(tactic| (refine hold ?_))
local macro_rules | `(tactic| walk_at "binaryOp Mult int int") => `(tactic| (k_here; refine' mul_int (hm := ?hm1) ?_; (case hm1 => assumption)))
local macro_rules | `(tactic| walk_at "C2Yes") => `(tactic| (refine hold ?_))
local macro_rules | `(tactic| walk_at "C2No") => `(tactic| (refine hold ?_))
local macro_rules | `(tactic| walk_at "exec For Name Call cons nil") => `(tactic| (k_here; (rename Fr _ _ _ _ => lF'); (with_unfolding_all refine' For_invVF lF' ?k1 ?k2 ?_; (case k1 => exact rfl); (case k2 => exact rfl); k_whole)))
local macro_rules | `(tactic| walk_at "CompSrc") => `(tactic| (refine hold ?_))
local macro_rules | `(tactic| walk_at "call builtin:str.index") => `(tactic| (k_here; refine' index5 ?hx1 ?_; (case hx1 => assumption); (try dsimp only)))
local macro_rules | `(tactic| walk_at "CompEnd") => `(tactic| (refine hold ?_))
section
variable {w : World} {mean : ExcName → Option Value} {mg mb : Str → Option Value} {dp un : Nat} {gd : Option (List Code)} {cn : Str} {cs : Scope} {a : Addr} {ccd : Value} {cl : List (Str × Addr)} {outer : List Env} {A₀ : Around} {base h₀ : Heap} {L : Addr} {m : Str → Option Value} {s : Shared} {Q E : Value → Shared → Prop} {news : List (Addr × Obj)}


set_option maxHeartbeats 8000000 in
theorem trees_ct {P : Addr} {pvs : List Value} {np : Nat} {Pl : List (Str × Str × Int)}
    (B : Below A₀ base outer h₀) (F : Fr h₀ L s.heap m) (X : (Mine.hd.heap_39 w.params).In h₀) (N : News h₀ L s.heap news) (T : Top Mine.hd.view_39 loose0 mean mg mb h₀) (hk : cs.kind = .function)
    (hd : dp + 1 < recursionLimit) (hu : un + 60 < cLine)
    (hP : (P, listOf pvs.toArray np) ∈ news) (hPl : TIn news pvs Pl) (hlen : Pl.length ≤ 10) (hok : ∀ q ∈ Pl, q.2.1 ∈ L5 ∧ Builtin.Int.intBits q.2.2 ≤ 1100000)
    (ret : ∀ (t : Tok) (h' : Heap) (tk' : Nat), Fr h₀ L h' m → News h₀ L h' news → Q (.int (treesC Pl) t) { s with heap := h', toks := tk' }) :
    wpAny (model P0 w) (ktrTop dp un gd cn cs L a ccd cl outer) (call (.ref 233) [.ref P]) Q E s := by
  refine wpAny_call ?_
  k_dflt (walk_at "enterC")
  k_steps
  refine unhold ?_
  rename_i g0 L0 h1 tk1 FG B1 X1 T1 l1 or oc op d1 d2 d3 D0 h2 lD lW h3 lW1 h4 F1 N1
  have N2a := fun p hp => N1 p (permT hp)
  have N2 : News _ _ _ _ := N2a
  clear N2a N1
  obtain ⟨lD3, lD2, lD1, lDn⟩ := lD
  obtain ⟨lW0, lW3, lW2, lW1', lWn⟩ := lW1
  generalize hb : (lW, _) :: (D0, _) :: news = base at N2 ⊢
  have hWmA : (lW, W.listOf [Value.ref D0].toArray 0) ∈ base := by rw [← hb]; exact List.Mem.head _
  have hWinA : WIn base [.ref D0] [([], 1)] := by rw [← hb]; exact WIn.cons (l := []) (z := 1) (List.Mem.tail _ (List.Mem.head _)) .nil
  have hnb : ∀ p ∈ news, p ∈ base := fun p hp => by rw [← hb]; k_mem
  have hbc : ∀ p ∈ base, p.1 ≠ L0 + 1 + 1 + 1 ∧ p.1 ≠ L0 + 1 + 1 ∧ p.1 ≠ L0 + 1 := by
    rw [← hb]
    intro p hp
    rcases List.mem_cons.mp hp with rfl | hp
    · exact ⟨Nat.ne_of_gt lW3, Nat.ne_of_gt lW2, Nat.ne_of_gt lW1'⟩
    rcases List.mem_cons.mp hp with rfl | hp
    · exact ⟨Nat.ne_of_gt lD3, Nat.ne_of_gt lD2, Nat.ne_of_gt lD1⟩
    have h9 := ltN (l1 p hp)
    exact ⟨Nat.ne_of_lt (Nat.lt_succ_of_lt (Nat.lt_succ_of_lt (Nat.lt_succ_of_lt h9))), Nat.ne_of_lt (Nat.lt_succ_of_lt (Nat.lt_succ_of_lt h9)), Nat.ne_of_lt (Nat.lt_succ_of_lt h9)⟩
  clear hb lD3 lD2 lD1 lDn lW0 lW3 lW2 lW1' lWn
  refine iter_strT (l := L4) rfl F1 N2 (by decide +kernel) (by decide +kernel) (fun _ _ => rfl) ?_
  intro I hI
  have hI3 := ltN (hI (L0 + 1 + 1 + 1, or) (by k_mem))
  have hnI : ∀ p ∈ base, p.1 ≠ I := fun p hp => Nat.ne_of_lt (hI p (by k_mem))
  generalize hm : (fun y => if y = Str.ofString "ways" then some (Value.ref lW) else _) = m1 at F1 ⊢
  have e1 : Kn m1 [(Str.ofString "ways", .ref lW)] := by rw [← hm]; exact ⟨rfl, trivial⟩
  have dc : ∃ v, oc.data = .cell v := ⟨_, d2⟩
  have dr : ∃ v, or.data = .cell v := ⟨_, d1⟩
  have dpp : op.data = .cell (some (.ref P)) := d3
  have hGA : GoodW [([], 1)] 0 := ⟨by simp, by intro p hp; rw [List.mem_singleton.mp hp]; exact ⟨rfl, fun x hx => (by cases hx), by show Builtin.Int.intBits 1 ≤ _; decide +kernel⟩⟩
  clear hm hI d1 d2 d3 F1 N2
  obtain ⟨nw, wvs, kk, ways, hWm, hWin, hG, hfold, hkk⟩ : ∃ nw wvs kk ways, (lW, W.listOf (List.toArray wvs) nw) ∈ base ∧ WIn base wvs ways ∧ GoodW ways kk ∧ L4.foldl (wayStep Pl) ways = ways4 Pl ∧ kk + L4.length = 4 := ⟨0, [.ref D0], 0, [([], 1)], hWmA, hWinA, hGA, rfl, rfl⟩
  clear hWmA hWinA hGA
  have hb3 : ∀ p ∈ base, p.1 ≠ L0 + 1 + 1 + 1 := fun p hp => (hbc p hp).1
  have hb2 : ∀ p ∈ base, p.1 ≠ L0 + 1 + 1 := fun p hp => (hbc p hp).2.1
  have hb1 : ∀ p ∈ base, p.1 ≠ L0 + 1 := fun p hp => (hbc p hp).2.2
  clear hbc
  generalize hcs : L4 = cz at hfold hkk ⊢
  have hczL : ∀ c ∈ cz, c ∈ L4 := by rw [← hcs]; exact fun _ h => h
  clear hcs
  induction cz generalizing m1 lW base wvs nw ways kk oc with
  | nil =>
    refine ItemsRest.zero ?_
    intro h tk lF3 lN3
    have lF4 := frKn lF3 e1
    clear lF3 e1
    replace hfold : ways = ways4 Pl := hfold
    replace hkk : kk = 4 := hkk
    subst hfold
    subst hkk
    k_steps
    refine unhold ?_
    rename Fr _ _ _ _ => F5
    rename News _ _ _ _ => N5
    refine iter_listTurns (vs := wvs) rfl F5 N5 (List.Mem.tail _ (List.Mem.tail _ (List.Mem.tail _ hWm))) rfl rfl ?_
    intro I2 hI2
    have hnI2 : ∀ p ∈ base, p.1 ≠ I2 := fun p hp => Nat.ne_of_lt (hI2 p (by k_mem))
    have hI23 : @LT.lt Nat _ (L0 + 1 + 1 + 1) I2 := hI2 (L0 + 1 + 1 + 1, or) (by k_mem)
    generalize hm : (fun y => if y = Str.ofString "whole" then some (Value.int 0 _) else _) = m2 at F5 ⊢
    have e2A : ∃ tk, Kn m2 [(Str.ofString "whole", .int 0 tk)] := by rw [← hm]; exact ⟨_, rfl, trivial⟩
    have hrow : ∀ p ∈ ways4 Pl, p.1.length = 4 ∧ ∀ x ∈ p.1, x ∈ L5 := fun p hp => ⟨(hG.row p hp).1, (hG.row p hp).2.1⟩
    have hkeep : SubL [(lW, W.listOf wvs.toArray nw)] base := ⟨hWm, trivial⟩
    have hkp : ∀ l : List (Addr × Obj), SubL [(lW, W.listOf wvs.toArray nw)] (l ++ base) := fun l => ⟨List.mem_append_right _ hWm, trivial⟩
    generalize [(lW, W.listOf wvs.toArray nw)] = kp at hkp hkeep ⊢
    obtain ⟨acc, hacc, e2⟩ : ∃ acc, (ways4 Pl).foldl treeF acc = treesC Pl ∧ ∃ tk, Kn m2 [(Str.ofString "whole", .int acc tk)] := ⟨0, rfl, e2A⟩
    clear e2A
    generalize ways4 Pl = ws at hWin hrow hacc
    clear hm hI2 hG F5 N5 lN3 lF4 hczL hWm hI3
    induction hWin generalizing m2 or acc with
    | nil =>
      refine ItemsRest.zero ?_
      intro h tk lF3 lN3
      obtain ⟨tk1, e2⟩ := e2
      have lF4 := frKn lF3 e2
      clear lF3 e2
      k_steps
      rename_i kF kN _ _
      replace hacc : acc = treesC Pl := hacc
      rw [hacc]
      exact ret _ _ _ kF (fun p hp => kN p (by have := hnb p hp; k_mem))
    | @cons wa wn l z wt wu vs ws' hm hr ih =>
      obtain ⟨hl4, hlL⟩ := hrow (l, z) (List.Mem.head _)
      dsimp only at hl4 hlL
      obtain ⟨tk1, e2⟩ := e2
      refine ItemsRest.val ?_
      intro h tk lF3
      refine AllObj.cons ?_
      intro oj hoj
      refine AllObj.nil ?_
      intro lN3
      obtain ⟨v0, dr⟩ := dr
      have lF4 := frKn lF3 e2
      clear lF3
      simp only [List.cons_append, List.nil_append] at lN3
      k_steps
      refine unhold ?_
      rename IsRange _ _ _ _ _ _ _ _ => hr4
      rename_i or2 dr2 h5 tk5 lE h6 lE1 h7 F6 N6 h8 tk8 tt1 tt2 tt3 F7 N7 up7
      obtain ⟨lE2, lE3, lE4, lE5, lEb⟩ := lE1
      with_unfolding_all refine iter_rangeUnr (n := 4) (by rfl) hr4 (by decide) (by decide) F7 N7 ?_
      intro J hJ
      have hEJ := ltN (hJ (lE, _) (List.Mem.head _))
      have hLJ : ∀ p ∈ (I2, oj) :: (L0 + 1 + 1 + 1, or2) :: (L0 + 1 + 1, oc) :: (L0 + 1, op) :: base, p.1 ≠ J := fun p hp => Nat.ne_of_lt (hJ p (List.Mem.tail _ hp))
      have hEl : ∀ p ∈ (I2, oj) :: (L0 + 1 + 1 + 1, or2) :: (L0 + 1 + 1, oc) :: (L0 + 1, op) :: base, @LT.lt Nat _ p.1 lE := by
        intro p hp
        rcases List.mem_cons.mp hp with rfl | hp
        · exact lE2
        rcases List.mem_cons.mp hp with rfl | hp
        · exact lE3
        rcases List.mem_cons.mp hp with rfl | hp
        · exact lE4
        rcases List.mem_cons.mp hp with rfl | hp
        · exact lE5
        · exact allLt_mem lEb p hp
      have hlc : (catS l).length = 4 := by rw [catS_len hlL, hl4]
      refine RangeRest_ind (fun i m led => ∃ (D : Addr) (vs : List Value) (n : Nat), led = (D, W.listOf vs.toArray n) :: (I2, oj) :: (L0 + 1 + 1 + 1, or2) :: (L0 + 1 + 1, oc) :: (L0 + 1, op) :: base ∧ SIn vs (endsN l i) ∧ Kn m [(Str.ofString "ends", .ref D), (Str.ofString "weight", .int z wu), (Str.ofString "whole", .int acc tk1)] ∧ D ≠ J ∧ D ≠ I2) ?init ?step ?done
      case init => exact ⟨lE, _, 0, rfl, .cons (.cons (.cons (.cons .nil))), ⟨rfl, rfl, rfl, trivial⟩, Nat.ne_of_lt hEJ, Nat.ne_of_gt lE2⟩
      case done =>
        clear hr4 F6 N6 F7 N7 up7 hJ hEJ hEl lE2 lE3 lE4 lE5 lEb
        rintro m3 _ ⟨D, vs2, n2, rfl, hvs2, e3, hDJ, hDI⟩ h tk F8 N8
        have F9 := frKn F8 e3
        clear F8
        have hn44 := (endsN_ok hlL 4).1
        k_steps
        refine unhold ?_
        rename Fr _ _ _ _ => FA
        rename News _ _ _ _ => NA
        refine eq_strs (xs := endsN l 4) (ys := R4) hvs2 (.cons (.cons (.cons (.cons .nil)))) hn44 ⟨_, (NA (D, W.listOf vs2.toArray n2) (by k_mem)).1, rfl, _, rfl⟩ ⟨_, (NA _ (List.Mem.head _)).1, rfl, _, rfl⟩ (by k_dflt ktr_units) ?_
        have hoff : ∀ p ∈ (L0 + 1 + 1 + 1, or2) :: (L0 + 1 + 1, oc) :: (L0 + 1, op) :: base, ∀ q ∈ [(I2, oj)], p.1 ≠ q.1 := by
          intro p hp q hq
          rw [List.mem_singleton.mp hq]
          rcases List.mem_cons.mp hp with rfl | hp
          · exact Nat.ne_of_lt hI23
          rcases List.mem_cons.mp hp with rfl | hp
          · exact Nat.ne_of_lt (Nat.lt_of_succ_lt hI23)
          rcases List.mem_cons.mp hp with rfl | hp
          · exact Nat.ne_of_lt (Nat.lt_of_succ_lt (Nat.lt_of_succ_lt hI23))
          · exact hnI2 p hp
        have hsubZ : ∀ {a b : Addr × Obj} {p}, p ∈ (I2, oj) :: (L0 + 1 + 1 + 1, or2) :: (L0 + 1 + 1, oc) :: (L0 + 1, op) :: base → p ∈ a :: b :: (I2, oj) :: (L0 + 1 + 1 + 1, or2) :: (L0 + 1 + 1, oc) :: (L0 + 1, op) :: base := fun hp => List.Mem.tail _ (List.Mem.tail _ hp)
        k_steps
        · refine unhold ?_
          rename Fr _ _ _ _ => FZ
          rename News _ _ _ _ => NZ
          refine ⟨_, _, _, (L0 + 1 + 1 + 1, or2) :: (L0 + 1 + 1, oc) :: (L0 + 1, op) :: base, rfl, FZ, fun p hp => NZ p (hsubZ hp), hoff, hkp [_, _, _], ?_⟩
          have hcnd : endsN l 4 = R4 := by assumption
          refine ih or2 ⟨_, dr2⟩ _ _ ⟨_, rfl, trivial⟩ (fun p hp => hrow p (List.Mem.tail _ hp)) ?_
          rw [List.foldl_cons] at hacc
          rw [← hacc]
          congr 1
          unfold treeF
          rw [if_pos hcnd]
        · refine unhold ?_
          rename Fr _ _ _ _ => FZ
          rename News _ _ _ _ => NZ
          refine ⟨_, _, _, (L0 + 1 + 1 + 1, or2) :: (L0 + 1 + 1, oc) :: (L0 + 1, op) :: base, rfl, FZ, fun p hp => NZ p (hsubZ hp), hoff, hkp [_, _, _], ?_⟩
          have hcnd : ¬ endsN l 4 = R4 := by assumption
          refine ih or2 ⟨_, dr2⟩ _ _ ⟨_, rfl, trivial⟩ (fun p hp => hrow p (List.Mem.tail _ hp)) ?_
          rw [List.foldl_cons] at hacc
          rw [← hacc]
          congr 1
          unfold treeF
          rw [if_neg hcnd]
      case step =>
        clear hr4 F6 N6 F7 N7 up7 hJ hEJ hEl lE2 lE3 lE4 lE5 lEb
        rintro i m3 _ hi4 ⟨D, vs2, n2, rfl, hvs2, e3, hDJ, hDI⟩ tt h tk F8 N8
        obtain ⟨hn4, hnL⟩ := endsN_ok hlL i
        have F9 := frKn (l := [(Str.ofString "step", .int (0 + (i : Int)) tt), (Str.ofString "ends", .ref D), (Str.ofString "weight", .int z wu), (Str.ofString "whole", .int acc tk1)]) F8 ⟨rfl, e3.1, e3.2.1, e3.2.2.1, trivial⟩
        clear F8
        k_steps
        refine unhold ?_
        with_unfolding_all refine LCg.Assign_ListComp_U (F₀ := F9) (cl := [(Str.ofString "row", L0 + 1 + 1 + 1)]) (by rfl) (by with_unfolding_all rfl) ?clos ?cell ?kind ?names ?hx (by rfl) (by rfl) ?_
        case clos => rfl
        case cell => decide
        case kind => rfl
        case names => decide
        case hx => rfl
        k_steps
        refine unhold ?_
        have hn42 : vs2.toArray.size = (endsN l i).length := by rw [List.size_toArray, hvs2.length]
        refine LCg.CompSrc.ledger rfl F9 N8 (List.Mem.tail _ (List.Mem.head _)) (by rw [hn42, hn4, sizeLine_eq]; decide) ?_
        intro g
        refine compU_ind (fun j ys lx => lx = ((J, itR (0 + ((i + 1 : Nat) : Int)) (((4 : Nat) : Int) - ((i + 1 : Nat) : Int))) :: (D, W.listOf vs2.toArray n2) :: (I2, oj) :: (L0 + 1 + 1 + 1, or2) :: (L0 + 1 + 1, oc) :: (L0 + 1, op) :: base) ∧ SIn ys (endStep l ((endsN l i).take j))) ⟨rfl, .nil⟩ ?_ ?_
        · rintro j ys _ hj ⟨rfl, hys⟩ v Ij oI Cj oCj Dj m₂ h tk E' hPj hCj hx F2 N2 off ne
          obtain ⟨x, xt, rfl, ex⟩ := hvs2.at (i := j) (v := v) (by simpa using hPj)
          have hx5 := hnL x (List.mem_of_getElem? ex)
          have hxi := idx5_le (x := x)
          have hcl : (catS l ++ Str.ofString "r").length = 5 := by rw [Str.length_append, hlc]; rfl
          k_steps
          refine KXi.item (n := 5) hcl (by omega) (by omega) (by decide) ?_
          intro _
          rw [item_cat hlL hl4 x]
          k_steps
          refine unhold ⟨_, _, _, rfl, F2, N2, off, .inr ⟨_, List.Mem.tail _ (List.Mem.head _), rfl, _, rfl⟩, rfl, ?_⟩
          rw [take_succ_of ex]
          unfold endStep
          rw [List.map_append]
          exact hys.append (.cons .nil)
        · rintro ys _ ⟨rfl, hys⟩ D3 h3 tk3 F3 N3 off3
          rw [hn42, List.take_length] at hys
          have h3o := off1_mem off3
          k_steps
          refine unhold ?_
          refine ⟨_, _, _, (D3, LCg.lst ys) :: (I2, oj) :: (L0 + 1 + 1 + 1, or2) :: (L0 + 1 + 1, oc) :: (L0 + 1, op) :: base, rfl, F3, ?_, ?_, D3, ys, ys.length, rfl, hys, ⟨rfl, rfl, rfl, trivial⟩, ?_, ?_⟩
          · intro p hp
            refine N3 p ?_
            rcases List.mem_cons.mp hp with rfl | hp
            · k_mem
            rcases List.mem_cons.mp hp with rfl | hp
            · k_mem
            · exact List.Mem.tail _ (List.Mem.tail _ (List.Mem.tail _ hp))
          · intro p hp
            rcases List.mem_cons.mp hp with rfl | hp
            · exact Ne.symm (h3o (J, _) (List.Mem.head _))
            · exact hLJ p hp
          · exact Ne.symm (h3o (J, _) (List.Mem.head _))
          · exact Ne.symm (h3o (I2, oj) (by k_mem))
  | cons c r ih =>
    refine ItemsRest.tok ?_
    intro u h tk lF3
    refine AllObj.cons ?_
    intro oi hoi
    refine AllObj.nil ?_
    intro lN3
    obtain ⟨v0, dc⟩ := dc
    have lF4 := frKn lF3 e1
    clear lF3
    simp only [List.cons_append, List.nil_append] at lN3
    k_steps
    refine unhold ?_
    rename Fr _ _ _ _ => F5
    rename News _ _ _ _ => N5
    rename_i h6 oc2 dc2
    with_unfolding_all refine c2_assign (cl := [(Str.ofString "plain", L0 + 1), (Str.ofString "caller", L0 + 1 + 1)]) F5 rfl (by rfl) (by with_unfolding_all rfl) ?clos ?cell ?kind ?names ?xa ?xb ?xx (by decide +kernel) (by decide +kernel) (by decide +kernel) (by rfl) (by rfl) (fun _ _ => rfl) ?_
    case clos => rfl
    case cell => decide
    case kind => rfl
    case names => decide
    case xa => rfl
    case xb => rfl
    case xx => rfl
    k_steps
    refine unhold ?_
    generalize hB : (I, oi) :: (L0 + 1 + 1 + 1, or) :: (L0 + 1 + 1, oc2) :: (L0 + 1, op) :: base = led0 at N5
    have hBb : ∀ p ∈ base, p ∈ led0 := fun p hp => by rw [← hB]; k_mem
    have hBc : (L0 + 1 + 1, oc2) ∈ led0 := by rw [← hB]; k_mem
    have hBp : (L0 + 1, op) ∈ led0 := by rw [← hB]; k_mem
    have hPm := hBb _ (hnb _ hP)
    have hWm0 := hBb _ hWm
    have hWin0 := hWin.mono hBb
    have hPl0 := hPl.mono fun p hp => hBb p (hnb p hp)
    have hlen4 : ways.length ≤ 10000 := Nat.le_trans hG.len (Nat.le_trans (Nat.pow_le_pow_right (by decide) (show kk ≤ 4 by rw [← hkk]; exact Nat.le_add_right _ _)) (by decide))
    refine ⟨lW, P, wvs.toArray, pvs.toArray, nw, np, 200000, led0, led0, fun i j ys led => ∃ ext, led = ext ++ led0 ∧ (∀ p ∈ ext, ∀ q ∈ led0, @LT.lt Nat _ q.1 p.1) ∧ WIn ext ys (wayPre Pl ways c i j), rfl, F5, N5, by rw [sizeLine_eq]; decide, hWm0, hPm, ?its, ?s1, ?s2, ⟨[], rfl, fun p hp => (nomatch hp), ?j0⟩, ?jn, ?jb, ?turn, ?iter, ?fin⟩
    case its =>
      intro i v hv
      obtain ⟨a, n, l, z, t, u, e, _, hm⟩ := hWin0.at (i := i) (v := v) (by simpa using hv)
      exact ⟨a, _, _, n, e, hm⟩
    case s1 => rw [List.size_toArray, hWin.length, sizeLine_eq]; omega
    case s2 => rw [List.size_toArray, hPl.length, sizeLine_eq]; omega
    case j0 =>
      have : wayPre Pl ways c 0 0 = [] := by
        unfold wayPre
        rw [List.take_zero, List.take_zero]
        cases ways[0]? <;> rfl
      rw [this]; exact .nil
    case jn =>
      rintro i ys led ⟨ext, rfl, h1, h2⟩
      refine ⟨ext, rfl, h1, ?_⟩
      rw [List.size_toArray, hPl.length, wayPre_next] at h2
      exact h2
    case jb =>
      rintro i j ys led ⟨ext, rfl, h1, h2⟩
      refine ⟨fun p hp => List.mem_append_right _ hp, ?_⟩
      rw [h2.length]
      refine Nat.le_trans (wayPre_len Pl ways c i j) ?_
      refine Nat.le_trans (Nat.mul_le_mul (Nat.succ_le_succ hlen4) hlen) (by decide)
    case iter =>
      intro s₂ C h tk E' F6 N6
      k_steps
    case turn =>
      rintro s₂ i j ys _ T k va vb vx I1 o1 I2 o2 C oC D m₂ h tk E' ⟨ext, rfl, hx1, hJ2⟩ hiT hTm hjx hoC hma hmb hmx F6 N6
      obtain ⟨wa, wn, wl, wz, wt, wu, e, hwi, hwm⟩ := hWin0.at (i := i) (by simpa using hiT)
      cases e
      obtain ⟨rfl, rfl⟩ := tup2_inj (news_same N5 hTm hwm)
      obtain ⟨pa, pn, px, py, pz, pt, pu, pr, rfl, hpj, hpm⟩ := hPl0.at (i := j) (by simpa using hjx)
      have hJ1 : ∀ p ∈ led0, p ∈ ext ++ led0 := fun p hp => List.mem_append_right _ hp
      have hpm1 := hJ1 _ hpm
      have hBc1 := hJ1 _ hBc
      generalize hE : ext ++ led0 = led at hpm1 hBc1 F6 N6 hJ1
      obtain ⟨g1, g2, g3⟩ := hG.row _ (List.mem_of_getElem? hwi)
      have g4 := (hok _ (List.mem_of_getElem? hpj)).2
      dsimp only at g3 g4
      have hkk4 : kk ≤ 3 := by rw [List.length_cons] at hkk; omega
      have hmul : IntMulOk wz pz := IntMulOk.of_le g3 g4 (by omega)
      dsimp only at g1 g2
      have hlc : (catS wl).length = kk := by rw [catS_len g2, g1]
      have hlc2 : (catS wl).length ≤ 4 := by omega
      have hly : py.length = 1 := len5 (hok _ (List.mem_of_getElem? hpj)).1
      have hsn := wayPre_snoc Pl ways c hwi hpj
      dsimp only at hsn
      k_steps
      · refine unhold ?_
        rename_i hc2 tT kT hlT TT hT FT NT lT
        have lT' : ∀ q ∈ [(I1, o1), (I2, o2), (C, oC), (D, LCg.lst ys)] ++ led, q.1 < TT := fun q hq => allLt_mem (l := (I1, o1) :: (I2, o2) :: (C, oC) :: (D, LCg.lst ys) :: led) lT q hq
        refine ⟨_, _, [(TT, _)], rfl, FT, NT, ?_, (TT, _) :: ext, by rw [← hE]; rfl, ?_, ?_⟩
        · intro p hp q hq
          rw [List.mem_singleton.mp hp]
          exact lT' q hq
        · intro p hp q hq
          rcases List.mem_cons.mp hp with rfl | hp
          · exact lT' q (List.mem_append_right _ (hJ1 q hq))
          · exact hx1 p hp q hq
        · rw [hsn, if_pos (by simpa using hc2)]
          exact (hJ2.mono fun p hp => List.Mem.tail _ hp).append (WIn.one rfl)
      · rename_i hc2
        refine unhold ⟨_, _, rfl, F6, N6, ext, hE.symm, hx1, ?_⟩
        rw [hsn, if_neg (by simpa using hc2), List.append_nil]
        exact hJ2
    case fin =>
      rintro D ys _ h' tk' ⟨ext, rfl, hx1, hJ2⟩ F6 N6 hD
      rw [List.size_toArray, hWin.length, wayPre_done] at hJ2
      have hL0 : ∀ p ∈ led0, p ∈ ext ++ led0 := fun p hp => List.mem_append_right _ hp
      have hBr : (L0 + 1 + 1 + 1, or) ∈ led0 := by rw [← hB]; k_mem
      have hBI : (I, oi) ∈ led0 := by rw [← hB]; k_mem
      k_steps
      refine unhold ?_
      refine ⟨_, _, _, (L0 + 1 + 1 + 1, or) :: (L0 + 1 + 1, oc2) :: (L0 + 1, op) :: (D, LCg.lst ys) :: (ext ++ base), rfl, F6, ?_, ?_, trivial, ?_⟩
      · intro p hp
        simp only [List.cons_append, List.nil_append, List.mem_cons, List.mem_append] at hp
        refine N6 p ?_
        rcases hp with rfl | rfl | rfl | rfl | rfl | hp | hp
        · exact List.Mem.tail _ (hL0 _ hBI)
        · exact List.Mem.tail _ (hL0 _ hBr)
        · exact List.Mem.tail _ (hL0 _ hBc)
        · exact List.Mem.tail _ (hL0 _ hBp)
        · exact List.Mem.head _
        · exact List.Mem.tail _ (List.mem_append_left _ hp)
        · exact List.Mem.tail _ (hL0 _ (hBb _ hp))
      · intro p hp q hq
        rw [List.mem_singleton.mp hq]
        simp only [List.mem_cons, List.mem_append] at hp
        rcases hp with rfl | rfl | rfl | rfl | hp | hp
        · exact Nat.ne_of_lt hI3
        · exact Nat.ne_of_lt (Nat.lt_of_succ_lt hI3)
        · exact Nat.ne_of_lt (Nat.lt_of_succ_lt (Nat.lt_of_succ_lt hI3))
        · exact Ne.symm (hD _ (hL0 _ hBI))
        · exact Nat.ne_of_gt (hx1 p hp _ hBI)
        · exact hnI p hp
      · refine ih oc2 D ((D, LCg.lst ys) :: (ext ++ base)) (fun p hp => List.Mem.tail _ (List.mem_append_right _ (hnb p hp))) ?_ _ ⟨rfl, trivial⟩ ⟨_, dc2⟩ ys.length ys (kk + 1) (wayStep Pl ways c) (List.Mem.head _) (hJ2.mono fun p hp => List.Mem.tail _ (List.mem_append_left _ hp)) (hG.step hlen hok c) ?_ ?_ ?_ hfold (by rw [List.length_cons] at hkk; omega) (fun c' hc' => hczL c' (List.Mem.tail _ hc'))
        · intro p hp
          rcases List.mem_cons.mp hp with rfl | hp
          · exact Ne.symm (hD _ (hL0 _ hBI))
          rcases List.mem_append.mp hp with hp | hp
          · exact Nat.ne_of_gt (hx1 p hp _ hBI)
          · exact hnI p hp
        · intro p hp
          rcases List.mem_cons.mp hp with rfl | hp
          · exact Ne.symm (hD _ (hL0 _ hBr))
          rcases List.mem_append.mp hp with hp | hp
          · exact Nat.ne_of_gt (hx1 p hp _ hBr)
          · exact hb3 p hp
        · intro p hp
          rcases List.mem_cons.mp hp with rfl | hp
          · exact Ne.symm (hD _ (hL0 _ hBc))
          rcases List.mem_append.mp hp with hp | hp
          · exact Nat.ne_of_gt (hx1 p hp _ hBc)
          · exact hb2 p hp
        · intro p hp
          rcases List.mem_cons.mp hp with rfl | hp
          · exact Ne.symm (hD _ (hL0 _ hBp))
          rcases List.mem_append.mp hp with hp | hp
          · exact Nat.ne_of_gt (hx1 p hp _ hBp)
          · exact hb1 p hp
end

end

-- part M18a
open PySem PySem.W PySem.Spec PySem.Calls PyProof.Rows PyProof.V
def sm {α : Type} (l : List α) (f : α → Int) : Int := (l.map f).sum
@[simp] theorem sm_nil {α : Type} (f : α → Int) : sm [] f = 0 := rfl
@[simp] theorem sm_cons {α : Type} (x : α) (l : List α) (f : α → Int) : sm (x :: l) f = f x + sm l f := by unfold sm; rw [List.map_cons, List.sum_cons]
theorem sm_append {α : Type} (l r : List α) (f : α → Int) : sm (l ++ r) f = sm l f + sm r f := by
  induction l with
  | nil => simp
  | cons x l ih => rw [List.cons_append, sm_cons, sm_cons, ih]; omega
theorem sm_congr {α : Type} {l : List α} {f g : α → Int} (h : ∀ x ∈ l, f x = g x) : sm l f = sm l g := by
  induction l with
  | nil => rfl
  | cons x l ih => rw [sm_cons, sm_cons, h x (List.Mem.head _), ih fun y hy => h y (List.Mem.tail _ hy)]
theorem sm_add {α : Type} (l : List α) (f g : α → Int) : sm l (fun x => f x + g x) = sm l f + sm l g := by
  induction l with
  | nil => rfl
  | cons x l ih => rw [sm_cons, sm_cons, sm_cons, ih]; omega
theorem sm_mul {α : Type} (l : List α) (c : Int) (f : α → Int) : sm l (fun x => c * f x) = c * sm l f := by
  induction l with
  | nil => simp
  | cons x l ih => rw [sm_cons, sm_cons, ih, Int.mul_add]
theorem sm_zero {α : Type} (l : List α) : sm l (fun _ => 0) = 0 := by
  induction l with
  | nil => rfl
  | cons x l ih => rw [sm_cons, ih]; rfl
theorem sm_comm {α β : Type} (l : List α) (r : List β) (f : α → β → Int) : sm l (fun x => sm r (f x)) = sm r (fun y => sm l fun x => f x y) := by
  induction l with
  | nil => simp [sm_zero]
  | cons x l ih =>
    rw [sm_cons, ih, ← sm_add]
    exact sm_congr fun y _ => by rw [sm_cons]
theorem sm_map {α β : Type} (l : List α) (g : α → β) (f : β → Int) : sm (l.map g) f = sm l fun x => f (g x) := by
  unfold sm; rw [List.map_map]; rfl
theorem sm_flatMap {α β : Type} (l : List α) (g : α → List β) (f : β → Int) : sm (l.flatMap g) f = sm l fun x => sm (g x) f := by
  induction l with
  | nil => rfl
  | cons x l ih => rw [List.flatMap_cons, sm_append, ih, sm_cons]
/-- the number that stands at w, all places added -/
def S (c : List (Str × Int)) (w : Str) : Int := sm c fun p => if p.1 = w then p.2 else 0
def K (c : List (Str × Int)) : List Str := c.map (·.1)
def Nd (c : List (Str × Int)) : Prop := (K c).Nodup
def nrm (c : List (Str × Int)) : Nat := (c.map fun p => p.2.natAbs).sum
theorem has_iff (c : List (Str × Int)) (k : Str) : kdpHas c k = true ↔ k ∈ K c := by
  unfold kdpHas K
  rw [List.any_eq_true, List.mem_map]
  constructor
  · rintro ⟨p, hp, h⟩; exact ⟨p, hp, of_decide_eq_true h⟩
  · rintro ⟨p, hp, h⟩; exact ⟨p, hp, decide_eq_true h⟩
theorem put_new {c : List (Str × Int)} {k : Str} (h : k ∉ K c) (v : Int) : kdpPut c k v = c ++ [(k, v)] := by
  have h' : ¬ kdpHas c k = true := fun e => h ((has_iff c k).1 e)
  unfold kdpPut
  exact if_neg h'
theorem put_old {c : List (Str × Int)} {k : Str} (h : k ∈ K c) (v : Int) : kdpPut c k v = c.map fun p => if decide (p.1 = k) = true then (p.1, v) else p := by
  have h' : kdpHas c k = true := (has_iff c k).2 h
  unfold kdpPut
  exact if_pos h'
theorem K_put (c : List (Str × Int)) (k : Str) (v : Int) : K (kdpPut c k v) = if k ∈ K c then K c else K c ++ [k] := by
  by_cases h : k ∈ K c
  · rw [put_old h, if_pos h]
    unfold K
    rw [List.map_map]
    refine List.map_congr_left fun p _ => ?_
    show (if decide (p.1 = k) = true then (p.1, v) else p).1 = p.1
    split <;> rfl
  · rw [put_new h, if_neg h]
    unfold K
    rw [List.map_append]
    rfl
theorem Nd_put {c : List (Str × Int)} (h : Nd c) (k : Str) (v : Int) : Nd (kdpPut c k v) := by
  unfold Nd at *
  rw [K_put]
  split
  · exact h
  · rename_i hk
    refine List.nodup_append.mpr ⟨h, by simp, ?_⟩
    intro a ha b hb
    rw [List.mem_singleton.mp hb]
    rintro rfl
    exact hk ha
theorem look_cons (p : Str × Int) (c : List (Str × Int)) (k : Str) : kdpLook (p :: c) k 0 = if p.1 = k then p.2 else kdpLook c k 0 := by
  unfold kdpLook
  rw [List.find?_cons]
  by_cases h : p.1 = k
  · simp [h]
  · simp [h]
theorem S_new {c : List (Str × Int)} {k : Str} (h : k ∉ K c) : S c k = 0 := by
  induction c with
  | nil => rfl
  | cons p c ih =>
    unfold S
    rw [sm_cons]
    have h1 : ¬ p.1 = k := fun e => h (by unfold K; rw [List.map_cons, e]; exact List.Mem.head _)
    rw [if_neg h1]
    have := ih fun hm => h (by unfold K at *; rw [List.map_cons]; exact List.Mem.tail _ hm)
    unfold S at this
    omega
theorem S_cons (p : Str × Int) (c : List (Str × Int)) (w : Str) : S (p :: c) w = (if p.1 = w then p.2 else 0) + S c w := by unfold S; rw [sm_cons]
theorem map_new {c : List (Str × Int)} {k : Str} (h : k ∉ K c) (v : Int) : (c.map fun p => if decide (p.1 = k) = true then (p.1, v) else p) = c := by
  have : ∀ p ∈ c, (if decide (p.1 = k) = true then (p.1, v) else p) = p := by
    intro p hp
    have : ¬ p.1 = k := fun e => h (by unfold K; exact List.mem_map.mpr ⟨p, hp, e⟩)
    rw [if_neg (by simpa using this)]
  conv => rhs; rw [← List.map_id c]
  exact List.map_congr_left this
theorem S_map {c : List (Str × Int)} (hn : Nd c) {k : Str} (hk : k ∈ K c) (v : Int) (w : Str) :
    S (c.map fun p => if decide (p.1 = k) = true then (p.1, v) else p) w = S c w + if k = w then v - kdpLook c k 0 else 0 := by
  induction c with
  | nil => cases hk
  | cons p c ih =>
    have hn' : p.1 ∉ K c ∧ Nd c := by unfold Nd K at *; rw [List.map_cons] at hn; exact List.nodup_cons.mp hn
    rw [List.map_cons, look_cons]
    by_cases hp : p.1 = k
    · have e : (if decide (p.1 = k) = true then (p.1, v) else p) = (p.1, v) := if_pos (by simpa using hp)
      rw [e, if_pos hp, map_new (hp ▸ hn'.1), S_cons, S_cons]
      dsimp only
      rw [hp]
      by_cases hw : k = w
      · simp only [hw, if_true]; omega
      · simp only [hw, if_false]; omega
    · have e : (if decide (p.1 = k) = true then (p.1, v) else p) = p := if_neg (by simpa using hp)
      rw [e, if_neg hp, S_cons, S_cons]
      have hk' : k ∈ K c := by
        unfold K at hk ⊢
        rw [List.map_cons] at hk
        rcases List.mem_cons.mp hk with h | h
        · exact absurd h.symm hp
        · exact h
      rw [ih hn'.2 hk']
      omega
theorem S_upd1 {c : List (Str × Int)} (hn : Nd c) (p : Str × Int) (w : Str) : S (upd1 c p) w = S c w + if p.1 = w then p.2 else 0 := by
  unfold upd1
  by_cases h : p.1 ∈ K c
  · rw [if_pos ((has_iff _ _).2 h), put_old h, S_map hn h]
    by_cases hw : p.1 = w
    · simp only [hw, if_true]; omega
    · simp only [hw, if_false]
  · rw [if_neg (fun e => h ((has_iff _ _).1 e)), put_new h]
    unfold S
    rw [sm_append]
    simp
theorem K_upd1 (c : List (Str × Int)) (p : Str × Int) : K (upd1 c p) = if p.1 ∈ K c then K c else K c ++ [p.1] := K_put _ _ _
theorem Nd_upd1 {c : List (Str × Int)} (hn : Nd c) (p : Str × Int) : Nd (upd1 c p) := Nd_put hn _ _
theorem puts_id : ∀ {c acc : List (Str × Int)}, Nd (acc ++ c) → c.foldl (fun c p => kdpPut c p.1 p.2) acc = acc ++ c := by
  intro c
  induction c with
  | nil => intro acc _; simp
  | cons p c ih =>
    intro acc h
    have hp : p.1 ∉ K acc := by
      unfold Nd K at h
      rw [List.map_append, List.map_cons] at h
      have := (List.nodup_append.mp h).2.2
      intro hm
      exact this _ hm _ (List.Mem.head _) rfl
    rw [List.foldl_cons, put_new hp, ih (by rw [List.append_assoc]; exact h), List.append_assoc]
    rfl
theorem addC_eq {a : List (Str × Int)} (ha : Nd a) (b : List (Str × Int)) : addC a b = b.foldl upd1 a := by
  unfold addC
  rw [puts_id (acc := []) (by simpa using ha), List.nil_append]
theorem fold_upd (b : List (Str × Int)) : ∀ {a : List (Str × Int)}, Nd a → Nd (b.foldl upd1 a) ∧ (∀ w, S (b.foldl upd1 a) w = S a w + S b w) ∧ ∀ w, w ∈ K (b.foldl upd1 a) ↔ w ∈ K a ∨ w ∈ K b := by
  induction b with
  | nil => intro a ha; exact ⟨ha, fun w => by simp [S], fun w => by simp [K]⟩
  | cons p b ih =>
    intro a ha
    obtain ⟨h1, h2, h3⟩ := ih (Nd_upd1 ha p)
    refine ⟨h1, fun w => ?_, fun w => ?_⟩
    · rw [List.foldl_cons, h2, S_upd1 ha, S_cons]; omega
    · rw [List.foldl_cons, h3, K_upd1]
      have e : K (p :: b) = p.1 :: K b := rfl
      rw [e, List.mem_cons]
      split
      · rename_i hp
        constructor
        · rintro (h | h)
          · exact .inl h
          · exact .inr (.inr h)
        · rintro (h | rfl | h)
          · exact .inl h
          · exact .inl hp
          · exact .inr h
      · rw [List.mem_append, List.mem_singleton]
        constructor
        · rintro ((h | h) | h)
          · exact .inl h
          · exact .inr (.inl h)
          · exact .inr (.inr h)
        · rintro (h | h | h)
          · exact .inl (.inl h)
          · exact .inl (.inr h)
          · exact .inr h
theorem Nd_addC {a : List (Str × Int)} (ha : Nd a) (b : List (Str × Int)) : Nd (addC a b) := by rw [addC_eq ha]; exact (fold_upd b ha).1
theorem S_addC {a : List (Str × Int)} (ha : Nd a) (b : List (Str × Int)) (w : Str) : S (addC a b) w = S a w + S b w := by rw [addC_eq ha]; exact (fold_upd b ha).2.1 w
theorem K_addC {a : List (Str × Int)} (ha : Nd a) (b : List (Str × Int)) (w : Str) : w ∈ K (addC a b) ↔ w ∈ K a ∨ w ∈ K b := by rw [addC_eq ha]; exact (fold_upd b ha).2.2 w
theorem nrm_cons (p : Str × Int) (c : List (Str × Int)) : nrm (p :: c) = p.2.natAbs + nrm c := by unfold nrm; rw [List.map_cons, List.sum_cons]
theorem nrm_append (a b : List (Str × Int)) : nrm (a ++ b) = nrm a + nrm b := by
  induction a with
  | nil => simp [nrm]
  | cons p a ih => rw [List.cons_append, nrm_cons, nrm_cons, ih]; omega
theorem nrm_map {c : List (Str × Int)} (hn : Nd c) {k : Str} (hk : k ∈ K c) (v : Int) : nrm (c.map fun p => if decide (p.1 = k) = true then (p.1, v + kdpLook c k 0) else p) ≤ nrm c + v.natAbs := by
  have key : ∀ (c : List (Str × Int)), Nd c → k ∈ K c → ∀ u : Int, u = kdpLook c k 0 → nrm (c.map fun p => if decide (p.1 = k) = true then (p.1, v + u) else p) ≤ nrm c + v.natAbs := by
    intro c
    induction c with
    | nil => intro _ h; cases h
    | cons p c ih =>
      intro hn hk u hu
      have hn' : p.1 ∉ K c ∧ Nd c := by unfold Nd K at *; rw [List.map_cons] at hn; exact List.nodup_cons.mp hn
      rw [List.map_cons, nrm_cons, nrm_cons]
      rw [look_cons] at hu
      by_cases hp : p.1 = k
      · rw [if_pos (by simpa using hp), map_new (hp ▸ hn'.1)]
        rw [if_pos hp] at hu
        dsimp only
        omega
      · rw [if_neg (by simpa using hp)]
        rw [if_neg hp] at hu
        have hk' : k ∈ K c := by
          unfold K at hk ⊢
          rw [List.map_cons] at hk
          rcases List.mem_cons.mp hk with h | h
          · exact absurd h.symm hp
          · exact h
        have := ih hn'.2 hk' u hu
        omega
  exact key c hn hk _ rfl
theorem nrm_upd1 {c : List (Str × Int)} (hn : Nd c) (p : Str × Int) : nrm (upd1 c p) ≤ nrm c + p.2.natAbs := by
  unfold upd1
  by_cases h : p.1 ∈ K c
  · rw [if_pos ((has_iff _ _).2 h), put_old h, Int.add_comm]
    exact nrm_map hn h p.2
  · rw [if_neg (fun e => h ((has_iff _ _).1 e)), put_new h, nrm_append]
    show nrm c + (p.2.natAbs + 0) ≤ _
    omega
theorem nrm_addC {a : List (Str × Int)} (ha : Nd a) (b : List (Str × Int)) : nrm (addC a b) ≤ nrm a + nrm b := by
  rw [addC_eq ha]
  induction b generalizing a with
  | nil => exact Nat.le_refl _
  | cons p b ih =>
    rw [List.foldl_cons, nrm_cons]
    refine Nat.le_trans (ih (Nd_upd1 ha p)) ?_
    have := nrm_upd1 ha p
    omega
theorem le_nrm {c : List (Str × Int)} {p : Str × Int} (h : p ∈ c) : p.2.natAbs ≤ nrm c := by
  induction c with
  | nil => cases h
  | cons q c ih =>
    rw [nrm_cons]
    rcases List.mem_cons.mp h with rfl | h
    · omega
    · have := ih h; omega
/-- the sign with which y comes into x, at w -/
def tS (x y w : Str) : Int := if bsL x y 10 0 x.length = bsR x y 10 0 x.length then (if insL x y = w then (-1) ^ ((x.length : Int) - bsL x y 10 0 x.length).toNat else 0) else 0
def isIn (x y : Str) : Prop := bsL x y 10 0 x.length = bsR x y 10 0 x.length
theorem sgn_abs (k : Nat) : ((-1 : Int) ^ k).natAbs = 1 := by
  rw [Int.natAbs_pow]
  show 1 ^ _ = _
  rw [Nat.one_pow]
theorem tim_all {p : Str × Int} {q : Str × Int} {af : List (Str × Int)} (h : Nd af) : Nd (timStep p q af) ∧ (∀ w, S (timStep p q af) w = S af w + tS p.1 q.1 w * (p.2 * q.2)) ∧ (∀ w, w ∈ K (timStep p q af) ↔ w ∈ K af ∨ (isIn p.1 q.1 ∧ insL p.1 q.1 = w)) ∧ nrm (timStep p q af) ≤ nrm af + p.2.natAbs * q.2.natAbs := by
  unfold timStep tS isIn
  by_cases hb : bsL p.1 q.1 10 0 p.1.length = bsR p.1 q.1 10 0 p.1.length
  · rw [if_pos hb]
    refine ⟨Nd_addC h _, fun w => ?_, fun w => ?_, ?_⟩
    · rw [S_addC h, if_pos hb, S_cons]
      show _ + ((if insL p.1 q.1 = w then _ else 0) + 0) = _
      split
      · rw [Int.add_zero, Int.mul_comm]
      · rw [Int.zero_mul, Int.add_zero]
    · rw [K_addC h]
      show _ ∨ w ∈ [insL p.1 q.1] ↔ _
      rw [List.mem_singleton]
      constructor
      · rintro (h | h)
        · exact .inl h
        · exact .inr ⟨hb, h.symm⟩
      · rintro (h | h)
        · exact .inl h
        · exact .inr h.2.symm
    · refine Nat.le_trans (nrm_addC h _) ?_
      rw [nrm_cons, Int.natAbs_mul, Int.natAbs_mul, sgn_abs]
      show _ + (_ * 1 + 0) ≤ _
      omega
  · rw [if_neg hb]
    refine ⟨h, fun w => ?_, fun w => ?_, by omega⟩
    · rw [if_neg hb, Int.zero_mul, Int.add_zero]
    · constructor
      · exact .inl
      · rintro (h | h)
        · exact h
        · exact absurd h.1 hb
theorem row_all (p : Str × Int) (cu : List (Str × Int)) : ∀ {af : List (Str × Int)}, Nd af → Nd (timRow cu p af) ∧ (∀ w, S (timRow cu p af) w = S af w + sm cu fun q => tS p.1 q.1 w * (p.2 * q.2)) ∧
    (∀ w, w ∈ K (timRow cu p af) ↔ w ∈ K af ∨ ∃ q ∈ cu, isIn p.1 q.1 ∧ insL p.1 q.1 = w) ∧ nrm (timRow cu p af) ≤ nrm af + p.2.natAbs * nrm cu := by
  unfold timRow
  induction cu with
  | nil => intro af h; exact ⟨h, fun w => by simp, fun w => by simp, by simp [nrm]⟩
  | cons q cu ih =>
    intro af h
    obtain ⟨a1, a2, a3, a4⟩ := tim_all (p := p) (q := q) h
    obtain ⟨b1, b2, b3, b4⟩ := ih a1
    refine ⟨b1, fun w => ?_, fun w => ?_, ?_⟩
    · rw [List.foldl_cons, b2, a2, sm_cons]; omega
    · rw [List.foldl_cons, b3, a3]
      simp only [List.mem_cons, exists_eq_or_imp]
      exact or_assoc
    · rw [List.foldl_cons, nrm_cons, Nat.mul_add]
      omega
theorem times_all (cu ct : List (Str × Int)) : Nd (timesC ct cu) ∧ (∀ w, S (timesC ct cu) w = sm ct fun p => sm cu fun q => tS p.1 q.1 w * (p.2 * q.2)) ∧
    (∀ w, w ∈ K (timesC ct cu) ↔ ∃ p ∈ ct, ∃ q ∈ cu, isIn p.1 q.1 ∧ insL p.1 q.1 = w) ∧ nrm (timesC ct cu) ≤ nrm ct * nrm cu := by
  have key : ∀ {af : List (Str × Int)}, Nd af → Nd (ct.foldl (fun af p => timRow cu p af) af) ∧ (∀ w, S (ct.foldl (fun af p => timRow cu p af) af) w = S af w + sm ct fun p => sm cu fun q => tS p.1 q.1 w * (p.2 * q.2)) ∧
      (∀ w, w ∈ K (ct.foldl (fun af p => timRow cu p af) af) ↔ w ∈ K af ∨ ∃ p ∈ ct, ∃ q ∈ cu, isIn p.1 q.1 ∧ insL p.1 q.1 = w) ∧ nrm (ct.foldl (fun af p => timRow cu p af) af) ≤ nrm af + nrm ct * nrm cu := by
    induction ct with
    | nil => intro af h; exact ⟨h, fun w => by simp, fun w => by simp, by simp [nrm]⟩
    | cons p ct ih =>
      intro af h
      obtain ⟨a1, a2, a3, a4⟩ := row_all p cu h
      obtain ⟨b1, b2, b3, b4⟩ := ih a1
      refine ⟨b1, fun w => ?_, fun w => ?_, ?_⟩
      · rw [List.foldl_cons, b2, a2, sm_cons]; omega
      · rw [List.foldl_cons, b3, a3]
        simp only [List.mem_cons, exists_eq_or_imp]
        exact or_assoc
      · rw [List.foldl_cons, nrm_cons, Nat.add_mul]
        omega
  obtain ⟨a1, a2, a3, a4⟩ := key (af := []) (by unfold Nd K; exact List.nodup_nil)
  refine ⟨a1, fun w => ?_, fun w => ?_, ?_⟩
  · have := a2 w
    rw [show S [] w = 0 from rfl, Int.zero_add] at this
    exact this
  · exact (a3 w).trans ⟨fun h => h.resolve_left (fun h => by cases h), .inr⟩
  · have e : nrm [] = 0 := rfl
    rw [e, Nat.zero_add] at a4
    exact a4
theorem sm_single (l : List Str) (hn : l.Nodup) {k : Str} (hk : k ∈ l) (f : Str → Int) (v : Int) : sm l (fun x => f x * if k = x then v else 0) = f k * v := by
  induction l with
  | nil => cases hk
  | cons y l ih =>
    obtain ⟨h1, h2⟩ := List.nodup_cons.mp hn
    rw [sm_cons]
    by_cases e : k = y
    · subst e
      rw [if_pos rfl]
      have : sm l (fun x => f x * if k = x then v else 0) = 0 := by
        refine Eq.trans (sm_congr fun x hx => ?_) (sm_zero l)
        rw [if_neg (fun e' => h1 (by rw [e']; exact hx)), Int.mul_zero]
      omega
    · rw [if_neg e, Int.mul_zero, Int.zero_add]
      refine ih h2 ?_
      rcases List.mem_cons.mp hk with h | h
      · exact absurd h e
      · exact h
theorem regroup {l : List Str} (hn : l.Nodup) (f : Str → Int) {c : List (Str × Int)} (h : ∀ p ∈ c, p.1 ∈ l) : sm c (fun p => f p.1 * p.2) = sm l fun x => f x * S c x := by
  induction c with
  | nil =>
    show 0 = _
    refine Eq.symm (Eq.trans (sm_congr fun x _ => ?_) (sm_zero l))
    show f x * 0 = 0
    rw [Int.mul_zero]
  | cons p c ih =>
    rw [sm_cons, ih fun q hq => h q (List.Mem.tail _ hq), ← sm_single l hn (h p (List.Mem.head _)) f p.2, ← sm_add]
    refine sm_congr fun x _ => ?_
    rw [S_cons, Int.mul_add]
/-- one multiplication of the terms' numbers A by a row's numbers R -/
def Wf (l : List Str) (A R : Str → Int) (w : Str) : Int := sm l fun x => sm L4 (fun y => tS x y w * R y) * A x
theorem S_times {l : List Str} (hl : l.Nodup) {ct cu : List (Str × Int)} (ht : ∀ p ∈ ct, p.1 ∈ l) (hu : ∀ q ∈ cu, q.1 ∈ L4) (w : Str) : S (timesC ct cu) w = Wf l (S ct) (S cu) w := by
  rw [(times_all cu ct).2.1]
  have e1 : (sm ct fun p => sm cu fun q => tS p.1 q.1 w * (p.2 * q.2)) = sm ct fun p => sm L4 (fun y => tS p.1 y w * S cu y) * p.2 := by
    refine sm_congr fun p _ => ?_
    rw [← regroup (l := L4) (by decide +kernel) (fun y => tS p.1 y w) hu, Int.mul_comm, ← sm_mul]
    refine sm_congr fun q _ => ?_
    rw [← Int.mul_assoc, ← Int.mul_assoc, Int.mul_comm p.2]
  rw [e1]
  exact regroup hl (fun x => sm L4 fun y => tS x y w * S cu y) ht


-- part M18b
open PySem PySem.W PySem.Spec PySem.Calls PyProof.Rows PyProof.V
theorem nodup_len {l : List Str} : ∀ {m : List Str}, l.Nodup → (∀ x ∈ l, x ∈ m) → l.length ≤ m.length := by
  induction l with
  | nil => intro m _ _; exact Nat.zero_le _
  | cons x l ih =>
    intro m hn hs
    obtain ⟨h1, h2⟩ := List.nodup_cons.mp hn
    obtain ⟨a, b, rfl⟩ := List.append_of_mem (hs x (List.Mem.head _))
    have := ih (m := a ++ b) h2 (fun y hy => by
      have := hs y (List.Mem.tail _ hy)
      rcases List.mem_append.mp this with h | h
      · exact List.mem_append_left _ h
      · rcases List.mem_cons.mp h with rfl | h
        · exact absurd hy h1
        · exact List.mem_append_right _ h)
    rw [List.length_append] at this
    rw [List.length_append, List.length_cons, List.length_cons]
    omega
theorem mem_K {c : List (Str × Int)} {p : Str × Int} (h : p ∈ c) : p.1 ∈ K c := List.mem_map.mpr ⟨p, h, rfl⟩
theorem of_K {c : List (Str × Int)} {k : Str} (h : k ∈ K c) : ∃ p ∈ c, p.1 = k := List.mem_map.mp h
def wd : Nat → List Str
  | 0 => [Str.ofString ""]
  | 1 => L4
  | 2 => [Str.ofString "ab", Str.ofString "ac", Str.ofString "ad", Str.ofString "bc", Str.ofString "bd", Str.ofString "cd"]
  | 3 => [Str.ofString "abc", Str.ofString "abd", Str.ofString "acd", Str.ofString "bcd"]
  | 4 => [Str.ofString "abcd"]
  | _ => []
theorem wd_step0 : ∀ x ∈ wd 0, ∀ y ∈ L4, bsL x y 10 0 x.length = bsR x y 10 0 x.length → insL x y ∈ wd 1 := by decide +kernel
theorem wd_step1 : ∀ x ∈ wd 1, ∀ y ∈ L4, bsL x y 10 0 x.length = bsR x y 10 0 x.length → insL x y ∈ wd 2 := by decide +kernel
theorem wd_step2 : ∀ x ∈ wd 2, ∀ y ∈ L4, bsL x y 10 0 x.length = bsR x y 10 0 x.length → insL x y ∈ wd 3 := by decide +kernel
theorem wd_step3 : ∀ x ∈ wd 3, ∀ y ∈ L4, bsL x y 10 0 x.length = bsR x y 10 0 x.length → insL x y ∈ wd 4 := by decide +kernel
theorem wd_step {k : Nat} (hk : k < 4) : ∀ x ∈ wd k, ∀ y ∈ L4, isIn x y → insL x y ∈ wd (k + 1) := by
  have : k = 0 ∨ k = 1 ∨ k = 2 ∨ k = 3 := by omega
  rcases this with rfl | rfl | rfl | rfl
  · exact wd_step0
  · exact wd_step1
  · exact wd_step2
  · exact wd_step3
theorem wd_nodup {k : Nat} (hk : k < 5) : (wd k).Nodup ∧ (wd k).length ≤ 6 ∧ ∀ x ∈ wd k, x.length < 10 := by
  have : k = 0 ∨ k = 1 ∨ k = 2 ∨ k = 3 ∨ k = 4 := by omega
  rcases this with rfl | rfl | rfl | rfl | rfl <;> decide +kernel
structure GoodT (ct : List (Str × Int)) (k M : Nat) : Prop where
  nd : Nd ct
  key : ∀ p ∈ ct, p.1 ∈ wd k
  nrm : nrm ct ≤ M ^ k
structure GoodR (cu : List (Str × Int)) (M : Nat) : Prop where
  nd : Nd cu
  key : ∀ p ∈ cu, p.1 ∈ L4
  nrm : nrm cu ≤ M
theorem GoodT.len {ct : List (Str × Int)} {k M : Nat} (h : GoodT ct k M) (hk : k < 5) : ct.length ≤ 6 := by
  have := nodup_len (l := K ct) (m := wd k) h.nd (fun x hx => by obtain ⟨p, hp, rfl⟩ := of_K hx; exact h.key p hp)
  have e : (K ct).length = ct.length := List.length_map ..
  have := (wd_nodup hk).2.1
  omega
theorem GoodR.len {cu : List (Str × Int)} {M : Nat} (h : GoodR cu M) : cu.length ≤ 4 := by
  have := nodup_len (l := K cu) (m := L4) h.nd (fun x hx => by obtain ⟨p, hp, rfl⟩ := of_K hx; exact h.key p hp)
  have e : (K cu).length = cu.length := List.length_map ..
  have e4 : L4.length = 4 := rfl
  omega
theorem GoodT.step {ct cu : List (Str × Int)} {k M : Nat} (h : GoodT ct k M) (hu : GoodR cu M) (hk : k < 4) : GoodT (timesC ct cu) (k + 1) M := by
  obtain ⟨a1, a2, a3, a4⟩ := times_all cu ct
  refine ⟨a1, ?_, ?_⟩
  · intro p hp
    obtain ⟨q, hq, r, hr, hi, he⟩ := (a3 p.1).1 (mem_K hp)
    rw [← he]
    exact wd_step hk _ (h.key q hq) _ (hu.key r hr) hi
  · refine Nat.le_trans a4 ?_
    rw [Nat.pow_succ]
    exact Nat.mul_le_mul h.nrm hu.nrm
/-- the deeds' number and its weight, by the text under which it lies -/
def wt (ns : List Int) (x : Str) : Int := 2 * ns.getD (digN x) 0 + 1
def ce (ns : List Int) (x : Str) : Str := e5 (ns.getD (digN x) 0)
theorem e5_mem (n : Int) : e5 n ∈ L5 := by
  rcases e5_cases n with h | h | h | h | h <;> rw [h] <;> decide +kernel
theorem tab_all (ns : List Int) (xs : List Str) : Nd (tabC ns xs) ∧ (∀ p ∈ tabC ns xs, p.1 ∈ L5) ∧ (∀ w, S (tabC ns xs) w = sm xs fun x => if ce ns x = w then wt ns x else 0) ∧ nrm (tabC ns xs) ≤ (xs.map fun x => (wt ns x).natAbs).sum := by
  have key : ∀ (xs : List Str) {tb : List (Str × Int)}, Nd tb → (∀ p ∈ tb, p.1 ∈ L5) → Nd (xs.foldl (tabStep ns) tb) ∧ (∀ p ∈ xs.foldl (tabStep ns) tb, p.1 ∈ L5) ∧ (∀ w, S (xs.foldl (tabStep ns) tb) w = S tb w + sm xs fun x => if ce ns x = w then wt ns x else 0) ∧ nrm (xs.foldl (tabStep ns) tb) ≤ nrm tb + (xs.map fun x => (wt ns x).natAbs).sum := by
    intro xs
    induction xs with
    | nil => intro tb h1 h2; exact ⟨h1, h2, fun w => by simp, by simp⟩
    | cons x xs ih =>
      intro tb h1 h2
      have hN : Nd (tabStep ns tb x) := Nd_addC h1 _
      have hK : ∀ p ∈ tabStep ns tb x, p.1 ∈ L5 := by
        intro p hp
        rcases (K_addC h1 _ p.1).1 (mem_K hp) with h | h
        · obtain ⟨q, hq, e⟩ := of_K h
          rw [← e]; exact h2 q hq
        · rw [List.mem_singleton.mp h]; exact e5_mem _
      obtain ⟨a1, a2, a3, a4⟩ := ih hN hK
      refine ⟨a1, a2, fun w => ?_, ?_⟩
      · rw [List.foldl_cons, a3, sm_cons]
        have : S (tabStep ns tb x) w = S tb w + ((if ce ns x = w then wt ns x else 0) + 0) := S_addC h1 _ w
        omega
      · rw [List.foldl_cons, List.map_cons, List.sum_cons]
        have : nrm (tabStep ns tb x) ≤ nrm tb + ((wt ns x).natAbs + 0) := nrm_addC h1 _
        omega
  obtain ⟨a1, a2, a3, a4⟩ := key xs (tb := []) (by unfold Nd K; exact List.nodup_nil) (fun p hp => by cases hp)
  refine ⟨a1, a2, fun w => ?_, ?_⟩
  · have := a3 w
    rw [show S [] w = 0 from rfl, Int.zero_add] at this
    exact this
  · have e : nrm [] = 0 := rfl
    rw [e, Nat.zero_add] at a4
    exact a4
theorem dcF_eq (p : Str → Bool) (g : Int → Int) {c : List (Str × Int)} (h : Nd c) : dcF p g c = (c.filter fun q => p q.1).map fun q => (q.1, g q.2) := by
  have key : ∀ (c acc : List (Str × Int)), (K acc ++ K c).Nodup → c.foldl (fun c q => if p q.1 = true then kdpPut c q.1 (g q.2) else c) acc = acc ++ (c.filter fun q => p q.1).map fun q => (q.1, g q.2) := by
    intro c
    induction c with
    | nil => intro acc _; simp
    | cons q c ih =>
      intro acc h
      have e : K (q :: c) = q.1 :: K c := rfl
      rw [e] at h
      have hq : q.1 ∉ K acc := fun hm => (List.nodup_append.mp h).2.2 _ hm _ (List.Mem.head _) rfl
      rw [List.foldl_cons]
      by_cases hp : p q.1 = true
      · rw [if_pos hp, put_new hq, ih, List.filter_cons, if_pos hp, List.map_cons, List.append_assoc]
        · rfl
        · unfold K
          rw [List.map_append, List.append_assoc]
          exact h
      · rw [if_neg hp, ih, List.filter_cons, if_neg hp]
        exact h.sublist (List.Sublist.append (List.Sublist.refl _) (List.sublist_cons_self _ _))
  unfold dcF
  exact key c [] h
theorem less_all {c : List (Str × Int)} (h : Nd c) (hk : ∀ p ∈ c, p.1 ∈ L5) : (∀ p ∈ dcF notR (fun i => -i) c, p.1 ∈ L4) ∧ (∀ w ∈ L4, S (dcF notR (fun i => -i) c) w = - S c w) ∧ nrm (dcF notR (fun i => -i) c) ≤ nrm c := by
  rw [dcF_eq _ _ h]
  refine ⟨?_, ?_, ?_⟩
  · intro p hp
    obtain ⟨q, hq, rfl⟩ := List.mem_map.mp hp
    obtain ⟨hq1, hq2⟩ := List.mem_filter.mp hq
    have h5 := hk q hq1
    dsimp only
    have : ∀ x ∈ L5, notR x = true → x ∈ L4 := by decide +kernel
    exact this _ h5 hq2
  · intro w hw
    have hwr : notR w = true := by
      have : ∀ x ∈ L4, notR x = true := by decide +kernel
      exact this w hw
    clear h hk
    induction c with
    | nil => rfl
    | cons q c ih =>
      rw [S_cons]
      by_cases hq : notR q.1 = true
      · rw [List.filter_cons, if_pos hq, List.map_cons, S_cons, ih]
        dsimp only
        split <;> omega
      · rw [List.filter_cons, if_neg hq, ih]
        have : ¬ q.1 = w := fun e => hq (by rw [e]; exact hwr)
        rw [if_neg this]
        omega
  · clear h hk
    induction c with
    | nil => exact Nat.le_refl _
    | cons q c ih =>
      rw [nrm_cons]
      by_cases hq : notR q.1 = true
      · rw [List.filter_cons, if_pos hq, List.map_cons, nrm_cons]
        dsimp only
        rw [Int.natAbs_neg]
        omega
      · rw [List.filter_cons, if_neg hq]
        omega
def V4 (c y j : Str) : Int := (if c = j then 1 else 0) - (if y = j then 1 else 0)
theorem sum_abs (c : List (Str × Int)) : ((c.map fun p : Str × Int => p.2).sum).natAbs ≤ nrm c := by
  induction c with
  | nil => exact Nat.le_refl _
  | cons p c ih =>
    rw [List.map_cons, List.sum_cons, nrm_cons]
    omega
theorem row_good {ns : List Int} {H : List (Str × Str)} {c : Str} (hc : c ∈ L4) {B : Nat} (hB : ((textsOf H (Txt.upper c)).map fun x => (wt ns x).natAbs).sum ≤ B) :
    GoodR (rowC ns H c) (2 * B) ∧ c ∈ K (rowC ns H c) ∧ ∀ j ∈ L4, S (rowC ns H c) j = sm (textsOf H (Txt.upper c)) fun x => wt ns x * V4 c (ce ns x) j := by
  unfold rowC
  generalize textsOf H (Txt.upper c) = xs at hB
  obtain ⟨t1, t2, t3, t4⟩ := tab_all ns xs
  obtain ⟨l1, l2, l3⟩ := less_all t1 t2
  have hs := sum_abs (tabC ns xs)
  have hV : ((tabC ns xs).map fun p : Str × Int => p.2).sum = sm xs (wt ns) := by
    have e1 : ((tabC ns xs).map fun p : Str × Int => p.2).sum = sm (tabC ns xs) fun p => (fun _ => 1) p.1 * p.2 := by
      unfold sm
      congr 1
      refine List.map_congr_left fun p _ => ?_
      rw [Int.one_mul]
    rw [e1, regroup (l := L5) (by decide +kernel) (fun _ => 1) t2]
    have e2 : (sm L5 fun x => 1 * S (tabC ns xs) x) = sm L5 fun w => sm xs fun x => if ce ns x = w then wt ns x else 0 := sm_congr fun w _ => by rw [Int.one_mul, t3]
    rw [e2, sm_comm]
    refine sm_congr fun x _ => ?_
    have := sm_single L5 (by decide +kernel) (e5_mem (ns.getD (digN x) 0)) (fun _ => 1) (wt ns x)
    rw [Int.one_mul] at this
    refine Eq.trans (sm_congr fun w _ => ?_) this
    rw [Int.one_mul]
    rfl
  have hN : Nd [(c, ((tabC ns xs).map fun p : Str × Int => p.2).sum)] := by unfold Nd K; simp
  refine ⟨⟨Nd_addC hN _, ?_, ?_⟩, ?_, ?_⟩
  · intro p hp
    rcases (K_addC hN _ p.1).1 (mem_K hp) with h | h
    · rw [List.mem_singleton.mp h]; exact hc
    · obtain ⟨q, hq, e⟩ := of_K h
      rw [← e]; exact l1 q hq
  · refine Nat.le_trans (nrm_addC hN _) ?_
    rw [nrm_cons]
    show _ + 0 + _ ≤ _
    omega
  · exact (K_addC hN _ c).2 (.inl (List.Mem.head _))
  · intro j hj
    rw [S_addC hN, l2 j hj, t3, S_cons, hV]
    dsimp only
    have e0 : S [] j = 0 := rfl
    rw [e0]
    unfold V4
    by_cases e : c = j
    · rw [if_pos e, if_pos e]
      have : (sm xs fun x => wt ns x * (1 - if ce ns x = j then 1 else 0)) + (sm xs fun x => if ce ns x = j then wt ns x else 0) = sm xs (wt ns) := by
        rw [← sm_add]
        refine sm_congr fun x _ => ?_
        split <;> grind
      omega
    · rw [if_neg e, if_neg e]
      have : (sm xs fun x => wt ns x * (0 - if ce ns x = j then 1 else 0)) + (sm xs fun x => if ce ns x = j then wt ns x else 0) = 0 := by
        rw [← sm_add]
        refine Eq.trans (sm_congr fun x _ => ?_) (sm_zero xs)
        split <;> omega
      omega


-- part M18c
open PySem PySem.W PySem.Spec PySem.Calls PyProof.Rows PyProof.V
theorem Wf_a (A R : Str → Int) : Wf (wd 0) A R (Str.ofString "a") = R (Str.ofString "a") * A (Str.ofString "") := by
  have h0 : tS (Str.ofString "") (Str.ofString "a") (Str.ofString "a") = 1 := by decide +kernel
  have h1 : tS (Str.ofString "") (Str.ofString "b") (Str.ofString "a") = 0 := by decide +kernel
  have h2 : tS (Str.ofString "") (Str.ofString "c") (Str.ofString "a") = 0 := by decide +kernel
  have h3 : tS (Str.ofString "") (Str.ofString "d") (Str.ofString "a") = 0 := by decide +kernel
  simp only [Wf, wd, L4, sm_cons, sm_nil, h0, h1, h2, h3]
  grind
theorem Wf_b (A R : Str → Int) : Wf (wd 0) A R (Str.ofString "b") = R (Str.ofString "b") * A (Str.ofString "") := by
  have h0 : tS (Str.ofString "") (Str.ofString "a") (Str.ofString "b") = 0 := by decide +kernel
  have h1 : tS (Str.ofString "") (Str.ofString "b") (Str.ofString "b") = 1 := by decide +kernel
  have h2 : tS (Str.ofString "") (Str.ofString "c") (Str.ofString "b") = 0 := by decide +kernel
  have h3 : tS (Str.ofString "") (Str.ofString "d") (Str.ofString "b") = 0 := by decide +kernel
  simp only [Wf, wd, L4, sm_cons, sm_nil, h0, h1, h2, h3]
  grind
theorem Wf_c (A R : Str → Int) : Wf (wd 0) A R (Str.ofString "c") = R (Str.ofString "c") * A (Str.ofString "") := by
  have h0 : tS (Str.ofString "") (Str.ofString "a") (Str.ofString "c") = 0 := by decide +kernel
  have h1 : tS (Str.ofString "") (Str.ofString "b") (Str.ofString "c") = 0 := by decide +kernel
  have h2 : tS (Str.ofString "") (Str.ofString "c") (Str.ofString "c") = 1 := by decide +kernel
  have h3 : tS (Str.ofString "") (Str.ofString "d") (Str.ofString "c") = 0 := by decide +kernel
  simp only [Wf, wd, L4, sm_cons, sm_nil, h0, h1, h2, h3]
  grind
theorem Wf_d (A R : Str → Int) : Wf (wd 0) A R (Str.ofString "d") = R (Str.ofString "d") * A (Str.ofString "") := by
  have h0 : tS (Str.ofString "") (Str.ofString "a") (Str.ofString "d") = 0 := by decide +kernel
  have h1 : tS (Str.ofString "") (Str.ofString "b") (Str.ofString "d") = 0 := by decide +kernel
  have h2 : tS (Str.ofString "") (Str.ofString "c") (Str.ofString "d") = 0 := by decide +kernel
  have h3 : tS (Str.ofString "") (Str.ofString "d") (Str.ofString "d") = 1 := by decide +kernel
  simp only [Wf, wd, L4, sm_cons, sm_nil, h0, h1, h2, h3]
  grind
theorem Wf_ab (A R : Str → Int) : Wf (wd 1) A R (Str.ofString "ab") = R (Str.ofString "b") * A (Str.ofString "a") - R (Str.ofString "a") * A (Str.ofString "b") := by
  have h0 : tS (Str.ofString "a") (Str.ofString "a") (Str.ofString "ab") = 0 := by decide +kernel
  have h1 : tS (Str.ofString "a") (Str.ofString "b") (Str.ofString "ab") = 1 := by decide +kernel
  have h2 : tS (Str.ofString "a") (Str.ofString "c") (Str.ofString "ab") = 0 := by decide +kernel
  have h3 : tS (Str.ofString "a") (Str.ofString "d") (Str.ofString "ab") = 0 := by decide +kernel
  have h4 : tS (Str.ofString "b") (Str.ofString "a") (Str.ofString "ab") = -1 := by decide +kernel
  have h5 : tS (Str.ofString "b") (Str.ofString "b") (Str.ofString "ab") = 0 := by decide +kernel
  have h6 : tS (Str.ofString "b") (Str.ofString "c") (Str.ofString "ab") = 0 := by decide +kernel
  have h7 : tS (Str.ofString "b") (Str.ofString "d") (Str.ofString "ab") = 0 := by decide +kernel
  have h8 : tS (Str.ofString "c") (Str.ofString "a") (Str.ofString "ab") = 0 := by decide +kernel
  have h9 : tS (Str.ofString "c") (Str.ofString "b") (Str.ofString "ab") = 0 := by decide +kernel
  have h10 : tS (Str.ofString "c") (Str.ofString "c") (Str.ofString "ab") = 0 := by decide +kernel
  have h11 : tS (Str.ofString "c") (Str.ofString "d") (Str.ofString "ab") = 0 := by decide +kernel
  have h12 : tS (Str.ofString "d") (Str.ofString "a") (Str.ofString "ab") = 0 := by decide +kernel
  have h13 : tS (Str.ofString "d") (Str.ofString "b") (Str.ofString "ab") = 0 := by decide +kernel
  have h14 : tS (Str.ofString "d") (Str.ofString "c") (Str.ofString "ab") = 0 := by decide +kernel
  have h15 : tS (Str.ofString "d") (Str.ofString "d") (Str.ofString "ab") = 0 := by decide +kernel
  simp only [Wf, wd, L4, sm_cons, sm_nil, h0, h1, h2, h3, h4, h5, h6, h7, h8, h9, h10, h11, h12, h13, h14, h15]
  grind
theorem Wf_ac (A R : Str → Int) : Wf (wd 1) A R (Str.ofString "ac") = R (Str.ofString "c") * A (Str.ofString "a") - R (Str.ofString "a") * A (Str.ofString "c") := by
  have h0 : tS (Str.ofString "a") (Str.ofString "a") (Str.ofString "ac") = 0 := by decide +kernel
  have h1 : tS (Str.ofString "a") (Str.ofString "b") (Str.ofString "ac") = 0 := by decide +kernel
  have h2 : tS (Str.ofString "a") (Str.ofString "c") (Str.ofString "ac") = 1 := by decide +kernel
  have h3 : tS (Str.ofString "a") (Str.ofString "d") (Str.ofString "ac") = 0 := by decide +kernel
  have h4 : tS (Str.ofString "b") (Str.ofString "a") (Str.ofString "ac") = 0 := by decide +kernel
  have h5 : tS (Str.ofString "b") (Str.ofString "b") (Str.ofString "ac") = 0 := by decide +kernel
  have h6 : tS (Str.ofString "b") (Str.ofString "c") (Str.ofString "ac") = 0 := by decide +kernel
  have h7 : tS (Str.ofString "b") (Str.ofString "d") (Str.ofString "ac") = 0 := by decide +kernel
  have h8 : tS (Str.ofString "c") (Str.ofString "a") (Str.ofString "ac") = -1 := by decide +kernel
  have h9 : tS (Str.ofString "c") (Str.ofString "b") (Str.ofString "ac") = 0 := by decide +kernel
  have h10 : tS (Str.ofString "c") (Str.ofString "c") (Str.ofString "ac") = 0 := by decide +kernel
  have h11 : tS (Str.ofString "c") (Str.ofString "d") (Str.ofString "ac") = 0 := by decide +kernel
  have h12 : tS (Str.ofString "d") (Str.ofString "a") (Str.ofString "ac") = 0 := by decide +kernel
  have h13 : tS (Str.ofString "d") (Str.ofString "b") (Str.ofString "ac") = 0 := by decide +kernel
  have h14 : tS (Str.ofString "d") (Str.ofString "c") (Str.ofString "ac") = 0 := by decide +kernel
  have h15 : tS (Str.ofString "d") (Str.ofString "d") (Str.ofString "ac") = 0 := by decide +kernel
  simp only [Wf, wd, L4, sm_cons, sm_nil, h0, h1, h2, h3, h4, h5, h6, h7, h8, h9, h10, h11, h12, h13, h14, h15]
  grind
theorem Wf_ad (A R : Str → Int) : Wf (wd 1) A R (Str.ofString "ad") = R (Str.ofString "d") * A (Str.ofString "a") - R (Str.ofString "a") * A (Str.ofString "d") := by
  have h0 : tS (Str.ofString "a") (Str.ofString "a") (Str.ofString "ad") = 0 := by decide +kernel
  have h1 : tS (Str.ofString "a") (Str.ofString "b") (Str.ofString "ad") = 0 := by decide +kernel
  have h2 : tS (Str.ofString "a") (Str.ofString "c") (Str.ofString "ad") = 0 := by decide +kernel
  have h3 : tS (Str.ofString "a") (Str.ofString "d") (Str.ofString "ad") = 1 := by decide +kernel
  have h4 : tS (Str.ofString "b") (Str.ofString "a") (Str.ofString "ad") = 0 := by decide +kernel
  have h5 : tS (Str.ofString "b") (Str.ofString "b") (Str.ofString "ad") = 0 := by decide +kernel
  have h6 : tS (Str.ofString "b") (Str.ofString "c") (Str.ofString "ad") = 0 := by decide +kernel
  have h7 : tS (Str.ofString "b") (Str.ofString "d") (Str.ofString "ad") = 0 := by decide +kernel
  have h8 : tS (Str.ofString "c") (Str.ofString "a") (Str.ofString "ad") = 0 := by decide +kernel
  have h9 : tS (Str.ofString "c") (Str.ofString "b") (Str.ofString "ad") = 0 := by decide +kernel
  have h10 : tS (Str.ofString "c") (Str.ofString "c") (Str.ofString "ad") = 0 := by decide +kernel
  have h11 : tS (Str.ofString "c") (Str.ofString "d") (Str.ofString "ad") = 0 := by decide +kernel
  have h12 : tS (Str.ofString "d") (Str.ofString "a") (Str.ofString "ad") = -1 := by decide +kernel
  have h13 : tS (Str.ofString "d") (Str.ofString "b") (Str.ofString "ad") = 0 := by decide +kernel
  have h14 : tS (Str.ofString "d") (Str.ofString "c") (Str.ofString "ad") = 0 := by decide +kernel
  have h15 : tS (Str.ofString "d") (Str.ofString "d") (Str.ofString "ad") = 0 := by decide +kernel
  simp only [Wf, wd, L4, sm_cons, sm_nil, h0, h1, h2, h3, h4, h5, h6, h7, h8, h9, h10, h11, h12, h13, h14, h15]
  grind
theorem Wf_bc (A R : Str → Int) : Wf (wd 1) A R (Str.ofString "bc") = R (Str.ofString "c") * A (Str.ofString "b") - R (Str.ofString "b") * A (Str.ofString "c") := by
  have h0 : tS (Str.ofString "a") (Str.ofString "a") (Str.ofString "bc") = 0 := by decide +kernel
  have h1 : tS (Str.ofString "a") (Str.ofString "b") (Str.ofString "bc") = 0 := by decide +kernel
  have h2 : tS (Str.ofString "a") (Str.ofString "c") (Str.ofString "bc") = 0 := by decide +kernel
  have h3 : tS (Str.ofString "a") (Str.ofString "d") (Str.ofString "bc") = 0 := by decide +kernel
  have h4 : tS (Str.ofString "b") (Str.ofString "a") (Str.ofString "bc") = 0 := by decide +kernel
  have h5 : tS (Str.ofString "b") (Str.ofString "b") (Str.ofString "bc") = 0 := by decide +kernel
  have h6 : tS (Str.ofString "b") (Str.ofString "c") (Str.ofString "bc") = 1 := by decide +kernel
  have h7 : tS (Str.ofString "b") (Str.ofString "d") (Str.ofString "bc") = 0 := by decide +kernel
  have h8 : tS (Str.ofString "c") (Str.ofString "a") (Str.ofString "bc") = 0 := by decide +kernel
  have h9 : tS (Str.ofString "c") (Str.ofString "b") (Str.ofString "bc") = -1 := by decide +kernel
  have h10 : tS (Str.ofString "c") (Str.ofString "c") (Str.ofString "bc") = 0 := by decide +kernel
  have h11 : tS (Str.ofString "c") (Str.ofString "d") (Str.ofString "bc") = 0 := by decide +kernel
  have h12 : tS (Str.ofString "d") (Str.ofString "a") (Str.ofString "bc") = 0 := by decide +kernel
  have h13 : tS (Str.ofString "d") (Str.ofString "b") (Str.ofString "bc") = 0 := by decide +kernel
  have h14 : tS (Str.ofString "d") (Str.ofString "c") (Str.ofString "bc") = 0 := by decide +kernel
  have h15 : tS (Str.ofString "d") (Str.ofString "d") (Str.ofString "bc") = 0 := by decide +kernel
  simp only [Wf, wd, L4, sm_cons, sm_nil, h0, h1, h2, h3, h4, h5, h6, h7, h8, h9, h10, h11, h12, h13, h14, h15]
  grind
theorem Wf_bd (A R : Str → Int) : Wf (wd 1) A R (Str.ofString "bd") = R (Str.ofString "d") * A (Str.ofString "b") - R (Str.ofString "b") * A (Str.ofString "d") := by
  have h0 : tS (Str.ofString "a") (Str.ofString "a") (Str.ofString "bd") = 0 := by decide +kernel
  have h1 : tS (Str.ofString "a") (Str.ofString "b") (Str.ofString "bd") = 0 := by decide +kernel
  have h2 : tS (Str.ofString "a") (Str.ofString "c") (Str.ofString "bd") = 0 := by decide +kernel
  have h3 : tS (Str.ofString "a") (Str.ofString "d") (Str.ofString "bd") = 0 := by decide +kernel
  have h4 : tS (Str.ofString "b") (Str.ofString "a") (Str.ofString "bd") = 0 := by decide +kernel
  have h5 : tS (Str.ofString "b") (Str.ofString "b") (Str.ofString "bd") = 0 := by decide +kernel
  have h6 : tS (Str.ofString "b") (Str.ofString "c") (Str.ofString "bd") = 0 := by decide +kernel
  have h7 : tS (Str.ofString "b") (Str.ofString "d") (Str.ofString "bd") = 1 := by decide +kernel
  have h8 : tS (Str.ofString "c") (Str.ofString "a") (Str.ofString "bd") = 0 := by decide +kernel
  have h9 : tS (Str.ofString "c") (Str.ofString "b") (Str.ofString "bd") = 0 := by decide +kernel
  have h10 : tS (Str.ofString "c") (Str.ofString "c") (Str.ofString "bd") = 0 := by decide +kernel
  have h11 : tS (Str.ofString "c") (Str.ofString "d") (Str.ofString "bd") = 0 := by decide +kernel
  have h12 : tS (Str.ofString "d") (Str.ofString "a") (Str.ofString "bd") = 0 := by decide +kernel
  have h13 : tS (Str.ofString "d") (Str.ofString "b") (Str.ofString "bd") = -1 := by decide +kernel
  have h14 : tS (Str.ofString "d") (Str.ofString "c") (Str.ofString "bd") = 0 := by decide +kernel
  have h15 : tS (Str.ofString "d") (Str.ofString "d") (Str.ofString "bd") = 0 := by decide +kernel
  simp only [Wf, wd, L4, sm_cons, sm_nil, h0, h1, h2, h3, h4, h5, h6, h7, h8, h9, h10, h11, h12, h13, h14, h15]
  grind
theorem Wf_cd (A R : Str → Int) : Wf (wd 1) A R (Str.ofString "cd") = R (Str.ofString "d") * A (Str.ofString "c") - R (Str.ofString "c") * A (Str.ofString "d") := by
  have h0 : tS (Str.ofString "a") (Str.ofString "a") (Str.ofString "cd") = 0 := by decide +kernel
  have h1 : tS (Str.ofString "a") (Str.ofString "b") (Str.ofString "cd") = 0 := by decide +kernel
  have h2 : tS (Str.ofString "a") (Str.ofString "c") (Str.ofString "cd") = 0 := by decide +kernel
  have h3 : tS (Str.ofString "a") (Str.ofString "d") (Str.ofString "cd") = 0 := by decide +kernel
  have h4 : tS (Str.ofString "b") (Str.ofString "a") (Str.ofString "cd") = 0 := by decide +kernel
  have h5 : tS (Str.ofString "b") (Str.ofString "b") (Str.ofString "cd") = 0 := by decide +kernel
  have h6 : tS (Str.ofString "b") (Str.ofString "c") (Str.ofString "cd") = 0 := by decide +kernel
  have h7 : tS (Str.ofString "b") (Str.ofString "d") (Str.ofString "cd") = 0 := by decide +kernel
  have h8 : tS (Str.ofString "c") (Str.ofString "a") (Str.ofString "cd") = 0 := by decide +kernel
  have h9 : tS (Str.ofString "c") (Str.ofString "b") (Str.ofString "cd") = 0 := by decide +kernel
  have h10 : tS (Str.ofString "c") (Str.ofString "c") (Str.ofString "cd") = 0 := by decide +kernel
  have h11 : tS (Str.ofString "c") (Str.ofString "d") (Str.ofString "cd") = 1 := by decide +kernel
  have h12 : tS (Str.ofString "d") (Str.ofString "a") (Str.ofString "cd") = 0 := by decide +kernel
  have h13 : tS (Str.ofString "d") (Str.ofString "b") (Str.ofString "cd") = 0 := by decide +kernel
  have h14 : tS (Str.ofString "d") (Str.ofString "c") (Str.ofString "cd") = -1 := by decide +kernel
  have h15 : tS (Str.ofString "d") (Str.ofString "d") (Str.ofString "cd") = 0 := by decide +kernel
  simp only [Wf, wd, L4, sm_cons, sm_nil, h0, h1, h2, h3, h4, h5, h6, h7, h8, h9, h10, h11, h12, h13, h14, h15]
  grind
theorem Wf_abc (A R : Str → Int) : Wf (wd 2) A R (Str.ofString "abc") = R (Str.ofString "c") * A (Str.ofString "ab") - R (Str.ofString "b") * A (Str.ofString "ac") + R (Str.ofString "a") * A (Str.ofString "bc") := by
  have h0 : tS (Str.ofString "ab") (Str.ofString "a") (Str.ofString "abc") = 0 := by decide +kernel
  have h1 : tS (Str.ofString "ab") (Str.ofString "b") (Str.ofString "abc") = 0 := by decide +kernel
  have h2 : tS (Str.ofString "ab") (Str.ofString "c") (Str.ofString "abc") = 1 := by decide +kernel
  have h3 : tS (Str.ofString "ab") (Str.ofString "d") (Str.ofString "abc") = 0 := by decide +kernel
  have h4 : tS (Str.ofString "ac") (Str.ofString "a") (Str.ofString "abc") = 0 := by decide +kernel
  have h5 : tS (Str.ofString "ac") (Str.ofString "b") (Str.ofString "abc") = -1 := by decide +kernel
  have h6 : tS (Str.ofString "ac") (Str.ofString "c") (Str.ofString "abc") = 0 := by decide +kernel
  have h7 : tS (Str.ofString "ac") (Str.ofString "d") (Str.ofString "abc") = 0 := by decide +kernel
  have h8 : tS (Str.ofString "ad") (Str.ofString "a") (Str.ofString "abc") = 0 := by decide +kernel
  have h9 : tS (Str.ofString "ad") (Str.ofString "b") (Str.ofString "abc") = 0 := by decide +kernel
  have h10 : tS (Str.ofString "ad") (Str.ofString "c") (Str.ofString "abc") = 0 := by decide +kernel
  have h11 : tS (Str.ofString "ad") (Str.ofString "d") (Str.ofString "abc") = 0 := by decide +kernel
  have h12 : tS (Str.ofString "bc") (Str.ofString "a") (Str.ofString "abc") = 1 := by decide +kernel
  have h13 : tS (Str.ofString "bc") (Str.ofString "b") (Str.ofString "abc") = 0 := by decide +kernel
  have h14 : tS (Str.ofString "bc") (Str.ofString "c") (Str.ofString "abc") = 0 := by decide +kernel
  have h15 : tS (Str.ofString "bc") (Str.ofString "d") (Str.ofString "abc") = 0 := by decide +kernel
  have h16 : tS (Str.ofString "bd") (Str.ofString "a") (Str.ofString "abc") = 0 := by decide +kernel
  have h17 : tS (Str.ofString "bd") (Str.ofString "b") (Str.ofString "abc") = 0 := by decide +kernel
  have h18 : tS (Str.ofString "bd") (Str.ofString "c") (Str.ofString "abc") = 0 := by decide +kernel
  have h19 : tS (Str.ofString "bd") (Str.ofString "d") (Str.ofString "abc") = 0 := by decide +kernel
  have h20 : tS (Str.ofString "cd") (Str.ofString "a") (Str.ofString "abc") = 0 := by decide +kernel
  have h21 : tS (Str.ofString "cd") (Str.ofString "b") (Str.ofString "abc") = 0 := by decide +kernel
  have h22 : tS (Str.ofString "cd") (Str.ofString "c") (Str.ofString "abc") = 0 := by decide +kernel
  have h23 : tS (Str.ofString "cd") (Str.ofString "d") (Str.ofString "abc") = 0 := by decide +kernel
  simp only [Wf, wd, L4, sm_cons, sm_nil, h0, h1, h2, h3, h4, h5, h6, h7, h8, h9, h10, h11, h12, h13, h14, h15, h16, h17, h18, h19, h20, h21, h22, h23]
  grind
theorem Wf_abd (A R : Str → Int) : Wf (wd 2) A R (Str.ofString "abd") = R (Str.ofString "d") * A (Str.ofString "ab") - R (Str.ofString "b") * A (Str.ofString "ad") + R (Str.ofString "a") * A (Str.ofString "bd") := by
  have h0 : tS (Str.ofString "ab") (Str.ofString "a") (Str.ofString "abd") = 0 := by decide +kernel
  have h1 : tS (Str.ofString "ab") (Str.ofString "b") (Str.ofString "abd") = 0 := by decide +kernel
  have h2 : tS (Str.ofString "ab") (Str.ofString "c") (Str.ofString "abd") = 0 := by decide +kernel
  have h3 : tS (Str.ofString "ab") (Str.ofString "d") (Str.ofString "abd") = 1 := by decide +kernel
  have h4 : tS (Str.ofString "ac") (Str.ofString "a") (Str.ofString "abd") = 0 := by decide +kernel
  have h5 : tS (Str.ofString "ac") (Str.ofString "b") (Str.ofString "abd") = 0 := by decide +kernel
  have h6 : tS (Str.ofString "ac") (Str.ofString "c") (Str.ofString "abd") = 0 := by decide +kernel
  have h7 : tS (Str.ofString "ac") (Str.ofString "d") (Str.ofString "abd") = 0 := by decide +kernel
  have h8 : tS (Str.ofString "ad") (Str.ofString "a") (Str.ofString "abd") = 0 := by decide +kernel
  have h9 : tS (Str.ofString "ad") (Str.ofString "b") (Str.ofString "abd") = -1 := by decide +kernel
  have h10 : tS (Str.ofString "ad") (Str.ofString "c") (Str.ofString "abd") = 0 := by decide +kernel
  have h11 : tS (Str.ofString "ad") (Str.ofString "d") (Str.ofString "abd") = 0 := by decide +kernel
  have h12 : tS (Str.ofString "bc") (Str.ofString "a") (Str.ofString "abd") = 0 := by decide +kernel
  have h13 : tS (Str.ofString "bc") (Str.ofString "b") (Str.ofString "abd") = 0 := by decide +kernel
  have h14 : tS (Str.ofString "bc") (Str.ofString "c") (Str.ofString "abd") = 0 := by decide +kernel
  have h15 : tS (Str.ofString "bc") (Str.ofString "d") (Str.ofString "abd") = 0 := by decide +kernel
  have h16 : tS (Str.ofString "bd") (Str.ofString "a") (Str.ofString "abd") = 1 := by decide +kernel
  have h17 : tS (Str.ofString "bd") (Str.ofString "b") (Str.ofString "abd") = 0 := by decide +kernel
  have h18 : tS (Str.ofString "bd") (Str.ofString "c") (Str.ofString "abd") = 0 := by decide +kernel
  have h19 : tS (Str.ofString "bd") (Str.ofString "d") (Str.ofString "abd") = 0 := by decide +kernel
  have h20 : tS (Str.ofString "cd") (Str.ofString "a") (Str.ofString "abd") = 0 := by decide +kernel
  have h21 : tS (Str.ofString "cd") (Str.ofString "b") (Str.ofString "abd") = 0 := by decide +kernel
  have h22 : tS (Str.ofString "cd") (Str.ofString "c") (Str.ofString "abd") = 0 := by decide +kernel
  have h23 : tS (Str.ofString "cd") (Str.ofString "d") (Str.ofString "abd") = 0 := by decide +kernel
  simp only [Wf, wd, L4, sm_cons, sm_nil, h0, h1, h2, h3, h4, h5, h6, h7, h8, h9, h10, h11, h12, h13, h14, h15, h16, h17, h18, h19, h20, h21, h22, h23]
  grind
theorem Wf_acd (A R : Str → Int) : Wf (wd 2) A R (Str.ofString "acd") = R (Str.ofString "d") * A (Str.ofString "ac") - R (Str.ofString "c") * A (Str.ofString "ad") + R (Str.ofString "a") * A (Str.ofString "cd") := by
  have h0 : tS (Str.ofString "ab") (Str.ofString "a") (Str.ofString "acd") = 0 := by decide +kernel
  have h1 : tS (Str.ofString "ab") (Str.ofString "b") (Str.ofString "acd") = 0 := by decide +kernel
  have h2 : tS (Str.ofString "ab") (Str.ofString "c") (Str.ofString "acd") = 0 := by decide +kernel
  have h3 : tS (Str.ofString "ab") (Str.ofString "d") (Str.ofString "acd") = 0 := by decide +kernel
  have h4 : tS (Str.ofString "ac") (Str.ofString "a") (Str.ofString "acd") = 0 := by decide +kernel
  have h5 : tS (Str.ofString "ac") (Str.ofString "b") (Str.ofString "acd") = 0 := by decide +kernel
  have h6 : tS (Str.ofString "ac") (Str.ofString "c") (Str.ofString "acd") = 0 := by decide +kernel
  have h7 : tS (Str.ofString "ac") (Str.ofString "d") (Str.ofString "acd") = 1 := by decide +kernel
  have h8 : tS (Str.ofString "ad") (Str.ofString "a") (Str.ofString "acd") = 0 := by decide +kernel
  have h9 : tS (Str.ofString "ad") (Str.ofString "b") (Str.ofString "acd") = 0 := by decide +kernel
  have h10 : tS (Str.ofString "ad") (Str.ofString "c") (Str.ofString "acd") = -1 := by decide +kernel
  have h11 : tS (Str.ofString "ad") (Str.ofString "d") (Str.ofString "acd") = 0 := by decide +kernel
  have h12 : tS (Str.ofString "bc") (Str.ofString "a") (Str.ofString "acd") = 0 := by decide +kernel
  have h13 : tS (Str.ofString "bc") (Str.ofString "b") (Str.ofString "acd") = 0 := by decide +kernel
  have h14 : tS (Str.ofString "bc") (Str.ofString "c") (Str.ofString "acd") = 0 := by decide +kernel
  have h15 : tS (Str.ofString "bc") (Str.ofString "d") (Str.ofString "acd") = 0 := by decide +kernel
  have h16 : tS (Str.ofString "bd") (Str.ofString "a") (Str.ofString "acd") = 0 := by decide +kernel
  have h17 : tS (Str.ofString "bd") (Str.ofString "b") (Str.ofString "acd") = 0 := by decide +kernel
  have h18 : tS (Str.ofString "bd") (Str.ofString "c") (Str.ofString "acd") = 0 := by decide +kernel
  have h19 : tS (Str.ofString "bd") (Str.ofString "d") (Str.ofString "acd") = 0 := by decide +kernel
  have h20 : tS (Str.ofString "cd") (Str.ofString "a") (Str.ofString "acd") = 1 := by decide +kernel
  have h21 : tS (Str.ofString "cd") (Str.ofString "b") (Str.ofString "acd") = 0 := by decide +kernel
  have h22 : tS (Str.ofString "cd") (Str.ofString "c") (Str.ofString "acd") = 0 := by decide +kernel
  have h23 : tS (Str.ofString "cd") (Str.ofString "d") (Str.ofString "acd") = 0 := by decide +kernel
  simp only [Wf, wd, L4, sm_cons, sm_nil, h0, h1, h2, h3, h4, h5, h6, h7, h8, h9, h10, h11, h12, h13, h14, h15, h16, h17, h18, h19, h20, h21, h22, h23]
  grind
theorem Wf_bcd (A R : Str → Int) : Wf (wd 2) A R (Str.ofString "bcd") = R (Str.ofString "d") * A (Str.ofString "bc") - R (Str.ofString "c") * A (Str.ofString "bd") + R (Str.ofString "b") * A (Str.ofString "cd") := by
  have h0 : tS (Str.ofString "ab") (Str.ofString "a") (Str.ofString "bcd") = 0 := by decide +kernel
  have h1 : tS (Str.ofString "ab") (Str.ofString "b") (Str.ofString "bcd") = 0 := by decide +kernel
  have h2 : tS (Str.ofString "ab") (Str.ofString "c") (Str.ofString "bcd") = 0 := by decide +kernel
  have h3 : tS (Str.ofString "ab") (Str.ofString "d") (Str.ofString "bcd") = 0 := by decide +kernel
  have h4 : tS (Str.ofString "ac") (Str.ofString "a") (Str.ofString "bcd") = 0 := by decide +kernel
  have h5 : tS (Str.ofString "ac") (Str.ofString "b") (Str.ofString "bcd") = 0 := by decide +kernel
  have h6 : tS (Str.ofString "ac") (Str.ofString "c") (Str.ofString "bcd") = 0 := by decide +kernel
  have h7 : tS (Str.ofString "ac") (Str.ofString "d") (Str.ofString "bcd") = 0 := by decide +kernel
  have h8 : tS (Str.ofString "ad") (Str.ofString "a") (Str.ofString "bcd") = 0 := by decide +kernel
  have h9 : tS (Str.ofString "ad") (Str.ofString "b") (Str.ofString "bcd") = 0 := by decide +kernel
  have h10 : tS (Str.ofString "ad") (Str.ofString "c") (Str.ofString "bcd") = 0 := by decide +kernel
  have h11 : tS (Str.ofString "ad") (Str.ofString "d") (Str.ofString "bcd") = 0 := by decide +kernel
  have h12 : tS (Str.ofString "bc") (Str.ofString "a") (Str.ofString "bcd") = 0 := by decide +kernel
  have h13 : tS (Str.ofString "bc") (Str.ofString "b") (Str.ofString "bcd") = 0 := by decide +kernel
  have h14 : tS (Str.ofString "bc") (Str.ofString "c") (Str.ofString "bcd") = 0 := by decide +kernel
  have h15 : tS (Str.ofString "bc") (Str.ofString "d") (Str.ofString "bcd") = 1 := by decide +kernel
  have h16 : tS (Str.ofString "bd") (Str.ofString "a") (Str.ofString "bcd") = 0 := by decide +kernel
  have h17 : tS (Str.ofString "bd") (Str.ofString "b") (Str.ofString "bcd") = 0 := by decide +kernel
  have h18 : tS (Str.ofString "bd") (Str.ofString "c") (Str.ofString "bcd") = -1 := by decide +kernel
  have h19 : tS (Str.ofString "bd") (Str.ofString "d") (Str.ofString "bcd") = 0 := by decide +kernel
  have h20 : tS (Str.ofString "cd") (Str.ofString "a") (Str.ofString "bcd") = 0 := by decide +kernel
  have h21 : tS (Str.ofString "cd") (Str.ofString "b") (Str.ofString "bcd") = 1 := by decide +kernel
  have h22 : tS (Str.ofString "cd") (Str.ofString "c") (Str.ofString "bcd") = 0 := by decide +kernel
  have h23 : tS (Str.ofString "cd") (Str.ofString "d") (Str.ofString "bcd") = 0 := by decide +kernel
  simp only [Wf, wd, L4, sm_cons, sm_nil, h0, h1, h2, h3, h4, h5, h6, h7, h8, h9, h10, h11, h12, h13, h14, h15, h16, h17, h18, h19, h20, h21, h22, h23]
  grind
theorem Wf_abcd (A R : Str → Int) : Wf (wd 3) A R (Str.ofString "abcd") = R (Str.ofString "d") * A (Str.ofString "abc") - R (Str.ofString "c") * A (Str.ofString "abd") + R (Str.ofString "b") * A (Str.ofString "acd") - R (Str.ofString "a") * A (Str.ofString "bcd") := by
  have h0 : tS (Str.ofString "abc") (Str.ofString "a") (Str.ofString "abcd") = 0 := by decide +kernel
  have h1 : tS (Str.ofString "abc") (Str.ofString "b") (Str.ofString "abcd") = 0 := by decide +kernel
  have h2 : tS (Str.ofString "abc") (Str.ofString "c") (Str.ofString "abcd") = 0 := by decide +kernel
  have h3 : tS (Str.ofString "abc") (Str.ofString "d") (Str.ofString "abcd") = 1 := by decide +kernel
  have h4 : tS (Str.ofString "abd") (Str.ofString "a") (Str.ofString "abcd") = 0 := by decide +kernel
  have h5 : tS (Str.ofString "abd") (Str.ofString "b") (Str.ofString "abcd") = 0 := by decide +kernel
  have h6 : tS (Str.ofString "abd") (Str.ofString "c") (Str.ofString "abcd") = -1 := by decide +kernel
  have h7 : tS (Str.ofString "abd") (Str.ofString "d") (Str.ofString "abcd") = 0 := by decide +kernel
  have h8 : tS (Str.ofString "acd") (Str.ofString "a") (Str.ofString "abcd") = 0 := by decide +kernel
  have h9 : tS (Str.ofString "acd") (Str.ofString "b") (Str.ofString "abcd") = 1 := by decide +kernel
  have h10 : tS (Str.ofString "acd") (Str.ofString "c") (Str.ofString "abcd") = 0 := by decide +kernel
  have h11 : tS (Str.ofString "acd") (Str.ofString "d") (Str.ofString "abcd") = 0 := by decide +kernel
  have h12 : tS (Str.ofString "bcd") (Str.ofString "a") (Str.ofString "abcd") = -1 := by decide +kernel
  have h13 : tS (Str.ofString "bcd") (Str.ofString "b") (Str.ofString "abcd") = 0 := by decide +kernel
  have h14 : tS (Str.ofString "bcd") (Str.ofString "c") (Str.ofString "abcd") = 0 := by decide +kernel
  have h15 : tS (Str.ofString "bcd") (Str.ofString "d") (Str.ofString "abcd") = 0 := by decide +kernel
  simp only [Wf, wd, L4, sm_cons, sm_nil, h0, h1, h2, h3, h4, h5, h6, h7, h8, h9, h10, h11, h12, h13, h14, h15]
  grind
theorem Wf_lin1 (l : List Str) (R : Str → Int) {α : Type} (F : List α) (a : α → Int) (B : α → Str → Int) {A : Str → Int} (h : ∀ x, A x = sm F fun q => a q * B q x) (w : Str) : Wf l A R w = sm F fun q => a q * Wf l (B q) R w := by
  unfold Wf
  have e : (sm l fun x => sm L4 (fun y => tS x y w * R y) * A x) = sm l fun x => sm F fun q => a q * (sm L4 (fun y => tS x y w * R y) * B q x) := by
    refine sm_congr fun x _ => ?_
    rw [h x, ← sm_mul]
    refine sm_congr fun q _ => ?_
    grind
  rw [e, sm_comm]
  exact sm_congr fun q _ => sm_mul _ _ _
theorem Wf_lin2 (l : List Str) (A : Str → Int) {α : Type} (F : List α) (a : α → Int) (V : α → Str → Int) {R : Str → Int} (h : ∀ j ∈ L4, R j = sm F fun q => a q * V q j) (w : Str) : Wf l A R w = sm F fun q => a q * Wf l A (V q) w := by
  unfold Wf
  have e : (sm l fun x => sm L4 (fun y => tS x y w * R y) * A x) = sm l fun x => sm F fun q => a q * (sm L4 (fun y => tS x y w * V q y) * A x) := by
    refine sm_congr fun x _ => ?_
    have e2 : sm L4 (fun y => tS x y w * R y) = sm F fun q => a q * sm L4 (fun y => tS x y w * V q y) := by
      have e3 : sm L4 (fun y => tS x y w * R y) = sm L4 fun y => sm F fun q => a q * (tS x y w * V q y) := by
        refine sm_congr fun y hy => ?_
        rw [h y hy, ← sm_mul]
        refine sm_congr fun q _ => ?_
        grind
      rw [e3, sm_comm]
      exact sm_congr fun q _ => sm_mul _ _ _
    rw [e2, Int.mul_comm, ← sm_mul]
    refine sm_congr fun q _ => ?_
    grind
  rw [e, sm_comm]
  exact sm_congr fun q _ => sm_mul _ _ _
def NS (F : Str → List (Str × Str × Int)) : Nat → (Str → Int) → List Str → Int
  | _, A, [] => A (Str.ofString "abcd")
  | k, A, c :: cs => sm (F c) fun q => q.2.2 * NS F (k + 1) (Wf (wd k) A (V4 c q.2.1)) cs
def CH (R : Str → Str → Int) : Nat → (Str → Int) → List Str → Int
  | _, A, [] => A (Str.ofString "abcd")
  | k, A, c :: cs => CH R (k + 1) (Wf (wd k) A (R c)) cs
theorem CH_lin (R : Str → Str → Int) {α : Type} (F : List α) (a : α → Int) : ∀ (cs : List Str) (k : Nat) (A : Str → Int) (B : α → Str → Int), (∀ x, A x = sm F fun q => a q * B q x) → CH R k A cs = sm F fun q => a q * CH R k (B q) cs
  | [], _, A, B, h => h _
  | c :: cs, k, A, B, h => by
    show CH R (k + 1) (Wf (wd k) A (R c)) cs = _
    exact CH_lin R F a cs (k + 1) _ (fun q => Wf (wd k) (B q) (R c)) (fun w => Wf_lin1 _ _ F a B h w)
theorem CH_NS {R : Str → Str → Int} {F : Str → List (Str × Str × Int)} : ∀ (cs : List Str) (k : Nat) (A : Str → Int), (∀ c ∈ cs, ∀ j ∈ L4, R c j = sm (F c) fun q => q.2.2 * V4 c q.2.1 j) → CH R k A cs = NS F k A cs
  | [], _, _, _ => rfl
  | c :: cs, k, A, h => by
    show CH R (k + 1) (Wf (wd k) A (R c)) cs = sm (F c) _
    rw [CH_lin R (F c) (fun q => q.2.2) cs (k + 1) _ (fun q => Wf (wd k) A (V4 c q.2.1)) (fun w => Wf_lin2 _ _ (F c) (fun q => q.2.2) (fun q => V4 c q.2.1) (h c (List.Mem.head _)) w)]
    exact sm_congr fun q _ => by rw [CH_NS cs (k + 1) _ fun c' hc' => h c' (List.Mem.tail _ hc')]
def TS (F : Str → List (Str × Str × Int)) : List Str → Int → List Str → Int
  | l, z, [] => if endsN l 4 = R4 then z else 0
  | l, z, c :: cs => sm (F c) fun q => TS F (l ++ [q.2.1]) (z * q.2.2) cs
theorem trees_fold (ws : List (List Str × Int)) : ∀ acc : Int, ws.foldl treeF acc = acc + sm ws fun p => if endsN p.1 4 = R4 then p.2 else 0 := by
  induction ws with
  | nil => intro acc; simp
  | cons p ws ih =>
    intro acc
    rw [List.foldl_cons, ih, sm_cons]
    unfold treeF
    split <;> omega
def FP (Pl : List (Str × Str × Int)) (c : Str) : List (Str × Str × Int) := Pl.filter fun q => decide (q.1 = c)
theorem ways_TS (Pl : List (Str × Str × Int)) : ∀ (cs : List Str) (ws : List (List Str × Int)), (sm (cs.foldl (wayStep Pl) ws) fun p => if endsN p.1 4 = R4 then p.2 else 0) = sm ws fun p => TS (FP Pl) p.1 p.2 cs
  | [], ws => rfl
  | c :: cs, ws => by
    rw [List.foldl_cons, ways_TS Pl cs, wayStep, sm_flatMap]
    refine sm_congr fun p _ => ?_
    unfold wayF
    rw [sm_map]
    rfl
theorem trees_TS (Pl : List (Str × Str × Int)) : treesC Pl = TS (FP Pl) [] 1 L4 := by
  unfold treesC
  rw [trees_fold]
  unfold ways4
  rw [ways_TS]
  simp
/-- the five by their numbers -/
def nth5 (i : Nat) : Str := if i = 0 then Str.ofString "a" else if i = 1 then Str.ofString "b" else if i = 2 then Str.ofString "c" else if i = 3 then Str.ofString "d" else Str.ofString "r"
theorem nth5_idx : ∀ x ∈ L5, nth5 (idx5 x) = x := by decide +kernel
theorem idx_nth5 : ∀ i < 5, idx5 (nth5 i) = i := by decide +kernel
theorem nth5_inj {i j : Nat} (hi : i < 5) (hj : j < 5) : nth5 i = nth5 j ↔ i = j := by
  constructor
  · intro h
    rw [← idx_nth5 i hi, h, idx_nth5 j hj]
  · rintro rfl; rfl
def V5 (c y j : Nat) : Int := (if c = j then 1 else 0) - (if y = j then 1 else 0)
theorem V4_V5 {c y j : Nat} (hc : c < 5) (hy : y < 5) (hj : j < 5) : V4 (nth5 c) (nth5 y) (nth5 j) = V5 c y j := by
  unfold V4 V5
  simp only [nth5_inj hc hj, nth5_inj hy hj]
def endn (ys : List Nat) : Nat → List Nat
  | 0 => [0, 1, 2, 3]
  | i + 1 => (endn ys i).map fun e => (ys ++ [4]).getD e 4
theorem endn_ok {ys : List Nat} (h : ∀ y ∈ ys, y < 5) : ∀ i, (∀ e ∈ endn ys i, e < 5) ∧ endsN (ys.map nth5) i = (endn ys i).map nth5
  | 0 => ⟨by show ∀ e ∈ [0, 1, 2, 3], e < 5; decide, by show L4 = [0, 1, 2, 3].map nth5; decide +kernel⟩
  | i + 1 => by
    obtain ⟨h1, h2⟩ := endn_ok h i
    have hg : ∀ e, (ys ++ [4]).getD e 4 < 5 := by
      intro e
      rw [List.getD_eq_getElem?_getD]
      cases hq : (ys ++ [4])[e]? with
      | none => decide
      | some y =>
        rcases List.mem_append.mp (List.mem_of_getElem? hq) with hm | hm
        · exact h y hm
        · rw [List.mem_singleton.mp hm]; decide
    refine ⟨?_, ?_⟩
    · intro e he
      obtain ⟨e', _, rfl⟩ := List.mem_map.mp he
      exact hg e'
    · show List.map _ (endsN (ys.map nth5) i) = List.map nth5 (List.map _ (endn ys i))
      rw [h2, List.map_map, List.map_map]
      refine List.map_congr_left fun e he => ?_
      show (ys.map nth5 ++ [Str.ofString "r"]).getD (idx5 (nth5 e)) (Str.ofString "r") = nth5 ((ys ++ [4]).getD e 4)
      rw [idx_nth5 e (h1 e he)]
      have er : Str.ofString "r" = nth5 4 := by decide +kernel
      rw [er, show [nth5 4] = List.map nth5 [4] from rfl, ← List.map_append, List.getD_eq_getElem?_getD, List.getD_eq_getElem?_getD, List.getElem?_map]
      cases (ys ++ [4])[e]? <;> rfl
def A0 (x : Str) : Int := if Str.ofString "" = x then 1 else 0
def stp (s : Nat × (Str → Int)) (y : Str) : Nat × (Str → Int) := (s.1 + 1, Wf (wd s.1) s.2 (V4 (L4.getD s.1 (Str.ofString "a")) y))
def st (l : List Str) : Nat × (Str → Int) := l.foldl stp (0, A0)
theorem st_snoc (l : List Str) (y : Str) : st (l ++ [y]) = stp (st l) y := by unfold st; rw [List.foldl_append]; rfl
theorem st_len (l : List Str) : (st l).1 = l.length := by
  have key : ∀ (l : List Str) (s : Nat × (Str → Int)), (l.foldl stp s).1 = s.1 + l.length := by
    intro l
    induction l with
    | nil => intro s; rfl
    | cons y l ih => intro s; rw [List.foldl_cons, ih, List.length_cons]; show s.1 + 1 + _ = _; omega
  have := key l (0, A0)
  rw [Nat.zero_add] at this
  exact this
def det5 (p q r s : Nat) : Int :=
  V5 3 s 3 * (V5 2 r 2 * (V5 1 q 1 * (V5 0 p 0 * (1)) - V5 1 q 0 * (V5 0 p 1 * (1))) - V5 2 r 1 * (V5 1 q 2 * (V5 0 p 0 * (1)) - V5 1 q 0 * (V5 0 p 2 * (1))) + V5 2 r 0 * (V5 1 q 2 * (V5 0 p 1 * (1)) - V5 1 q 1 * (V5 0 p 2 * (1)))) - V5 3 s 2 * (V5 2 r 3 * (V5 1 q 1 * (V5 0 p 0 * (1)) - V5 1 q 0 * (V5 0 p 1 * (1))) - V5 2 r 1 * (V5 1 q 3 * (V5 0 p 0 * (1)) - V5 1 q 0 * (V5 0 p 3 * (1))) + V5 2 r 0 * (V5 1 q 3 * (V5 0 p 1 * (1)) - V5 1 q 1 * (V5 0 p 3 * (1)))) + V5 3 s 1 * (V5 2 r 3 * (V5 1 q 2 * (V5 0 p 0 * (1)) - V5 1 q 0 * (V5 0 p 2 * (1))) - V5 2 r 2 * (V5 1 q 3 * (V5 0 p 0 * (1)) - V5 1 q 0 * (V5 0 p 3 * (1))) + V5 2 r 0 * (V5 1 q 3 * (V5 0 p 2 * (1)) - V5 1 q 2 * (V5 0 p 3 * (1)))) - V5 3 s 0 * (V5 2 r 3 * (V5 1 q 2 * (V5 0 p 1 * (1)) - V5 1 q 1 * (V5 0 p 2 * (1))) - V5 2 r 2 * (V5 1 q 3 * (V5 0 p 1 * (1)) - V5 1 q 1 * (V5 0 p 3 * (1))) + V5 2 r 1 * (V5 1 q 3 * (V5 0 p 2 * (1)) - V5 1 q 2 * (V5 0 p 3 * (1))))
theorem det_check : ∀ p < 5, ∀ q < 5, ∀ r < 5, ∀ s < 5, det5 p q r s = if endn [p, q, r, s] 4 = [4, 4, 4, 4] then 1 else 0 := by decide +kernel
theorem st_det {p q r s : Nat} (hp : p < 5) (hq : q < 5) (hr : r < 5) (hs : s < 5) : (st [nth5 p, nth5 q, nth5 r, nth5 s]).2 (Str.ofString "abcd") = det5 p q r s := by
  show Wf (wd 3) (Wf (wd 2) (Wf (wd 1) (Wf (wd 0) A0 (V4 (nth5 0) (nth5 p))) (V4 (nth5 1) (nth5 q))) (V4 (nth5 2) (nth5 r))) (V4 (nth5 3) (nth5 s)) (Str.ofString "abcd") = _
  have e0 : A0 (Str.ofString "") = 1 := by decide +kernel
  have v00 : V4 (nth5 0) (nth5 p) (Str.ofString "a") = V5 0 p 0 := V4_V5 (j := 0) (by decide) hp (by decide)
  have v01 : V4 (nth5 0) (nth5 p) (Str.ofString "b") = V5 0 p 1 := V4_V5 (j := 1) (by decide) hp (by decide)
  have v02 : V4 (nth5 0) (nth5 p) (Str.ofString "c") = V5 0 p 2 := V4_V5 (j := 2) (by decide) hp (by decide)
  have v03 : V4 (nth5 0) (nth5 p) (Str.ofString "d") = V5 0 p 3 := V4_V5 (j := 3) (by decide) hp (by decide)
  have v10 : V4 (nth5 1) (nth5 q) (Str.ofString "a") = V5 1 q 0 := V4_V5 (j := 0) (by decide) hq (by decide)
  have v11 : V4 (nth5 1) (nth5 q) (Str.ofString "b") = V5 1 q 1 := V4_V5 (j := 1) (by decide) hq (by decide)
  have v12 : V4 (nth5 1) (nth5 q) (Str.ofString "c") = V5 1 q 2 := V4_V5 (j := 2) (by decide) hq (by decide)
  have v13 : V4 (nth5 1) (nth5 q) (Str.ofString "d") = V5 1 q 3 := V4_V5 (j := 3) (by decide) hq (by decide)
  have v20 : V4 (nth5 2) (nth5 r) (Str.ofString "a") = V5 2 r 0 := V4_V5 (j := 0) (by decide) hr (by decide)
  have v21 : V4 (nth5 2) (nth5 r) (Str.ofString "b") = V5 2 r 1 := V4_V5 (j := 1) (by decide) hr (by decide)
  have v22 : V4 (nth5 2) (nth5 r) (Str.ofString "c") = V5 2 r 2 := V4_V5 (j := 2) (by decide) hr (by decide)
  have v23 : V4 (nth5 2) (nth5 r) (Str.ofString "d") = V5 2 r 3 := V4_V5 (j := 3) (by decide) hr (by decide)
  have v30 : V4 (nth5 3) (nth5 s) (Str.ofString "a") = V5 3 s 0 := V4_V5 (j := 0) (by decide) hs (by decide)
  have v31 : V4 (nth5 3) (nth5 s) (Str.ofString "b") = V5 3 s 1 := V4_V5 (j := 1) (by decide) hs (by decide)
  have v32 : V4 (nth5 3) (nth5 s) (Str.ofString "c") = V5 3 s 2 := V4_V5 (j := 2) (by decide) hs (by decide)
  have v33 : V4 (nth5 3) (nth5 s) (Str.ofString "d") = V5 3 s 3 := V4_V5 (j := 3) (by decide) hs (by decide)
  simp only [Wf_abcd, Wf_abc, Wf_abd, Wf_acd, Wf_bcd, Wf_ab, Wf_ac, Wf_ad, Wf_bc, Wf_bd, Wf_cd, Wf_a, Wf_b, Wf_c, Wf_d, e0, v00, v01, v02, v03, v10, v11, v12, v13, v20, v21, v22, v23, v30, v31, v32, v33]
  rfl
theorem st_check {l : List Str} (h4 : l.length = 4) (hl : ∀ x ∈ l, x ∈ L5) : (st l).2 (Str.ofString "abcd") = if endsN l 4 = R4 then 1 else 0 := by
  obtain ⟨ys, hys, rfl⟩ : ∃ ys : List Nat, (∀ y ∈ ys, y < 5) ∧ l = ys.map nth5 := by
    refine ⟨l.map idx5, ?_, ?_⟩
    · intro y hy
      obtain ⟨x, _, rfl⟩ := List.mem_map.mp hy
      exact Nat.lt_succ_of_le idx5_le
    · rw [List.map_map]
      conv => lhs; rw [← List.map_id l]
      exact List.map_congr_left fun x hx => (nth5_idx x (hl x hx)).symm
  rw [(endn_ok hys 4).2]
  rw [List.length_map] at h4
  obtain ⟨p, q, r, s, rfl⟩ : ∃ p q r s, ys = [p, q, r, s] := by
    match ys, h4 with
    | [p, q, r, s], _ => exact ⟨p, q, r, s, rfl⟩
  have hp := hys p (by simp)
  have hq := hys q (by simp)
  have hr := hys r (by simp)
  have hs := hys s (by simp)
  show (st [nth5 p, nth5 q, nth5 r, nth5 s]).2 (Str.ofString "abcd") = _
  rw [st_det hp hq hr hs, det_check p hp q hq r hr s hs]
  have hiff : endn [p, q, r, s] 4 = [4, 4, 4, 4] ↔ List.map nth5 (endn [p, q, r, s] 4) = R4 := by
    have hR : R4 = List.map nth5 [4, 4, 4, 4] := by decide +kernel
    rw [hR]
    constructor
    · intro h; rw [h]
    · intro h
      have hlt := (endn_ok hys 4).1
      have h2 := congrArg (List.map idx5) h
      rw [List.map_map, List.map_map] at h2
      have e1 : List.map (idx5 ∘ nth5) (endn [p, q, r, s] 4) = endn [p, q, r, s] 4 := by
        conv => rhs; rw [← List.map_id (endn [p, q, r, s] 4)]
        exact List.map_congr_left fun e he => idx_nth5 e (hlt e he)
      rw [e1] at h2
      rw [h2]
      decide +kernel
  by_cases h : endn [p, q, r, s] 4 = [4, 4, 4, 4]
  · rw [if_pos h, if_pos (hiff.1 h)]
  · rw [if_neg h, if_neg (fun h' => h (hiff.2 h'))]
theorem TS_NS {F : Str → List (Str × Str × Int)} (hF : ∀ c, ∀ q ∈ F c, q.2.1 ∈ L5) : ∀ (cs l : List Str) (z : Int), L4.drop l.length = cs → l.length + cs.length = 4 → (∀ x ∈ l, x ∈ L5) → TS F l z cs = z * NS F (st l).1 (st l).2 cs
  | [], l, z, _, h2, h3 => by
    show (if endsN l 4 = R4 then z else 0) = z * (st l).2 (Str.ofString "abcd")
    rw [st_check (by simpa using h2) h3]
    split
    · rw [Int.mul_one]
    · rw [Int.mul_zero]
  | c :: cs, l, z, h1, h2, h3 => by
    show sm (F c) _ = z * sm (F c) _
    rw [← sm_mul]
    refine sm_congr fun q hq => ?_
    have hlt : l.length < L4.length := by
      rw [List.length_cons] at h2
      show l.length < 4
      omega
    have hd : L4.drop l.length = L4[l.length] :: L4.drop (l.length + 1) := List.drop_eq_getElem_cons hlt
    rw [hd] at h1
    have hc : L4.getD l.length (Str.ofString "a") = c := by
      rw [List.getD_eq_getElem?_getD, List.getElem?_eq_getElem hlt, Option.getD_some]
      exact (List.cons.inj h1).1
    rw [TS_NS hF cs (l ++ [q.2.1]) (z * q.2.2) (by rw [List.length_append]; exact (List.cons.inj h1).2) (by rw [List.length_append, List.length_singleton]; rw [List.length_cons] at h2; omega) (by
      intro x hx
      rcases List.mem_append.mp hx with hx | hx
      · exact h3 x hx
      · rw [List.mem_singleton.mp hx]; exact hF c q hq)]
    rw [st_snoc, Int.mul_assoc]
    unfold stp
    dsimp only
    rw [st_len, hc]
theorem trees_NS {Pl : List (Str × Str × Int)} (hP : ∀ q ∈ Pl, q.2.1 ∈ L5) : treesC Pl = NS (FP Pl) 0 A0 L4 := by
  have hF : ∀ c, ∀ q ∈ FP Pl c, q.2.1 ∈ L5 := fun c q hq => hP q (List.mem_filter.mp hq).1
  rw [trees_TS, TS_NS hF L4 [] 1 rfl rfl (fun x hx => by cases hx), Int.one_mul]
  rfl
def termsC (ns : List Int) (H : List (Str × Str)) (cs : List Str) (t : List (Str × Int)) : List (Str × Int) := cs.foldl (fun t c => timesC t (rowC ns H c)) t
theorem terms_CH {ns : List Int} {H : List (Str × Str)} {M : Nat} (hR : ∀ c ∈ L4, GoodR (rowC ns H c) M) : ∀ (cs : List Str) (k : Nat) (t : List (Str × Int)), (∀ c ∈ cs, c ∈ L4) → k + cs.length = 4 → GoodT t k M → S (termsC ns H cs t) (Str.ofString "abcd") = CH (fun c => S (rowC ns H c)) k (S t) cs ∧ GoodT (termsC ns H cs t) 4 M
  | [], k, t, _, hk, hg => by
    have : k = 4 := by simpa using hk
    subst this
    exact ⟨rfl, hg⟩
  | c :: cs, k, t, hcs, hk, hg => by
    rw [List.length_cons] at hk
    have hc := hR c (hcs c (List.Mem.head _))
    obtain ⟨h1, h2⟩ := terms_CH hR cs (k + 1) (timesC t (rowC ns H c)) (fun c' hc' => hcs c' (List.Mem.tail _ hc')) (by omega) (hg.step hc (by omega))
    refine ⟨?_, h2⟩
    show S (termsC ns H cs (timesC t (rowC ns H c))) _ = CH _ (k + 1) (Wf (wd k) (S t) (S (rowC ns H c))) cs
    rw [h1]
    congr 1
    funext w
    exact S_times (wd_nodup (by omega)).1 hg.key hc.key w
theorem in_t0 : isIn (Str.ofString "") (Str.ofString "a") ∧ insL (Str.ofString "") (Str.ofString "a") = Str.ofString "a" := by unfold isIn; decide +kernel
theorem in_t1 : isIn (Str.ofString "a") (Str.ofString "b") ∧ insL (Str.ofString "a") (Str.ofString "b") = Str.ofString "ab" := by unfold isIn; decide +kernel
theorem in_t2 : isIn (Str.ofString "ab") (Str.ofString "c") ∧ insL (Str.ofString "ab") (Str.ofString "c") = Str.ofString "abc" := by unfold isIn; decide +kernel
theorem in_t3 : isIn (Str.ofString "abc") (Str.ofString "d") ∧ insL (Str.ofString "abc") (Str.ofString "d") = Str.ofString "abcd" := by unfold isIn; decide +kernel
theorem K_times {t u : List (Str × Int)} {x y w : Str} (hx : x ∈ K t) (hy : y ∈ K u) (h : isIn x y ∧ insL x y = w) : w ∈ K (timesC t u) := by
  obtain ⟨p, hp, rfl⟩ := of_K hx
  obtain ⟨q, hq, rfl⟩ := of_K hy
  exact ((times_all u t).2.2.1 w).2 ⟨p, hp, q, hq, h⟩
theorem t0_good (M : Nat) : GoodT [(Str.ofString "", 1)] 0 M := ⟨by unfold Nd K; simp, by intro p hp; rw [List.mem_singleton.mp hp]; exact List.Mem.head _, by rw [Nat.pow_zero]; exact Nat.le_refl 1⟩
theorem terms_end {ns : List Int} {H : List (Str × Str)} {M : Nat} (hR : ∀ c ∈ L4, GoodR (rowC ns H c) M ∧ c ∈ K (rowC ns H c)) :
    termsC ns H L4 [(Str.ofString "", 1)] = [(Str.ofString "abcd", CH (fun c => S (rowC ns H c)) 0 A0 L4)] := by
  obtain ⟨h1, h2⟩ := terms_CH (M := M) (fun c hc => (hR c hc).1) L4 0 [(Str.ofString "", 1)] (fun c hc => hc) rfl (t0_good M)
  have hA : S [(Str.ofString "", 1)] = A0 := by
    funext x
    show (if Str.ofString "" = x then (1 : Int) else 0) + 0 = _
    rw [Int.add_zero]
    rfl
  rw [hA] at h1
  have hK : Str.ofString "abcd" ∈ K (termsC ns H L4 [(Str.ofString "", 1)]) := by
    refine K_times (K_times (K_times (K_times (List.Mem.head _) (hR _ ?_).2 in_t0) (hR _ ?_).2 in_t1) (hR _ ?_).2 in_t2) (hR _ ?_).2 in_t3
    all_goals simp [L4]
  generalize termsC ns H L4 [(Str.ofString "", 1)] = T at h1 h2 hK
  have hall : ∀ p ∈ T, p.1 = Str.ofString "abcd" := fun p hp => List.mem_singleton.mp (h2.key p hp)
  have hlen : T.length ≤ 1 := by
    have := nodup_len (l := K T) (m := [Str.ofString "abcd"]) h2.nd (fun x hx => by obtain ⟨p, hp, rfl⟩ := of_K hx; rw [hall p hp]; exact List.Mem.head _)
    have e : (K T).length = T.length := List.length_map ..
    rw [e] at this
    exact this
  match T, hall, hlen, hK, h1 with
  | [p], hall, _, _, h1 =>
    have hp := hall p (List.Mem.head _)
    rw [← h1, S_cons, if_pos hp]
    show [p] = [(_, p.2 + 0)]
    rw [Int.add_zero, ← hp]
  | _ :: _ :: _, _, hlen, _, _ => simp at hlen


-- part M18d
open PySem PySem.W PySem.Spec PySem.Calls PyProof.Rows PyProof.V
theorem c4_mem (n : Int) : c4 n ∈ L4 := by
  rcases c4_cases n with h | h | h | h <;> rw [h] <;> decide +kernel
theorem low_nm (n : Int) (k : Nat) : lowS (nmOf n k) = c4 n := by
  unfold nmOf
  rcases c4_cases n with h | h | h | h <;> rw [h] <;> split <;> decide +kernel
theorem low_up : ∀ c ∈ L4, lowS (Txt.upper c) = c := by decide +kernel
theorem dig_back {k : Nat} (h : k < 10) : digN (D10.getD k (Str.ofString "0")) = k := by
  have : k = 0 ∨ k = 1 ∨ k = 2 ∨ k = 3 ∨ k = 4 ∨ k = 5 ∨ k = 6 ∨ k = 7 ∨ k = 8 ∨ k = 9 := by omega
  rcases this with rfl | rfl | rfl | rfl | rfl | rfl | rfl | rfl | rfl | rfl <;> decide +kernel
def Agree (ns : List Int) (c : Str) (H : List (Str × Str)) (Pl : List (Str × Str × Int)) : Prop :=
  FP Pl c = (H.filter fun e => decide (lowS e.1 = c)).map fun e => (c, ce ns e.2, wt ns e.2)
theorem Agree.snoc {ns : List Int} {c : Str} {H : List (Str × Str)} {Pl : List (Str × Str × Int)} (h : Agree ns c H Pl) {nm dg c' : Str} (hl : lowS nm = c') : Agree ns c (H ++ [(nm, dg)]) (Pl ++ [(c', ce ns dg, wt ns dg)]) := by
  unfold Agree FP at *
  rw [List.filter_append, List.filter_append, List.map_append, h]
  congr 1
  by_cases e : c' = c
  · subst e
    simp [hl]
  · have e2 : ¬ lowS nm = c := by rw [hl]; exact e
    simp [e, e2]
theorem Agree.filter {ns : List Int} {c : Str} {H : List (Str × Str)} {Pl : List (Str × Str × Int)} (h : Agree ns c H Pl) (c' : Str) : Agree ns c (H.filter fun e => !decide (lowS e.1 = c')) (Pl.filter fun p => !decide (p.1 = c')) := by
  unfold Agree FP at *
  rw [List.filter_filter, List.filter_filter]
  by_cases e : c = c'
  · subst e
    have e1 : (Pl.filter fun a => (decide (a.1 = c) && !decide (a.1 = c))) = [] := by
      rw [List.filter_eq_nil_iff]; intro a _; simp
    have e2 : (H.filter fun a => (decide (lowS a.1 = c) && !decide (lowS a.1 = c))) = [] := by
      rw [List.filter_eq_nil_iff]; intro a _; simp
    rw [e1, e2]
    rfl
  · have e1 : (Pl.filter fun a => (decide (a.1 = c) && !decide (a.1 = c'))) = Pl.filter fun a => decide (a.1 = c) := by
      refine List.filter_congr fun a _ => ?_
      by_cases q : a.1 = c
      · simp [q, e]
      · simp [q]
    have e2 : (H.filter fun a => (decide (lowS a.1 = c) && !decide (lowS a.1 = c'))) = H.filter fun a => decide (lowS a.1 = c) := by
      refine List.filter_congr fun a _ => ?_
      by_cases q : lowS a.1 = c
      · simp [q, e]
      · simp [q]
    rw [e1, e2, h]
theorem agree_laid (ns : List Int) : ∀ k, k ≤ 10 → ∀ c, Agree ns c (laidSt ns k).1 (laidSt ns k).2
  | 0, _, c => rfl
  | k + 1, hk, c => by
    have ih := agree_laid ns k (by omega)
    have hd := dig_back (k := k) (by omega)
    show Agree ns c (laidStep (ns.getD k 0) k (laidSt ns k)).1 (laidStep (ns.getD k 0) k (laidSt ns k)).2
    generalize laidSt ns k = St at ih
    unfold laidStep
    dsimp only
    rw [low_nm]
    have et : (c4 (ns.getD k 0), e5 (ns.getD k 0), 2 * ns.getD k 0 + 1) = (c4 (ns.getD k 0), ce ns (D10.getD k (Str.ofString "0")), wt ns (D10.getD k (Str.ofString "0"))) := by
      unfold ce wt
      rw [hd]
    rw [et]
    have hl := low_nm (ns.getD k 0) k
    generalize nmOf (ns.getD k 0) k = nm at hl
    generalize D10.getD k (Str.ofString "0") = dg
    generalize c4 (ns.getD k 0) = c' at hl
    split
    · have hiff : (St.1.any fun e => decide (lowS e.1 = c')) = true ↔ ¬ (St.2.filter fun p => decide (p.1 = c')) = [] := by
        have h := ih c'
        unfold Agree FP at h
        rw [h, List.map_eq_nil_iff, List.filter_eq_nil_iff, List.any_eq_true]
        constructor
        · rintro ⟨e, he, h1⟩ h2
          exact h2 e he h1
        · intro h2
          exact Classical.byContradiction fun h3 => h2 fun a ha h4 => h3 ⟨a, ha, h4⟩
      by_cases hany : (St.1.any fun e => decide (lowS e.1 = c')) = true
      · rw [if_pos hany, if_neg (hiff.1 hany)]
        exact ih c
      · rw [if_neg hany, if_pos (Classical.byContradiction fun h => hany (hiff.2 h))]
        exact (ih c).snoc hl
    · split
      · exact ((ih c).filter c').snoc hl
      · exact (ih c).snoc hl
theorem laid_dig (ns : List Int) : ∀ k, k ≤ 10 → ∀ e ∈ (laidSt ns k).1, e.2 ∈ D10
  | 0, _, _, h => by cases h
  | k + 1, hk, e, h => by
    have ih := laid_dig ns k (by omega)
    have hd : D10.getD k (Str.ofString "0") ∈ D10 := dig_mem (by omega)
    have h' : e ∈ (laidStep (ns.getD k 0) k (laidSt ns k)).1 := h
    unfold laidStep at h'
    dsimp only at h'
    split at h'
    · split at h'
      · exact ih e h'
      · rcases List.mem_append.mp h' with h | h
        · exact ih e h
        · rw [List.mem_singleton.mp h]; exact hd
    · split at h'
      · rcases List.mem_append.mp h' with h | h
        · exact ih e (List.mem_filter.mp h).1
        · rw [List.mem_singleton.mp h]; exact hd
      · rcases List.mem_append.mp h' with h | h
        · exact ih e h
        · rw [List.mem_singleton.mp h]; exact hd
theorem laid_pl {ns : List Int} {N : Nat} (hN : ∀ i, Builtin.Int.intBits (ns.getD i 0) ≤ N) : ∀ k, ∀ q ∈ (laidSt ns k).2, q.2.1 ∈ L5 ∧ Builtin.Int.intBits q.2.2 ≤ N + 4
  | 0, _, h => by cases h
  | k + 1, q, h => by
    have ih := laid_pl hN k
    have ht : (c4 (ns.getD k 0), e5 (ns.getD k 0), 2 * ns.getD k 0 + 1).2.1 ∈ L5 ∧ Builtin.Int.intBits (c4 (ns.getD k 0), e5 (ns.getD k 0), 2 * ns.getD k 0 + 1).2.2 ≤ N + 4 := by
      refine ⟨e5_mem _, ?_⟩
      have h2 : Builtin.Int.intBits (2 : Int) ≤ 2 := by decide +kernel
      have h1 : Builtin.Int.intBits (1 : Int) ≤ 1 := by decide +kernel
      have := intBits_add_le (intBits_mul_le h2 (hN k)) h1
      refine Nat.le_trans this ?_
      omega
    have h' : q ∈ (laidStep (ns.getD k 0) k (laidSt ns k)).2 := h
    unfold laidStep at h'
    dsimp only at h'
    split at h'
    · have h2 : q ∈ (if (laidSt ns k).2.filter (fun p => decide (p.1 = c4 (ns.getD k 0))) = [] then (laidSt ns k).2 ++ [(c4 (ns.getD k 0), e5 (ns.getD k 0), 2 * ns.getD k 0 + 1)] else (laidSt ns k).2) := h'
      clear h'
      split at h2
      · rcases List.mem_append.mp h2 with h | h
        · exact ih q h
        · rw [List.mem_singleton.mp h]; exact ht
      · exact ih q h2
    · split at h'
      · rcases List.mem_append.mp h' with h | h
        · exact ih q (List.mem_filter.mp h).1
        · rw [List.mem_singleton.mp h]; exact ht
      · rcases List.mem_append.mp h' with h | h
        · exact ih q h
        · rw [List.mem_singleton.mp h]; exact ht
theorem texts_len (ns : List Int) (name : Str) : (textsOf (laidSt ns 10).1 name).length ≤ 10 := by
  unfold textsOf
  rw [List.length_map]
  exact Nat.le_trans (List.length_filter_le _ _) (laidSt_len ns 10).1
theorem sum_le {α : Type} (f : α → Nat) (B : Nat) : ∀ l : List α, (∀ x ∈ l, f x ≤ B) → (l.map f).sum ≤ l.length * B
  | [], _ => by simp
  | x :: l, h => by
    rw [List.map_cons, List.sum_cons, List.length_cons, Nat.succ_mul]
    have h1 := h x (List.Mem.head _)
    have h2 := sum_le f B l fun y hy => h y (List.Mem.tail _ hy)
    omega
theorem rows_good {ns : List Int} {N : Nat} (hN : ∀ i, Builtin.Int.intBits (ns.getD i 0) ≤ N) {c : Str} (hc : c ∈ L4) :
    GoodR (rowC ns (laidSt ns 10).1 c) (2 ^ (N + 6)) ∧ c ∈ K (rowC ns (laidSt ns 10).1 c) ∧ ∀ j ∈ L4, S (rowC ns (laidSt ns 10).1 c) j = sm (FP (laidSt ns 10).2 c) fun q => q.2.2 * V4 c q.2.1 j := by
  have hB : ((textsOf (laidSt ns 10).1 (Txt.upper c)).map fun x => (wt ns x).natAbs).sum ≤ 2 ^ (N + 5) := by
    have h1 := sum_le (fun x => (wt ns x).natAbs) (2 ^ (N + 1)) (textsOf (laidSt ns 10).1 (Txt.upper c)) (fun x _ => by
      have := intBits_le_iff.1 (hN (digN x))
      unfold wt
      rw [Nat.pow_succ]
      omega)
    refine Nat.le_trans h1 ?_
    refine Nat.le_trans (Nat.mul_le_mul_right _ (texts_len ns (Txt.upper c))) ?_
    have e : 2 ^ (N + 5) = 2 ^ (N + 1) * 16 := by rw [show N + 5 = (N + 1) + 4 from rfl, Nat.pow_add]
    rw [e]
    generalize 2 ^ (N + 1) = X
    omega
  obtain ⟨h1, h2, h3⟩ := row_good (ns := ns) (H := (laidSt ns 10).1) hc hB
  refine ⟨?_, h2, ?_⟩
  · rw [show N + 6 = (N + 5) + 1 from rfl, Nat.pow_succ, Nat.mul_comm]
    exact h1
  · intro j hj
    rw [h3 j hj]
    have ha := agree_laid ns 10 (Nat.le_refl _) c
    unfold Agree at ha
    rw [ha, sm_map]
    unfold textsOf
    rw [sm_map, low_up c hc]
theorem plain_law {ns : List Int} {N : Nat} (hN : ∀ i, Builtin.Int.intBits (ns.getD i 0) ≤ N) : termsC ns (laidSt ns 10).1 L4 [(Str.ofString "", 1)] = [(Str.ofString "abcd", treesC (laidSt ns 10).2)] := by
  rw [terms_end (M := 2 ^ (N + 6)) fun c hc => ⟨(rows_good hN hc).1, (rows_good hN hc).2.1⟩]
  rw [CH_NS (F := FP (laidSt ns 10).2) L4 0 A0 fun c hc j hj => (rows_good hN hc).2.2 j hj, ← trees_NS fun q hq => (laid_pl hN 10 q hq).1]
theorem mul_ok {N : Nat} (hN : N ≤ 1048576) {k : Nat} (hk : k ≤ 3) {t u : List (Str × Int)} (ht : GoodT t k (2 ^ (N + 6))) (hu : GoodR u (2 ^ (N + 6))) : ∀ p ∈ t, ∀ q ∈ u, IntMulOk p.2 q.2 := by
  intro p hp q hq
  have h1 := Nat.le_trans (le_nrm hp) ht.nrm
  have h2 := Nat.le_trans (le_nrm hq) hu.nrm
  refine IntMulOk.of_le (m := (N + 6) * k + 1) (n := N + 6 + 1) (intBits_le_iff.2 ?_) (intBits_le_iff.2 ?_) ?_
  · rw [← Nat.pow_mul] at h1
    exact Nat.lt_of_le_of_lt h1 (Nat.pow_lt_pow_right (by decide) (Nat.lt_succ_self _))
  · exact Nat.lt_of_le_of_lt h2 (Nat.pow_lt_pow_right (by decide) (Nat.lt_succ_self _))
  · have : (N + 6) * k ≤ (N + 6) * 3 := Nat.mul_le_mul_left _ hk
    omega


-- part M17
theorem calm_M17 : True := by
  w_top off
  trivial
section
open PySem PySem.W PySem.Spec PySem.Calls PyProof.Rows PyProof.V
set_option maxRecDepth 100000
theorem warm17 : (fun (_ : OpenLaw) (_ : Params → Frag) => True) PySem.Challenge.rw_pm0059_01 Mine.hd.heap_39 := by
  k_fill
  trivial
def dfl10 : List Int := [53, 36, 17, 9, 74, 79, 31, 49, 45, 69]
theorem dict_rows (x : Str) (X : Int) : ∃ r, r = true ∧ KeqRows (kdpD [(x, X)]) (kdpD [(x, X)]) r := by
  refine ⟨PyData.eqv (.int X) (.int X) && true, ?_, .hit (u := .int X) ?_ .nil⟩
  · simp [PyData.eqv]
  · rw [kdpD_lookup]
    simp
theorem nums_bits {script : List Int} (hL : (PyData.list (script.map PyData.int)).layable0 = true) (k i : Nat) : Builtin.Int.intBits ((script.take 10 ++ dfl10.drop k).getD i 0) ≤ 1048576 := by
  rw [List.getD_eq_getElem?_getD]
  cases h : (script.take 10 ++ dfl10.drop k)[i]? with
  | none => show Builtin.Int.intBits 0 ≤ _; decide +kernel
  | some x =>
    rcases List.mem_append.mp (List.mem_of_getElem? h) with hx | hx
    · exact intBits_le_of_item (List.mem_of_mem_take hx) hL
    · have : ∀ y ∈ dfl10, Builtin.Int.intBits y ≤ 1048576 := by decide +kernel
      exact this x (List.mem_of_mem_drop hx)
local macro_rules | `(tactic| walk_at "exec For Name Constant") => `(tactic| (k_here; (rename Fr _ _ _ _ => lF'); with_unfolding_all refine For_turns lF' ?_))
local macro_rules | `(tactic| walk_at "pyIter str") => `(tactic| (refine hold ?_))
local macro_rules | `(tactic| walk_at "compareOp Eq ref ref") => `(tactic| (k_here; refine hold ?_))
local macro_rules | `(tactic| walk_at "call builtin:len") => `(tactic| (k_here; refine hold ?_))
local macro_rules | `(tactic| walk_at "binaryOp Add ref ref") => `(tactic| (k_here; refine hold ?_))
local macro_rules | `(tactic| walk_at "subscriptTail Name Slice ref ref") => `(tactic| (k_here; (with_reducible show wpAny _ _ (subscriptTail _ (PySem.Expr.Slice (some _) _ _ _) (Value.ref _) (Value.ref _)) _ _ _); refine hold ?_))
local macro_rules | `(tactic| walk_at "subscriptTail") => `(tactic| (k_here; (with_reducible show wpAny _ _ (subscriptTail _ (PySem.Expr.Slice (some _) _ _ _) (Value.ref _) (Value.ref _)) _ _ _); refine hold ?_))
local macro_rules | `(tactic| walk_at "subscriptTail List Slice ref ref") => `(tactic| (k_here; (with_reducible show wpAny _ _ (subscriptTail _ (PySem.Expr.Slice (some _) _ _ _) (Value.ref _) (Value.ref _)) _ _ _); refine hold ?_))
local macro_rules | `(tactic| walk_at "subscriptTail List") => `(tactic| (k_here; (with_reducible show wpAny _ _ (subscriptTail _ (PySem.Expr.Slice (some _) _ _ _) (Value.ref _) (Value.ref _)) _ _ _); refine hold ?_))
local macro_rules | `(tactic| walk_at "subscriptTail List Slice") => `(tactic| (k_here; (with_reducible show wpAny _ _ (subscriptTail _ (PySem.Expr.Slice (some _) _ _ _) (Value.ref _) (Value.ref _)) _ _ _); refine hold ?_))

set_option maxHeartbeats 8000000 in
theorem main : PySem.Challenge.rw_pm0059_01.Holds := by
  refine Mine.hd ?_
  w_strict (k_go0; (all_goals try k_fold); k_steps)
  rename_i hLay _ _ _ _ lS vsS _ hLs _ _ _ hIs _ hc63 _ K0 _ h1 D1 ws1 hA hI1 hC1 hL1 lt1 lL hB lt2 D2 ws2 hC F1 N1 hI2 hC2 hL2 lt3
  rename Frag.In _ _ => KX
  rename Top _ _ _ _ _ _ => TX
  rename List Int => script
  refine unhold ?_
  have esz : ((ws2.toArray.size : Nat) : Int) = ((script.take 10).length : Nat) := by rw [List.size_toArray, hI2.length]
  refine len_list (items := ws2.toArray) ⟨_, (N1 _ (List.Mem.head _)).1, rfl, _, rfl⟩ (by rw [esz]; omega) ?_
  rw [esz]
  k_steps
  refine unhold ?_
  rename Fr _ _ _ _ => F2
  rename News _ _ _ _ => N2
  k_dflt (refine kba_turn (value' := PySem.Expr.Name (PySem.Str.ofString "_") ⟨0, 0, 0, 0⟩) (fun _ => rfl) ?_)
  k_dflt (refine' kmk_slice_ints (ns := dfl10) (ms := dfl10.drop (((script.take 10).length : Nat) : Int).toNat) F2 N2 ⟨_, (N2 (lL, _) (List.Mem.tail _ (List.Mem.head _))).1, rfl, _, rfl⟩ ?p9 ?q9 ?i9 ?m9 rfl ?_ ?s9 ?t9 ?z9)
  case p9 => exact IsPart.int _ _
  case q9 => exact IsPart.none
  case i9 => exact .cons _ _ (.cons _ _ (.cons _ _ (.cons _ _ (.cons _ _ (.cons _ _ (.cons _ _ (.cons _ _ (.cons _ _ (.cons _ _ .nil)))))))))
  case m9 => exact kmk_from (ns := dfl10) (.cons _ _ (.cons _ _ (.cons _ _ (.cons _ _ (.cons _ _ (.cons _ _ (.cons _ _ (.cons _ _ (.cons _ _ (.cons _ _ .nil)))))))))) (Int.natCast_nonneg _)
  case s9 => with_unfolding_all rfl
  case t9 => intro _; with_unfolding_all rfl
  case z9 => exact Nat.le_of_ble_eq_true rfl
  intro D3 ws3 h3 F3 N3 l3 hI3 _ _
  rw [Int.toNat_natCast] at hI3
  k_steps
  refine unhold ?_
  rename Fr _ _ _ _ => F4
  rename News _ _ _ _ => N4
  k_dflt (refine' kmk_add_ints F4 N4 ⟨_, (N4 (D1, W.listOf ws1.toArray 0) (by k_mem)).1, rfl, _, rfl⟩ ⟨_, (N4 (D3, W.listOf ws3.toArray 0) (by k_mem)).1, rfl, _, rfl⟩ hI1 hI3 ?_ ?z2)
  case z2 => rw [sizeLine_eq, List.length_take, List.length_drop]; simp only [dfl10, List.length_cons, List.length_nil]; omega
  intro D5 ws5 h5 F5 N5 l5 hI5
  k_steps
  refine unhold ?_
  have hlen10 : (script.take 10 ++ dfl10.drop (script.take 10).length).length = 10 := by
    rw [List.length_append, List.length_drop, List.length_take]
    show min 10 script.length + (10 - min 10 script.length) = 10
    omega
  have hbits := nums_bits hLay (script.take 10).length
  generalize hnums : script.take 10 ++ dfl10.drop (script.take 10).length = ns at hI5 hlen10 hbits
  rename Fr _ _ _ _ => F6
  rename News _ _ _ _ => N6
  k_dflt (refine' laid_ct (ns := ns) K0 F6 KX N6 TX ?hk1 ?hd1 ?hu1 (List.Mem.head _) hI5 hlen10 ?_)
  case hk1 => first | exact rfl | assumption
  case hd1 => first | (k_dflt ktr_room) | k_room | decide
  case hu1 => first | (k_dflt ktr_units) | decide
  intro TT hl x d P hvs nh pvs np tkH led h7 tk7 F7 N7 hsub hx hdx hP hH hPl hne
  k_steps
  refine unhold ?_
  rename_i hQ h8 o8 lo8 hd8 hf8 ap8 l8 h9 F9 N9
  rename World => w
  refine iter_strT (l := L4) rfl F9 N9 (by decide +kernel) (by decide +kernel) (fun _ _ => rfl) ?_
  intro I hI
  generalize hDk : hQ.objs.size = Dk at lo8 ap8 l8 F9 N9 hI ⊢
  clear hDk
  have hnI : ∀ p ∈ (Dk, o8) :: (TT, tupObj [Value.ref x, Value.ref P] 0) :: (hl, W.listOf hvs.toArray nh) :: led, p.1 ≠ I := fun p hp => Nat.ne_of_lt (hI p hp)
  have e1x : Kn (fun y => if y = Str.ofString "terms" then some (Value.ref Dk) else if y = Str.ofString "plain" then some (Value.ref P) else if y = Str.ofString "calls" then some (Value.ref x) else if y = Str.ofString "numbers" then some (Value.ref D5) else none) [(Str.ofString "terms", .ref Dk), (Str.ofString "calls", .ref x), (Str.ofString "numbers", .ref D5), (Str.ofString "plain", .ref P)] := ⟨rfl, rfl, rfl, rfl, trivial⟩
  generalize hm : (fun y => if y = Str.ofString "terms" then some (Value.ref Dk) else _) = m1 at F9 ⊢
  have e1 : Kn m1 [(Str.ofString "terms", .ref Dk), (Str.ofString "calls", .ref x), (Str.ofString "numbers", .ref D5), (Str.ofString "plain", .ref P)] := by rw [← hm]; exact ⟨rfl, rfl, rfl, rfl, trivial⟩
  have hdtA : DT w ((Dk, o8) :: (TT, tupObj [Value.ref x, Value.ref P] 0) :: (hl, W.listOf hvs.toArray nh) :: led) Dk [(Str.ofString "", 1)] := ⟨lo8, o8, _, List.Mem.head _, hd8, hf8⟩
  have hB : ∀ p ∈ (hl, W.listOf hvs.toArray nh) :: led, p ∈ (Dk, o8) :: (TT, tupObj [Value.ref x, Value.ref P] 0) :: (hl, W.listOf hvs.toArray nh) :: led := fun p hp => List.Mem.tail _ (List.Mem.tail _ hp)
  generalize (Dk, o8) :: (TT, tupObj [Value.ref x, Value.ref P] 0) :: (hl, W.listOf hvs.toArray nh) :: led = led2 at hnI hdtA hB N9 ⊢
  have hnl : (D5, W.listOf ws5.toArray 0) ∈ led := hsub _ (by k_mem)
  have hdig := laid_dig ns 10 (Nat.le_refl _)
  have hok8 := laidSt_ok ns 10
  have hlenH := (laidSt_len ns 10).1
  obtain ⟨NN, hNN, hbits⟩ : ∃ N, N ≤ 1048576 ∧ ∀ i, Builtin.Int.intBits (ns.getD i 0) ≤ N := ⟨1048576, Nat.le_refl _, hbits⟩
  have hrows := fun c (hc : c ∈ L4) => rows_good hbits hc
  obtain ⟨tk0, k0, hg0, hfold, hk0, hdt⟩ : ∃ tk k, GoodT tk k (2 ^ (NN + 6)) ∧ termsC ns (laidSt ns 10).1 L4 tk = [(Str.ofString "abcd", treesC (laidSt ns 10).2)] ∧ k + L4.length = 4 ∧ DT w led2 Dk tk := ⟨_, 0, t0_good _, plain_law hbits, rfl, hdtA⟩
  clear hdtA
  clear hm F9 N9 hI hd8 hf8 ap8 l8 lo8
  generalize hcz : L4 = cz at hfold hk0 ⊢
  have hczL : ∀ c ∈ cz, c ∈ L4 := by rw [← hcz]; exact fun _ h => h
  clear hcz e1x
  induction cz generalizing m1 Dk led2 tk0 k0 with
  | nil =>
    refine ItemsRest.zero ?_
    intro h tk lF3 lN3
    have lF4 := frKn lF3 e1
    clear lF3 e1
    replace hfold : tk0 = [(Str.ofString "abcd", treesC (laidSt ns 10).2)] := hfold
    subst hfold
    k_steps
    refine unhold ?_
    rename Fr _ _ _ _ => F5
    rename News _ _ _ _ => N5
    obtain ⟨loD, oD, kD, hDm, hDd, hDf⟩ := hdt
    k_dflt (refine' trees_ct (Pl := (laidSt ns 10).2) K0 F5 KX N5 TX ?hk2 ?hd2 ?hu2 ?hP2 ?hPl2 (laidSt_len ns 10).2 ?hok2 ?_)
    case hk2 => first | exact rfl | assumption
    case hd2 => first | (k_dflt ktr_room) | k_room | decide
    case hu2 => first | (k_dflt ktr_units) | decide
    case hP2 => have := hB _ (List.Mem.tail _ hP); k_mem
    case hPl2 => exact hPl.mono fun p hp => by have := hB _ (List.Mem.tail _ hp); k_mem
    case hok2 => exact fun q hq => ⟨(laid_pl hbits 10 q hq).1, Nat.le_trans (laid_pl hbits 10 q hq).2 (by omega)⟩
    intro tX h6 tk6 F6 N6
    k_steps
    refine unhold ?_
    rename_i hE oE hdE hfE
    rename Fr _ _ _ _ => F7
    rename News _ _ _ _ => N7
    obtain ⟨rr, hrr, hrows2⟩ := dict_rows (Str.ofString "abcd") (treesC (laidSt ns 10).2)
    refine keq_tabs (knd := PySem.strKind _ _) (enc := PyData.str) PyProof.V.same_str (TabAt.ofNews N7 (by k_mem) (by assumption) hDd hDf) (TabAt.ofNews N7 (by k_mem) (by assumption) hdE hfE) rfl (by first | (k_dflt ktr_units) | decide) hrows2 ?_
    rw [hrr]
    k_steps
  | cons c r ih =>
    have hc4 := hczL c (List.Mem.head _)
    refine ItemsRest.tok ?_
    intro u h tk lF3
    refine AllObj.cons ?_
    intro oi hoi
    refine AllObj.nil ?_
    intro lN3
    have lF4 := frKn lF3 e1
    clear lF3
    simp only [List.cons_append, List.nil_append] at lN3
    k_steps
    refine unhold ?_
    rename Fr _ _ _ _ => F5
    rename News _ _ _ _ => N5
    have hBx : ∀ p ∈ (hl, W.listOf hvs.toArray nh) :: led, p ∈ (I, oi) :: led2 := fun p hp => List.Mem.tail _ (hB p hp)
    k_dflt (refine' row_ct (H := (laidSt ns 10).1) K0 F5 KX N5 TX ?hk3 ?hd3 ?hu3 (hBx _ (List.Mem.tail _ hx)) (hBx _ (List.Mem.tail _ hdx)) (hBx _ (List.Mem.head _)) ?hH3 hok8 hdig ?hl3 (hBx _ (List.Mem.tail _ hnl)) hI5 hlen10 hc4 ?_)
    case hk3 => first | exact rfl | assumption
    case hd3 => first | (k_dflt ktr_room) | k_room | decide
    case hu3 => first | (k_dflt ktr_units) | decide
    case hH3 => exact hH.mono fun p hp => hBx p (List.Mem.tail _ hp)
    case hl3 => omega
    intro dR oR h6 tk6 F6 N6 l6 hdtR
    k_steps
    refine unhold ?_
    rename Fr _ _ _ _ => F7
    rename News _ _ _ _ => N7
    have hgR := (hrows c hc4).1
    have hl1 := hg0.len (by rw [List.length_cons] at hk0; omega)
    have hl2 := hgR.len
    k_dflt (refine' times_ct (ct := tk0) (cu := rowC ns (laidSt ns 10).1 c) K0 F7 KX N7 TX ?hk4 ?hd4 ?hu4 ?Dt4 ?Du4 ?hlt4 ?hlu4 ?hlt5 ?hlen4 ?hlen5 ?hmul4 ?_)
    case hk4 => first | exact rfl | assumption
    case hd4 => first | (k_dflt ktr_room) | k_room | decide
    case hu4 => first | (k_dflt ktr_units) | decide
    case Dt4 => exact hdt.mono fun p hp => List.Mem.tail _ (List.Mem.tail _ hp)
    case Du4 => exact hdtR.mono fun p hp => by rw [List.mem_singleton.mp hp]; exact List.Mem.head _
    case hlt4 => exact Nat.lt_of_le_of_lt (Nat.mul_le_mul hl1 hl2) (by decide)
    case hlu4 => omega
    case hlt5 => omega
    case hlen4 => exact fun p hp => (wd_nodup (k := k0) (by rw [List.length_cons] at hk0; omega)).2.2 _ (hg0.key p hp)
    case hlen5 => exact fun q hq => len4 (hgR.key q hq)
    case hmul4 => exact mul_ok hNN (by rw [List.length_cons] at hk0; omega) hg0 hgR
    intro dT oT h8 tk8 F8 N8 l8 hdtT
    have hdTI := ltN (l8 (I, oi) (by k_mem))
    k_steps
    refine unhold ?_
    rename Fr _ _ _ _ => FZ
    rename News _ _ _ _ => NZ
    refine ⟨_, _, _, (dT, oT) :: led2, rfl, FZ, fun p hp => NZ p (by
      rcases List.mem_cons.mp hp with rfl | hp
      · k_mem
      rcases List.mem_cons.mp hp with rfl | hp <;> k_mem), ?_, trivial, ?_⟩
    · intro p hp q hq
      rw [List.mem_singleton.mp hq]
      rcases List.mem_cons.mp hp with rfl | hp
      · exact Nat.ne_of_gt hdTI
      · exact hnI p hp
    · refine ih dT _ ⟨rfl, rfl, rfl, rfl, trivial⟩ ((dT, oT) :: led2) ?_ (fun p hp => List.Mem.tail _ (hB p hp)) (timesC tk0 (rowC ns (laidSt ns 10).1 c)) (k0 + 1) (hg0.step hgR (by rw [List.length_cons] at hk0; omega)) (hdtT.mono fun p hp => by rw [List.mem_singleton.mp hp]; exact List.Mem.head _) hfold (by rw [List.length_cons] at hk0; omega) (fun c' hc' => hczL c' (List.Mem.tail _ hc'))
      intro p hp
      rcases List.mem_cons.mp hp with rfl | hp
      · exact Nat.ne_of_gt hdTI
      · exact hnI p hp


end

end Mine

theorem PySem.Challenge.cw_pm0059_01_holds : PySem.Challenge.rw_pm0059_01.Holds := by
  exact Mine.main
