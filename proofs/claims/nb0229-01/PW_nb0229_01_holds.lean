import PyProof.Rows.All
import Wide.All
import OpenK.AllK
import Wide.FinOn
import PySem.Challenge.RW_nb0229_01
set_option Elab.async false
section
open PySem PySem.W PyProof.Rows
set_option Elab.async false
namespace Mine
set_option maxRecDepth 100000 in
set_option maxHeartbeats 8000000 in
open_top hd for PySem.Challenge.rw_nb0229_01
end Mine
end
section
open PySem PySem.W PyProof.Rows PySem.Calls
set_option Elab.async false
set_option maxRecDepth 100000
namespace Mine

/-- what stands of the text, at every heap of the call -/
structure Cx (w : World) (mg mb : Str → Option Value) (mean : ExcName → Option Value) (h : Heap) : Prop where
  K : (hd.heap_39 w.params).In h
  T : Top hd.view_39 (looseW hd.view_39 [Str.ofString "_name_disallowed_re", Str.ofString "_value_disallowed_re"]) mean mg mb h

theorem Cx.keeps {w : World} {mg mb : Str → Option Value} {mean : ExcName → Option Value} {h h' : Heap} (C : Cx w mg mb mean h) (k : h.StaysIn h') : Cx w mg mb mean h' := ⟨C.K.keeps k, C.T.keeps k⟩

/-- all that stood stands, but for the addresses of as -/
def KeepsBut (as : List Addr) (h h' : Heap) : Prop := ∀ b o, b ∉ as → h.get? b = some o → h'.get? b = some o

theorem enter_def {prog : Program} {w : World} {A : Around} {s : Shared} {K : Frag} {base : Heap}
    {R : Result → Shared → Prop} {name qual : Str} {params : Arguments} {body : List Stmt} {scope : Scope} {dV kV doc pm cdv ct oc : Value} {an od : Option Addr} {osl : Array (Option Value)} {f : Addr} {args : Args} {binds : List (Str × Value)}
    (own : List (Addr × Obj)) (hown : ∀ p ∈ own, s.heap.get? p.1 = some p.2) (hnew : ∀ p ∈ own, base.get? p.1 = none)
    (hlim : s.heap.NoLimit) (X : K.In s.heap) (st : base.StaysIn s.heap)
    (ho : K.lookup f = some ⟨oc, od, .func (fnOf name qual params body scope dV kV doc pm an cdv ct), osl⟩) (hcd : codeIn K cdv qual = true) (hroom : A.depth < recursionLimit)
    (hbind : BindsTo s (fnOf name qual params body scope dV kV doc pm an cdv ct) args binds) (hloc : ∀ y ∈ binds, scope.names.lookup y.1 = some .local)
    (h : ∀ g L' h₁, KeepsBut (own.map (·.1)) s.heap g → base.StaysIn g → Fr g L' h₁ (fun y => binds.reverse.lookup y) → News g L' h₁ own →
      wpAny (model prog w) (A.deeper (envOf qual scope L' f cdv)) (execs body (envOf qual scope L' f cdv))
        (fun fl s' => R (.ok (.ret (match fl with | .ret v => v | _ => .none))) s')
        (fun e s' => wpAny (model prog w) (A.deeper (envOf qual scope L' f cdv)) (leaving (envOf qual scope L' f cdv) e) (fun _ s'' => R (.error e) s'') (fun e' s'' => R (.error e') s'') s')
        { s with heap := h₁, toks := s.toks + binds.length })
    (hco : scope.isCoroutine = false := by rfl) (hgen : scope.isGenerator = false := by rfl) (hk : scope.kind = .function := by rfl)
    (hcell : ∀ x ∈ scope.names, x.2 ≠ .cell := by decide) : codeAny (model prog w) A (.call (.ref f) args) R s := by
  refine codeAny_call_def (fd := fnOf name qual params body scope dV kV doc pm an cdv ct) (body := body) (binds := binds) hroom (X _ _ ho) rfl hlim (codeRec_of X hcd) rfl hbind hcell hloc (fun h₁ hns hk₁ => ?_) hco hgen hk
  refine h (hideAll s.heap (own.map (·.1))) s.heap.objs.size h₁ (fun b o nb e => hideAll_get _ e nb) (fun b o e => hideAll_get _ (st b o e) fun hm => ?_) ⟨hns, fun b o e => hk₁ b o (of_hideAll _ e), Nat.le_of_eq (hideAll_size _ _)⟩ fun p hp => ⟨hk₁ _ _ (hown p hp), Nat.ne_of_lt (Heap.lt_size (hown p hp)), hideAll_none _ (List.mem_map_of_mem hp)⟩
  obtain ⟨p, hp, rfl⟩ := List.mem_map.mp hm
  rw [hnew p hp] at e; cases e

/-- the end of a call: what stood before, but for own -/
theorem keepsBut_of {h g h' : Heap} {L : Addr} {m : Str → Option Value} {as : List Addr} (hg : KeepsBut as h g) (F : Fr g L h' m) : KeepsBut as h h' :=
  fun b o nb e => F.keep b o (hg b o nb e)

theorem fr_keeps {h₀ h h' : Heap} {L : Addr} {m : Str → Option Value} {as : List Addr} (F : Fr h₀ L h m) (k : KeepsBut as h h') (hL : L ∉ as) (h0 : ∀ a ∈ as, h₀.get? a = none) : Fr h₀ L h' m := by
  obtain ⟨oL, es, ep, hl, r⟩ := F.ns
  refine ⟨⟨oL, es, ep, k L oL hL hl, r⟩, fun b o e => k b o (fun hb => ?_) (F.keep b o e), F.above⟩
  rw [h0 b hb] at e; cases e

end Mine
namespace Mine
theorem enter_defC {prog : Program} {w : World} {A : Around} {s : Shared} {K : Frag} {base : Heap}
    {R : Result → Shared → Prop} {name qual : Str} {params : Arguments} {body : List Stmt} {scope : Scope} {dV kV doc pm cdv ct oc : Value} {an od : Option Addr} {osl : Array (Option Value)} {f : Addr} {args : Args} {binds : List (Str × Value)}
    (own : List (Addr × Obj)) (hown : ∀ p ∈ own, s.heap.get? p.1 = some p.2) (hnew : ∀ p ∈ own, base.get? p.1 = none)
    (hlim : s.heap.NoLimit) (X : K.In s.heap) (st : base.StaysIn s.heap)
    (ho : K.lookup f = some ⟨oc, od, .func (fnOf name qual params body scope dV kV doc pm an cdv ct), osl⟩) (hcd : codeIn K cdv qual = true) (hroom : A.depth < recursionLimit)
    (hbind : BindsTo s (fnOf name qual params body scope dV kV doc pm an cdv ct) args binds)
    (hkind : (binds.all fun y => scope.names.lookup y.1 == some .local || scope.names.lookup y.1 == some .cell) = true) (hnd : ((cellsFrom 0 scope.names []).map (·.1)).Nodup)
    (h : ∀ g L' h₁ tk cells, KeepsBut (own.map (·.1)) s.heap g → base.StaysIn g → Fr g L' h₁ (bindL (envOfC qual scope L' f cdv).kindOf binds fun _ => none) → News g L' h₁ (cells ++ own) →
      CellsAre (bindC (envOfC qual scope L' f cdv).kindOf binds fun _ => none) (cellsFrom (L' + 1) scope.names []) cells → (∀ p ∈ own, p.1 < L') →
      wpAny (model prog w) (A.deeper (envOfC qual scope L' f cdv)) (execs body (envOfC qual scope L' f cdv))
        (fun fl s' => R (.ok (.ret (match fl with | .ret v => v | _ => .none))) s')
        (fun e s' => wpAny (model prog w) (A.deeper (envOfC qual scope L' f cdv)) (leaving (envOfC qual scope L' f cdv) e) (fun _ s'' => R (.error e) s'') (fun e' s'' => R (.error e') s'') s')
        { s with heap := h₁, toks := tk })
    (hco : scope.isCoroutine = false := by rfl) (hgen : scope.isGenerator = false := by rfl) (hk : scope.kind = .function := by rfl) : codeAny (model prog w) A (.call (.ref f) args) R s := by
  refine codeAny_call_function hroom (X _ _ ho) rfl hco hgen rfl (codeRec_of X hcd) (hbind _ _ _ _ ?_)
  refine wpAny_newFunctionEnv_cells hk (kindsX hkind _) fun env' he s' x => ?_
  subst he
  refine ⟨hlim.keeps x.toInCall.keep, codeAny_func ?_⟩
  obtain ⟨h₁, tk, rfl, _⟩ := x.done
  have hk₁ := x.toInCall.keep
  obtain ⟨cells, NC, Y⟩ := Cl.news (h₀ := s.heap) (Nat.le_refl _) fun n c hm => ⟨x.cell n c (lookup_of_mem_nodup (cellsFrom_names scope.names 0 (s.heap.objs.size + 1) [] [] rfl ▸ hnd) hm), x.above n c hm⟩
  refine h (hideAll s.heap (own.map (·.1))) s.heap.objs.size h₁ tk cells (fun b o nb e => hideAll_get _ e nb) (fun b o e => hideAll_get _ (st b o e) fun hm => ?_) ⟨x.toInCall.ns, fun b o e => hk₁ b o (of_hideAll _ e), Nat.le_of_eq (hideAll_size _ _)⟩ (fun p hp => ?_) Y (fun p hp => Heap.lt_size (hown p hp))
  · obtain ⟨p, hp, rfl⟩ := List.mem_map.mp hm
    rw [hnew p hp] at e; cases e
  · rcases List.mem_append.mp hp with hp | hp
    · refine ⟨(NC p hp).1, (NC p hp).2.1, ?_⟩
      cases q : (hideAll s.heap (own.map (·.1))).get? p.1 with
      | none => rfl
      | some o => have := of_hideAll _ q; rw [(NC p hp).2.2] at this; cases this
    · exact ⟨hk₁ _ _ (hown p hp), Nat.ne_of_lt (Heap.lt_size (hown p hp)), hideAll_none _ (List.mem_map_of_mem hp)⟩
end Mine
end
section
set_option Elab.async false
namespace Mine
/-- two lists, place by place -/
structure All2 {α β : Type} (R : α → β → Prop) (vs : List α) (es : List β) : Prop where
  len : vs.length = es.length
  get : ∀ (i : Nat) (e : β), es[i]? = some e → ∃ v, vs[i]? = some v ∧ R v e

namespace All2
variable {α β : Type} {R S : α → β → Prop} {vs ws : List α} {es fs : List β}
theorem nil : All2 R [] [] := ⟨rfl, fun i e h => by simp at h⟩
theorem mono (h : All2 R vs es) (k : ∀ v e, R v e → S v e) : All2 S vs es :=
  ⟨h.len, fun i e he => let ⟨v, hv, hr⟩ := h.get i e he; ⟨v, hv, k v e hr⟩⟩
theorem set (h : All2 R vs es) (i : Nat) {v : α} {e : β} (hr : R v e) : All2 R (vs.set i v) (es.set i e) := by
  refine ⟨by simp [h.len], fun j x hx => ?_⟩
  rw [List.getElem?_set] at hx ⊢
  by_cases hij : i = j
  · subst hij
    rw [if_pos rfl] at hx ⊢
    by_cases hl : i < es.length
    · rw [if_pos hl] at hx
      rw [if_pos (h.len ▸ hl)]
      cases hx
      exact ⟨v, rfl, hr⟩
    · rw [if_neg hl] at hx; cases hx
  · rw [if_neg hij] at hx ⊢
    exact h.get j x hx
theorem append (h : All2 R vs es) (k : All2 R ws fs) : All2 R (vs ++ ws) (es ++ fs) := by
  refine ⟨by simp [h.len, k.len], fun j x hx => ?_⟩
  rw [List.getElem?_append] at hx ⊢
  rw [h.len]
  by_cases hl : j < es.length
  · rw [if_pos hl] at hx ⊢; exact h.get j x hx
  · rw [if_neg hl] at hx ⊢; exact k.get _ x hx
theorem one {v : α} {e : β} (hr : R v e) : All2 R [v] [e] := by
  refine ⟨rfl, fun j x hx => ?_⟩
  cases j with
  | zero => cases hx; exact ⟨v, rfl, hr⟩
  | succ j => simp at hx
theorem cons {v : α} {e : β} (hr : R v e) (h : All2 R vs es) : All2 R (v :: vs) (e :: es) := append (one hr) h
theorem inv_nil (h : All2 R vs []) : vs = [] := List.length_eq_zero_iff.mp h.len
theorem inv_cons {e : β} (h : All2 R vs (e :: es)) : ∃ v vs', vs = v :: vs' ∧ R v e ∧ All2 R vs' es := by
  cases vs with
  | nil => have := h.len; simp at this
  | cons v vs' =>
    refine ⟨v, vs', rfl, ?_, by have := h.len; simpa using this, fun i x hx => ?_⟩
    · obtain ⟨v', hv, hr⟩ := h.get 0 e rfl
      cases hv; exact hr
    · obtain ⟨v', hv, hr⟩ := h.get (i + 1) x (by simpa using hx)
      exact ⟨v', by simpa using hv, hr⟩
theorem take (h : All2 R vs es) (n : Nat) : All2 R (vs.take n) (es.take n) := by
  refine ⟨by simp [h.len], fun j x hx => ?_⟩
  rw [List.getElem?_take] at hx ⊢
  by_cases hl : j < n
  · rw [if_pos hl] at hx ⊢; exact h.get j x hx
  · rw [if_neg hl] at hx; cases hx
theorem mem_left (h : All2 R vs es) {v : α} (hv : v ∈ vs) : ∃ e, e ∈ es ∧ R v e := by
  obtain ⟨i, hi, rfl⟩ := List.getElem_of_mem hv
  have hi' : i < es.length := h.len ▸ hi
  obtain ⟨v', hv', hr⟩ := h.get i es[i] (List.getElem?_eq_getElem hi')
  rw [List.getElem?_eq_getElem hi] at hv'
  cases hv'
  exact ⟨_, List.getElem_mem _, hr⟩
end All2

/-- bubbling x up from place p -/
def sdn {α : Type} (lt : α → α → Bool) (x : α) (p : Nat) (l : List α) : List α :=
  match p with
  | 0 => l.set 0 x
  | p + 1 => match l[p / 2]? with
    | some y => if lt x y then sdn lt x (p / 2) (l.set (p + 1) y) else l.set (p + 1) x
    | none => l.set (p + 1) x
  termination_by p
  decreasing_by omega
theorem sdn_zero {α : Type} (lt : α → α → Bool) (x : α) (l : List α) : sdn lt x 0 l = l.set 0 x := by unfold sdn; rfl
theorem sdn_succ {α : Type} (lt : α → α → Bool) (x : α) (p : Nat) (l : List α) {y : α} (h : l[p / 2]? = some y) :
    sdn lt x (p + 1) l = if lt x y then sdn lt x (p / 2) (l.set (p + 1) y) else l.set (p + 1) x := by
  conv => lhs; unfold sdn
  simp only [h]
theorem sdn_length {α : Type} (lt : α → α → Bool) (x : α) (p : Nat) (l : List α) : (sdn lt x p l).length = l.length := by
  induction p using Nat.strongRecOn generalizing l with
  | ind p ih =>
    unfold sdn
    split
    · simp
    · rename_i p
      split
      · split
        · rw [ih (p / 2) (by omega)]; simp
        · simp
      · simp

theorem perm_cons_set {α : Type} {x y : α} : ∀ {l : List α} {j : Nat}, l[j]? = some y → (y :: l.set j x).Perm (x :: l)
  | [], _, h => by simp at h
  | b :: r, 0, h => by cases h; exact .swap x y r
  | b :: r, j + 1, h => by
    have h' : r[j]? = some y := by simpa using h
    exact ((List.Perm.swap b y (r.set j x)).trans ((perm_cons_set h').cons b)).trans (.swap x b r)
theorem perm_swap {α : Type} {x y : α} : ∀ {l : List α} {i j : Nat}, l[j]? = some y → i ≠ j → i < l.length → ((l.set i y).set j x).Perm (l.set i x)
  | [], _, _, h, _, _ => by simp at h
  | a :: l, 0, 0, _, hn, _ => absurd rfl hn
  | a :: l, 0, j + 1, h, _, _ => perm_cons_set (by simpa using h)
  | a :: l, i + 1, 0, h, _, hl => by
    obtain rfl : a = y := by simpa using h
    have hi : i < l.length := by simpa using hl
    have h1 : (l.set i x)[i]? = some x := by simp [hi]
    have := perm_cons_set (x := a) h1
    rw [List.set_set] at this
    exact this
  | a :: l, i + 1, j + 1, h, hn, hl => (perm_swap (by simpa using h) (by omega) (by simpa using hl)).cons a

/-- the way down: the lesser child goes up, till no child is left -/
def sup {α : Type} (lt : α → α → Bool) (p : Nat) (l : List α) : List α × Nat :=
  if h : 2 * p + 1 < l.length then
    let c := if h2 : 2 * p + 2 < l.length then (if lt l[2 * p + 1] l[2 * p + 2] then 2 * p + 1 else 2 * p + 2) else 2 * p + 1
    have : c < l.length ∧ p < c := by
      dsimp only [c]; split
      · split <;> omega
      · omega
    sup lt c (l.set p (l[c]'this.1))
  else (l, p)
  termination_by l.length - p
  decreasing_by
    simp only [List.length_set]
    omega
theorem sup_end {α : Type} (lt : α → α → Bool) {p : Nat} {l : List α} (h : ¬ 2 * p + 1 < l.length) : sup lt p l = (l, p) := by
  unfold sup; rw [dif_neg h]
theorem sup_right {α : Type} (lt : α → α → Bool) {p : Nat} {l : List α} {y z : α} (hy : l[2 * p + 1]? = some y) (hz : l[2 * p + 2]? = some z) (h : lt y z = false) : sup lt p l = sup lt (2 * p + 2) (l.set p z) := by
  obtain ⟨h1, e1⟩ := List.getElem?_eq_some_iff.mp hy
  obtain ⟨h2, e2⟩ := List.getElem?_eq_some_iff.mp hz
  conv => lhs; unfold sup
  rw [dif_pos h1]
  simp only [h2, dif_pos, e1, e2, h]
  simp [e2]
theorem sup_left {α : Type} (lt : α → α → Bool) {p : Nat} {l : List α} {y : α} (hy : l[2 * p + 1]? = some y) (h : ∀ z, l[2 * p + 2]? = some z → lt y z = true) : sup lt p l = sup lt (2 * p + 1) (l.set p y) := by
  obtain ⟨h1, e1⟩ := List.getElem?_eq_some_iff.mp hy
  conv => lhs; unfold sup
  rw [dif_pos h1]
  by_cases h2 : 2 * p + 2 < l.length
  · have := h _ (List.getElem?_eq_getElem h2)
    simp only [h2, dif_pos, e1, this, if_true]
  · simp only [h2, dif_neg, not_false_iff, e1]
/-- _siftup from the top, x the item there -/
def supd {α : Type} (lt : α → α → Bool) (x : α) (l : List α) : List α := sdn lt x (sup lt 0 l).2 ((sup lt 0 l).1.set (sup lt 0 l).2 x)
/-- heappop of ini ++ [z] -/
def hpop {α : Type} (lt : α → α → Bool) (ini : List α) (z : α) : α × List α := match ini with
  | [] => (z, [])
  | y :: r => (y, supd lt z (z :: r))
theorem All2.inv_snoc {α β : Type} {R : α → β → Prop} {vs : List α} {es : List β} {z : β} (h : All2 R vs (es ++ [z])) : ∃ us v, vs = us ++ [v] ∧ All2 R us es ∧ R v z := by
  rcases List.eq_nil_or_concat vs with rfl | ⟨us, v, rfl⟩
  · have := h.len; simp at this
  · have hl : us.length = es.length := by have := h.len; simpa using this
    rw [List.concat_eq_append] at h
    refine ⟨us, v, List.concat_eq_append .., ⟨hl, fun i e he => ?_⟩, ?_⟩
    · have hi := (List.getElem?_eq_some_iff.mp he).1
      obtain ⟨v', hv', hr⟩ := h.get i e (by rw [List.getElem?_append_left hi]; exact he)
      rw [List.getElem?_append_left (by omega)] at hv'
      exact ⟨v', hv', hr⟩
    · obtain ⟨v', hv', hr⟩ := h.get es.length z (by simp)
      rw [← hl] at hv'
      simp at hv'
      subst hv'; exact hr
theorem All2.at {α β : Type} {R : α → β → Prop} {vs : List α} {es : List β} {i : Nat} {v : α} (h : All2 R vs es) (hv : vs[i]? = some v) : ∃ e, es[i]? = some e ∧ R v e := by
  have hi := (List.getElem?_eq_some_iff.mp hv).1
  have hi' : i < es.length := h.len ▸ hi
  obtain ⟨v', hv', hr⟩ := h.get i es[i] (List.getElem?_eq_getElem hi')
  rw [hv] at hv'
  cases hv'
  exact ⟨_, List.getElem?_eq_getElem hi', hr⟩
theorem take_succ_of {α : Type} {l : List α} {i : Nat} {e : α} (h : l[i]? = some e) : l.take (i + 1) = l.take i ++ [e] := by
  rw [List.take_add_one, h]; rfl
theorem find_at {α : Type} {q : α → Bool} {l : List α} {i : Nat} {e : α} (h : (l.take i).find? q = none) (he : l[i]? = some e) (hq : q e = true) : l.find? q = some e := by
  have hs : l = l.take i ++ e :: l.drop (i + 1) := by
    have h9 := List.take_append_drop (i + 1) l
    rw [take_succ_of he, List.append_assoc] at h9
    exact h9.symm
  rw [hs, List.find?_append, h, List.find?_cons, hq]; rfl
theorem find_not {α : Type} {q : α → Bool} {l : List α} {i : Nat} {e : α} (h : (l.take i).find? q = none) (he : l[i]? = some e) (hq : q e = false) : (l.take (i + 1)).find? q = none := by
  rw [take_succ_of he, List.find?_append, h, List.find?_cons, hq]; rfl
end Mine
end
section
open PySem PySem.W PyProof.Rows PySem.Calls
set_option Elab.async false
set_option linter.unusedVariables false
set_option maxRecDepth 100000
namespace Mine

/-- fills the tactics' memory of the written part -/
theorem fill_frag {w : World} {h : Heap} : PySem.Challenge.rw_nb0229_01.foot = 7 → (hd.heap_39 w.params).In h → (hd.heap_39 w.params).In h := by
  k_fill
  exact fun _ x => x

abbrev tupOf (its : Array Value) (n : Nat) : Obj := { cls := .type "tuple", data := .seq its n }

section
variable {prog : Program} {w : World} {A : Around} {E : Value → Shared → Prop} {s : Shared} {h₀ : Heap} {L hp : Addr} {m : Str → Option Value} {news news' : List (Addr × Obj)} {vs : List Value} {n : Nat}

theorem item_L {value slice : Expr} {i : Int} {u : Tok} {v : Value} {Q : Value → Shared → Prop} (hl : s.heap.get? hp = some (listOf vs.toArray n)) (h0 : 0 ≤ i) (hx : vs[i.toNat]? = some v) (hz : vs.length < 2 ^ 62) (h : Q v s)
    (hs : subscripted slice false (.ref hp) (.int i u) = operate [.ref hp, .int i u] (getItem (.ref hp) (.int i u)) := by with_unfolding_all rfl) :
    wpAny (model prog w) A (subscriptTail value slice (.ref hp) (.int i u)) Q E s := by
  have hL : s.heap.IsList hp vs.toArray := ⟨_, hl, rfl, _, rfl⟩
  have hlt : i.toNat < vs.length := (List.getElem?_eq_some_iff.mp hx).1
  exact tail_any hL.typeIs slot_list_getitem.lookup (wpAny_getItem_list hL h0 (by omega) (by simpa using hx) h) hs

theorem setItem_L {i : Int} {u : Tok} {v : Value} {Q : Unit → Shared → Prop} (F : Fr h₀ L s.heap m) (N : News h₀ L s.heap news) (U : Upd hp (listOf vs.toArray n) (listOf (vs.set i.toNat v).toArray n) news news') (h0 : 0 ≤ i) (h1 : i.toNat < vs.length) (hz : vs.length < 2 ^ 62)
    (h : ∀ h', Fr h₀ L h' m → News h₀ L h' news' → Q () { s with heap := h' }) :
    wpAny (model prog w) A (setItem (.ref hp) (.int i u) v) Q E s := by
  obtain ⟨pre, post, rfl, rfl, a, b⟩ := U.split
  have z := N (hp, listOf vs.toArray n) (List.mem_append.mpr (.inr (.head _)))
  refine ki_setAt z.1 h0 (by omega) (by rw [List.size_toArray]; omega) (h _ (F.change (Heap.SameBut.update ..) z.2.1 z.2.2) (ki_turn _ N a b ?_ ?_))
  · show vs.toArray.setIfInBounds i.toNat v = (vs.set i.toNat v).toArray
    apply Array.toList_inj.mp
    simp
  · simp

/-- (e, k) before (e', k') -/
def ltB (x y : Int × Int) : Bool := decide (x.1 < y.1 ∨ (x.1 = y.1 ∧ x.2 < y.2))

open AutoSeq1 (wpAny_loadPart') in
open MeetsSeq in
theorem tuple_lt_meets (l b : Addr) (x1 x2 y1 y2 : Int) (t1 t2 u1 u2 : Tok) (x3 y3 : Value) (n n2 : Nat) (hne : ¬ (x1 = y1 ∧ x2 = y2)) :
    Meets (Builtin.«tuple.__lt__» ⟨[.ref l, .ref b], []⟩)
      (fun _ R s => s.heap.get? l = some (tupOf #[.int x1 t1, .int x2 t2, x3] n) ∧ s.heap.get? b = some (tupOf #[.int y1 u1, .int y2 u2, y3] n2) ∧ R (.ok (.ret (.bool (ltB (x1, x2) (y1, y2))))) s) :=
  .of_wp fun prog w A R s h => by
    obtain ⟨hp, g, d, tk, os⟩ := s; obtain ⟨hl, hb, h⟩ := h
    have f2 := AutoSeq1.sub_tuple_tuple
    wp_walk using wpAny_loadPart' hl, wpAny_loadPart' hb, wpAny_forIn_list _ (fun rest b s' => b.1 = none ∧ s' = ⟨hp, g, d, tk, os⟩ ∧
      (rest = [(.int x1 t1, .int y1 u1), (.int x2 t2, .int y2 u2), (x3, y3)] ∨ (x1 = y1 ∧ rest = [(.int x2 t2, .int y2 u2), (x3, y3)]))) _
    case turn =>
      rintro ⟨y, x⟩ rest b s' ⟨hb', rfl, hz⟩
      rcases hz with hz | ⟨he, hz⟩
      · cases hz
        refine wpAny_bind ((EqGives.int x1 y1 t1 u1) prog w _ _ _ _ ?_)
        by_cases hxy : x1 = y1
        · have e : (x1 == y1) = true := by simp [hxy]
          rw [e]
          wp_walk
          exact ⟨rfl, rfl, .inr ⟨hxy, rfl⟩⟩
        · have e : (x1 == y1) = false := by simp [hxy]
          rw [e]
          simp only [Bool.not_false, if_true]
          refine wpAny_bind (wpAny_rule (wpAny_bind (lt_int ?_)))
          have e2 : ltB (x1, x2) (y1, y2) = decide (x1 < y1) := by unfold ltB; simp [hxy]
          rw [e2] at h
          wp_walk
          exact ⟨_, rfl, h⟩
      · cases hz
        refine wpAny_bind ((EqGives.int x2 y2 t2 u2) prog w _ _ _ _ ?_)
        have hxy : ¬ x2 = y2 := fun e => hne ⟨he, e⟩
        have e : (x2 == y2) = false := by simp [hxy]
        rw [e]
        simp only [Bool.not_false, if_true]
        refine wpAny_bind (wpAny_rule (wpAny_bind (lt_int ?_)))
        have e2 : ltB (x1, x2) (y1, y2) = decide (x2 < y2) := by unfold ltB; simp [he]
        rw [e2] at h
        wp_walk
        exact ⟨_, rfl, h⟩
    case fin =>
      rintro ⟨b1, b2⟩ s' ⟨hb', rfl, hz⟩
      rcases hz with hz | ⟨_, hz⟩ <;> cases hz
    case h =>
      exact ⟨rfl, rfl, .inl rfl⟩
theorem lt_tup {l b : Addr} {x1 x2 y1 y2 : Int} {t1 t2 u1 u2 : Tok} {x3 y3 : Value} {n n2 : Nat} {Q : Value → Shared → Prop} (hl : s.heap.get? l = some (tupOf #[.int x1 t1, .int x2 t2, x3] n)) (hb : s.heap.get? b = some (tupOf #[.int y1 u1, .int y2 u2, y3] n2))
    (hne : ¬ (x1 = y1 ∧ x2 = y2)) (hu : A.units < cLine) (h : Q (.bool (ltB (x1, x2) (y1, y2))) s) : wpAny (model prog w) A (compareOp .Lt (.ref l) (.ref b)) Q E s := by
  show wpAny (model prog w) A (richCompare .Lt (.ref l) (.ref b)) Q E s
  exact richCompare_meets_room (op := .Lt) ⟨_, hl, rfl⟩ ⟨_, hb, rfl⟩ F.slot_tuple_lt F.entry_tuple_lt (F.args_tuple_lt_2 _ _) (tuple_lt_meets l b x1 x2 y1 y2 t1 t2 u1 u2 x3 y3 n n2 hne) ⟨hl, hb, show Value.bool (ltB (x1, x2) (y1, y2)) ≠ Value.notImplemented ∧ Q (.bool (ltB (x1, x2) (y1, y2))) s from ⟨(fun x => nomatch x), h⟩⟩ hu
end

/-- an entry of the heap: its end, its number, its word -/
abbrev Ent3 := Int × Nat × Str
def keyOf (e : Ent3) : Int × Int := (e.1, (e.2.1 : Int))
def ltE (x y : Ent3) : Bool := ltB (keyOf x) (keyOf y)
def Ent (h : Heap) (v : Value) (e : Ent3) : Prop := ∃ a t1 t2 t3 n, v = .ref a ∧ h.get? a = some (tupOf #[.int e.1 t1, .int (e.2.1 : Int) t2, .str e.2.2 t3] n)
theorem Ent.keeps {h h' : Heap} {v : Value} {e : Ent3} (k : h.StaysIn h') (x : Ent h v e) : Ent h' v e :=
  let ⟨a, t1, t2, t3, n, e1, e2⟩ := x; ⟨a, t1, t2, t3, n, e1, k _ _ e2⟩
theorem Ent.keepsBut {h h' : Heap} {v : Value} {e : Ent3} {as : List Addr} (k : KeepsBut as h h') (na : ∀ a ∈ as, ∀ o, h.get? a = some o → o.cls ≠ .type "tuple") (x : Ent h v e) : Ent h' v e :=
  let ⟨a, t1, t2, t3, n, e1, e2⟩ := x; ⟨a, t1, t2, t3, n, e1, k _ _ (fun hm => na a hm _ e2 rfl) e2⟩

/-- a list of the heap's, its items told by R -/
def Lst {α : Type} (R : Heap → Value → α → Prop) (h : Heap) (a : Addr) (es : List α) : Prop := ∃ vs n, h.get? a = some (listOf vs.toArray n) ∧ All2 (R h) vs es

/-- a list of the heap's, its items told by P -/
def LstP {α : Type} (P : Value → α → Prop) (h : Heap) (a : Addr) (es : List α) : Prop := ∃ vs n, h.get? a = some (listOf vs.toArray n) ∧ All2 P vs es

/-- a frame's names, known in part -/
def Knows (m : Str → Option Value) : List (Str × Value) → Prop
  | [] => True
  | p :: r => m p.1 = some p.2 ∧ Knows m r
theorem Knows.all {m : Str → Option Value} : ∀ {ps : List (Str × Value)}, Knows m ps → ∀ p ∈ ps, m p.1 = some p.2
  | [], _, _, h => nomatch h
  | _ :: _, ⟨a, _⟩, _, .head _ => a
  | _ :: _, ⟨_, b⟩, _, .tail _ h => Knows.all b _ h
theorem fr_known {h₀ h : Heap} {L : Addr} {m : Str → Option Value} {ps : List (Str × Value)} (F : Fr h₀ L h m) (hk : Knows m ps) : Fr h₀ L h (kstB m ps) := by
  have e : kstB m ps = m := by funext y; exact kstB_eq hk.all fun _ => rfl
  rw [e]; exact F
theorem list_no_tuple {h : Heap} {hp : Addr} {its : Array Value} {n : Nat} (hl : h.get? hp = some (listOf its n)) : ∀ a ∈ [hp], ∀ o, h.get? a = some o → o.cls ≠ .type "tuple" := fun a ha o e => by
  rw [List.mem_singleton.mp ha, hl] at e
  cases e
  show Value.type "list" ≠ Value.type "tuple"
  decide

/-- behind a call that changes one thing of the ledger -/
theorem back_upd {g h h' : Heap} {L hp : Addr} {m : Str → Option Value} {news news' : List (Addr × Obj)} {o o' : Obj} (F : Fr g L h m) (N : News g L h news) (U : Upd hp o o' news news') (kb : KeepsBut [hp] h h') (hl : h'.get? hp = some o') :
    Fr g L h' m ∧ News g L h' news' := by
  obtain ⟨pre, post, rfl, rfl, a, b⟩ := U.split
  have z := N (hp, o) (List.mem_append.mpr (.inr (.head _)))
  refine ⟨fr_keeps F kb (fun hm => z.2.1 (List.mem_singleton.mp hm).symm) (fun a ha => by rw [List.mem_singleton.mp ha]; exact z.2.2), fun p hp' => ?_⟩
  rcases List.mem_append.mp hp' with q | q
  · have P := N p (List.mem_append_left _ q)
    exact ⟨kb _ _ (fun hm => a p q (List.mem_singleton.mp hm)) P.1, P.2⟩
  · rcases List.mem_cons.mp q with rfl | q
    · exact ⟨hl, z.2⟩
    · have P := N p (List.mem_append_right _ (.tail _ q))
      exact ⟨kb _ _ (fun hm => b p q (List.mem_singleton.mp hm)) P.1, P.2⟩
/-- behind a call that changes nothing -/
theorem back_same {g h h' : Heap} {L : Addr} {m : Str → Option Value} {news : List (Addr × Obj)} (F : Fr g L h m) (N : News g L h news) (kb : KeepsBut [] h h') : Fr g L h' m ∧ News g L h' news :=
  ⟨fr_keeps F kb (fun hm => nomatch hm) (fun _ ha => nomatch ha), fun p hp => ⟨kb _ _ (fun hm => nomatch hm) (N p hp).1, (N p hp).2⟩⟩
end Mine
namespace Mine
/-- what a turn of a for leaves -/
def ForPost (h₀ : Heap) (L : Addr) (s : Shared) (I : Addr) (oI : Obj) (J : (Str → Option Value) → List (Addr × Obj) → Prop) (Q : Flow → Shared → Prop) (f : Flow) (s₃ : Shared) : Prop :=
  match f with
  | .next | .cont => ∃ h' tk m₂ news₂, s₃ = { s with heap := h', toks := tk } ∧ Fr h₀ L h' m₂ ∧ News h₀ L h' ((I, oI) :: news₂) ∧ (∀ p ∈ news₂, p.1 ≠ I) ∧ J m₂ news₂
  | .brk => Q .next s₃
  | .ret v => Q (.ret v) s₃
section
variable {prog : Program} {w : World} {A : Around} {s : Shared} {env : Env} {h₀ : Heap}
theorem for_walks {Q : Flow → Shared → Prop} {target : Expr} {body : List Stmt} {I : Addr} {fp : List Addr} {n : Nat} {P : Nat → Value → Prop} {St : Nat → Heap → Prop} {m : Str → Option Value}
    {news : List (Addr × Obj)} (W : Walks prog w A I fp [I] n P St) (hfp : ∀ b ∈ fp, b = I ∨ ∃ o, h₀.get? b = some o) (hob : ∀ i h, St i h → ∃ o, h.get? I = some o) (hI : h₀.get? I = none) (hIL : I ≠ env.locals)
    (hnI : ∀ p ∈ news, p.1 ≠ I) (hst : St 0 s.heap) (F : Fr h₀ env.locals s.heap m) (N : News h₀ env.locals s.heap news)
    (J : Nat → (Str → Option Value) → List (Addr × Obj) → Prop) (h0 : J 0 m news)
    (step : ∀ i v m₁ news₁ h₁ tk₁ oI, i < n → P i v → J i m₁ news₁ → (∀ p ∈ news₁, p.1 ≠ I) → St (i + 1) h₁ → Fr h₀ env.locals h₁ m₁ → News h₀ env.locals h₁ ((I, oI) :: news₁) →
      wpAny (model prog w) A (letOwnedTupleGo target (.ref I) v) (fun _ s₁' => wpAny (model prog w) A (assign target env v) (fun _ s₂ => wpAny (model prog w) A (execs body env) (ForPost h₀ env.locals s I oI (J (i + 1)) Q) (fun _ _ => False) s₂) (fun _ _ => False) s₁') (fun _ _ => False) { s with heap := h₁, toks := tk₁ })
    (hR : ∀ h' tk m' news', Fr h₀ env.locals h' m' → News h₀ env.locals h' news' → J n m' news' → Q .next { s with heap := h', toks := tk }) :
    codeAny (model prog w) A (.forLoop target (.ref I) body [] env) (fun r s' => match r with | .ok f => Q f s' | .error _ => False) s := by
  have old : ∀ b o, h₀.get? b = some o → b ∉ [I] := fun b o e hb => by rw [List.mem_singleton.mp hb, hI] at e; cases e
  refine codeAny_forLoop_any
    (fun k s' => ∃ h' tk m' news' i, s' = { s with heap := h', toks := tk } ∧ St i h' ∧ Fr h₀ env.locals h' m' ∧ News h₀ env.locals h' news' ∧ (∀ p ∈ news', p.1 ≠ I) ∧ J i m' news' ∧ i ≤ n ∧ k = n + 1 - i) ?_ (n + 1)
    ⟨s.heap, s.toks, m, news, 0, rfl, hst, F, N, hnI, h0, Nat.zero_le _, rfl⟩
  rintro k s' ⟨h', tk, m', news', i, rfl, hst', F', N', hnI', hJ, hi, rfl⟩
  have next : ∀ h₁ : Heap, (∀ b o, b ∉ [I] → h'.get? b = some o → h₁.get? b = some o) → Fr h₀ env.locals h₁ m' ∧ News h₀ env.locals h₁ news' := fun h₁ hk₁ =>
    ⟨⟨F'.ns.at' fun o e => hk₁ _ o (fun hm => hIL (List.mem_singleton.mp hm).symm) e, fun b o e => hk₁ b o (old b o e) (F'.keep b o e), F'.above⟩, fun p hp => ⟨hk₁ _ _ (fun hm => hnI' p hp (List.mem_singleton.mp hm)) (N' p hp).1, (N' p hp).2⟩⟩
  by_cases hlt : i < n
  · refine W.item i _ _ _ hlt hst' fun v h₁ tk₁ hP hst₁ hk₁ => ?_
    obtain ⟨F₁, N₁⟩ := next h₁ hk₁
    obtain ⟨oI, hoI⟩ := hob _ _ hst₁
    have N₂ : News h₀ env.locals h₁ ((I, oI) :: news') := fun p hp => by
      rcases List.mem_cons.mp hp with rfl | hp
      · exact ⟨hoI, hIL, hI⟩
      · exact N₁ p hp
    refine wpAny_mono (step i v m' news' h₁ tk₁ oI hlt hP hJ hnI' hst₁ F₁ N₂) (fun _ s₁' h₁' => ?_) fun _ _ e => e.elim
    refine wpAny_mono h₁' (fun _ s₂ h₂ => wpAny_mono h₂ (fun f s₃ h₃ => ?_) fun _ _ e => e.elim) fun _ _ e => e.elim
    have fin : (∃ h' tk m₂ news₂, s₃ = { s with heap := h', toks := tk } ∧ Fr h₀ env.locals h' m₂ ∧ News h₀ env.locals h' ((I, oI) :: news₂) ∧ (∀ p ∈ news₂, p.1 ≠ I) ∧ J (i + 1) m₂ news₂) →
        ∃ k', k' < n + 1 - i ∧ ∃ h' tk m' news' j, s₃ = { s with heap := h', toks := tk } ∧ St j h' ∧ Fr h₀ env.locals h' m' ∧ News h₀ env.locals h' news' ∧ (∀ p ∈ news', p.1 ≠ I) ∧ J j m' news' ∧ j ≤ n ∧ k' = n + 1 - j := by
      rintro ⟨h₃', tk₃, m₂, news₂, rfl, F₃, N₃, ha₃, hJ₃⟩
      refine ⟨n + 1 - (i + 1), by omega, h₃', tk₃, m₂, news₂, i + 1, rfl, W.frame _ _ _ hst₁ (fun b hb o e => ?_), F₃, fun p hp => N₃ p (.tail _ hp), ha₃, hJ₃, hlt, rfl⟩
      rcases hfp b hb with rfl | ⟨o₀, hn⟩
      · have : o = oI := by rw [hoI] at e; exact (Option.some.inj e).symm
        rw [this]; exact (N₃ _ (.head _)).1
      · have : o₀ = o := by have := F₁.keep b o₀ hn; rw [e] at this; exact (Option.some.inj this).symm
        exact this ▸ F₃.keep b o₀ hn
    cases f with
    | next => exact fin h₃
    | cont => exact fin h₃
    | brk => exact h₃
    | ret v => exact h₃
  · have hin : i = n := by omega
    subst hin
    refine W.done _ _ _ hst' fun h₁ tk₁ hk₁ => wpAny_execs_nil ?_
    obtain ⟨F₁, N₁⟩ := next h₁ hk₁
    exact hR h₁ tk₁ m' news' F₁ N₁ hJ
/-- a for over a list that stands -/
theorem for_list {Q : Flow → Shared → Prop} {target : Expr} {body : List Stmt} {m : Str → Option Value} {news : List (Addr × Obj)} {l : Addr} {vs : List Value} {n : Nat}
    (hh : A.handled = none) (hl : h₀.get? l = some (listOf vs.toArray n)) (F : Fr h₀ env.locals s.heap m) (N : News h₀ env.locals s.heap news)
    (J : Nat → (Str → Option Value) → List (Addr × Obj) → Prop) (h0 : J 0 m news)
    (step : ∀ i v m₁ news₁ h₁ tk₁ I oI, vs[i]? = some v → J i m₁ news₁ → (∀ p ∈ news₁, p.1 ≠ I) → h₁.IsListIter I l (i + 1) → Fr h₀ env.locals h₁ m₁ → News h₀ env.locals h₁ ((I, oI) :: news₁) →
      wpAny (model prog w) A (letOwnedTupleGo target (.ref I) v) (fun _ s₁' => wpAny (model prog w) A (assign target env v) (fun _ s₂ => wpAny (model prog w) A (execs body env) (ForPost h₀ env.locals s I oI (J (i + 1)) Q) (fun _ _ => False) s₂) (fun _ _ => False) s₁') (fun _ _ => False) { s with heap := h₁, toks := tk₁ })
    (hR : ∀ h' tk m' news', Fr h₀ env.locals h' m' → News h₀ env.locals h' news' → J vs.length m' news' → Q .next { s with heap := h', toks := tk }) :
    wpAny (model prog w) A (pyIter (.ref l)) (fun it s₂ => codeAny (model prog w) A (.forLoop target it body [] env) (fun r s' => match r with | .ok f => Q f s' | .error e => cameBackBy (model prog w) A env (fun _ _ => False) e s') s₂) (fun _ _ => False) s := by
  have hls : s.heap.get? l = some (listOf vs.toArray n) := F.keep _ _ hl
  have hlL : s.heap.IsList l vs.toArray := ⟨_, hls, rfl, _, rfl⟩
  have hne : l ≠ s.heap.objs.size := Nat.ne_of_lt (Heap.lt_size hls)
  obtain ⟨oL, _, _, hoL, _⟩ := id F.ns
  refine wpAny_pyIter_list hlL ?_
  have W := Walks.list (prog := prog) (w := w) hh s.heap.objs.size l hne vs.toArray
  refine codeAny_mono (for_walks (Q := Q) (h₀ := h₀) (m := m) (news := news) W (fun b hb => ?_) (fun i h st => ?_) (next_is_new F) (fun e => ?_) (fun p hp e => ?_) ⟨⟨_, Heap.get?_push_size _ rfl, rfl, rfl⟩, hlL.at fun o e => Heap.get?_push_of_some _ e⟩ (F.push _)
    (fun p hp => ⟨Heap.get?_push_of_some _ (N p hp).1, (N p hp).2⟩) J h0 ?_ ?_) ?_
  · rcases List.mem_cons.mp hb with rfl | hb
    · exact .inl rfl
    · exact .inr ⟨_, (List.mem_singleton.mp hb) ▸ hl⟩
  · obtain ⟨⟨o, ho, _⟩, _⟩ := st
    exact ⟨o, ho⟩
  · exact absurd (Heap.lt_size hoL) (e ▸ Nat.lt_irrefl _)
  · exact absurd (Heap.lt_size (N p hp).1) (e ▸ Nat.lt_irrefl _)
  · intro i v m₁ news₁ h₁ tk₁ oI _ hP hJ hnI st F₁ N₁
    exact step i v m₁ news₁ h₁ tk₁ _ oI (by simpa using hP) hJ hnI st.1 F₁ N₁
  · intro h' tk m' news' F' N' hJ
    exact hR h' tk m' news' F' N' (by simpa using hJ)
  · intro r s' h
    cases r with
    | ok f => exact h
    | error e => exact h.elim
end
end Mine
end
section
open PySem PySem.W PyProof.Rows PySem.Calls
set_option Elab.async false
set_option linter.unusedVariables false
set_option maxRecDepth 100000
namespace Mine

set_option maxHeartbeats 4000000 in
theorem siftdown_c {prog : Program} {w : World} {A : Around} {mg mb : Str → Option Value} {mean : ExcName → Option Value} {base : Heap} {s : Shared} {R : Result → Shared → Prop} {P : Value → Ent3 → Prop} {hp : Addr} {es : List Ent3} {x : Ent3} {pos : Nat} {t1 t2 : Tok}
    (C : Cx w mg mb mean base) (st : base.StaysIn s.heap) (hroom : A.depth < 900) (hun : A.units < 100)
    (hP : ∀ v e, P v e → Ent s.heap v e) (hl : LstP P s.heap hp es) (hn : base.get? hp = none) (hx : es[pos]? = some x) (hnd : (es.map (·.2.1)).Nodup) (hz : es.length < 2 ^ 20)
    (k : ∀ h' tk, KeepsBut [hp] s.heap h' → LstP P h' hp (sdn ltE x pos es) → R (.ok (.ret .none)) { s with heap := h', toks := tk }) :
    codeAny (model prog w) A (.call (.ref 196) ⟨[.ref hp, .int 0 t1, .int pos t2], []⟩) R s := by
  obtain ⟨vs, n, hl, ha⟩ := hl
  refine enter_def (K := hd.heap_39 w.params) (binds := [(Str.ofString "heap", .ref hp), (Str.ofString "startpos", .int 0 t1), (Str.ofString "pos", .int pos t2)]) [(hp, listOf vs.toArray n)]
    (List.forall_mem_singleton.mpr hl) (List.forall_mem_singleton.mpr hn) (C.T.nolimit.keeps st) (C.K.keeps st) st (by k_is) (by k_is) (by unfold recursionLimit; omega) (by exact BindsTo.of_eq rfl) (by exact locs rfl) ?_
  intro g L h₁ hg stg F N
  have X := C.K.keeps stg
  have T := C.T.keeps stg
  have hPg : ∀ v e, P v e → Ent g v e := fun v e p => (hP v e p).keepsBut hg (list_no_tuple hl)
  obtain ⟨xv, hxv, hxe⟩ := ha.get pos x hx
  obtain ⟨xa, u1, u2, u3, nx, rfl, hxo⟩ := hPg _ _ hxe
  refine wpAny_noRaise ?_
  iterate 6 walk1
  refine item_L (N _ (.head _)).1 (by omega) (by simpa using hxv) (by rw [ha.len]; omega) ?_
  walk1
  walk1
  rename Fr _ _ _ _ => F
  rename News _ _ _ _ => N
  refine While_inv2 (fun p m nw => ∃ (vs' : List Value) (es' : List Ent3) (t : Tok), nw = [(hp, listOf vs'.toArray n)] ∧ All2 P vs' es' ∧
    Knows m [(Str.ofString "heap", .ref hp), (Str.ofString "startpos", .int 0 t1), (Str.ofString "pos", .int p t), (Str.ofString "newitem", .ref xa)] ∧
    p ≤ pos ∧ es'.length = es.length ∧ (∀ i, i < p → es'[i]? = es[i]?) ∧ sdn ltE x p es' = sdn ltE x pos es) F N ⟨vs, es, t2, rfl, ha, ⟨rfl, rfl, rfl, rfl, trivial⟩, Nat.le_refl _, rfl, fun _ _ => rfl, rfl⟩ ?_ PassesOwn.never
  rintro p m₁ nw h₂ tk₂ F N ⟨vs', es', t, rfl, ha', hm, hpp, hlen, hlow, htgt⟩
  replace F := fr_known F hm
  iterate 4 walk1
  refine wpAny_truthy_bool ?_
  by_cases hp0 : p = 0
  · subst hp0
    rw [if_neg (by simp)]
    dsimp only
    iterate 5 walk1
    dsimp only
    refine setItem_L F N (Upd.head (by simp)) (by omega) (by rw [ha'.len]; have := (List.getElem?_eq_some_iff.mp hx).1; simp only [Int.toNat_natCast]; omega) (by rw [ha'.len]; omega) ?_
    intro h₃ F N
    dsimp only
    walk1
    refine k _ _ (keepsBut_of hg F) ⟨_, n, (N _ (.head _)).1, ?_⟩
    rw [← htgt, sdn_zero]
    exact ha'.set 0 hxe
  · obtain ⟨p, rfl⟩ : ∃ q, p = q + 1 := ⟨p - 1, by omega⟩
    rw [if_pos (by simp)]
    iterate 10 walk1
    dsimp only at *
    iterate 6 walk1
    dsimp only
    rename Fr _ _ _ _ => F
    rename News _ _ _ _ => N
    have hpar : (((p + 1 : Nat) : Int) - 1).fdiv (2 ^ Int.toNat 1) = ((p / 2 : Nat) : Int) := by
      rw [Int.fdiv_eq_ediv_of_nonneg _ (by decide)]
      show (((p + 1 : Nat) : Int) - 1) / 2 = _
      omega
    rw [hpar] at F ⊢
    have hq : p / 2 < pos := by omega
    have hpl : pos < es.length := (List.getElem?_eq_some_iff.mp hx).1
    have hq' : p / 2 < es'.length := by omega
    obtain ⟨yv, hyv, hye⟩ := ha'.get (p / 2) es'[p / 2] (List.getElem?_eq_getElem hq')
    have hy0 : es[p / 2]? = some es'[p / 2] := by rw [← hlow (p / 2) (by omega)]; exact List.getElem?_eq_getElem hq'
    generalize es'[p / 2] = y at hye hy0
    have hnum : ¬ (x.1 = y.1 ∧ (x.2.1 : Int) = (y.2.1 : Int)) := by
      rintro ⟨-, h2⟩
      have e1 : (es.map (·.2.1))[pos]? = some x.2.1 := by rw [List.getElem?_map, hx]; rfl
      have e2 : (es.map (·.2.1))[p / 2]? = some y.2.1 := by rw [List.getElem?_map, hy0]; rfl
      have := (List.getElem?_inj (by simpa using hpl) hnd).mp (e1.trans (by rw [e2, Int.ofNat_inj.mp h2]))
      omega
    obtain ⟨ya, v1, v2, v3, ny, rfl, hyo⟩ := hPg _ _ hye
    refine item_L (N _ (.head _)).1 (by omega) (by rw [Int.toNat_natCast]; exact hyv) (by rw [ha'.len]; omega) ?_
    iterate 7 walk1
    rename Fr _ _ _ _ => F
    rename News _ _ _ _ => N
    refine lt_tup (F.keep _ _ hxo) (F.keep _ _ hyo) hnum (by simp only [units_deeper]; unfold cLine; omega) ?_
    refine wpAny_truthy_bool ?_
    cases hlt : ltB (x.1, (x.2.1 : Int)) (y.1, (y.2.1 : Int)) with
    | true =>
      rw [if_pos rfl]
      iterate 5 walk1
      dsimp only
      refine setItem_L F N (Upd.head (by simp)) (by omega) (by rw [ha'.len]; simp only [Int.toNat_natCast]; omega) (by rw [ha'.len]; omega) ?_
      intro h₃ F N
      dsimp only
      iterate 6 walk1
      rename Fr _ _ _ _ => F
      rename News _ _ _ _ => N
      refine ⟨_, _, _, _, p / 2, rfl, F, N, by omega, _, es'.set (p + 1) y, _, rfl, ha'.set (p + 1) hye, ⟨rfl, rfl, rfl, rfl, trivial⟩, by omega, by simp [hlen], fun i hi => ?_, ?_⟩
      · rw [List.getElem?_set_ne (by omega)]
        exact hlow i (by omega)
      · rw [← htgt, sdn_succ ltE x p es' (by rw [hlow (p / 2) (by omega)]; exact hy0), if_pos (show ltE x y = true from hlt)]
    | false =>
      rw [if_neg (by simp)]
      iterate 3 walk1
      dsimp only [WhileStep2]
      iterate 5 walk1
      dsimp only
      refine setItem_L F N (Upd.head (by simp)) (by omega) (by rw [ha'.len]; simp only [Int.toNat_natCast]; omega) (by rw [ha'.len]; omega) ?_
      intro h₃ F N
      dsimp only
      walk1
      refine k _ _ (keepsBut_of hg F) ⟨_, n, (N _ (.head _)).1, ?_⟩
      rw [← htgt, sdn_succ ltE x p es' (by rw [hlow (p / 2) (by omega)]; exact hy0), if_neg (by rw [show ltE x y = false from hlt]; simp)]
      exact (ha'.set (p + 1) hxe)

set_option maxHeartbeats 4000000 in
theorem siftup_c {prog : Program} {w : World} {A : Around} {mg mb : Str → Option Value} {mean : ExcName → Option Value} {base : Heap} {s : Shared} {R : Result → Shared → Prop} {P : Value → Ent3 → Prop} {hp : Addr} {es : List Ent3} {x : Ent3} {t1 : Tok}
    (C : Cx w mg mb mean base) (st : base.StaysIn s.heap) (hroom : A.depth < 890) (hun : A.units < 90)
    (hP : ∀ v e, P v e → Ent s.heap v e) (hl : LstP P s.heap hp es) (hn : base.get? hp = none) (hx : es[0]? = some x) (hnd : (es.map (·.2.1)).Nodup) (hz : es.length < 2 ^ 20)
    (k : ∀ h' tk, KeepsBut [hp] s.heap h' → LstP P h' hp (supd ltE x es) → R (.ok (.ret .none)) { s with heap := h', toks := tk }) :
    codeAny (model prog w) A (.call (.ref 203) ⟨[.ref hp, .int 0 t1], []⟩) R s := by
  obtain ⟨vs, n, hl, ha⟩ := hl
  refine enter_def (K := hd.heap_39 w.params) (binds := [(Str.ofString "heap", .ref hp), (Str.ofString "pos", .int 0 t1)]) [(hp, listOf vs.toArray n)]
    (List.forall_mem_singleton.mpr hl) (List.forall_mem_singleton.mpr hn) (C.T.nolimit.keeps st) (C.K.keeps st) st (by k_is) (by k_is) (by unfold recursionLimit; omega) (by exact BindsTo.of_eq rfl) (by exact locs rfl) ?_
  intro g L h₁ hg stg F N
  have X := C.K.keeps stg
  have T := C.T.keeps stg
  have hPg : ∀ v e, P v e → Ent g v e := fun v e p => (hP v e p).keepsBut hg (list_no_tuple hl)
  obtain ⟨xv, hxv, hxe⟩ := ha.get 0 x hx
  obtain ⟨xa, u1, u2, u3, nx, rfl, hxo⟩ := hPg _ _ hxe
  refine wpAny_noRaise ?_
  iterate 9 walk1
  refine Calls.call_len_list (PySem.IsL.isList (n := n) (N _ (.head _)).1) (by rw [List.size_toArray, ha.len]; omega) ?_
  dsimp only
  iterate 11 walk1
  rename Fr _ _ _ _ => F
  rename News _ _ _ _ => N
  refine item_L (N _ (.head _)).1 (by omega) (by simpa using hxv) (by rw [ha.len]; omega) ?_
  iterate 11 walk1
  dsimp only at *
  walk1
  walk1
  rename Fr _ _ _ _ => F
  rename News _ _ _ _ => N
  have hsz : vs.toArray.size = es.length := by rw [List.size_toArray, ha.len]
  have hpl0 : 0 < es.length := (List.getElem?_eq_some_iff.mp hx).1
  refine While_inv2 (n₀ := es.length - 0) (fun q m nw => ∃ (p : Nat) (vs' : List Value) (l : List Ent3) (te t t' : Tok), q = es.length - p ∧ nw = [(hp, listOf vs'.toArray n)] ∧ All2 P vs' l ∧
    Knows m [(Str.ofString "heap", .ref hp), (Str.ofString "endpos", .int (vs.toArray.size : Nat) te), (Str.ofString "startpos", .int 0 t1), (Str.ofString "newitem", .ref xa), (Str.ofString "pos", .int p t), (Str.ofString "childpos", .int (2 * (p : Int) + 1) t')] ∧
    p < es.length ∧ l.length = es.length ∧ (∀ i, p < i → l[i]? = es[i]?) ∧ (l.set p x).Perm es ∧ sup ltE p l = sup ltE 0 es) F N ?_ ?_ PassesOwn.never
  · refine ⟨0, vs, es, _, _, _, rfl, rfl, ha, ⟨rfl, rfl, rfl, rfl, rfl, rfl, trivial⟩, hpl0, rfl, fun _ _ => rfl, ?_, rfl⟩
    rw [show es.set 0 x = es by obtain ⟨h0, e0⟩ := List.getElem?_eq_some_iff.mp hx; rw [← e0]; exact List.set_getElem_self h0]
  rintro q m₁ nw h₂ tk₂ F N ⟨p, vs', l, te, t, t', rfl, rfl, ha', hm, hpp, hlen, hhigh, hperm, htgt⟩
  replace F := fr_known F hm
  iterate 4 walk1
  refine wpAny_truthy_bool ?_
  dsimp only
  by_cases hc : 2 * p + 1 < es.length
  · rw [if_pos (by rw [decide_eq_true_eq, hsz]; omega)]
    iterate 8 walk1
    dsimp only at *
    rename Fr _ _ _ _ => F
    rename News _ _ _ _ => N
    obtain ⟨y1v, hy1v, hy1e⟩ := ha'.get (2 * p + 1) l[2 * p + 1] (List.getElem?_eq_getElem (by omega))
    have hy1 : l[2 * p + 1]? = some l[2 * p + 1] := List.getElem?_eq_getElem (by omega)
    generalize l[2 * p + 1] = y1 at hy1e hy1
    refine wpAny_mono (Q := fun f s' => f = .next ∧ ∃ h₃ tk₃ m₃ tc c y yv, s' = { s with heap := h₃, toks := tk₃ } ∧ Fr g L h₃ m₃ ∧ News g L h₃ [(hp, listOf vs'.toArray n)] ∧
      Knows m₃ [(Str.ofString "heap", .ref hp), (Str.ofString "endpos", .int (vs.toArray.size : Nat) te), (Str.ofString "startpos", .int 0 t1), (Str.ofString "newitem", .ref xa), (Str.ofString "pos", .int p t), (Str.ofString "childpos", .int ((c : Nat) : Int) tc)] ∧
      l[c]? = some y ∧ vs'[c]? = some yv ∧ P yv y ∧ p < c ∧ c < es.length ∧ sup ltE p l = sup ltE c (l.set p y)) ?_ ?_ (fun _ _ h => h)
    · iterate 6 walk1
      refine wpAny_truthy_bool ?_
      by_cases hr : 2 * p + 2 < es.length
      · rw [if_pos (by rw [decide_eq_true_eq, hsz]; omega)]
        iterate 6 walk1
        rename Fr _ _ _ _ => F
        rename News _ _ _ _ => N
        obtain ⟨y2v, hy2v, hy2e⟩ := ha'.get (2 * p + 2) l[2 * p + 2] (List.getElem?_eq_getElem (by omega))
        have hy2 : l[2 * p + 2]? = some l[2 * p + 2] := List.getElem?_eq_getElem (by omega)
        generalize l[2 * p + 2] = y2 at hy2e hy2
        have hnum : ¬ (y1.1 = y2.1 ∧ (y1.2.1 : Int) = (y2.2.1 : Int)) := by
          rintro ⟨-, h2⟩
          have e1 : (es.map (·.2.1))[2 * p + 1]? = some y1.2.1 := by rw [List.getElem?_map, ← hhigh _ (by omega), hy1]; rfl
          have e2 : (es.map (·.2.1))[2 * p + 2]? = some y2.2.1 := by rw [List.getElem?_map, ← hhigh _ (by omega), hy2]; rfl
          have := (List.getElem?_inj (by simpa using hc) hnd).mp (e1.trans (by rw [e2, Int.ofNat_inj.mp h2]))
          omega
        obtain ⟨ya, v1, v2, v3, ny, rfl, hyo⟩ := hPg _ _ hy1e
        obtain ⟨za, w1, w2, w3, nz, rfl, hzo⟩ := hPg _ _ hy2e
        dsimp only
        refine item_L (N _ (.head _)).1 (by omega) (by rw [show (2 * (p : Int) + 1).toNat = 2 * p + 1 by omega]; exact hy1v) (by rw [ha'.len]; omega) ?_
        iterate 3 walk1
        dsimp only
        refine item_L (N _ (.head _)).1 (by omega) (by rw [show (2 * (p : Int) + 1 + 1).toNat = 2 * p + 2 by omega]; exact hy2v) (by rw [ha'.len]; omega) ?_
        refine lt_tup (F.keep _ _ hyo) (F.keep _ _ hzo) hnum (by simp only [units_deeper]; unfold cLine; omega) ?_
        cases hlt : ltB (y1.1, (y1.2.1 : Int)) (y2.1, (y2.2.1 : Int)) with
        | true =>
          iterate 5 walk1
          refine ⟨rfl, _, _, _, t', 2 * p + 1, y1, _, rfl, F, N, ⟨rfl, rfl, rfl, rfl, rfl, rfl, trivial⟩, hy1, hy1v, hy1e, by omega, by omega, sup_left ltE hy1 fun z hz => ?_⟩
          rw [hy2] at hz
          cases hz
          exact hlt
        | false =>
          iterate 10 walk1
          rename Fr _ _ _ _ => F
          rename News _ _ _ _ => N
          refine ⟨rfl, _, _, _, tk₂ + 1, 2 * p + 2, y2, _, rfl, F, N, ⟨rfl, rfl, rfl, rfl, rfl, ?_, trivial⟩, hy2, hy2v, hy2e, by omega, by omega, sup_right ltE hy1 hy2 hlt⟩
          show some (Value.int (2 * (p : Int) + 1 + 1) (tk₂ + 1)) = some (Value.int ((2 * p + 2 : Nat) : Int) (tk₂ + 1))
          congr 2
      · rw [if_neg (by rw [decide_eq_true_eq, hsz]; omega)]
        iterate 3 walk1
        refine ⟨rfl, _, _, _, t', 2 * p + 1, y1, y1v, rfl, F, N, ⟨rfl, rfl, rfl, rfl, rfl, rfl, trivial⟩, hy1, hy1v, hy1e, by omega, by omega, sup_left ltE hy1 fun z hz => ?_⟩
        rw [List.getElem?_eq_none (by omega)] at hz
        cases hz
    · rintro f s' ⟨rfl, h₃, tk₃, m₃, tc, c, y, yv, rfl, F, N, hm, hy, hyv, hye, hpc, hce, hs⟩
      replace F := fr_known F hm
      dsimp only
      iterate 5 walk1
      dsimp only
      refine item_L (N _ (.head _)).1 (by omega) (by rw [Int.toNat_natCast]; exact hyv) (by rw [ha'.len]; omega) ?_
      iterate 2 walk1
      dsimp only
      refine setItem_L F N (Upd.head (by simp)) (by omega) (by rw [ha'.len]; simp only [Int.toNat_natCast]; omega) (by rw [ha'.len]; omega) ?_
      intro h₃ F N
      dsimp only
      iterate 14 walk1
      dsimp only at *
      walk1
      walk1
      rename Fr _ _ _ _ => F
      rename News _ _ _ _ => N
      have hpl : p < l.length := by omega
      refine ⟨_, _, _, _, _, rfl, F, N, ?_, c, _, l.set p y, te, tc, tk₃ + 1 + 1 + 1 + 1, rfl, rfl, ha'.set p hye, ?_, hce, by simp [hlen], fun i hi => ?_, ?_, ?_⟩
      · omega
      · exact ⟨rfl, rfl, rfl, rfl, rfl, rfl, trivial⟩
      · rw [List.getElem?_set_ne (by omega)]
        exact hhigh i (by omega)
      · exact (perm_swap hy (by omega) hpl).trans hperm
      · rw [← hs]; exact htgt
  · rw [if_neg (by rw [decide_eq_true_eq, hsz]; omega)]
    iterate 5 walk1
    dsimp only at *
    refine setItem_L F N (Upd.head (by simp)) (by omega) (by rw [ha'.len]; simp only [Int.toNat_natCast]; omega) (by rw [ha'.len]; omega) ?_
    intro h₃ F N
    dsimp only
    iterate 13 walk1
    have hpl : p < l.length := by omega
    refine wpAny_call (siftdown_c (A := _) (es := l.set p x) (x := x) C (fun b o e => F.keep b o (stg b o e)) ?_ ?_ (fun v e p => (hPg v e p).keeps F.keep) ⟨_, n, (N _ (.head _)).1, ?_⟩ hn ?_ ?_ (by simp only [List.length_set]; omega) ?_)
    · simp only [depth_deeper]; omega
    · simp only [units_deeper]; omega
    · rw [Int.toNat_natCast]
      exact (ha'.set p hxe)
    · simp [hpl]
    · exact (hperm.map (·.2.1)).nodup_iff.mpr hnd
    · rintro h₄ tk₄ kb ⟨vs₄, n₄, hl₄, ha₄⟩
      obtain ⟨F, N⟩ := back_upd F N (Upd.head (by simp)) kb hl₄
      dsimp only
      walk1
      refine k _ _ (keepsBut_of hg F) ⟨_, n₄, (N _ (.head _)).1, ?_⟩
      unfold supd
      rw [← htgt, sup_end ltE (by omega)]
      exact ha₄

set_option maxHeartbeats 4000000 in
theorem heappush_c {prog : Program} {w : World} {A : Around} {mg mb : Str → Option Value} {mean : ExcName → Option Value} {base : Heap} {s : Shared} {R : Result → Shared → Prop} {P : Value → Ent3 → Prop} {hp : Addr} {es : List Ent3} {v : Value} {e : Ent3}
    (C : Cx w mg mb mean base) (st : base.StaysIn s.heap) (hroom : A.depth < 890) (hun : A.units < 90)
    (hP : ∀ v e, P v e → Ent s.heap v e) (hl : LstP P s.heap hp es) (hn : base.get? hp = none) (hv : P v e) (hnd : ((es ++ [e]).map (·.2.1)).Nodup) (hz : es.length < 2 ^ 19)
    (k : ∀ h' tk, KeepsBut [hp] s.heap h' → LstP P h' hp (sdn ltE e es.length (es ++ [e])) → R (.ok (.ret .none)) { s with heap := h', toks := tk }) :
    codeAny (model prog w) A (.call (.ref 182) ⟨[.ref hp, v], []⟩) R s := by
  obtain ⟨vs, n, hl, ha⟩ := hl
  refine enter_def (K := hd.heap_39 w.params) (binds := [(Str.ofString "heap", .ref hp), (Str.ofString "item", v)]) [(hp, listOf vs.toArray n)]
    (List.forall_mem_singleton.mpr hl) (List.forall_mem_singleton.mpr hn) (C.T.nolimit.keeps st) (C.K.keeps st) st (by k_is) (by k_is) (by unfold recursionLimit; omega) (by exact BindsTo.of_eq rfl) (by exact locs rfl) ?_
  intro g L h₁ hg stg F N
  have X := C.K.keeps stg
  have T := C.T.keeps stg
  have hPg : ∀ v e, P v e → Ent g v e := fun v e p => (hP v e p).keepsBut hg (list_no_tuple hl)
  obtain ⟨va, u1, u2, u3, nx, rfl, hvo⟩ := hPg _ _ hv
  refine wpAny_noRaise ?_
  iterate 10 walk1
  have hzl : vs.length < 2 ^ 19 := by rw [ha.len]; exact hz
  refine append_K F N (Upd.head (by simp)) ?_ (by rw [List.size_toArray, sizeLine_eq]; omega)
  intro h₂ F N
  rw [List.push_toArray] at N
  dsimp only
  iterate 17 walk1
  refine Calls.call_len_list (PySem.IsL.isList (n := n + 1) (N _ (.head _)).1) (by rw [List.size_toArray, List.length_append]; simp only [List.length_singleton]; omega) ?_
  iterate 4 walk1
  have hpos : (((vs ++ [Value.ref va]).toArray.size : Nat) : Int) - 1 = (es.length : Nat) := by
    rw [List.size_toArray, List.length_append, ha.len]; simp
  rw [hpos]
  refine wpAny_call (siftdown_c (A := _) (es := es ++ [e]) (x := e) C (fun b o e => F.keep b o (stg b o e)) ?_ ?_ (fun v e p => (hPg v e p).keeps F.keep) ⟨_, n + 1, (N _ (.head _)).1, ?_⟩ hn (by simp) hnd (by simp; omega) ?_)
  · simp only [depth_deeper]; omega
  · simp only [units_deeper]; omega
  · exact ha.append (.one hv)
  · rintro h₄ tk₄ kb ⟨vs₄, n₄, hl₄, ha₄⟩
    obtain ⟨F, N⟩ := back_upd F N (Upd.head (by simp)) kb hl₄
    dsimp only
    walk1
    exact k _ _ (keepsBut_of hg F) ⟨_, n₄, (N _ (.head _)).1, ha₄⟩

set_option maxHeartbeats 4000000 in
theorem heappop_c {prog : Program} {w : World} {A : Around} {mg mb : Str → Option Value} {mean : ExcName → Option Value} {base : Heap} {s : Shared} {R : Result → Shared → Prop} {P : Value → Ent3 → Prop} {hp : Addr} {ini : List Ent3} {z : Ent3}
    (C : Cx w mg mb mean base) (st : base.StaysIn s.heap) (hroom : A.depth < 880) (hun : A.units < 80)
    (hP : ∀ v e, P v e → Ent s.heap v e) (hl : LstP P s.heap hp (ini ++ [z])) (hn : base.get? hp = none) (hnd : ((ini ++ [z]).map (·.2.1)).Nodup) (hz : ini.length < 2 ^ 19)
    (k : ∀ h' tk v, KeepsBut [hp] s.heap h' → P v (hpop ltE ini z).1 → LstP P h' hp (hpop ltE ini z).2 → R (.ok (.ret v)) { s with heap := h', toks := tk }) :
    codeAny (model prog w) A (.call (.ref 189) ⟨[.ref hp], []⟩) R s := by
  obtain ⟨vs, n, hl, ha⟩ := hl
  refine enter_def (K := hd.heap_39 w.params) (binds := [(Str.ofString "heap", .ref hp)]) [(hp, listOf vs.toArray n)]
    (List.forall_mem_singleton.mpr hl) (List.forall_mem_singleton.mpr hn) (C.T.nolimit.keeps st) (C.K.keeps st) st (by k_is) (by k_is) (by unfold recursionLimit; omega) (by exact BindsTo.of_eq rfl) (by exact locs rfl) ?_
  intro g L h₁ hg stg F N
  have X := C.K.keeps stg
  have T := C.T.keeps stg
  have hPg : ∀ v e, P v e → Ent g v e := fun v e p => (hP v e p).keepsBut hg (list_no_tuple hl)
  refine wpAny_noRaise ?_
  iterate 7 walk1
  obtain ⟨us, zv, rfl, hau, hze⟩ := ha.inv_snoc
  have hul : us.length = ini.length := hau.len
  refine kl_pop F N (p := us) (y := zv) (kpa_last zv us) (Upd.head (by simp)) (by rw [sizeLine_eq]; simp; omega) ?_
  intro h₂ F N
  dsimp only
  iterate 6 walk1
  rename Fr _ _ _ _ => F
  rename News _ _ _ _ => N
  refine wpAny_truthy_list (PySem.IsL.isList (n := n + 1) (N _ (.head _)).1) (by rw [List.size_toArray]; omega) ?_
  cases ini with
  | nil =>
    rw [hau.inv_nil] at N ⊢
    rw [if_neg (by simp)]
    iterate 5 walk1
    exact k _ _ _ (keepsBut_of hg F) hze ⟨[], _, (N _ (.head _)).1, .nil⟩
  | cons y r =>
    obtain ⟨yv, us', rfl, hye, har⟩ := hau.inv_cons
    obtain ⟨ya, u1, u2, u3, nx, rfl, hyo⟩ := hPg _ _ hye
    obtain ⟨za, w1, w2, w3, nz, rfl, hzo⟩ := hPg _ _ hze
    have hrl : us'.length < 2 ^ 19 := by rw [har.len]; simp at hz; omega
    rw [if_pos (by simp)]
    iterate 6 walk1
    refine item_L (N _ (.head _)).1 (by omega) rfl (by simp; omega) ?_
    iterate 6 walk1
    rename Fr _ _ _ _ => F
    rename News _ _ _ _ => N
    refine setItem_L F N (Upd.head (by simp)) (by omega) (by simp) (by simp; omega) ?_
    intro h₃ F N
    dsimp only
    iterate 12 walk1
    have hnd' : ((z :: r).map (·.2.1)).Nodup := by
      have h1 : ((r ++ [z]).map (·.2.1)).Nodup := by
        rw [List.cons_append, List.map_cons] at hnd
        exact (List.nodup_cons.mp hnd).2
      exact ((List.perm_append_comm (l₁ := [z]) (l₂ := r)).map (·.2.1)).nodup_iff.mpr h1
    refine wpAny_call (siftup_c (A := _) (es := z :: r) (x := z) C (fun b o e => F.keep b o (stg b o e)) ?_ ?_ (fun v e p => (hPg v e p).keeps F.keep) ⟨Value.ref za :: us', n + 1, (N _ (.head _)).1, ?_⟩ hn rfl hnd' (by rw [List.length_cons, ← har.len]; omega) ?_)
    · simp only [depth_deeper]; omega
    · simp only [units_deeper]; omega
    · exact (All2.cons hze har)
    · rintro h₄ tk₄ kb ⟨vs₄, n₄, hl₄, ha₄⟩
      obtain ⟨F, N⟩ := back_upd F N (Upd.head (by simp)) kb hl₄
      dsimp only
      iterate 3 walk1
      exact k _ _ _ (keepsBut_of hg F) hye ⟨_, n₄, (N _ (.head _)).1, ha₄⟩
end Mine
end
section
open PySem PySem.W PyProof.Rows PySem.Calls
set_option Elab.async false
set_option linter.unusedVariables false
set_option maxRecDepth 100000
namespace Mine
theorem plainAttrs_re : PlainAttrs "re.Pattern" :=
  ⟨⟨"object.__getattribute__", by rw [typeLookup_type, builtinLookup_eq_fast]; kernel_rfl, by kernel_rfl⟩, by rw [typeLookup_type, builtinLookup_eq_fast]; kernel_rfl⟩
theorem slot_re_search : Slot "re.Pattern" "search" "re.Pattern.search" :=
  .of (owner := "re.Pattern") (n := "search") (by rw [typeLookup_type, builtinLookup_eq_fast]; kernel_rfl) (by decide +kernel) (by decide +kernel) (by decide +kernel)
    (by first | exact .inl (by decide +kernel) | exact .inr (by decide +kernel)) (by rw [isSubtype_type]; kernel_rfl)
theorem type_re_search : typeOf (.builtin "re.Pattern.search") = pure (.type "method_descriptor") := by show builtinType _ = _; rw [builtinType_eq_fast]; kernel_rfl
theorem entry_re_search : entryFor table "re.Pattern.search" = some Builtin.«re.Pattern.search» := entryFor_of_tree (by kernel_rfl)
theorem owner_re : Manifest.owners.lookup (String.ofList ['n', 'r', 'e', 't', 't', 'a', 'P', '.', 'e', 'r'].reverse) = some Manifest.sig_re_Pattern := by kernel_rfl
theorem args_re_search (a b : Value) : argsOk "re.Pattern.search" ⟨[a, b], []⟩ := by
  unfold argsOk; rw [signature?_of (id := "re.Pattern.search") (n := ['h', 'c', 'r', 'a', 'e', 's']) (o := ['n', 'r', 'e', 't', 't', 'a', 'P', '.', 'e', 'r']) (by kernel_rfl) owner_re]; kernel_rfl

/-- the matcher's run, at most n turns -/
def driveN : Nat → Sre.M → Option Sre.M
  | 0, _ => none
  | n + 1, m => let m := m.runFor Builtin.Re.reTurnSteps; if m.outcome.isSome then some m else driveN n m
def failsB (code text : Array Nat) : Bool := match driveN 40 (Sre.forSearch code text 0 0 text.size false) with
  | some m => (match m.outcome with | some .failed => true | _ => false)
  | none => false

section
variable {prog : Program} {w : World} {A : Around} {E : Value → Shared → Prop} {s : Shared}
theorem drive_wp {Q : Sre.M → Shared → Prop} : ∀ (n N : Nat) (m m' : Sre.M), n ≤ N → driveN n m = some m' → Q m' s → wpAny (model prog w) A (Builtin.Re.reDrive N m) Q E s
  | 0, _, _, _, _, h, _ => by cases h
  | n + 1, 0, _, _, h, _, _ => absurd h (Nat.not_succ_le_zero n)
  | n + 1, N + 1, m, m', hN, h, hQ => by
    unfold driveN at h
    unfold Builtin.Re.reDrive
    dsimp only at h ⊢
    by_cases ho : (m.runFor Builtin.Re.reTurnSteps).outcome.isSome = true
    · rw [if_pos ho] at h ⊢
      cases h
      exact wpAny_pure hQ
    · rw [if_neg ho] at h ⊢
      exact wpAny_bind (wpAny_rule (drive_wp n N _ _ (by omega) h hQ))
theorem run_wp {Q : Option Sre.M → Shared → Prop} {m m' : Sre.M} {n : Nat} (hn : n ≤ 2 ^ 64) (hd : driveN n m = some m') (ho : m'.outcome = some .failed) (h : Q none s) : wpAny (model prog w) A (Builtin.Re.reRunToEnd m) Q E s := by
  unfold Builtin.Re.reRunToEnd
  refine wpAny_bind (drive_wp n _ m m' hn hd ?_)
  refine wpAny_bind (wpAny_mono (Q := fun _ s' => s' = s) ?_ ?_ (fun _ _ x => x))
  · generalize List.range Sre.names.size = l
    induction l with
    | nil => rw [List.forIn_nil]; exact wpAny_pure rfl
    | cons i r ih =>
      rw [List.forIn_cons]
      refine wpAny_bind ?_
      by_cases hf : m'.seen.has i = true
      · simp only [hf, if_true]
        exact wpAny_bind (wpAny_rule (wpAny_pure ih))
      · simp only [hf]
        exact wpAny_pure ih
  · rintro _ s' rfl
    rw [ho]
    exact wpAny_pure h
theorem search_none {p c : Addr} {fs its : Array Value} {n : Nat} {x : Str} {t : Tok} {Q : Value → Shared → Prop} (hp : s.heap.get? p = some { cls := .type "re.Pattern", data := .fields fs })
    (h5 : fs[5]? = some (.ref c)) (h2 : Builtin.Re.reRawNat (fs.getD 2 .none) = 0) (h6 : Builtin.Re.reRawNat (fs.getD 6 .none) = 0) (hc : s.heap.get? c = some (tupOf its n))
    {code : Array Nat} (hcode : (its.map Builtin.Re.reRawOf).map (·.toNat) = code) (hf : failsB code x.cps = true) (hsz : x.cps.size < 2 ^ 20) (h : Q .none s) :
    wpAny (model prog w) A (call (.builtin "re.Pattern.search") [.ref p, .str x t]) Q E s := by
  subst hcode
  refine wpAny_call (codeAny_call_builtin slot_re_search.plain entry_re_search (slot_re_search.check _ _ _ _ _ _ _ _ ⟨_, hp, rfl⟩ (args_re_search _ _) ?_))
  unfold Builtin.«re.Pattern.search» Builtin.Re.reTarget
  have e1 : Builtin.Re.reNamed "re.Pattern.search" "search" ["string", "pos", "endpos"] 1 [Value.str x t] [] = pure [some (Value.str x t), none, none] := by rfl
  have e2 : Builtin.Re.reTextOf (Value.str x t) = pure (x.cps, 0) := by rfl
  have e3 : Builtin.Re.reNoCollectionInside (Value.str x t) 0 = pure () := by rfl
  refine wpAny_bind ?_
  dsimp only
  rw [e1]
  refine wpAny_bind (wpAny_pure ?_)
  refine wpAny_bind (wpAny_pure (wpAny_bind (wpAny_pure ?_)))
  refine wpAny_bind ?_
  unfold fieldsOf
  refine wpAny_bind (wpAny_load hp (wpAny_pure ?_))
  rw [e2]
  refine wpAny_bind (wpAny_pure ?_)
  rw [h6, h2, e3]
  rw [if_neg (show ¬ (((0 : Nat) == 0 && (0 : Nat) == 1) = true) by decide), if_neg (show ¬ (((0 : Nat) == 1 && (0 : Nat) == 0) = true) by decide)]
  refine wpAny_bind (wpAny_pure (wpAny_bind ?_))
  have e5 : fs.getD 5 Value.none = .ref c := by rw [Array.getD_eq_getD_getElem?, h5]; rfl
  rw [e5]
  unfold Builtin.Re.reRawItems
  refine wpAny_bind ?_
  unfold seqItems?
  refine wpAny_bind (wpAny_load hc ?_)
  refine wpAny_pure (wpAny_pure (wpAny_pure ?_))
  unfold Builtin.Re.reAnswer
  have el : min ((2 ^ 63 - 1 : Int)).toNat x.cps.size = x.cps.size := by omega
  have ez : min (Int.toNat 0) x.cps.size = 0 := by simp
  unfold failsB at hf
  split at hf
  · rename_i m' hm
    split at hf
    · rename_i ho
      refine wpAny_bind (run_wp (n := 40) (by decide) (m' := m') ?_ ho (wpAny_pure h))
      rw [← hm]
      simp only [el, ez]
      rfl
    · cases hf
  · cases hf
end

/-- n stars -/
def star (n : Nat) : Str := ⟨Array.replicate n 42⟩
theorem star_size (n : Nat) : (star n).cps.size = n := by simp [star]
def nameCode : Array Nat := #[14, 10, 4, 1, 1, 22, 0, 31, 16, 127, 0, 13, 7, 22, 0, 31, 16, 127, 0, 1]
def valCode : Array Nat := #[14, 14, 4, 1, 1, 9, 4294966783, 0, 0, 2147483648, 0, 0, 0, 0, 0, 13, 11, 9, 4294966783, 0, 0, 2147483648, 0, 0, 0, 0, 0, 1]
theorem star_clean : ∀ n, n < 16 → failsB valCode (star n).cps = true := by decide +kernel
def theWords : List Str := ["a", "b", "ab", "A", "B", "AB"]
theorem word_size : ∀ x ∈ theWords, x.cps.size < 2 ^ 20 := by decide +kernel
theorem word_len : ∀ x ∈ theWords, x.length ≤ 100 := by decide +kernel
theorem lower_word : ∀ x ∈ theWords, Txt.lower x ∈ theWords := by decide +kernel
theorem lower_lower : ∀ x ∈ theWords, Txt.lower (Txt.lower x) = Txt.lower x := by decide +kernel
theorem word_clean : ∀ x ∈ theWords, failsB nameCode x.cps = true := by decide +kernel
end Mine
end
section
open PySem PySem.W PyProof.Rows PySem.Calls
set_option Elab.async false
set_option linter.unusedVariables false
set_option maxRecDepth 100000
namespace Mine

set_option maxHeartbeats 4000000 in
theorem convert_name_c {prog : Program} {w : World} {A : Around} {mg mb : Str → Option Value} {mean : ExcName → Option Value} {base : Heap} {s : Shared} {R : Result → Shared → Prop} {sv : Value} {x : Str} {t : Tok}
    (C : Cx w mg mb mean base) (st : base.StaysIn s.heap) (hroom : A.depth < 900) (hun : A.units < 100) (hx : x ∈ theWords)
    (k : ∀ h' tk, KeepsBut [] s.heap h' → R (.ok (.ret (.str x t))) { s with heap := h', toks := tk }) :
    codeAny (model prog w) A (.call (.ref 70) ⟨[sv, .str x t], [(Str.ofString "name", .bool true)]⟩) R s := by
  refine enter_def (K := hd.heap_39 w.params) (binds := [(Str.ofString "self", sv), (Str.ofString "value", .str x t), (Str.ofString "name", .bool true)]) []
    (fun p hp => nomatch hp) (fun p hp => nomatch hp) (C.T.nolimit.keeps st) (C.K.keeps st) st (by k_is) (by k_is) (by unfold recursionLimit; omega) (by exact BindsTo.of_eq rfl) (by exact locs rfl) ?_
  intro g L h₁ hg stg F N
  have X := C.K.keeps stg
  have T := C.T.keeps stg
  refine wpAny_noRaise ?_
  iterate 29 walk1
  rename Fr _ _ _ _ => F
  have h43 := F.keep _ _ (X 43 _ (by k_is))
  have h42 := F.keep _ _ (X 42 _ (by k_is))
  refine getMethod_builtin ⟨_, h43, rfl⟩ plainAttrs_re slot_re_search type_re_search (fun a e => by cases e; exact ⟨_, h43, rfl⟩) ?_
  iterate 4 walk1
  refine search_none h43 rfl rfl rfl h42 (by decide +kernel) (word_clean x hx) (word_size x hx) ?_
  iterate 7 walk1
  exact k _ _ (keepsBut_of hg F)
set_option maxHeartbeats 4000000 in
theorem convert_val_c {prog : Program} {w : World} {A : Around} {mg mb : Str → Option Value} {mean : ExcName → Option Value} {base : Heap} {s : Shared} {R : Result → Shared → Prop} {sv : Value} {i : Nat} {t : Tok}
    (C : Cx w mg mb mean base) (st : base.StaysIn s.heap) (hroom : A.depth < 900) (hun : A.units < 100) (hx : i < 16)
    (k : ∀ h' tk, KeepsBut [] s.heap h' → R (.ok (.ret (.str (star i) t))) { s with heap := h', toks := tk }) :
    codeAny (model prog w) A (.call (.ref 70) ⟨[sv, .str (star i) t], [(Str.ofString "name", .bool false)]⟩) R s := by
  refine enter_def (K := hd.heap_39 w.params) (binds := [(Str.ofString "self", sv), (Str.ofString "value", .str (star i) t), (Str.ofString "name", .bool false)]) []
    (fun p hp => nomatch hp) (fun p hp => nomatch hp) (C.T.nolimit.keeps st) (C.K.keeps st) st (by k_is) (by k_is) (by unfold recursionLimit; omega) (by exact BindsTo.of_eq rfl) (by exact locs rfl) ?_
  intro g L h₁ hg stg F N
  have X := C.K.keeps stg
  have T := C.T.keeps stg
  refine wpAny_noRaise ?_
  iterate 29 walk1
  rename Fr _ _ _ _ => F
  have h48 := F.keep _ _ (X 48 _ (by k_is))
  have h47 := F.keep _ _ (X 47 _ (by k_is))
  refine getMethod_builtin ⟨_, h48, rfl⟩ plainAttrs_re slot_re_search type_re_search (fun a e => by cases e; exact ⟨_, h48, rfl⟩) ?_
  iterate 4 walk1
  refine search_none h48 rfl rfl rfl h47 (by decide +kernel) (star_clean i hx) (by rw [star_size]; omega) ?_
  iterate 7 walk1
  exact k _ _ (keepsBut_of hg F)

/-- a pair of the table's: name and value -/
def Pair (h : Heap) (v : Value) (p : Str × Str) : Prop := ∃ a t1 t2 n, v = .ref a ∧ h.get? a = some (tupOf #[.str p.1 t1, .str p.2 t2] n)
theorem Pair.keeps {h h' : Heap} {v : Value} {e : Str × Str} (k : h.StaysIn h') (x : Pair h v e) : Pair h' v e :=
  let ⟨a, t1, t2, n, e1, e2⟩ := x; ⟨a, t1, t2, n, e1, k _ _ e2⟩
theorem Pair.keepsBut {h h' : Heap} {v : Value} {e : Str × Str} {as : List Addr} (k : KeepsBut as h h') (na : ∀ a ∈ as, ∀ o, h.get? a = some o → o.cls ≠ .type "tuple") (x : Pair h v e) : Pair h' v e :=
  let ⟨a, t1, t2, n, e1, e2⟩ := x; ⟨a, t1, t2, n, e1, k _ _ (fun hm => na a hm _ e2 rfl) e2⟩
/-- the table at tb, its list at hl -/
def TbAt (h : Heap) (tb hl : Addr) : Prop := ∃ dx hsh t n, h.get? tb = some (instObj 171 dx) ∧ h.get? dx = some (dictOf [⟨hsh, .str (Str.ofString "_headers") t, .ref hl⟩] n)
theorem TbAt.keeps {h h' : Heap} {tb hl : Addr} (k : h.StaysIn h') (x : TbAt h tb hl) : TbAt h' tb hl :=
  let ⟨dx, hsh, t, n, e1, e2⟩ := x; ⟨dx, hsh, t, n, k _ _ e1, k _ _ e2⟩
section
variable {prog : Program} {w : World} {A : Around} {E : Value → Shared → Prop} {s : Shared} {g : Heap} {L tb hl : Addr} {m : Str → Option Value}
theorem get_headers {expr : Bool} {Q : Value → Shared → Prop} (F : Fr g L s.heap m) (X : (hd.heap_39 w.params).In g) (hT : TbAt s.heap tb hl) (h : Q (.ref hl) { s with toks := s.toks + 1 }) :
    wpAny (model prog w) A (getAttr (.ref tb) (Str.ofString "_headers") expr) Q E s := by
  obtain ⟨dx, hsh, t, n, e1, e2⟩ := hT
  exact get_own F X ⟨e1, rfl, rfl, e2⟩ (by k_is) (by k_is) (by k_is) (by k_is) rfl rfl h
theorem tab_method {name : Str} {f : Addr} {pl : Sem Bool} {Q : Value × List Value → Shared → Prop} (F : Fr g L s.heap m) (X : (hd.heap_39 w.params).In g) (hT : TbAt s.heap tb hl)
    (hg : plainGet (hd.heap_39 w.params) 171 name = true) (hf : findIn (hd.heap_39 w.params) (.ref 171) name = some (some (.ref f))) (ht : isFn (hd.heap_39 w.params) (.ref f) = true) (hne : (Str.ofString "_headers" == name) = false)
    (h : Q (.ref f, [.ref tb]) s) : wpAny (model prog w) A (getMethod (.ref tb) name pl) Q E s := by
  obtain ⟨dx, hsh, t, n, e1, e2⟩ := hT
  refine method_inst F X ⟨e1, rfl, rfl, e2⟩ hg hf ht ?_ h
  unfold getL
  simp only [List.find?_cons, List.find?_nil, Value.isStr, hne, List.any_cons, List.any_nil]
  rfl
end
end Mine
end
section
open PySem PySem.W PyProof.Rows PySem.Calls
set_option Elab.async false
set_option linter.unusedVariables false
set_option maxRecDepth 100000
namespace Mine

/-- what get tells -/
def getR (ps : List (Str × Str)) (x : Str) : Option Str := (ps.find? fun p => Txt.lower p.1 == Txt.lower x).map (·.2)
def VIs (v : Value) : Option Str → Prop
  | some y => ∃ t, v = .str y t
  | none => v = .none
set_option maxHeartbeats 4000000 in
theorem get_c {prog : Program} {w : World} {A : Around} {mg mb : Str → Option Value} {mean : ExcName → Option Value} {base : Heap} {s : Shared} {R : Result → Shared → Prop} {tb hl : Addr} {ps : List (Str × Str)} {x : Str} {t : Tok}
    (C : Cx w mg mb mean base) (st : base.StaysIn s.heap) (hroom : A.depth < 890) (hun : A.units < 90) (hh : A.handled = none) (hT : TbAt s.heap tb hl) (hps : Lst Pair s.heap hl ps) (hx : x ∈ theWords) (hw : ∀ p ∈ ps, p.1 ∈ theWords)
    (k : ∀ h' tk v, KeepsBut [] s.heap h' → VIs v (getR ps x) → R (.ok (.ret v)) { s with heap := h', toks := tk }) :
    codeAny (model prog w) A (.call (.ref 118) ⟨[.ref tb, .str x t], []⟩) R s := by
  obtain ⟨vs, n, hl', ha⟩ := hps
  refine enter_def (K := hd.heap_39 w.params) (binds := [(Str.ofString "self", .ref tb), (Str.ofString "name", .str x t), (Str.ofString "default", .none)]) []
    (fun p hp => nomatch hp) (fun p hp => nomatch hp) (C.T.nolimit.keeps st) (C.K.keeps st) st (by k_is) (by k_is) (by unfold recursionLimit; omega) (by exact binds_K (C.K.keeps st) rfl (by k_is) rfl rfl rfl) (by exact locs rfl) ?_
  intro g L h₁ hg stg F N
  have X := C.K.keeps stg
  have T := C.T.keeps stg
  have hTg : TbAt g tb hl := hT.keeps fun b o e => hg b o (fun hm => nomatch hm) e
  refine wpAny_noRaise ?_
  iterate 5 walk1
  refine tab_method F X (hTg.keeps F.keep) (by k_is) (by k_is) (by k_is) (by decide) ?_
  iterate 6 walk1
  refine SCL.lower (Nat.le_trans (word_len x hx) (by decide)) fun _ => ?_
  iterate 5 walk1
  refine wpAny_call (kw := [(Str.ofString "name", .bool true)]) (convert_name_c (x := Txt.lower x) C (fun b o e => F.keep b o (stg b o e)) ?_ ?_ (lower_word x hx) ?_)
  · simp only [depth_deeper]; omega
  · simp only [units_deeper]; omega
  intro h₂ tk₂ kb
  obtain ⟨F, N⟩ := back_same F N kb
  dsimp only
  iterate 3 walk1
  rename Fr _ _ _ _ => F
  rename News _ _ _ _ => N
  have hlg : g.get? hl = some (listOf vs.toArray n) := hg _ _ (fun hm => nomatch hm) hl'
  have hag : All2 (Pair g) vs ps := ha.mono fun v e he => he.keepsBut hg (fun a hm => nomatch hm)
  refine wpAny_For ?_
  iterate 2 walk1
  refine get_headers F X (hTg.keeps F.keep) ?_
  refine for_list hh hlg F N (fun i m nw => nw = [] ∧ (∃ t, Knows m [(Str.ofString "self", .ref tb), (Str.ofString "name", .str (Txt.lower x) t), (Str.ofString "default", .none)]) ∧ (ps.take i).find? (fun p => Txt.lower p.1 == Txt.lower x) = none) ?_ ?_ ?_
  · exact ⟨rfl, ⟨_, rfl, rfl, rfl, trivial⟩, rfl⟩
  · rintro i v m₁ nw h₃ tk₃ I oI hv ⟨rfl, ⟨t', hm⟩, hf⟩ hnI hit F N
    replace F := fr_known F hm
    obtain ⟨⟨k', y⟩, hpi, hp⟩ := hag.at hv
    obtain ⟨a, t1, t2, n', rfl, ho⟩ := id hp
    refine wpAny_letOwnedTupleGo_listiter hit ?_
    dsimp only at ho
    have hk' : k' ∈ theWords := hw _ (List.mem_of_getElem? hpi)
    refine unpackN_ F N ⟨_, F.keep _ _ ho, rfl, _, rfl⟩ hh rfl rfl ?_
    intro h₄ F N
    iterate 15 walk1
    refine SCL.lower (Nat.le_trans (word_len k' hk') (by decide)) fun _ => ?_
    iterate 2 walk1
    refine wpAny_truthy_bool ?_
    rename Fr _ _ _ _ => F
    rename News _ _ _ _ => N
    cases hq : Txt.lower k' == Txt.lower x with
    | true =>
      rw [if_pos rfl]
      iterate 4 walk1
      refine k _ _ _ (keepsBut_of hg F) ?_
      unfold getR
      rw [find_at hf hpi hq]
      exact ⟨_, rfl⟩
    | false =>
      rw [if_neg (by simp)]
      iterate 3 walk1
      exact ⟨_, _, _, [], rfl, F, N, (fun p hp => nomatch hp), rfl, ⟨_, rfl, rfl, rfl, trivial⟩, find_not hf hpi hq⟩
  · intro h' tk m' nw F N hJ
    obtain ⟨rfl, ⟨t', hm⟩, hf⟩ := hJ
    replace F := fr_known F hm
    dsimp only
    iterate 3 walk1
    refine k _ _ _ (keepsBut_of hg F) ?_
    rw [ha.len, List.take_length] at hf
    unfold getR
    rw [hf]
    rfl
end Mine
end
section
open PySem PySem.W PyProof.Rows PySem.Calls
set_option Elab.async false
set_option linter.unusedVariables false
set_option maxRecDepth 100000
namespace Mine
open LCg LCt in
/-- a comprehension with a test, over a list, that makes nothing else -/
theorem comp_filter {prog : Program} {w : World} {A : Around} {h₀ : Heap} {L : Addr} {m : Str → Option Value} {env : Env} {ct elt : Expr} {x : Str} {scope : Scope} {cl : List (Str × Addr)} {s₂ : Shared} {S : List (Addr × Obj) → Prop} {its : Array Value}
    {Fin : List Value → List (Addr × Obj) → Prop} {news : List (Addr × Obj)} (J : Nat → List Value → Prop) (h0 : J 0 [])
    (step : ∀ i ys v I oI C oC D m₂ h tk, its[i]? = some v → J i ys → NsObj oC m₂ → m₂ x = some v → Fr h₀ L h m → News h₀ L h ((I, oI) :: (C, oC) :: (D, lst ys) :: news) → Off3 I C D news → ((@Ne Nat I C) ∧ (@Ne Nat I D) ∧ (@Ne Nat C D)) →
      wpAny (model prog w) A (isTrue ct (compEnvC scope cl C env) (eval ct (compEnvC scope cl C env))) (fun ok s' => if ok = true then
        wpAny (model prog w) A (eval elt (compEnvC scope cl C env)) (CompEnd h₀ L m { s₂ with heap := h, toks := tk } I oI C oC D (lst ys) S (fun y news' => news' = news ∧ J (i + 1) (ys ++ [y]))) (fun _ _ => False) s'
        else CompEnd h₀ L m { s₂ with heap := h, toks := tk } I oI C oC D (lst ys) S (fun _ news' => news' = news ∧ J (i + 1) ys) Value.none s') (fun _ _ => False) { s₂ with heap := h, toks := tk })
    (fin : ∀ ys, J its.size ys → Fin ys news) : CompRestT prog w A h₀ L m env ct elt x scope cl s₂ S (fun i v => its[i]? = some v) Fin its.size 0 [] news := by
  have claim : ∀ k i ys, k + i = its.size → J i ys → CompRestT prog w A h₀ L m env ct elt x scope cl s₂ S (fun i v => its[i]? = some v) Fin k i ys news := by
    intro k
    induction k with
    | zero =>
      intro i ys hk hJ
      refine CompRestT.zero (fin ys ?_)
      rw [← hk, Nat.zero_add]; exact hJ
    | succ k ih =>
      intro i ys hk hJ
      refine CompRestT.succ ?_
      intro v I oI C oC D m₂ h tk E' hP hC hx F N hoff hne
      refine wpAny_noRaise (wpAny_mono (step i ys v I oI C oC D m₂ h tk hP hJ hC hx F N hoff hne) (fun ok s' hok => ?_) fun _ _ e => e.elim)
      cases ok with
      | true =>
        simp only [if_true] at hok ⊢
        refine wpAny_noRaise (wpAny_mono hok (fun y s₃ h₃ => ?_) fun _ _ e => e.elim)
        obtain ⟨h', tk', news', rfl, F', N', off', hS', rfl, hJ'⟩ := h₃
        exact ⟨h', tk', news', rfl, F', N', off', hS', ih (i + 1) _ (by omega) hJ'⟩
      | false =>
        simp only [Bool.false_eq_true, if_false] at hok ⊢
        obtain ⟨h', tk', news', rfl, F', N', off', hS', rfl, hJ'⟩ := hok
        exact ⟨h', tk', news', rfl, F', N', off', hS', ih (i + 1) _ (by omega) hJ'⟩
  exact claim _ 0 [] (by omega) h0
end Mine
end
section
open PySem PySem.W PyProof.Rows PySem.Calls
set_option Elab.async false
set_option linter.unusedVariables false
set_option maxRecDepth 100000
namespace Mine
section
variable {prog : Program} {w : World} {A : Around} {E : Value → Shared → Prop} {s : Shared}
theorem letGo_wp {M : Model} : ∀ (l k : List Value) {Q : Unit → Shared → Prop}, Q () s → wpAny M A (letGo l k) Q E s
  | [], _, _, h => wpAny_pure h
  | _ :: r, k, _, h => wpAny_bind (wpAny_holding (wpAny_point (letGo_wp r k h)))
theorem setSlice_all {l sl D : Addr} {items new : Array Value} {n n2 : Nat} {Q : Unit → Shared → Prop} (hl : s.heap.get? l = some (listOf items n)) (hs : s.heap.IsSliceOf sl .none .none .none) (hv : s.heap.get? D = some (listOf new n2)) (hne : D ≠ l)
    (hsz : items.size < 2 ^ 20) (hsz2 : new.size < 2 ^ 20)
    (h : ∀ h' n', Heap.SameBut l s.heap h' → h'.get? l = some (listOf new n') → Q () { s with heap := h' }) : wpAny (model prog w) A (setItem (.ref l) (.ref sl) (.ref D)) Q E s := by
  have hL : s.heap.IsList l items := ⟨_, hl, rfl, _, rfl⟩
  obtain ⟨os, hos, hcs, hds⟩ := id hs
  have hTs : s.TypeIs (.ref sl) "slice" := ⟨os, hos, hcs⟩
  unfold setItem
  try with_reducible refine wpAny_holding ?_
  first | refine wpAny_bind (wpAny_pure ?_) | skip
  refine wpAny_bind (wpAny_sequenceKey hL.typeIs (by decide) ?_)
  refine wpAny_bind (wpAny_callSpecial?_slot (name := Str.ofString "__setitem__") hL.typeIs slot_list_setitem
    (wpAny_call_entry slot_list_setitem hL.typeIs entry_list_setitem ?_ (args_list_setitem _ _ _)))
  show wpAny _ _ (Builtin.List.listSubscript? (.ref sl) >>= _) _ _ s
  refine wpAny_bind ?_
  unfold Builtin.List.listSubscript?
  refine wpAny_bind (wpAny_specialOf hTs slice_no_index ?_)
  simp only [Option.isNone_none, if_true]
  refine wpAny_pure ?_
  show wpAny _ _ (typeOf (.ref sl) >>= _) _ _ s
  refine wpAny_bind (wpAny_typeOf hTs ?_)
  rw [if_neg (by decide)]
  rw [listSliceParts_eq]
  refine wpAny_bind (wpAny_bind (wpAny_field hos hds (x := Value.none) rfl (wpAny_bind (wpAny_listPart .none ?_))))
  rw [if_neg (by decide)]
  refine wpAny_bind (wpAny_field hos hds (x := Value.none) rfl (wpAny_bind (wpAny_listPart .none ?_)))
  refine wpAny_bind (wpAny_field hos hds (x := Value.none) rfl (wpAny_bind (wpAny_listPart .none ?_)))
  refine wpAny_pure ?_
  rw [if_neg (by show ¬ ((l == D) = true); simpa using fun e : l = D => hne e.symm)]
  unfold Builtin.List.listAllItems
  have hTD : s.TypeIs (.ref D) "list" := ⟨_, hv, rfl⟩
  refine wpAny_bind (wpAny_bind (wpAny_typeOf hTD ?_))
  rw [if_pos (by decide)]
  refine listItems_at hv rfl ?_
  refine wpAny_bind (listItems_at hl rfl ?_)
  dsimp only
  rw [sliceIndices_raw none none none items.size (by simp)]
  refine wpAny_bind (wpAny_pure ?_)
  rw [if_pos (show ((sliceBounds none none none items.size).2.2 == 1) = true from rfl)]
  refine wpAny_bind (wpAny_rule ?_)
  rw [if_neg (by simp only [Builtin.List.listTooLong, decide_eq_true_eq, sizeLine_eq]; omega)]
  have hf : ∀ xs : Array Value, xs.size = items.size → xs.extract 0 (sliceBounds none none none items.size).1.toNat ++ new ++ xs.extract (max (sliceBounds none none none items.size).1 (sliceBounds none none none items.size).2.1).toNat = new := by
    intro xs hx
    have e1 : (sliceBounds none none none items.size).1.toNat = 0 := by simp [sliceBounds]
    have e2 : (max (sliceBounds none none none items.size).1 (sliceBounds none none none items.size).2.1).toNat = items.size := by simp [sliceBounds]
    rw [e1, e2, ← hx]
    simp
  have hfi := hf items rfl
  refine wpAny_bind (wpAny_updateSeq hl rfl ?_ (by rw [sizeLine_eq]; omega) (by rw [hfi, sizeLine_eq]; omega))
  refine wpAny_bind (letGo_wp _ _ ?_)
  have hu := PySem.IsL.update (n := n) hl (fun xs => xs.extract 0 (sliceBounds none none none items.size).1.toNat ++ new ++ xs.extract (max (sliceBounds none none none items.size).1 (sliceBounds none none none items.size).2.1).toNat)
  rw [hfi] at hu
  exact wpAny_pure ⟨_, rfl, wpAny_pure (h _ _ (Heap.SameBut.update ..) hu)⟩
end
end Mine
end
section
open PySem PySem.W PyProof.Rows PySem.Calls
set_option Elab.async false
set_option linter.unusedVariables false
set_option maxRecDepth 100000
namespace Mine
theorem cls_ne {h : Heap} {a : Addr} {o o' : Obj} (e : h.get? a = some o) (e' : h.get? a = some o') (hne : o.cls ≠ o'.cls) : False := hne (congrArg Obj.cls (Option.some.inj (e.symm.trans e')))
/-- what __delitem__ leaves -/
def delR (ps : List (Str × Str)) (x : Str) : List (Str × Str) := ps.filter fun p => Txt.lower p.1 != Txt.lower x
set_option maxHeartbeats 4000000 in
theorem delitem_c {prog : Program} {w : World} {A : Around} {mg mb : Str → Option Value} {mean : ExcName → Option Value} {base : Heap} {s : Shared} {R : Result → Shared → Prop} {P : Value → Str × Str → Prop} {tb hl : Addr} {ps : List (Str × Str)} {x : Str} {t : Tok}
    (C : Cx w mg mb mean base) (st : base.StaysIn s.heap) (hroom : A.depth < 890) (hun : A.units < 90) (hh : A.handled = none) (hT : TbAt s.heap tb hl) (hP : ∀ v e, P v e → Pair s.heap v e) (hps : LstP P s.heap hl ps) (hn : base.get? hl = none) (hx : x ∈ theWords) (hw : ∀ p ∈ ps, p.1 ∈ theWords) (hz : ps.length < 2 ^ 20)
    (k : ∀ h' tk, KeepsBut [hl] s.heap h' → LstP P h' hl (delR ps x) → R (.ok (.ret .none)) { s with heap := h', toks := tk }) :
    codeAny (model prog w) A (.call (.ref 89) ⟨[.ref tb, .str x t], []⟩) R s := by
  obtain ⟨vs, n, hl', ha⟩ := hps
  refine enter_defC (K := hd.heap_39 w.params) (binds := [(Str.ofString "self", .ref tb), (Str.ofString "name", .str x t)]) [(hl, listOf vs.toArray n)]
    (List.forall_mem_singleton.mpr hl') (List.forall_mem_singleton.mpr hn) (C.T.nolimit.keeps st) (C.K.keeps st) st (by k_is) (by k_is) (by unfold recursionLimit; omega) (by exact BindsTo.of_eq rfl) (by exact rfl) (by decide +kernel) ?_
  intro g L h₁ tk₁ cells hg stg F N Y hlt
  have X := C.K.keeps stg
  have T := C.T.keeps stg
  obtain ⟨oc, rfl, hoc⟩ := Y.one
  have hTg : TbAt g tb hl := by
    obtain ⟨dx, hsh, tt, n', e1, e2⟩ := hT
    refine ⟨dx, hsh, tt, n', hg _ _ (fun hm => ?_) e1, hg _ _ (fun hm => ?_) e2⟩
    · exact cls_ne (List.mem_singleton.mp hm ▸ e1) hl' (by show Value.ref 171 ≠ Value.type "list"; decide)
    · exact cls_ne (List.mem_singleton.mp hm ▸ e2) hl' (by show Value.type "dict" ≠ Value.type "list"; decide)
  have hPg : ∀ v e, P v e → Pair g v e := fun v e p => (hP v e p).keepsBut hg (list_no_tuple hl')
  refine wpAny_noRaise ?_
  iterate 4 walk1
  refine tab_method F X (hTg.keeps F.keep) (by k_is) (by k_is) (by k_is) (by decide) ?_
  iterate 6 walk1
  refine SCL.lower (Nat.le_trans (word_len x hx) (by decide)) fun _ => ?_
  iterate 5 walk1
  refine wpAny_call (kw := [(Str.ofString "name", .bool true)]) (convert_name_c (x := Txt.lower x) C (fun b o e => F.keep b o (stg b o e)) ?_ ?_ (lower_word x hx) ?_)
  · simp only [depth_deeper]; omega
  · simp only [units_deeper]; omega
  intro h₂ tk₂ kb
  obtain ⟨F, N⟩ := back_same F N kb
  dsimp only at *
  iterate 4 walk1
  rename Fr _ _ _ _ => F
  rename News _ _ _ _ => N
  refine LCt.ListComp_T F (by with_unfolding_all rfl) (by decide) (by rfl) (by decide) (by rfl) ?_
  iterate 2 walk1
  refine get_headers F X (hTg.keeps F.keep) ?_
  refine LCt.CompSrcT.ledger (k := n) hh F N (.tail _ (.head _)) (by rw [List.size_toArray, ha.len, sizeLine_eq]; omega) ?_
  intro h₃
  dsimp only
  refine comp_filter (fun i ys => All2 P ys ((ps.take i).filter fun p => Txt.lower p.1 != Txt.lower x)) .nil ?_ ?_
  · intro i ys v I oI C oC D m₂ h₄ tk₄ hv hJ hC hm₂ F N hoff hne
    obtain ⟨⟨k', y⟩, hpi, hp⟩ := ha.at (by simpa using hv)
    obtain ⟨a, t1, t2, n', rfl, ho⟩ := hPg _ _ hp
    dsimp only at ho
    have hk' : k' ∈ theWords := hw _ (List.mem_of_getElem? hpi)
    iterate 6 walk1
    refine item_tupleT (l := [Value.str k' t1, Value.str y t2]) (j := 0) ⟨_, F.keep _ _ ho, rfl, _, rfl⟩ (by decide) (by decide) rfl rfl ?_
    iterate 2 walk1
    refine SCL.lower (Nat.le_trans (word_len k' hk') (by decide)) fun _ => ?_
    iterate 2 walk1
    refine wpAny_truthy_bool ?_
    k_unfold
    dsimp only
    cases hq : Txt.lower k' != Txt.lower x with
    | true =>
      rw [if_pos rfl]
      walk1
      refine ⟨_, _, _, rfl, F, N, hoff, .inr ⟨_, .tail _ (.head _), rfl, _, rfl⟩, rfl, ?_⟩
      rw [take_succ_of hpi, List.filter_append]
      refine hJ.append ?_
      rw [List.filter_cons_of_pos (by exact hq)]
      exact .one hp
    | false =>
      rw [if_neg (by simp)]
      refine ⟨_, _, _, rfl, F, N, hoff, .inr ⟨_, .tail _ (.head _), rfl, _, rfl⟩, rfl, ?_⟩
      rw [take_succ_of hpi, List.filter_append, List.filter_cons_of_neg (by rw [hq]; simp)]
      rw [List.filter_nil, List.append_nil]
      exact hJ
  · intro ys hJ D h₅ tk₅ F N hoff
    rw [List.size_toArray, ha.len, List.take_length] at hJ
    dsimp only
    iterate 2 walk1
    refine get_headers F X (hTg.keeps F.keep) ?_
    iterate 4 walk1
    dsimp only
    have hyl : ys.length < 2 ^ 20 := by rw [hJ.len]; exact Nat.lt_of_le_of_lt (List.length_filter_le _ _) hz
    have hDl : D ≠ hl := fun e => by obtain ⟨_, h2, _⟩ := hoff; exact h2 e.symm
    refine setSlice_all (n2 := ys.length) (Heap.get?_push_of_some _ (N (hl, listOf vs.toArray n) (.tail _ (.tail _ (.head _)))).1) (Heap.IsSliceOf.new ..) (Heap.get?_push_of_some _ (N (D, LCg.lst ys) (.head _)).1) hDl (by rw [List.size_toArray, ha.len]; exact hz) (by rw [List.size_toArray]; exact hyl) ?_
    intro h₆ n₆ hsb hl₆
    dsimp only
    have F' := F.push { cls := Value.type "slice", data := Data.fields #[Value.none, Value.none, Value.none] }
    have F₆ : Fr g L h₆ _ := fr_keeps (as := [hl]) F' (fun b o hb e => (hsb.2 b (fun q => hb (by rw [q]; exact .head _))).trans e) (fun hm => (N (hl, listOf vs.toArray n) (.tail _ (.tail _ (.head _)))).2.1 (List.mem_singleton.mp hm).symm) (fun a ha => by rw [List.mem_singleton.mp ha]; exact (N (hl, listOf vs.toArray n) (.tail _ (.tail _ (.head _)))).2.2)
    walk1
    exact k _ _ (keepsBut_of hg F₆) ⟨ys, n₆, hl₆, hJ⟩
end Mine
end
section
open PySem PySem.W PyProof.Rows PySem.Calls
set_option Elab.async false
set_option linter.unusedVariables false
set_option maxRecDepth 100000
namespace Mine
theorem TbAt.keepsBut {h h' : Heap} {tb hl : Addr} {its : Array Value} {n : Nat} (k : KeepsBut [hl] h h') (hl' : h.get? hl = some (listOf its n)) (x : TbAt h tb hl) : TbAt h' tb hl := by
  obtain ⟨dx, hsh, tt, n', e1, e2⟩ := x
  refine ⟨dx, hsh, tt, n', k _ _ (fun hm => ?_) e1, k _ _ (fun hm => ?_) e2⟩
  · exact cls_ne (List.mem_singleton.mp hm ▸ e1) hl' (by show Value.ref 171 ≠ Value.type "list"; decide)
  · exact cls_ne (List.mem_singleton.mp hm ▸ e2) hl' (by show Value.type "dict" ≠ Value.type "list"; decide)
theorem fresh_of {h g : Heap} {as : List Addr} {a : Addr} (hg : KeepsBut as h g) (hn : g.get? a = none) (ha : a ∉ as) : h.get? a = none := by
  cases e : h.get? a with
  | none => rfl
  | some o => rw [hg a o ha e] at hn; cases hn
/-- a list with one new pair behind -/
def LstNew (P : Value → Str × Str → Prop) (h h' : Heap) (hl : Addr) (ps : List (Str × Str)) (e : Str × Str) : Prop :=
  ∃ vs n a t1 t2 m, h'.get? hl = some (listOf (vs ++ [Value.ref a]).toArray n) ∧ All2 P vs ps ∧ h'.get? a = some (tupOf #[.str e.1 t1, .str e.2 t2] m) ∧ h.get? a = none
section
variable {prog : Program} {w : World} {A : Around} {E : Value → Shared → Prop} {s : Shared} {g : Heap} {L tb hl : Addr} {m : Str → Option Value} {i v : Value}
theorem tab_del {Q : Unit → Shared → Prop} (F : Fr g L s.heap m) (X : (hd.heap_39 w.params).In g) (hT : TbAt s.heap tb hl) (h : wpAny (model prog w) A (call (.ref 89) [.ref tb, i]) (fun _ s' => Q () s') E s) :
    wpAny (model prog w) A (delItem (.ref tb) i) Q E s := by
  obtain ⟨dx, hsh, t, n, e1, e2⟩ := hT
  have X' := X.keeps F.keep
  have I : InstAt s.heap tb (instObj 171 dx) 171 (some (dictOf [⟨hsh, .str (Str.ofString "_headers") t, .ref hl⟩] n)) := ⟨e1, rfl, rfl, e2⟩
  unfold delItem sequenceKey
  refine wpAny_holding (wpAny_bind (wpAny_bind (I.type.here ?_)))
  refine wpAny_bind ((anyM_none X' (by k_is : noSeq (hd.heap_39 w.params) 171 = true)).here ?_)
  rw [if_pos (show (!false) = true from rfl)]
  exact wpAny_pure (wpAny_bind (special_fn X' I (f := 89) (by k_is) (beq_iff_eq.mp (by k_is : isFn (hd.heap_39 w.params) (.ref 89) = true)) (wpAny_mono h (fun _ _ z => wpAny_pure z) fun _ _ z => z)))
theorem tab_set {Q : Unit → Shared → Prop} (F : Fr g L s.heap m) (X : (hd.heap_39 w.params).In g) (hT : TbAt s.heap tb hl) (h : wpAny (model prog w) A (call (.ref 84) [.ref tb, i, v]) (fun _ s' => Q () s') E s) :
    wpAny (model prog w) A (setItem (.ref tb) i v) Q E s := by
  obtain ⟨dx, hsh, t, n, e1, e2⟩ := hT
  have I : InstAt s.heap tb (instObj 171 dx) 171 (some (dictOf [⟨hsh, .str (Str.ofString "_headers") t, .ref hl⟩] n)) := ⟨e1, rfl, rfl, e2⟩
  exact ksp_setItem (f := 84) F X I (by k_is) (by k_is) (by k_is) h
end
set_option maxHeartbeats 4000000 in
theorem setitem_c {prog : Program} {w : World} {A : Around} {mg mb : Str → Option Value} {mean : ExcName → Option Value} {base : Heap} {s : Shared} {R : Result → Shared → Prop} {P : Value → Str × Str → Prop} {tb hl : Addr} {ps : List (Str × Str)} {x : Str} {i : Nat} {t u : Tok}
    (C : Cx w mg mb mean base) (st : base.StaysIn s.heap) (hroom : A.depth < 880) (hun : A.units < 80) (hh : A.handled = none) (hT : TbAt s.heap tb hl) (hP : ∀ v e, P v e → Pair s.heap v e) (hps : LstP P s.heap hl ps) (hn : base.get? hl = none) (hx : x ∈ theWords) (hw : ∀ p ∈ ps, p.1 ∈ theWords) (hz : ps.length < 2 ^ 19) (hi : i < 16)
    (k : ∀ h' tk, KeepsBut [hl] s.heap h' → LstNew P s.heap h' hl (delR ps x) (x, star i) → R (.ok (.ret .none)) { s with heap := h', toks := tk }) :
    codeAny (model prog w) A (.call (.ref 84) ⟨[.ref tb, .str x t, .str (star i) u], []⟩) R s := by
  obtain ⟨vs, n, hl', ha⟩ := hps
  refine enter_def (K := hd.heap_39 w.params) (binds := [(Str.ofString "self", .ref tb), (Str.ofString "name", .str x t), (Str.ofString "val", .str (star i) u)]) [(hl, listOf vs.toArray n)]
    (List.forall_mem_singleton.mpr hl') (List.forall_mem_singleton.mpr hn) (C.T.nolimit.keeps st) (C.K.keeps st) st (by k_is) (by k_is) (by unfold recursionLimit; omega) (by exact BindsTo.of_eq rfl) (by exact locs rfl) ?_
  intro g L h₁ hg stg F N
  have X := C.K.keeps stg
  have T := C.T.keeps stg
  have hTg : TbAt g tb hl := hT.keepsBut hg hl'
  have hPg : ∀ v e, P v e → Pair g v e := fun v e p => (hP v e p).keepsBut hg (list_no_tuple hl')
  refine wpAny_noRaise ?_
  iterate 7 walk1
  refine tab_del F X (hTg.keeps F.keep) ?_
  refine wpAny_call (delitem_c C (fun b o e => F.keep b o (stg b o e)) ?_ ?_ hh (hTg.keeps F.keep) (fun v e p => (hPg v e p).keeps F.keep) ⟨vs, n, (N _ (.head _)).1, ha⟩ hn hx hw (by omega) ?_)
  · simp only [depth_deeper]; omega
  · simp only [units_deeper]; omega
  rintro h₂ tk₂ kb ⟨vs₂, n₂, hl₂, ha₂⟩
  obtain ⟨F, N⟩ := back_upd F N (Upd.head (by simp)) kb hl₂
  dsimp only
  iterate 6 walk1
  refine get_headers F X (hTg.keeps F.keep) ?_
  iterate 7 walk1
  refine tab_method F X (hTg.keeps F.keep) (by k_is) (by k_is) (by k_is) (by decide) ?_
  iterate 8 walk1
  refine wpAny_call (kw := [(Str.ofString "name", .bool true)]) (convert_name_c (x := x) C (fun b o e => F.keep b o (stg b o e)) ?_ ?_ hx ?_)
  · simp only [depth_deeper]; omega
  · simp only [units_deeper]; omega
  intro h₃ tk₃ kb
  obtain ⟨F, N⟩ := back_same F N kb
  dsimp only
  iterate 3 walk1
  refine tab_method F X (hTg.keeps F.keep) (by k_is) (by k_is) (by k_is) (by decide) ?_
  iterate 8 walk1
  refine wpAny_call (kw := [(Str.ofString "name", .bool false)]) (convert_val_c (i := i) C (fun b o e => F.keep b o (stg b o e)) ?_ ?_ hi ?_)
  · simp only [depth_deeper]; omega
  · simp only [units_deeper]; omega
  intro h₄ tk₄ kb
  obtain ⟨F, N⟩ := back_same F N kb
  dsimp only
  iterate 3 walk1
  rename Fr _ _ _ _ => F
  rename News _ _ _ _ => N
  have hzl : vs₂.length < 2 ^ 19 := by rw [ha₂.len]; exact Nat.lt_of_le_of_lt (List.length_filter_le _ _) hz
  refine append_K F N (by k_upd) ?_ (by rw [List.size_toArray, sizeLine_eq]; omega)
  intro h₅ F N
  dsimp only
  walk1
  have hD := N _ (.head _)
  refine k _ _ (keepsBut_of hg F) ⟨vs₂, _, _, _, _, _, (N _ (.tail _ (.head _))).1.trans (by rw [List.push_toArray]), ha₂, hD.1, fresh_of hg hD.2.2 (fun hm => ?_)⟩
  have e := List.mem_singleton.mp hm
  rename (@LT.lt Nat _ hl _) => hlt
  exact Nat.ne_of_lt hlt e.symm
end Mine
end
section
open PySem PySem.W PyProof.Rows PySem.Calls
set_option Elab.async false
set_option linter.unusedVariables false
set_option maxRecDepth 100000
namespace Mine
theorem keepsBut_same {h g h' : Heap} {L hl : Addr} {m : Str → Option Value} {o : Obj} (hg : KeepsBut [hl] h g) (F : Fr g L h' m) (ho : h.get? hl = some o) (ho' : h'.get? hl = some o) : KeepsBut [] h h' := fun b x _ e => by
  by_cases hb : b = hl
  · subst hb; rw [ho] at e; cases e; exact ho'
  · exact F.keep b x (hg b x (fun hm => hb (List.mem_singleton.mp hm)) e)
set_option maxHeartbeats 4000000 in
theorem setdefault_c {prog : Program} {w : World} {A : Around} {mg mb : Str → Option Value} {mean : ExcName → Option Value} {base : Heap} {s : Shared} {R : Result → Shared → Prop} {P : Value → Str × Str → Prop} {tb hl : Addr} {ps : List (Str × Str)} {x : Str} {i : Nat} {t u : Tok}
    (C : Cx w mg mb mean base) (st : base.StaysIn s.heap) (hroom : A.depth < 880) (hun : A.units < 80) (hh : A.handled = none) (hT : TbAt s.heap tb hl) (hP : ∀ v e, P v e → Pair s.heap v e) (hps : LstP P s.heap hl ps) (hn : base.get? hl = none) (hx : x ∈ theWords) (hw : ∀ p ∈ ps, p.1 ∈ theWords) (hz : ps.length < 2 ^ 19) (hi : i < 16)
    (k1 : getR ps x = none → ∀ h' tk, KeepsBut [hl] s.heap h' → LstNew P s.heap h' hl ps (x, star i) → R (.ok (.ret (.str (star i) u))) { s with heap := h', toks := tk })
    (k2 : ∀ y, getR ps x = some y → ∀ h' tk t', KeepsBut [] s.heap h' → R (.ok (.ret (.str y t'))) { s with heap := h', toks := tk }) :
    codeAny (model prog w) A (.call (.ref 161) ⟨[.ref tb, .str x t, .str (star i) u], []⟩) R s := by
  obtain ⟨vs, n, hl', ha⟩ := hps
  refine enter_def (K := hd.heap_39 w.params) (binds := [(Str.ofString "self", .ref tb), (Str.ofString "name", .str x t), (Str.ofString "value", .str (star i) u)]) [(hl, listOf vs.toArray n)]
    (List.forall_mem_singleton.mpr hl') (List.forall_mem_singleton.mpr hn) (C.T.nolimit.keeps st) (C.K.keeps st) st (by k_is) (by k_is) (by unfold recursionLimit; omega) (by exact BindsTo.of_eq rfl) (by exact locs rfl) ?_
  intro g L h₁ hg stg F N
  have X := C.K.keeps stg
  have T := C.T.keeps stg
  have hTg : TbAt g tb hl := hT.keepsBut hg hl'
  have hPg : ∀ v e, P v e → Pair g v e := fun v e p => (hP v e p).keepsBut hg (list_no_tuple hl')
  refine wpAny_noRaise ?_
  iterate 5 walk1
  refine tab_method F X (hTg.keeps F.keep) (by k_is) (by k_is) (by k_is) (by decide) ?_
  iterate 5 walk1
  refine wpAny_call (get_c C (fun b o e => F.keep b o (stg b o e)) ?_ ?_ hh (hTg.keeps F.keep) ⟨vs, n, (N _ (.head _)).1, ha.mono fun v e p => (hPg v e p).keeps F.keep⟩ hx hw ?_)
  · simp only [depth_deeper]; omega
  · simp only [units_deeper]; omega
  intro h₂ tk₂ v kb hv
  obtain ⟨F, N⟩ := back_same F N kb
  dsimp only
  cases hq : getR ps x with
  | none =>
    rw [hq] at hv
    cases hv
    iterate 15 walk1
    rename Fr _ _ _ _ => F
    rename News _ _ _ _ => N
    refine get_headers F X (hTg.keeps F.keep) ?_
    iterate 7 walk1
    refine tab_method F X (hTg.keeps F.keep) (by k_is) (by k_is) (by k_is) (by decide) ?_
    iterate 8 walk1
    refine wpAny_call (kw := [(Str.ofString "name", .bool true)]) (convert_name_c (x := x) C (fun b o e => F.keep b o (stg b o e)) ?_ ?_ hx ?_)
    · simp only [depth_deeper]; omega
    · simp only [units_deeper]; omega
    intro h₃ tk₃ kb
    obtain ⟨F, N⟩ := back_same F N kb
    dsimp only
    iterate 3 walk1
    refine tab_method F X (hTg.keeps F.keep) (by k_is) (by k_is) (by k_is) (by decide) ?_
    iterate 8 walk1
    refine wpAny_call (kw := [(Str.ofString "name", .bool false)]) (convert_val_c (i := i) C (fun b o e => F.keep b o (stg b o e)) ?_ ?_ hi ?_)
    · simp only [depth_deeper]; omega
    · simp only [units_deeper]; omega
    intro h₄ tk₄ kb
    obtain ⟨F, N⟩ := back_same F N kb
    dsimp only
    iterate 3 walk1
    rename Fr _ _ _ _ => F
    rename News _ _ _ _ => N
    have hzl : vs.length < 2 ^ 19 := by rw [ha.len]; exact hz
    refine append_K F N (by k_upd) ?_ (by rw [List.size_toArray, sizeLine_eq]; omega)
    intro h₅ F N
    dsimp only
    iterate 3 walk1
    have hD := N _ (.head _)
    refine k1 hq _ _ (keepsBut_of hg F) ⟨vs, _, _, _, _, _, (N _ (.tail _ (.head _))).1.trans (by rw [List.push_toArray]), ha, hD.1, fresh_of hg hD.2.2 (fun hm => ?_)⟩
    have e := List.mem_singleton.mp hm
    rename (@LT.lt Nat _ hl _) => hlt
    exact Nat.ne_of_lt hlt e.symm
  | some y =>
    rw [hq] at hv
    obtain ⟨t', rfl⟩ := hv
    iterate 13 walk1
    rename Fr _ _ _ _ => F
    rename News _ _ _ _ => N
    exact k2 y hq _ _ _ (keepsBut_same hg F hl' (N _ (.head _)).1)

/-- items: a copy -/
theorem items_c {prog : Program} {w : World} {A : Around} {mg mb : Str → Option Value} {mean : ExcName → Option Value} {base : Heap} {s : Shared} {R : Result → Shared → Prop} {tb hl : Addr} {vs : List Value} {n : Nat}
    (C : Cx w mg mb mean base) (st : base.StaysIn s.heap) (hroom : A.depth < 880) (hun : A.units < 80) (hT : TbAt s.heap tb hl) (hps : s.heap.get? hl = some (listOf vs.toArray n)) (hz : vs.length < 2 ^ 19)
    (k : ∀ h' tk D n', KeepsBut [] s.heap h' → h'.get? D = some (listOf vs.toArray n') → s.heap.get? D = none → R (.ok (.ret (.ref D))) { s with heap := h', toks := tk }) :
    codeAny (model prog w) A (.call (.ref 135) ⟨[.ref tb], []⟩) R s := by
  refine enter_def (K := hd.heap_39 w.params) (binds := [(Str.ofString "self", .ref tb)]) []
    (fun p hp => nomatch hp) (fun p hp => nomatch hp) (C.T.nolimit.keeps st) (C.K.keeps st) st (by k_is) (by k_is) (by unfold recursionLimit; omega) (by exact BindsTo.of_eq rfl) (by exact locs rfl) ?_
  intro g L h₁ hg stg F N
  have X := C.K.keeps stg
  have T := C.T.keeps stg
  have hTg : TbAt g tb hl := hT.keeps fun b o e => hg b o (fun hm => nomatch hm) e
  have hlg := hg _ _ (fun hm => nomatch hm) hps
  refine wpAny_noRaise ?_
  iterate 6 walk1
  refine get_headers F X (hTg.keeps F.keep) ?_
  iterate 4 walk1
  have hL : (h₁.push { cls := Value.type "slice", data := Data.fields #[Value.none, Value.none, Value.none] }).IsList hl vs.toArray := ⟨_, Heap.get?_push_of_some _ (F.keep _ _ hlg), rfl, _, rfl⟩
  refine tail_any (ops := [_, _]) hL.typeIs slot_list_getitem.lookup (wpAny_getItem_list_slice hL (Heap.IsSliceOf.new ..) .none .none .none (by simp) ?_ (by rw [List.size_toArray, sizeLine_eq]; omega)) rfl
  rw [slicePick_all]
  have F₂ := (F.push { cls := Value.type "slice", data := Data.fields #[Value.none, Value.none, Value.none] }).push { cls := Value.type "list", data := Data.seq vs.toArray }
  refine k _ _ _ 0 (keepsBut_of hg F₂) (Heap.get?_push_size _ rfl) (fresh_of hg ?_ (fun hm => nomatch hm))
  exact next_is_new (F.push _)
end Mine
end
section
open PySem PySem.W PyProof.Rows PySem.Calls
set_option Elab.async false
set_option linter.unusedVariables false
set_option maxRecDepth 100000
namespace Mine
theorem star_mul : ∀ i, i < 16 → Txt.mul (Str.ofString "*") ((i : Nat) : Int) = star i := by decide +kernel
theorem star_ok {i : Nat} (hi : i < 16) : MulOk (Str.ofString "*") ((i : Nat) : Int) := mulOk_of 16 16 (by decide +kernel) (by omega) (by omega) (by decide) (by decide)

/-- heappop -/
def popE (es : List Ent3) : Option (Ent3 × List Ent3) := match es.getLast? with
  | none => none
  | some z => some (hpop ltE es.dropLast z)
/-- what goes of the table with an entry -/
def dropP (ps : List (Str × Str)) (e : Ent3) : List (Str × Str) := if getR ps e.2.2 = some (star e.2.1) then delR ps e.2.2 else ps
/-- a sweep -/
def sweepP (hour : Int) : Nat → List Ent3 → List (Str × Str) → List Ent3 × List (Str × Str)
  | 0, es, ps => (es, ps)
  | q + 1, es, ps => match es.head?, popE es with
    | some e0, some (e, es') => if e0.1 ≤ hour then sweepP hour q es' (dropP ps e) else (es, ps)
    | _, _ => (es, ps)
theorem popE_snoc (ini : List Ent3) (z : Ent3) : popE (ini ++ [z]) = some (hpop ltE ini z) := by unfold popE; simp
theorem sup_length {α : Type} (lt : α → α → Bool) (p : Nat) (l : List α) : (sup lt p l).1.length = l.length := by
  induction hn : l.length - p using Nat.strongRecOn generalizing p l with
  | ind n ih =>
    unfold sup
    split
    · rename_i h
      dsimp only
      rw [ih _ ?_ _ _ rfl]
      · simp
      · simp only [List.length_set]
        split
        · split <;> omega
        · omega
    · rfl
theorem supd_length {α : Type} (lt : α → α → Bool) (x : α) (l : List α) : (supd lt x l).length = l.length := by
  unfold supd; rw [sdn_length, List.length_set, sup_length]
theorem hpop_length {α : Type} (lt : α → α → Bool) (ini : List α) (z : α) : (hpop lt ini z).2.length = ini.length := by
  cases ini with
  | nil => rfl
  | cons y r => show (supd lt z (z :: r)).length = _; rw [supd_length]; simp
end Mine
end
section
open PySem PySem.W PyProof.Rows PySem.Calls
set_option Elab.async false
set_option linter.unusedVariables false
namespace Mine
section
variable {α : Type} {lt : α → α → Bool}
theorem sdn_perm (x : α) : ∀ (p : Nat) (l : List α), p < l.length → (sdn lt x p l).Perm (l.set p x) := by
  intro p
  induction p using Nat.strongRecOn with
  | ind p ih =>
    intro l hp
    cases p with
    | zero => rw [sdn_zero]
    | succ p =>
      have hy : l[p / 2]? = some (l[p / 2]'(by omega)) := List.getElem?_eq_getElem (by omega)
      rw [sdn_succ lt x p l hy]
      split
      · refine (ih (p / 2) (by omega) _ (by simp; omega)).trans ?_
        exact perm_swap hy (by omega) hp
      · exact .refl _
theorem sup_perm (x : α) (l : List α) (p : Nat) (hp : p < l.length) : (sup lt p l).2 < l.length ∧ ((sup lt p l).1.set (sup lt p l).2 x).Perm (l.set p x) := by
  induction hn : l.length - p using Nat.strongRecOn generalizing p l with
  | ind n ih =>
    by_cases h1 : 2 * p + 1 < l.length
    · have hy : l[2 * p + 1]? = some (l[2 * p + 1]'h1) := List.getElem?_eq_getElem h1
      have go : ∀ c y, l[c]? = some y → p < c → sup lt p l = sup lt c (l.set p y) → (sup lt p l).2 < l.length ∧ ((sup lt p l).1.set (sup lt p l).2 x).Perm (l.set p x) := by
        intro c y hc hpc e
        have hcl := (List.getElem?_eq_some_iff.mp hc).1
        have := ih (l.length - c) (by omega) (l.set p y) c (by simpa using hcl) (by simp)
        rw [e]
        refine ⟨by simpa using this.1, this.2.trans (perm_swap hc (by omega) hp)⟩
      by_cases h2 : 2 * p + 2 < l.length
      · have hz : l[2 * p + 2]? = some (l[2 * p + 2]'h2) := List.getElem?_eq_getElem h2
        cases hlt : lt (l[2 * p + 1]'h1) (l[2 * p + 2]'h2) with
        | false => exact go _ _ hz (by omega) (sup_right lt hy hz hlt)
        | true => exact go _ _ hy (by omega) (sup_left lt hy fun z hz' => by rw [hz] at hz'; cases hz'; exact hlt)
      · exact go _ _ hy (by omega) (sup_left lt hy fun z hz' => by rw [List.getElem?_eq_none (by omega)] at hz'; cases hz')
    · rw [sup_end lt h1]
      exact ⟨hp, .refl _⟩
theorem supd_perm (x : α) (l : List α) (hp : 0 < l.length) : (supd lt x l).Perm (l.set 0 x) := by
  obtain ⟨h1, h2⟩ := sup_perm (lt := lt) x l 0 hp
  unfold supd
  refine (sdn_perm x _ _ (by rw [List.length_set, sup_length]; exact h1)).trans ?_
  rw [List.set_set]; exact h2
theorem hpop_perm (ini : List α) (z : α) : ((hpop lt ini z).1 :: (hpop lt ini z).2).Perm (ini ++ [z]) := by
  cases ini with
  | nil => exact .refl _
  | cons y r =>
    show (y :: supd lt z (z :: r)).Perm (y :: (r ++ [z]))
    refine .cons y ((supd_perm z (z :: r) (by simp)).trans ?_)
    exact List.perm_append_comm (l₁ := [z]) (l₂ := r)
theorem push_perm (e : α) (es : List α) : (sdn lt e es.length (es ++ [e])).Perm (es ++ [e]) := by
  refine (sdn_perm e es.length (es ++ [e]) (by simp)).trans ?_
  rw [List.set_append_right _ _ (Nat.le_refl _)]; simp

/-- a heap -/
def IsH (lt : α → α → Bool) (l : List α) : Prop := ∀ (i : Nat) (a b : α), 0 < i → l[(i - 1) / 2]? = some a → l[i]? = some b → lt b a = false
structure Ord (lt : α → α → Bool) : Prop where
  trans : ∀ a b c, lt b a = false → lt c b = false → lt c a = false
  asymm : ∀ a b, lt a b = true → lt b a = false
  refl : ∀ a, lt a a = false
theorem IsH.top (O : Ord lt) {l : List α} (h : IsH lt l) {a : α} (ha : l[0]? = some a) : ∀ (i : Nat) (b : α), l[i]? = some b → lt b a = false := by
  intro i
  induction i using Nat.strongRecOn with
  | ind i ih =>
    intro b hb
    by_cases hi : i = 0
    · subst hi; rw [ha] at hb; cases hb; exact O.refl a
    · have hl := (List.getElem?_eq_some_iff.mp hb).1
      have hp : l[(i - 1) / 2]? = some (l[(i - 1) / 2]'(by omega)) := List.getElem?_eq_getElem (by omega)
      exact O.trans _ _ _ (ih ((i - 1) / 2) (by omega) _ hp) (h i _ b (by omega) hp hb)
theorem set_get_ne {l : List α} {p i : Nat} {x : α} (h : i ≠ p) : (l.set p x)[i]? = l[i]? := by rw [List.getElem?_set, if_neg (Ne.symm h)]
theorem set_get_eq {l : List α} {p : Nat} {x : α} (h : p < l.length) : (l.set p x)[p]? = some x := by rw [List.getElem?_set, if_pos rfl, if_pos h]
/-- a heap but for x at p -/
structure HX (lt : α → α → Bool) (l : List α) (p : Nat) (x : α) : Prop where
  one : ∀ (i : Nat) (a b : α), 0 < i → i ≠ p → (l.set p x)[(i - 1) / 2]? = some a → (l.set p x)[i]? = some b → lt b a = false
  two : 0 < p → ∀ (i : Nat) (a b : α), 0 < i → (i - 1) / 2 = p → l[(p - 1) / 2]? = some a → l[i]? = some b → lt b a = false
theorem sdn_heap (O : Ord lt) (x : α) : ∀ (p : Nat) (l : List α), p < l.length → HX lt l p x → IsH lt (sdn lt x p l) := by
  intro p
  induction p using Nat.strongRecOn with
  | ind p ih =>
    intro l hp H
    cases p with
    | zero => rw [sdn_zero]; exact fun i a b hi ha hb => H.one i a b hi (by omega) ha hb
    | succ p =>
      have hql : p / 2 < l.length := by omega
      have hy : l[p / 2]? = some (l[p / 2]'hql) := List.getElem?_eq_getElem hql
      generalize hyv : l[p / 2]'hql = y at hy
      rw [sdn_succ lt x p l hy]
      cases hlt : lt x y with
      | false =>
        simp only [Bool.false_eq_true, if_false]
        intro i a b hi ha hb
        by_cases hip : i = p + 1
        · subst hip
          have e : (p + 1 - 1) / 2 = p / 2 := by omega
          rw [e, set_get_ne (by omega), hy] at ha
          rw [set_get_eq hp] at hb
          cases ha; cases hb; exact hlt
        · exact H.one i a b hi hip ha hb
      | true =>
        simp only [if_true]
        refine ih (p / 2) (by omega) _ (by simp; omega) ⟨fun i a b hi hne ha hb => ?_, fun hq i a b hi hpar ha hb => ?_⟩
        · -- one
          have pne : p / 2 ≠ p + 1 := by omega
          by_cases hi1 : i = p + 1
          · subst hi1
            have e : (p + 1 - 1) / 2 = p / 2 := by omega
            rw [e, set_get_eq (by simp; omega)] at ha
            rw [set_get_ne (by omega), set_get_eq hp] at hb
            cases ha; cases hb; exact O.asymm _ _ hlt
          · rw [set_get_ne hne, set_get_ne hi1] at hb
            by_cases hpar : (i - 1) / 2 = p / 2
            · rw [hpar, set_get_eq (by simp; omega)] at ha
              cases ha
              have h1 := H.one i y b hi hi1 (by rw [hpar, set_get_ne pne]; exact hy) (by rw [set_get_ne hi1]; exact hb)
              exact O.trans _ _ _ (O.asymm _ _ hlt) h1
            · rw [set_get_ne hpar] at ha
              by_cases hpar2 : (i - 1) / 2 = p + 1
              · rw [hpar2, set_get_eq hp] at ha
                cases ha
                exact H.two (by omega) i y b hi hpar2 (by have e : (p + 1 - 1) / 2 = p / 2 := by omega
                                                          rw [e]; exact hy) hb
              · rw [set_get_ne hpar2] at ha
                exact H.one i a b hi hi1 (by rw [set_get_ne hpar2]; exact ha) (by rw [set_get_ne hi1]; exact hb)
        · -- two
          have pne : p / 2 ≠ p + 1 := by omega
          have hpp : (p / 2 - 1) / 2 ≠ p + 1 := by omega
          rw [set_get_ne hpp] at ha
          have h0 := H.one (p / 2) a y hq pne (by rw [set_get_ne hpp]; exact ha) (by rw [set_get_ne pne]; exact hy)
          by_cases hi1 : i = p + 1
          · subst hi1
            rw [set_get_eq hp] at hb
            cases hb; exact h0
          · rw [set_get_ne hi1] at hb
            have h1 := H.one i y b hi hi1 (by rw [hpar, set_get_ne pne]; exact hy) (by rw [set_get_ne hi1]; exact hb)
            exact O.trans _ _ _ h0 h1
/-- a heap but for a hole at p -/
structure HO (lt : α → α → Bool) (l : List α) (p : Nat) : Prop where
  one : ∀ (i : Nat) (a b : α), 0 < i → i ≠ p → (i - 1) / 2 ≠ p → l[(i - 1) / 2]? = some a → l[i]? = some b → lt b a = false
  two : 0 < p → ∀ (i : Nat) (a b : α), 0 < i → (i - 1) / 2 = p → l[(p - 1) / 2]? = some a → l[i]? = some b → lt b a = false
theorem sup_heap (O : Ord lt) (x : α) (l : List α) (p : Nat) (hp : p < l.length) (H : HO lt l p) : HX lt (sup lt p l).1 (sup lt p l).2 x := by
  induction hn : l.length - p using Nat.strongRecOn generalizing p l with
  | ind n ih =>
    by_cases h1 : 2 * p + 1 < l.length
    · have hy : l[2 * p + 1]? = some (l[2 * p + 1]'h1) := List.getElem?_eq_getElem h1
      have go : ∀ c y, l[c]? = some y → (c - 1) / 2 = p → 0 < c → (∀ i b, 0 < i → (i - 1) / 2 = p → i ≠ c → l[i]? = some b → lt b y = false) → sup lt p l = sup lt c (l.set p y) → HX lt (sup lt p l).1 (sup lt p l).2 x := by
        intro c y hc hpar hc0 hsib e
        have hcl := (List.getElem?_eq_some_iff.mp hc).1
        rw [e]
        refine ih (l.length - c) (by omega) (l.set p y) c (by simpa using hcl) ⟨fun i a b hi hic hpc ha hb => ?_, fun _ i a b hi hpi ha hb => ?_⟩ (by simp)
        · by_cases hip : i = p
          · subst hip
            rw [set_get_eq hp] at hb
            cases hb
            rw [set_get_ne (by omega)] at ha
            exact H.two hi c a y hc0 hpar ha hc
          · rw [set_get_ne hip] at hb
            by_cases hpp : (i - 1) / 2 = p
            · rw [hpp, set_get_eq hp] at ha
              cases ha
              exact hsib i b hi hpp hic hb
            · rw [set_get_ne hpp] at ha
              exact H.one i a b hi hip hpp ha hb
        · rw [hpar, set_get_eq hp] at ha
          cases ha
          rw [set_get_ne (by omega)] at hb
          exact H.one i y b hi (by omega) (by omega) (by rw [hpi]; exact hc) hb
      by_cases h2 : 2 * p + 2 < l.length
      · have hz : l[2 * p + 2]? = some (l[2 * p + 2]'h2) := List.getElem?_eq_getElem h2
        cases hlt : lt (l[2 * p + 1]'h1) (l[2 * p + 2]'h2) with
        | false =>
          refine go _ _ hz (by omega) (by omega) (fun i b hi hpi hic hb => ?_) (sup_right lt hy hz hlt)
          obtain rfl : i = 2 * p + 1 := by omega
          rw [hy] at hb; cases hb; exact hlt
        | true =>
          refine go _ _ hy (by omega) (by omega) (fun i b hi hpi hic hb => ?_) (sup_left lt hy fun z hz' => by rw [hz] at hz'; cases hz'; exact hlt)
          obtain rfl : i = 2 * p + 2 := by omega
          rw [hz] at hb; cases hb; exact O.asymm _ _ hlt
      · refine go _ _ hy (by omega) (by omega) (fun i b hi hpi hic hb => ?_) (sup_left lt hy fun z hz' => by rw [List.getElem?_eq_none (by omega)] at hz'; cases hz')
        have := (List.getElem?_eq_some_iff.mp hb).1
        omega
    · rw [sup_end lt h1]
      show HX lt l p x
      refine ⟨fun i a b hi hip ha hb => ?_, fun _ i a b hi hpi ha hb => ?_⟩
      · rw [set_get_ne hip] at hb
        have hil := (List.getElem?_eq_some_iff.mp hb).1
        have hpp : (i - 1) / 2 ≠ p := by omega
        rw [set_get_ne hpp] at ha
        exact H.one i a b hi hip hpp ha hb
      · have := (List.getElem?_eq_some_iff.mp hb).1
        omega
theorem supd_heap (O : Ord lt) (x : α) (l : List α) (hp : 0 < l.length) (H : HO lt l 0) : IsH lt (supd lt x l) := by
  have h := sup_heap O x l 0 hp H
  have hq := (sup_perm (lt := lt) x l 0 hp).1
  unfold supd
  refine sdn_heap O x _ _ (by rw [List.length_set, sup_length]; exact hq) ⟨?_, ?_⟩
  · rw [List.set_set]; exact h.one
  · intro hq0 i a b hi hpi ha hb
    have e1 : ((sup lt 0 l).2 - 1) / 2 ≠ (sup lt 0 l).2 := by omega
    have e2 : i ≠ (sup lt 0 l).2 := by omega
    rw [set_get_ne e1] at ha
    rw [set_get_ne e2] at hb
    exact h.two hq0 i a b hi hpi ha hb
theorem IsH.init {l : List α} {z : α} (h : IsH lt (l ++ [z])) : IsH lt l := fun i a b hi ha hb => by
  have h1 := (List.getElem?_eq_some_iff.mp ha).1
  have h2 := (List.getElem?_eq_some_iff.mp hb).1
  exact h i a b hi (by rw [List.getElem?_append_left h1]; exact ha) (by rw [List.getElem?_append_left h2]; exact hb)
theorem hpop_heap (O : Ord lt) (ini : List α) (z : α) (h : IsH lt (ini ++ [z])) : IsH lt (hpop lt ini z).2 := by
  cases ini with
  | nil => intro i a b _ ha; simp [hpop] at ha
  | cons y r =>
    show IsH lt (supd lt z (z :: r))
    refine supd_heap O z (z :: r) (by simp) ⟨fun i a b hi _ hpar ha hb => ?_, fun h0 => absurd h0 (Nat.lt_irrefl 0)⟩
    have hh := h.init
    refine hh i a b hi ?_ ?_
    · cases hq : (i - 1) / 2 with
      | zero => exact absurd hq hpar
      | succ q => rw [hq] at ha; simpa using ha
    · cases i with
      | zero => omega
      | succ q => simpa using hb
theorem hpop_min (O : Ord lt) (ini : List α) (z : α) (h : IsH lt (ini ++ [z])) : ∀ e ∈ ini ++ [z], lt e (hpop lt ini z).1 = false := by
  have h0 : (ini ++ [z])[0]? = some (hpop lt ini z).1 := by cases ini <;> rfl
  intro e he
  obtain ⟨i, hi, rfl⟩ := List.getElem_of_mem he
  exact h.top O h0 i _ (List.getElem?_eq_getElem hi)
theorem push_heap (O : Ord lt) (e : α) (es : List α) (h : IsH lt es) : IsH lt (sdn lt e es.length (es ++ [e])) := by
  have hs : (es ++ [e]).set es.length e = es ++ [e] := by rw [List.set_append_right _ _ (Nat.le_refl _)]; simp
  refine sdn_heap O e es.length (es ++ [e]) (by simp) ⟨fun i a b hi hne ha hb => ?_, fun h0 i a b hi hpi ha hb => ?_⟩
  · rw [hs] at ha hb
    have hil := (List.getElem?_eq_some_iff.mp hb).1
    simp at hil
    rw [List.getElem?_append_left (by omega)] at ha hb
    exact h i a b hi ha hb
  · have hil := (List.getElem?_eq_some_iff.mp hb).1
    simp at hil
    omega
end
theorem ordE : Ord ltE where
  trans := fun a b c h1 h2 => by
    unfold ltE ltB keyOf at *
    simp only [decide_eq_false_iff_not] at *
    omega
  asymm := fun a b h => by
    unfold ltE ltB keyOf at *
    simp only [decide_eq_true_eq, decide_eq_false_iff_not] at *
    omega
  refl := fun a => by
    unfold ltE ltB keyOf
    simp only [decide_eq_false_iff_not]
    omega
end Mine
end
section
open PySem PySem.W PyProof.Rows PySem.Calls
set_option Elab.async false
set_option linter.unusedVariables false
set_option maxRecDepth 100000
namespace Mine
theorem lists_no_tuple {h : Heap} {hp hl : Addr} {its its2 : Array Value} {n n2 : Nat} (h1 : h.get? hp = some (listOf its n)) (h2 : h.get? hl = some (listOf its2 n2)) : ∀ a ∈ [hp, hl], ∀ o, h.get? a = some o → o.cls ≠ .type "tuple" := fun a ha o e => by
  rcases List.mem_cons.mp ha with rfl | ha
  · exact list_no_tuple h1 _ (.head _) o e
  · exact list_no_tuple h2 _ ha o e
theorem TbAt.keepsBut2 {h h' : Heap} {tb hl hp : Addr} {its its2 : Array Value} {n n2 : Nat} (k : KeepsBut [hp, hl] h h') (hp' : h.get? hp = some (listOf its n)) (hl' : h.get? hl = some (listOf its2 n2)) (x : TbAt h tb hl) : TbAt h' tb hl := by
  obtain ⟨dx, hsh, tt, n', e1, e2⟩ := x
  have key : ∀ a o, h.get? a = some o → o.cls ≠ .type "list" → a ∉ [hp, hl] := fun a o e hc hm => by
    rcases List.mem_cons.mp hm with rfl | hm
    · exact hc (by rw [hp'] at e; cases e; rfl)
    · rw [List.mem_singleton.mp hm, hl'] at e; cases e; exact hc rfl
  exact ⟨dx, hsh, tt, n', k _ _ (key _ _ e1 (by show Value.ref 171 ≠ Value.type "list"; decide)) e1, k _ _ (key _ _ e2 (by show Value.type "dict" ≠ Value.type "list"; decide)) e2⟩
section
variable {prog : Program} {w : World} {A : Around} {E : Value → Shared → Prop} {s : Shared} {a b : Addr} {vs : List Value} {n n2 : Nat}
/-- a list against an empty one -/
theorem ne_nil {Q : Value → Shared → Prop} (ha : s.heap.get? a = some (listOf vs.toArray n)) (hb : s.heap.get? b = some (listOf #[] n2)) (hu : A.units < cLine) (h : Q (.bool (decide (vs ≠ []))) s) : wpAny (model prog w) A (compareOp .NotEq (.ref a) (.ref b)) Q E s := by
  have hA : s.heap.IsList a vs.toArray := ⟨_, ha, rfl, _, rfl⟩
  have hB : s.heap.IsList b #[] := ⟨_, hb, rfl, _, rfl⟩
  refine cmp_ofNotEq ?_
  cases vs with
  | nil =>
    refine SeqAt.RcNeAt.lists (e := fun _ => true) hA hB rfl hu (fun j h1 => by simp at h1) prog w E Q ?_
    simpa using h
  | cons v r =>
    refine SeqAt.RcNeAt.lists_lengths hA hB (by simp) hu prog w E Q ?_
    simpa using h
end
theorem sweep_yes {hour : Int} {ini : List Ent3} {z : Ent3} {ps : List (Str × Str)} (h : (hpop ltE ini z).1.1 ≤ hour) : sweepP hour (ini ++ [z]).length (ini ++ [z]) ps = sweepP hour (hpop ltE ini z).2.length (hpop ltE ini z).2 (dropP ps (hpop ltE ini z).1) := by
  have h0 : (ini ++ [z]).head? = some (hpop ltE ini z).1 := by cases ini <;> rfl
  rw [hpop_length, List.length_append, List.length_singleton]
  conv => lhs; unfold sweepP
  rw [h0, popE_snoc]
  simp only [h, if_true]
theorem sweep_no {hour : Int} {ini : List Ent3} {z : Ent3} {ps : List (Str × Str)} (h : ¬ (hpop ltE ini z).1.1 ≤ hour) : sweepP hour (ini ++ [z]).length (ini ++ [z]) ps = (ini ++ [z], ps) := by
  have h0 : (ini ++ [z]).head? = some (hpop ltE ini z).1 := by cases ini <;> rfl
  rw [List.length_append, List.length_singleton]
  conv => lhs; unfold sweepP
  rw [h0, popE_snoc]
  simp only [h, if_false]
theorem top_pop (ini : List Ent3) (z : Ent3) : (ini ++ [z])[0]? = some (hpop ltE ini z).1 := by cases ini <;> rfl
set_option maxHeartbeats 4000000 in
theorem swept_c {prog : Program} {w : World} {A : Around} {mg mb : Str → Option Value} {mean : ExcName → Option Value} {base : Heap} {s : Shared} {R : Result → Shared → Prop} {PT : Value → Str × Str → Prop} {PE : Value → Ent3 → Prop} {tb hl hp : Addr} {ps : List (Str × Str)} {es : List Ent3} {hour : Int} {t : Tok}
    (C : Cx w mg mb mean base) (st : base.StaysIn s.heap) (hroom : A.depth < 870) (hun : A.units < 70) (hh : A.handled = none) (hT : TbAt s.heap tb hl) (hPT : ∀ v e, PT v e → Pair s.heap v e) (hPE : ∀ v e, PE v e → Ent s.heap v e)
    (hps : LstP PT s.heap hl ps) (hes : LstP PE s.heap hp es) (hnl : base.get? hl = none) (hnp : base.get? hp = none) (hne : hp ≠ hl) (hw : ∀ p ∈ ps, p.1 ∈ theWords) (hwe : ∀ e ∈ es, e.2.2 ∈ theWords ∧ e.2.1 < 16) (hnd : (es.map (·.2.1)).Nodup) (hz : ps.length < 2 ^ 19) (hz2 : es.length < 2 ^ 19)
    (k : ∀ h' tk, KeepsBut [hp, hl] s.heap h' → LstP PT h' hl (sweepP hour es.length es ps).2 → LstP PE h' hp (sweepP hour es.length es ps).1 → R (.ok (.ret .none)) { s with heap := h', toks := tk }) :
    codeAny (model prog w) A (.call (.ref 217) ⟨[.ref tb, .ref hp, .int hour t], []⟩) R s := by
  obtain ⟨vs, n, hl', ha⟩ := hps
  obtain ⟨us, n2, hp', hu⟩ := hes
  refine enter_def (K := hd.heap_39 w.params) (binds := [(Str.ofString "table", .ref tb), (Str.ofString "heap", .ref hp), (Str.ofString "hour", .int hour t)]) [(hp, listOf us.toArray n2), (hl, listOf vs.toArray n)]
    (List.forall_mem_cons.mpr ⟨hp', List.forall_mem_singleton.mpr hl'⟩) (List.forall_mem_cons.mpr ⟨hnp, List.forall_mem_singleton.mpr hnl⟩) (C.T.nolimit.keeps st) (C.K.keeps st) st (by k_is) (by k_is) (by unfold recursionLimit; omega) (by exact BindsTo.of_eq rfl) (by exact locs rfl) ?_
  intro g L h₁ hg stg F N
  have X := C.K.keeps stg
  have T := C.T.keeps stg
  have hTg : TbAt g tb hl := hT.keepsBut2 hg hp' hl'
  have hPTg : ∀ v e, PT v e → Pair g v e := fun v e p => (hPT v e p).keepsBut hg (lists_no_tuple hp' hl')
  have hPEg : ∀ v e, PE v e → Ent g v e := fun v e p => (hPE v e p).keepsBut hg (lists_no_tuple hp' hl')
  refine wpAny_noRaise ?_
  iterate 2 walk1
  refine While_inv2 (n₀ := es.length) (fun q m nw => ∃ (es' : List Ent3) (ps' : List (Str × Str)) (us' vs' : List Value) (m1 m2 : Nat), q = es'.length ∧ nw = [(hp, listOf us'.toArray m1), (hl, listOf vs'.toArray m2)] ∧ All2 PE us' es' ∧ All2 PT vs' ps' ∧
    Knows m [(Str.ofString "table", .ref tb), (Str.ofString "heap", .ref hp), (Str.ofString "hour", .int hour t)] ∧ (∀ p ∈ ps', p.1 ∈ theWords) ∧ (∀ e ∈ es', e.2.2 ∈ theWords ∧ e.2.1 < 16) ∧ (es'.map (·.2.1)).Nodup ∧ ps'.length < 2 ^ 19 ∧ es'.length < 2 ^ 19 ∧
    sweepP hour es'.length es' ps' = sweepP hour es.length es ps) F N ?_ ?_ PassesOwn.never
  · exact ⟨es, ps, us, vs, n2, n, rfl, rfl, hu, ha, ⟨rfl, rfl, rfl, trivial⟩, hw, hwe, hnd, hz, hz2, rfl⟩
  rintro q m₁ nw h₂ tk₂ F N ⟨es', ps', us', vs', m1, m2, rfl, rfl, hu', ha', hm, hw', hwe', hnd', hz', hz2', htgt⟩
  replace F := fr_known F hm
  iterate 6 walk1
  rename Fr _ _ _ _ => F
  rename News _ _ _ _ => N
  refine ne_nil (N _ (.tail _ (.head _))).1 (N _ (.head _)).1 (by simp only [units_deeper]; unfold cLine; omega) ?_
  replace N : News g L _ [(hp, listOf us'.toArray m1), (hl, listOf vs'.toArray m2)] := fun p hp => N p (.tail _ hp)
  refine wpAny_truthy_bool ?_
  have fin : sweepP hour es'.length es' ps' = (es', ps') → ∀ h₃ tk₃ m₃, Fr g L h₃ m₃ → News g L h₃ [(hp, listOf us'.toArray m1), (hl, listOf vs'.toArray m2)] → R (.ok (.ret .none)) { s with heap := h₃, toks := tk₃ } := fun he h₃ tk₃ m₃ F N => by
    rw [he] at htgt
    refine k _ _ (keepsBut_of hg F) ?_ ?_
    · rw [← htgt]; exact ⟨vs', m2, (N _ (.tail _ (.head _))).1, ha'⟩
    · rw [← htgt]; exact ⟨us', m1, (N _ (.head _)).1, hu'⟩
  rcases List.eq_nil_or_concat es' with rfl | ⟨ini, z, rfl⟩
  · have hu0 := hu'.inv_nil
    subst hu0
    rw [if_neg (by simp)]
    iterate 3 walk1
    exact fin rfl _ _ _ F N
  · simp only [List.concat_eq_append] at *
    obtain ⟨v0, hv0, hp0⟩ := hu'.get 0 _ (top_pop ini z)
    obtain ⟨a0, t01, t02, t03, n0, rfl, ho0⟩ := hPEg _ _ hp0
    have hune : us' ≠ [] := fun e => by rw [e] at hv0; cases hv0
    rw [if_pos (by simpa using hune)]
    have hus : us'.length < 2 ^ 19 := by rw [hu'.len]; exact hz2'
    generalize he : (hpop ltE ini z).1 = e at hp0 ho0
    iterate 6 walk1
    dsimp only
    refine item_L (N _ (.head _)).1 (by omega) hv0 (by omega) ?_
    walk1
    refine item_tupleT (l := [Value.int e.1 t01, Value.int (e.2.1 : Int) t02, Value.str e.2.2 t03]) (j := 0) ⟨_, F.keep _ _ ho0, rfl, _, rfl⟩ (by decide) (by decide) rfl rfl ?_
    iterate 2 walk1
    dsimp only
    refine wpAny_truthy_bool ?_
    by_cases hle : e.1 ≤ hour
    · rw [if_pos (by simpa using hle)]
      iterate 12 walk1
      have hem : e ∈ ini ++ [z] := (hpop_perm (lt := ltE) ini z).subset (by rw [he]; exact .head _)
      obtain ⟨hew, hen⟩ := hwe' e hem
      refine wpAny_call (heappop_c (P := PE) C (fun b o e => F.keep b o (stg b o e)) ?_ ?_ (fun v e p => (hPEg v e p).keeps F.keep) ⟨us', m1, (N _ (.head _)).1, hu'⟩ hnp hnd' (by have := hz2'; simp at this; omega) ?_)
      · simp only [depth_deeper]; omega
      · simp only [units_deeper]; omega
      rintro h₃ tk₃ v kb hve ⟨us₃, n₃, hp₃, hu₃⟩
      rw [he] at hve
      obtain ⟨F, N⟩ := back_upd F N (Upd.head (by simpa using hne.symm)) kb hp₃
      obtain ⟨a, t1, t2, t3, n', rfl, ho⟩ := hPEg _ _ hve
      refine unpackN_ F N ⟨_, F.keep _ _ ho, rfl, _, rfl⟩ hh rfl rfl ?_
      intro h₄ F N
      iterate 12 walk1
      rename Fr _ _ _ _ => F
      rename News _ _ _ _ => N
      dsimp only at *
      refine wpAny_mono (Q := fun f s' => f = .next ∧ ∃ h₅ tk₅ m₅ vs₅ k5, s' = { s with heap := h₅, toks := tk₅ } ∧ Fr g L h₅ m₅ ∧ Knows m₅ [(Str.ofString "table", .ref tb), (Str.ofString "heap", .ref hp), (Str.ofString "hour", .int hour t)] ∧
        News g L h₅ [(hp, listOf us₃.toArray n₃), (hl, listOf vs₅.toArray k5)] ∧ All2 PT vs₅ (dropP ps' e)) ?_ ?_ (fun _ _ h => h)
      · iterate 4 walk1
        refine tab_method F X (hTg.keeps F.keep) (by k_is) (by k_is) (by k_is) (by decide) ?_
        iterate 5 walk1
        refine wpAny_call (get_c C (fun b o e => F.keep b o (stg b o e)) ?_ ?_ hh (hTg.keeps F.keep) ⟨vs', m2, (N _ (.tail _ (.head _))).1, ha'.mono fun v e p => (hPTg v e p).keeps F.keep⟩ hew hw' ?_)
        · simp only [depth_deeper]; omega
        · simp only [units_deeper]; omega
        intro h₆ tk₆ v kb hv
        obtain ⟨F, N⟩ := back_same F N kb
        dsimp only
        iterate 3 walk1
        refine SB.mul (star_ok hen) ?_
        intro t₇ k₇
        rw [star_mul _ hen]
        have stay : getR ps' e.2.2 ≠ some (star e.2.1) → dropP ps' e = ps' := fun h => if_neg h
        cases hq : getR ps' e.2.2 with
        | none =>
          rw [hq] at hv
          cases hv
          iterate 4 walk1
          refine ⟨rfl, _, _, _, vs', m2, rfl, F, ⟨rfl, rfl, rfl, trivial⟩, N, ?_⟩
          rw [stay (by rw [hq]; simp)]; exact ha'
        | some y =>
          rw [hq] at hv
          obtain ⟨ty, rfl⟩ := hv
          walk1
          dsimp only
          refine wpAny_truthy_bool ?_
          cases hy : y == star e.2.1 with
          | false =>
            rw [if_neg (by simp)]
            walk1
            refine ⟨rfl, _, _, _, vs', m2, rfl, F, ⟨rfl, rfl, rfl, trivial⟩, N, ?_⟩
            rw [stay (by rw [hq]; intro h; cases h; simp at hy)]; exact ha'
          | true =>
            rw [if_pos rfl]
            iterate 6 walk1
            refine tab_del F X (hTg.keeps F.keep) ?_
            refine wpAny_call (delitem_c (P := PT) C (fun b o e => F.keep b o (stg b o e)) ?_ ?_ hh (hTg.keeps F.keep) (fun v e p => (hPTg v e p).keeps F.keep) ⟨vs', m2, (N _ (.tail _ (.head _))).1, ha'⟩ hnl hew hw' (by omega) ?_)
            · simp only [depth_deeper]; omega
            · simp only [units_deeper]; omega
            rintro h₈ tk₈ kb ⟨vs₈, n₈, hl₈, ha₈⟩
            obtain ⟨F, N⟩ := back_upd F N (Upd.tail hne (Upd.head (by simp))) kb hl₈
            dsimp only
            iterate 2 walk1
            refine ⟨rfl, _, _, _, vs₈, n₈, rfl, F, ⟨rfl, rfl, rfl, trivial⟩, N, ?_⟩
            unfold dropP
            rw [if_pos (by rw [hq, eq_of_beq hy])]
            exact ha₈
      · rintro f s' ⟨rfl, h₅, tk₅, m₅, vs₅, k5, rfl, F, hm₅, N, ha₅⟩
        dsimp only
        walk1
        have hdl : ∀ p ∈ dropP ps' e, p ∈ ps' := fun p hp => by
          unfold dropP at hp
          split at hp
          · exact (List.mem_filter.mp hp).1
          · exact hp
        have hdn : (dropP ps' e).length ≤ ps'.length := by
          unfold dropP
          split
          · exact List.length_filter_le _ _
          · exact Nat.le_refl _
        have hpm := hpop_perm (lt := ltE) ini z
        have hsub : ∀ x ∈ (hpop ltE ini z).2, x ∈ ini ++ [z] := fun x hx => hpm.subset (.tail _ hx)
        have hnd₂ : ((hpop ltE ini z).2.map (·.2.1)).Nodup := by
          have := (hpm.map (·.2.1)).nodup_iff.mpr hnd'
          rw [List.map_cons] at this
          exact (List.nodup_cons.mp this).2
        refine ⟨_, _, _, _, (hpop ltE ini z).2.length, rfl, F, N, ?_, (hpop ltE ini z).2, dropP ps' e, us₃, vs₅, n₃, k5, rfl, rfl, hu₃, ha₅, hm₅, fun p hp => hw' p (hdl p hp), fun x hx => hwe' x (hsub x hx), hnd₂, by omega, ?_, ?_⟩
        · rw [hpop_length, List.length_append, List.length_singleton]; omega
        · rw [hpop_length]; simp at hz2'; omega
        · rw [← htgt, sweep_yes (by rw [he]; exact hle), he]
    · rw [if_neg (by simpa using hle)]
      iterate 3 walk1
      exact fin (sweep_no (by rw [he]; exact hle)) _ _ _ F N
end Mine
end
section
open PySem PySem.W PyProof.Rows PySem.Calls
set_option Elab.async false
set_option linter.unusedVariables false
set_option maxRecDepth 100000
namespace Mine
/-- the heap emptied: what leaves, in order -/
def emptyP : Nat → List Ent3 → List (Str × Str) → List (Str × Str) → List (Str × Str)
  | 0, _, _, acc => acc
  | q + 1, es, ps, acc => match popE es with
    | some (e, es') => if getR ps e.2.2 = some (star e.2.1) then emptyP q es' (delR ps e.2.2) (acc ++ [(e.2.2, star e.2.1)]) else emptyP q es' ps acc
    | none => acc
theorem empty_step {ini : List Ent3} {z : Ent3} {ps acc : List (Str × Str)} : emptyP (ini ++ [z]).length (ini ++ [z]) ps acc =
    if getR ps (hpop ltE ini z).1.2.2 = some (star (hpop ltE ini z).1.2.1) then emptyP (hpop ltE ini z).2.length (hpop ltE ini z).2 (delR ps (hpop ltE ini z).1.2.2) (acc ++ [((hpop ltE ini z).1.2.2, star (hpop ltE ini z).1.2.1)])
    else emptyP (hpop ltE ini z).2.length (hpop ltE ini z).2 ps acc := by
  rw [hpop_length, List.length_append, List.length_singleton]
  conv => lhs; unfold emptyP
  rw [popE_snoc]
theorem funFrames_keeps {h g base : Heap} : ∀ {l : List Env}, h.FunFrames base l → (∀ b ∈ l.filterMap (·.frame), ∀ o, h.get? b = some o → g.get? b = some o) → g.FunFrames base l
  | [], _, _ => trivial
  | env :: rest, ⟨hk, ⟨L, o, hf, hn, ho, hd⟩, hr⟩, k => ⟨hk, ⟨L, o, hf, hn, k L (List.mem_filterMap.mpr ⟨env, .head _, hf⟩) o ho, hd⟩, funFrames_keeps hr fun b hb => k b (by
      obtain ⟨e, he, hf⟩ := List.mem_filterMap.mp hb
      exact List.mem_filterMap.mpr ⟨e, .tail _ he, hf⟩)⟩
/-- a pair that stands in the ledger -/
def InL (tl : List (Addr × Obj)) (v : Value) (p : Str × Str) : Prop := ∃ a t1 t2 k, v = .ref a ∧ (a, tupOf #[.str p.1 t1, .str p.2 t2] k) ∈ tl
theorem InL.more {tl tl' : List (Addr × Obj)} {v : Value} {p : Str × Str} (h : InL tl v p) (hs : ∀ q ∈ tl, q ∈ tl') : InL tl' v p :=
  let ⟨a, t1, t2, k, e1, e2⟩ := h; ⟨a, t1, t2, k, e1, hs _ e2⟩
theorem newTuple_my {M : Model} {A : Around} {E : Value → Shared → Prop} {s : Shared} {h₀ : Heap} {L : Addr} {m : Str → Option Value} {news : List (Addr × Obj)} {vs : List Value} {Q : Value → Shared → Prop} (F : Fr h₀ L s.heap m) (N : News h₀ L s.heap news)
    (h : ∀ a h', Fr h₀ L h' m → News h₀ L h' ((a, tupOf vs.toArray 0) :: news) → (∀ p ∈ news, p.1 ≠ a) → Q (.ref a) { s with heap := h' }) (hsz : vs.length ≤ 100) : wpAny M A (newTuple vs) Q E s :=
  newTuple_N F N (fun h' F' N' => h _ h' F' N' fun p hp => Nat.ne_of_lt (Heap.lt_size (N p hp).1)) (by rw [sizeLine_eq]; omega)
theorem newList_my {M : Model} {A : Around} {E : Value → Shared → Prop} {s : Shared} {h₀ : Heap} {L : Addr} {m : Str → Option Value} {news : List (Addr × Obj)} {vs : List Value} {Q : Value → Shared → Prop} (F : Fr h₀ L s.heap m) (N : News h₀ L s.heap news)
    (h : ∀ a h', Fr h₀ L h' m → News h₀ L h' ((a, listOf vs.toArray 0) :: news) → (∀ p ∈ news, p.1 ≠ a) → Q (.ref a) { s with heap := h' }) (hsz : vs.length ≤ 100) : wpAny M A (newList vs) Q E s :=
  newList_N F N (fun h' F' N' => h _ h' F' N' fun p hp => Nat.ne_of_lt (Heap.lt_size (N p hp).1)) (by rw [sizeLine_eq]; omega)
set_option maxHeartbeats 4000000 in
theorem emptied_c {prog : Program} {w : World} {A : Around} {mg mb : Str → Option Value} {mean : ExcName → Option Value} {base : Heap} {s : Shared} {R : Result → Shared → Prop} {PT : Value → Str × Str → Prop} {PE : Value → Ent3 → Prop} {outer : List Env} {tb hl hp : Addr} {ps : List (Str × Str)} {es : List Ent3}
    (C : Cx w mg mb mean base) (st : base.StaysIn s.heap) (hroom : A.depth < 870) (hun : A.units < 70) (hh : A.handled = none) (hfr : A.frames = some outer) (hff : s.heap.FunFrames base outer) (hdc : KtsDicts (outer.filterMap (·.frame)) s.heap)
    (hT : TbAt s.heap tb hl) (hPT : ∀ v e, PT v e → Pair s.heap v e) (hPE : ∀ v e, PE v e → Ent s.heap v e)
    (hps : LstP PT s.heap hl ps) (hes : LstP PE s.heap hp es) (hnl : base.get? hl = none) (hnp : base.get? hp = none) (hne : hp ≠ hl) (hw : ∀ p ∈ ps, p.1 ∈ theWords) (hwe : ∀ e ∈ es, e.2.2 ∈ theWords ∧ e.2.1 < 16) (hnd : (es.map (·.2.1)).Nodup) (hz : ps.length < 2 ^ 19) (hz2 : es.length < 2 ^ 18)
    (k : ∀ h' tk D lv n tl, KeepsBut (hp :: hl :: outer.filterMap (·.frame)) s.heap h' → (∀ b ∈ outer.filterMap (·.frame), ∀ o, s.heap.get? b = some o → ∃ sl, h'.get? b = some { o with slots := sl }) →
      h'.get? D = some (listOf lv.toArray n) → All2 (InL tl) lv (emptyP es.length es ps []) → (∀ p ∈ tl, s.heap.get? p.1 = none ∧ h'.get? p.1 = some p.2) → s.heap.get? D = none → R (.ok (.ret (.ref D))) { s with heap := h', toks := tk }) :
    codeAny (model prog w) A (.call (.ref 224) ⟨[.ref tb, .ref hp], []⟩) R s := by
  obtain ⟨vs, n, hl', ha⟩ := hps
  obtain ⟨us, n2, hp', hu⟩ := hes
  refine enter_def (K := hd.heap_39 w.params) (binds := [(Str.ofString "table", .ref tb), (Str.ofString "heap", .ref hp)]) [(hp, listOf us.toArray n2), (hl, listOf vs.toArray n)]
    (List.forall_mem_cons.mpr ⟨hp', List.forall_mem_singleton.mpr hl'⟩) (List.forall_mem_cons.mpr ⟨hnp, List.forall_mem_singleton.mpr hnl⟩) (C.T.nolimit.keeps st) (C.K.keeps st) st (by k_is) (by k_is) (by unfold recursionLimit; omega) (by exact BindsTo.of_eq rfl) (by exact locs rfl) ?_
  intro g L h₁ hg stg F N
  have X := C.K.keeps stg
  have T := C.T.keeps stg
  have hTg : TbAt g tb hl := hT.keepsBut2 hg hp' hl'
  have hPTg : ∀ v e, PT v e → Pair g v e := fun v e p => (hPT v e p).keepsBut hg (lists_no_tuple hp' hl')
  have hPEg : ∀ v e, PE v e → Ent g v e := fun v e p => (hPE v e p).keepsBut hg (lists_no_tuple hp' hl')
  have hfg : ∀ b ∈ outer.filterMap (·.frame), ∀ o, s.heap.get? b = some o → g.get? b = some o := fun b hb o e => hg b o (fun hm => by
    obtain ⟨o', es', n', ho', hd'⟩ := hdc b hb
    rcases List.mem_cons.mp hm with rfl | hm
    · rw [hp'] at ho'; cases ho'; cases hd'
    · rw [List.mem_singleton.mp hm, hl'] at ho'; cases ho'; cases hd') e
  have B : Below A base outer g := ⟨hfr, stg, funFrames_keeps hff hfg⟩
  have hdg : KtsDicts (outer.filterMap (·.frame)) g := fun b hb => by
    obtain ⟨o', es', n', ho', hd'⟩ := hdc b hb
    exact ⟨o', es', n', hfg b hb _ ho', hd'⟩
  refine wpAny_noRaise ?_
  iterate 5 walk1
  refine newList_my F N ?_ (by simp)
  intro D h₂ F N hD
  have hDp : hp ≠ D := hD _ (.head _)
  have hDl : hl ≠ D := hD _ (.tail _ (.head _))
  have hDn := (N _ (.head _)).2.2
  replace N : News g L h₂ ((hp, listOf us.toArray n2) :: (hl, listOf vs.toArray n) :: (D, listOf ([] : List Value).toArray 0) :: []) := fun p hp' => N p (by
    rcases List.mem_cons.mp hp' with rfl | hp'
    · exact .tail _ (.head _)
    · rcases List.mem_cons.mp hp' with rfl | hp'
      · exact .tail _ (.tail _ (.head _))
      · rw [List.mem_singleton.mp hp']; exact .head _)
  have hDs : s.heap.get? D = none := fresh_of hg hDn (fun hm => by
    rcases List.mem_cons.mp hm with e | hm
    · exact hDp e.symm
    · exact hDl (List.mem_singleton.mp hm).symm)
  iterate 3 walk1
  rename Fr _ _ _ _ => F
  rename News _ _ _ _ => N
  refine wpAny_mono (Q := fun f s' => f = .next ∧ ∃ (h₅ : Heap) (tk₅ : Nat) (m₅ : Str → Option Value) (vs₅ lv : List Value) (k3 k4 k5 : Nat) (tl : List (Addr × Obj)), s' = { s with heap := h₅, toks := tk₅ } ∧ Fr g L h₅ m₅ ∧ Knows m₅ [(Str.ofString "table", .ref tb), (Str.ofString "heap", .ref hp), (Str.ofString "left", .ref D)] ∧
    News g L h₅ ((hp, listOf ([] : List Value).toArray k3) :: (hl, listOf vs₅.toArray k4) :: (D, listOf lv.toArray k5) :: tl) ∧ All2 (InL tl) lv (emptyP es.length es ps []) ∧ (∀ p ∈ tl, p.1 ≠ hp ∧ p.1 ≠ hl ∧ p.1 ≠ D)) ?_ ?_ (fun _ _ h => h)
  · refine While_inv2 (n₀ := es.length) (fun q m nw => ∃ (es' : List Ent3) (ps' acc : List (Str × Str)) (us' vs' lv : List Value) (m1 m2 m3 : Nat) (tl : List (Addr × Obj)), q = es'.length ∧ nw = (hp, listOf us'.toArray m1) :: (hl, listOf vs'.toArray m2) :: (D, listOf lv.toArray m3) :: tl ∧
      (∀ p ∈ tl, p.1 ≠ hp ∧ p.1 ≠ hl ∧ p.1 ≠ D) ∧ All2 PE us' es' ∧ All2 PT vs' ps' ∧ All2 (InL tl) lv acc ∧
      Knows m [(Str.ofString "table", .ref tb), (Str.ofString "heap", .ref hp), (Str.ofString "left", .ref D)] ∧ (∀ p ∈ ps', p.1 ∈ theWords) ∧ (∀ e ∈ es', e.2.2 ∈ theWords ∧ e.2.1 < 16) ∧ (es'.map (·.2.1)).Nodup ∧ ps'.length < 2 ^ 19 ∧ acc.length + es'.length < 2 ^ 18 ∧
      emptyP es'.length es' ps' acc = emptyP es.length es ps []) F N ?_ ?_ PassesOwn.never
    · exact ⟨es, ps, [], us, vs, [], n2, n, 0, [], rfl, rfl, (fun p hp => nomatch hp), hu, ha, .nil, ⟨rfl, rfl, rfl, trivial⟩, hw, hwe, hnd, hz, by simpa using hz2, rfl⟩
    rintro q m₁ nw h₃ tk₃ F N ⟨es', ps', acc, us', vs', lv, m1, m2, m3, tl, rfl, rfl, htl, hu', ha', hv', hm, hw', hwe', hnd', hz', hz2', htgt⟩
    replace F := fr_known F hm
    iterate 4 walk1
    refine newList_my F N ?_ (by simp)
    intro aN h₄ F N haN
    dsimp only
    refine ne_nil (N _ (.tail _ (.head _))).1 (N _ (.head _)).1 (by simp only [units_deeper]; unfold cLine; omega) ?_
    replace N : News g L _ ((hp, listOf us'.toArray m1) :: (hl, listOf vs'.toArray m2) :: (D, listOf lv.toArray m3) :: tl) := fun p hp => N p (.tail _ hp)
    refine wpAny_truthy_bool ?_
    have hnotl : ∀ x ∈ (hl, listOf vs'.toArray m2) :: (D, listOf lv.toArray m3) :: tl, x.1 ≠ hp := fun x hx => by
      rcases List.mem_cons.mp hx with rfl | hx
      · exact hne.symm
      · rcases List.mem_cons.mp hx with rfl | hx
        · exact hDp.symm
        · exact (htl x hx).1
    rcases List.eq_nil_or_concat es' with rfl | ⟨ini, z, rfl⟩
    · have hu0 := hu'.inv_nil
      subst hu0
      rw [if_neg (by simp)]
      iterate 1 walk1
      · trivial
      exact ⟨_, _, _, vs', lv, m1, m2, m3, tl, rfl, F, ⟨rfl, rfl, rfl, trivial⟩, N, htgt ▸ hv', htl⟩
    · simp only [List.concat_eq_append] at *
      have hune : us' ≠ [] := fun e => by have := hu'.len; rw [e] at this; simp at this
      rw [if_pos (by simpa using hune)]
      have hus : us'.length < 2 ^ 18 := by rw [hu'.len]; omega
      generalize he : (hpop ltE ini z).1 = e
      have hem : e ∈ ini ++ [z] := (hpop_perm (lt := ltE) ini z).subset (by rw [he]; exact .head _)
      obtain ⟨hew, hen⟩ := hwe' e hem
      iterate 9 walk1
      refine wpAny_call (heappop_c (P := PE) C (fun b o e => F.keep b o (stg b o e)) ?_ ?_ (fun v e p => (hPEg v e p).keeps F.keep) ⟨us', m1, (N _ (.head _)).1, hu'⟩ hnp hnd' (by have := hz2'; simp at this; omega) ?_)
      · simp only [depth_deeper]; omega
      · simp only [units_deeper]; omega
      rintro h₅ tk₅ v kb hve ⟨us₃, n₃, hp₃, hu₃⟩
      rw [he] at hve
      obtain ⟨F, N⟩ := back_upd F N (Upd.head hnotl) kb hp₃
      obtain ⟨a, t1, t2, t3, n', rfl, ho⟩ := hPEg _ _ hve
      refine unpackN_ F N ⟨_, F.keep _ _ ho, rfl, _, rfl⟩ hh rfl rfl ?_
      intro h₆ F N
      iterate 12 walk1
      rename Fr _ _ _ _ => F
      rename News _ _ _ _ => N
      dsimp only at *
      refine wpAny_mono (Q := fun f s' => f = .next ∧ ∃ h₅ tk₅ m₅ vs₅ lv₅ k5 k6 tl₅, s' = { s with heap := h₅, toks := tk₅ } ∧ Fr g L h₅ m₅ ∧ Knows m₅ [(Str.ofString "table", .ref tb), (Str.ofString "heap", .ref hp), (Str.ofString "left", .ref D)] ∧
        News g L h₅ ((hp, listOf us₃.toArray n₃) :: (hl, listOf vs₅.toArray k5) :: (D, listOf lv₅.toArray k6) :: tl₅) ∧ (∀ p ∈ tl₅, p.1 ≠ hp ∧ p.1 ≠ hl ∧ p.1 ≠ D) ∧
        ((getR ps' e.2.2 = some (star e.2.1) ∧ All2 PT vs₅ (delR ps' e.2.2) ∧ All2 (InL tl₅) lv₅ (acc ++ [(e.2.2, star e.2.1)])) ∨ (getR ps' e.2.2 ≠ some (star e.2.1) ∧ All2 PT vs₅ ps' ∧ All2 (InL tl₅) lv₅ acc))) ?_ ?_ (fun _ _ h => h)
      · iterate 4 walk1
        refine tab_method F X (hTg.keeps F.keep) (by k_is) (by k_is) (by k_is) (by decide) ?_
        iterate 5 walk1
        refine wpAny_call (get_c C (fun b o e => F.keep b o (stg b o e)) ?_ ?_ hh (hTg.keeps F.keep) ⟨vs', m2, (N _ (.tail _ (.head _))).1, ha'.mono fun v e p => (hPTg v e p).keeps F.keep⟩ hew hw' ?_)
        · simp only [depth_deeper]; omega
        · simp only [units_deeper]; omega
        intro h₆ tk₆ v kb hv
        obtain ⟨F, N⟩ := back_same F N kb
        dsimp only
        iterate 3 walk1
        refine SB.mul (star_ok hen) ?_
        intro t₇ k₇
        rw [star_mul _ hen]
        cases hq : getR ps' e.2.2 with
        | none =>
          rw [hq] at hv
          cases hv
          iterate 4 walk1
          exact ⟨rfl, _, _, _, vs', lv, m2, m3, tl, rfl, F, ⟨rfl, rfl, rfl, trivial⟩, N, htl, .inr ⟨nofun, ha', hv'⟩⟩
        | some y =>
          rw [hq] at hv
          obtain ⟨ty, rfl⟩ := hv
          walk1
          dsimp only
          refine wpAny_truthy_bool ?_
          cases hy : y == star e.2.1 with
          | false =>
            rw [if_neg (by simp)]
            walk1
            exact ⟨rfl, _, _, _, vs', lv, m2, m3, tl, rfl, F, ⟨rfl, rfl, rfl, trivial⟩, N, htl, .inr ⟨fun h => by cases h; simp at hy, ha', hv'⟩⟩
          | true =>
            rw [if_pos rfl]
            iterate 14 walk1
            refine SB.mul (star_ok hen) ?_
            intro t₈ k₈
            rw [star_mul _ hen]
            walk1
            rename Fr _ _ _ _ => F
            rename News _ _ _ _ => N
            refine newTuple_my F N ?_ (by simp)
            intro aT h₉ F N haT
            have aTp : aT ≠ hp := (haT _ (.head _)).symm
            have aTl : aT ≠ hl := (haT _ (.tail _ (.head _))).symm
            have aTD : aT ≠ D := (haT _ (.tail _ (.tail _ (.head _)))).symm
            replace N : News g L h₉ ((hp, listOf us₃.toArray n₃) :: (hl, listOf vs'.toArray m2) :: (D, listOf lv.toArray m3) :: (aT, tupOf #[.str e.2.2 t3, .str (star e.2.1) t₈] 0) :: tl) := fun p hp' => N p (by
              rcases List.mem_cons.mp hp' with rfl | hp'
              · exact .tail _ (.head _)
              · rcases List.mem_cons.mp hp' with rfl | hp'
                · exact .tail _ (.tail _ (.head _))
                · rcases List.mem_cons.mp hp' with rfl | hp'
                  · exact .tail _ (.tail _ (.tail _ (.head _)))
                  · rcases List.mem_cons.mp hp' with rfl | hp'
                    · exact .head _
                    · exact .tail _ (.tail _ (.tail _ (.tail _ hp'))))
            dsimp only
            walk1
            have htl₂ : ∀ p ∈ (aT, tupOf #[.str e.2.2 t3, .str (star e.2.1) t₈] 0) :: tl, p.1 ≠ hp ∧ p.1 ≠ hl ∧ p.1 ≠ D := fun p hp' => by
              rcases List.mem_cons.mp hp' with rfl | hp'
              · exact ⟨aTp, aTl, aTD⟩
              · exact htl p hp'
            have hlvn : lv.length < 2 ^ 19 := by rw [hv'.len]; omega
            refine append_K F N (Upd.tail hDp (Upd.tail hDl (Upd.head fun p hp' => (htl₂ p hp').2.2))) ?_ (by rw [List.size_toArray, sizeLine_eq]; omega)
            intro h₁₀ F N
            rw [List.push_toArray] at N
            dsimp only
            iterate 6 walk1
            rename Fr _ _ _ _ => F
            rename News _ _ _ _ => N
            refine tab_del F X (hTg.keeps F.keep) ?_
            refine wpAny_call (delitem_c (P := PT) C (fun b o e => F.keep b o (stg b o e)) ?_ ?_ hh (hTg.keeps F.keep) (fun v e p => (hPTg v e p).keeps F.keep) ⟨vs', m2, (N _ (.tail _ (.head _))).1, ha'⟩ hnl hew hw' (by omega) ?_)
            · simp only [depth_deeper]; omega
            · simp only [units_deeper]; omega
            rintro h₈ tk₈ kb ⟨vs₈, n₈, hl₈, ha₈⟩
            obtain ⟨F, N⟩ := back_upd F N (Upd.tail hne (Upd.head fun p hp' => by
              rcases List.mem_cons.mp hp' with rfl | hp'
              · exact hDl.symm
              · exact (htl₂ p hp').2.1)) kb hl₈
            dsimp only
            iterate 2 walk1
            refine ⟨rfl, _, _, _, vs₈, _, n₈, _, _, rfl, F, ⟨rfl, rfl, rfl, trivial⟩, N, htl₂, .inl ⟨?_, ha₈, ?_⟩⟩
            · rw [eq_of_beq hy]
            · exact (hv'.mono fun v p hi => hi.more fun q hq => .tail _ hq).append (.cons ⟨aT, _, _, _, rfl, .head _⟩ .nil)
      · rintro f s' ⟨rfl, h₅, tk₅, m₅, vs₅, lv₅, k5, k6, tl₅, rfl, F, hm₅, N, htl₅, hcase⟩
        dsimp only
        walk1
        have hpm := hpop_perm (lt := ltE) ini z
        have hsub : ∀ x ∈ (hpop ltE ini z).2, x ∈ ini ++ [z] := fun x hx => hpm.subset (.tail _ hx)
        have hnd₂ : ((hpop ltE ini z).2.map (·.2.1)).Nodup := by
          have := (hpm.map (·.2.1)).nodup_iff.mpr hnd'
          rw [List.map_cons] at this
          exact (List.nodup_cons.mp this).2
        have hlen := hpop_length (lt := ltE) ini z
        rcases hcase with ⟨hc, h1, h2⟩ | ⟨hc, h1, h2⟩
        · have hdn : (delR ps' e.2.2).length ≤ ps'.length := List.length_filter_le _ _
          refine ⟨_, _, _, _, (hpop ltE ini z).2.length, rfl, F, N, ?_, (hpop ltE ini z).2, delR ps' e.2.2, _, us₃, vs₅, lv₅, n₃, k5, k6, tl₅, rfl, rfl, htl₅, hu₃, h1, h2, hm₅, fun p hp => hw' p (List.mem_filter.mp hp).1, fun x hx => hwe' x (hsub x hx), hnd₂, by omega, ?_, ?_⟩
          · rw [hlen, List.length_append, List.length_singleton]; omega
          · rw [hlen]; simp at hz2' ⊢; omega
          · rw [← htgt, empty_step, he, if_pos hc]
        · refine ⟨_, _, _, _, (hpop ltE ini z).2.length, rfl, F, N, ?_, (hpop ltE ini z).2, ps', _, us₃, vs₅, lv₅, n₃, k5, k6, tl₅, rfl, rfl, htl₅, hu₃, h1, h2, hm₅, hw', fun x hx => hwe' x (hsub x hx), hnd₂, hz', ?_, ?_⟩
          · rw [hlen, List.length_append, List.length_singleton]; omega
          · rw [hlen]; simp at hz2' ⊢; omega
          · rw [← htgt, empty_step, he, if_neg hc]
  · rintro f s' ⟨rfl, h₅, tk₅, m₅, vs₅, lv, k3, k4, k5, tl, rfl, F, hm₅, N, hlv, htl⟩
    replace F := fr_known F hm₅
    dsimp only
    iterate 11 walk1
    refine wpAny_call (code_def B F X N T (Around.frames_deeper hfr) rfl rfl (by k_is) (by k_is) (by simp only [depth_deeper]; unfold recursionLimit; omega) (binds := [(Str.ofString "heap", .ref hp)]) (by exact BindsTo.of_eq rfl) (by exact locs rfl) ?_ (by rfl) (by rfl) (by rfl) (by decide))
    intro g' L' h' FG' F' N' B' X' T'
    dsimp only
    iterate 7 walk1
    refine call_meets PySem.F.slot_list_pop ⟨_, (N' _ (.head _)).1, rfl⟩ PySem.F.entry_list_pop (PySem.F.args_list_pop_1 _) (AutoListH.list_pop_list_0 hp #[] k3 rfl) ⟨(N' _ (.head _)).1, hh, ?_⟩
    intro h₆ tk₆ e hx
    refine leave_newS B' hx F' N' ?_
    intro h₇ RS RN hup
    dsimp only
    refine caught_SN0 RS FG' B hup C.K C.T hdg .refl (by k_is) (by boot_fast) (by decide) PySem.F.isExc_IndexError PySem.F.notTuple_IndexError (by rw [isSubtype_type]; kernel_rfl) ?_ rfl rfl (by decide) PassesOwnAt.never
    intro h₈ g₈ T₈ F N B₈ X₈ P₈ D₈
    iterate 4 walk1
    dsimp only
    refine k _ _ D lv k5 tl (fun b o nb e => F.keep _ _ (T₈.other _ _ (hg b o (fun hm => nb ?_) e) (fun hm => nb (.tail _ (.tail _ hm))))) (fun b hb o e => ?_) (N _ (.tail _ (.tail _ (.head _)))).1 hlv (fun p hi => ⟨?_, (N _ (.tail _ (.tail _ (.tail _ hi)))).1⟩) hDs
    · rcases List.mem_cons.mp hm with rfl | hm
      · exact .head _
      · rw [List.mem_singleton.mp hm]; exact .tail _ (.head _)
    · obtain ⟨sl, hsl⟩ := T₈.frame b o (hfg b hb o e) hb
      exact ⟨sl, F.keep _ _ hsl⟩
    · have hn8 := (N _ (.tail _ (.tail _ (.tail _ hi)))).2.2
      cases q : s.heap.get? p.1 with
      | none => rfl
      | some o =>
        have := hg _ _ (fun hm => by
          rcases List.mem_cons.mp hm with e | hm
          · exact (htl p hi).1 e
          · exact (htl p hi).2.1 (List.mem_singleton.mp hm)) q
        obtain ⟨sl, h8⟩ := T₈.up this
        rw [hn8] at h8; cases h8
end Mine
end
section
open PySem PySem.W PyProof.Rows PySem.Calls
set_option Elab.async false
set_option linter.unusedVariables false
set_option maxRecDepth 100000
namespace Mine
def actP (kind : Int) (x : Str) (i : Nat) (ps : List (Str × Str)) : Option Str × List (Str × Str) :=
  if kind = 1 then (match getR ps x with | some y => (some y, ps) | none => (some (star i), ps ++ [(x, star i)]))
  else if kind = 2 then (none, delR ps x) else (none, delR ps x ++ [(x, star i)])
def pushP (e : Ent3) (es : List Ent3) (ps : List (Str × Str)) : List Ent3 := if getR ps e.2.2 = some (star e.2.1) then sdn ltE e es.length (es ++ [e]) else es
def calledP (kind : Int) (x : Str) (hour fin : Int) (i : Nat) (es : List Ent3) (ps : List (Str × Str)) : Option Str × (List Ent3 × List (Str × Str)) :=
  ((actP kind x i (sweepP hour es.length es ps).2).1,
    sweepP hour (pushP (fin, i, x) (sweepP hour es.length es ps).1 (actP kind x i (sweepP hour es.length es ps).2).2).length (pushP (fin, i, x) (sweepP hour es.length es ps).1 (actP kind x i (sweepP hour es.length es ps).2).2) (actP kind x i (sweepP hour es.length es ps).2).2)
theorem dropP_sub {ps : List (Str × Str)} {e : Ent3} : (dropP ps e).Sublist ps := by
  unfold dropP
  split
  · exact List.filter_sublist
  · exact List.Sublist.refl _
theorem sweepP_sub {hour : Int} : ∀ (q : Nat) (es : List Ent3) (ps : List (Str × Str)), (∀ e ∈ (sweepP hour q es ps).1, e ∈ es) ∧ ((es.map (·.2.1)).Nodup → ((sweepP hour q es ps).1.map (·.2.1)).Nodup) ∧ (sweepP hour q es ps).1.length ≤ es.length ∧ (sweepP hour q es ps).2.Sublist ps
  | 0, es, ps => ⟨fun e h => h, fun h => h, Nat.le_refl _, .refl _⟩
  | q + 1, es, ps => by
    rcases List.eq_nil_or_concat es with rfl | ⟨ini, z, rfl⟩
    · exact ⟨fun e h => h, fun h => h, Nat.le_refl _, .refl _⟩
    · simp only [List.concat_eq_append]
      have h0 : (ini ++ [z]).head? = some (hpop ltE ini z).1 := by cases ini <;> rfl
      unfold sweepP
      rw [h0, popE_snoc]
      dsimp only
      split
      · obtain ⟨a, b, c, d⟩ := sweepP_sub (hour := hour) q (hpop ltE ini z).2 (dropP ps (hpop ltE ini z).1)
        have hpm := hpop_perm (lt := ltE) ini z
        refine ⟨fun e h => hpm.subset (.tail _ (a e h)), fun h => b ?_, ?_, d.trans dropP_sub⟩
        · have := (hpm.map (·.2.1)).nodup_iff.mpr h
          rw [List.map_cons] at this
          exact (List.nodup_cons.mp this).2
        · rw [hpop_length] at c; simp; omega
      · exact ⟨fun e h => h, fun h => h, Nat.le_refl _, .refl _⟩
theorem actP_sub {kind : Int} {x : Str} {i : Nat} {ps : List (Str × Str)} : (∀ p ∈ (actP kind x i ps).2, p ∈ ps ∨ p = (x, star i)) ∧ (actP kind x i ps).2.length ≤ ps.length + 1 := by
  have hd : ∀ p ∈ delR ps x, p ∈ ps := fun p hp => (List.mem_filter.mp hp).1
  have hl : (delR ps x).length ≤ ps.length := List.length_filter_le _ _
  have ap : ∀ l : List (Str × Str), (∀ p ∈ l, p ∈ ps) → ∀ p ∈ l ++ [(x, star i)], p ∈ ps ∨ p = (x, star i) := fun l h p hp => by
    rcases List.mem_append.mp hp with hp | hp
    · exact .inl (h p hp)
    · exact .inr (List.mem_singleton.mp hp)
  unfold actP
  split
  · split
    · exact ⟨fun p h => .inl h, by simp⟩
    · exact ⟨ap ps fun p h => h, by simp⟩
  · split
    · exact ⟨fun p h => .inl (hd p h), by simp; omega⟩
    · exact ⟨ap _ hd, by simp; omega⟩
theorem pushP_sub {e : Ent3} {es : List Ent3} {ps : List (Str × Str)} : (∀ x ∈ pushP e es ps, x ∈ es ∨ x = e) ∧ (((es ++ [e]).map (·.2.1)).Nodup → ((pushP e es ps).map (·.2.1)).Nodup) ∧ (pushP e es ps).length ≤ es.length + 1 := by
  unfold pushP
  split
  · have hp := push_perm (lt := ltE) e es
    refine ⟨fun x h => ?_, fun h => (hp.map (·.2.1)).nodup_iff.mpr h, ?_⟩
    · rcases List.mem_append.mp (hp.subset h) with h | h
      · exact .inl h
      · exact .inr (List.mem_singleton.mp h)
    · rw [hp.length_eq]; simp
  · refine ⟨fun x h => .inl h, fun h => ?_, by omega⟩
    rw [List.map_append] at h
    exact (List.nodup_append.mp h).1
/-- an entry that stands in the ledger -/
def EnL (tl : List (Addr × Obj)) (v : Value) (e : Ent3) : Prop := ∃ a t1 t2 t3 k, v = .ref a ∧ (a, tupOf #[.int e.1 t1, .int (e.2.1 : Int) t2, .str e.2.2 t3] k) ∈ tl
theorem EnL.more {tl tl' : List (Addr × Obj)} {v : Value} {p : Ent3} (h : EnL tl v p) (hs : ∀ q ∈ tl, q ∈ tl') : EnL tl' v p :=
  let ⟨a, t1, t2, t3, k, e1, e2⟩ := h; ⟨a, t1, t2, t3, k, e1, hs _ e2⟩
theorem back_upd2 {g h h' : Heap} {L hp hl : Addr} {m : Str → Option Value} {tl : List (Addr × Obj)} {o o' p p' : Obj} (F : Fr g L h m) (N : News g L h ((hp, o) :: (hl, p) :: tl)) (htl : ∀ x ∈ tl, x.1 ≠ hp ∧ x.1 ≠ hl) (kb : KeepsBut [hp, hl] h h') (h1 : h'.get? hp = some o') (h2 : h'.get? hl = some p') :
    Fr g L h' m ∧ News g L h' ((hp, o') :: (hl, p') :: tl) := by
  have z1 := N _ (.head _)
  have z2 := N _ (.tail _ (.head _))
  refine ⟨fr_keeps F kb (fun hm => ?_) (fun a ha => ?_), fun q hq => ?_⟩
  · rcases List.mem_cons.mp hm with e | hm
    · exact z1.2.1 e.symm
    · exact z2.2.1 (List.mem_singleton.mp hm).symm
  · rcases List.mem_cons.mp ha with rfl | ha
    · exact z1.2.2
    · rw [List.mem_singleton.mp ha]; exact z2.2.2
  · rcases List.mem_cons.mp hq with rfl | hq
    · exact ⟨h1, z1.2⟩
    · rcases List.mem_cons.mp hq with rfl | hq
      · exact ⟨h2, z2.2⟩
      · have P := N q (.tail _ (.tail _ hq))
        exact ⟨kb _ _ (fun hm => by
          rcases List.mem_cons.mp hm with e | hm
          · exact (htl q hq).1 e
          · exact (htl q hq).2 (List.mem_singleton.mp hm)) P.1, P.2⟩
/-- a new thing of a callee's joins the ledger -/
theorem news_join {g h h' : Heap} {L a : Addr} {m : Str → Option Value} {n1 n2 : List (Addr × Obj)} {o : Obj} (F : Fr g L h m) (N : News g L h' (n1 ++ n2)) (ha : h'.get? a = some o) (hn : h.get? a = none) : News g L h' (n1 ++ (a, o) :: n2) := fun p hp => by
  rcases List.mem_append.mp hp with hp | hp
  · exact N p (List.mem_append_left _ hp)
  · rcases List.mem_cons.mp hp with rfl | hp
    · refine ⟨ha, fun e => ?_, ?_⟩
      · obtain ⟨oL, _, _, hoL, _⟩ := F.ns
        dsimp only at e
        rw [e, hoL] at hn; cases hn
      · cases q : g.get? a with
        | none => rfl
        | some o' => have := F.keep _ _ q; rw [hn] at this; cases this
    · exact N p (List.mem_append_right _ hp)
set_option maxHeartbeats 4000000 in
theorem called_c {prog : Program} {w : World} {A : Around} {mg mb : Str → Option Value} {mean : ExcName → Option Value} {base : Heap} {s : Shared} {R : Result → Shared → Prop} {PT : Value → Str × Str → Prop} {PE : Value → Ent3 → Prop} {tb hl hp ca : Addr} {ps : List (Str × Str)} {es : List Ent3} {kind hour fin : Int} {x : Str} {i : Nat} {t t1 t2 t3 t4 : Tok} {nc : Nat}
    (C : Cx w mg mb mean base) (st : base.StaysIn s.heap) (hroom : A.depth < 860) (hun : A.units < 60) (hh : A.handled = none) (hT : TbAt s.heap tb hl) (hPT : ∀ v e, PT v e → Pair s.heap v e) (hPE : ∀ v e, PE v e → Ent s.heap v e)
    (hps : LstP PT s.heap hl ps) (hes : LstP PE s.heap hp es) (hca : s.heap.get? ca = some (tupOf #[.int kind t1, .str x t2, .int hour t3, .int fin t4] nc)) (hnl : base.get? hl = none) (hnp : base.get? hp = none) (hne : hp ≠ hl) (hx : x ∈ theWords) (hi : i < 16) (hw : ∀ p ∈ ps, p.1 ∈ theWords) (hwe : ∀ e ∈ es, e.2.2 ∈ theWords ∧ e.2.1 < i) (hnd : (es.map (·.2.1)).Nodup) (hz : ps.length < 2 ^ 18) (hz2 : es.length < 2 ^ 18)
    (k : ∀ h' tk v fr vs us n n2, KeepsBut [hp, hl] s.heap h' → VIs v (calledP kind x hour fin i es ps).1 → (∀ p ∈ fr, s.heap.get? p.1 = none ∧ h'.get? p.1 = some p.2) →
      h'.get? hl = some (listOf vs.toArray n) → All2 (fun v p => PT v p ∨ InL fr v p) vs (calledP kind x hour fin i es ps).2.2 → h'.get? hp = some (listOf us.toArray n2) → All2 (fun v e => PE v e ∨ EnL fr v e) us (calledP kind x hour fin i es ps).2.1 →
      R (.ok (.ret v)) { s with heap := h', toks := tk }) :
    codeAny (model prog w) A (.call (.ref 231) ⟨[.ref tb, .ref hp, .ref ca, .int (i : Int) t], []⟩) R s := by
  obtain ⟨vs, n, hl', ha⟩ := hps
  obtain ⟨us, n2, hp', hu⟩ := hes
  refine enter_def (K := hd.heap_39 w.params) (binds := [(Str.ofString "table", .ref tb), (Str.ofString "heap", .ref hp), (Str.ofString "call", .ref ca), (Str.ofString "number", .int (i : Int) t)]) [(hp, listOf us.toArray n2), (hl, listOf vs.toArray n)]
    (List.forall_mem_cons.mpr ⟨hp', List.forall_mem_singleton.mpr hl'⟩) (List.forall_mem_cons.mpr ⟨hnp, List.forall_mem_singleton.mpr hnl⟩) (C.T.nolimit.keeps st) (C.K.keeps st) st (by k_is) (by k_is) (by unfold recursionLimit; omega) (by exact BindsTo.of_eq rfl) (by exact locs rfl) ?_
  intro g L h₁ hg stg F N
  have X := C.K.keeps stg
  have T := C.T.keeps stg
  have hTg : TbAt g tb hl := hT.keepsBut2 hg hp' hl'
  have hPTg : ∀ v e, PT v e → Pair g v e := fun v e p => (hPT v e p).keepsBut hg (lists_no_tuple hp' hl')
  have hPEg : ∀ v e, PE v e → Ent g v e := fun v e p => (hPE v e p).keepsBut hg (lists_no_tuple hp' hl')
  have hcag := hg _ _ (fun hm => lists_no_tuple hp' hl' _ hm _ hca rfl) hca
  obtain ⟨w1, w2, w3, w4⟩ := sweepP_sub (hour := hour) es.length es ps
  generalize hS : sweepP hour es.length es ps = S at w1 w2 w3 w4
  obtain ⟨es₁, ps₁⟩ := S
  dsimp only at w1 w2 w3 w4
  have hw₁ : ∀ p ∈ ps₁, p.1 ∈ theWords := fun p h => hw p (w4.subset h)
  have hz₁ : ps₁.length ≤ ps.length := w4.length_le
  have hnn : ((es₁ ++ [(fin, i, x)]).map (·.2.1)).Nodup := by
    rw [List.map_append]
    refine List.nodup_append.mpr ⟨w2 hnd, by simp, fun a ha b hb => ?_⟩
    obtain ⟨e, he, rfl⟩ := List.mem_map.mp ha
    simp at hb
    have := (hwe e (w1 e he)).2
    omega
  refine wpAny_noRaise ?_
  iterate 4 walk1
  refine unpackN_ F N ⟨_, F.keep _ _ hcag, rfl, _, rfl⟩ hh rfl rfl ?_
  intro h₂ F N
  iterate 30 walk1
  rename Fr _ _ _ _ => F
  rename News _ _ _ _ => N
  refine wpAny_call (swept_c (PT := PT) (PE := PE) (es := es) (ps := ps) C (fun b o e => F.keep b o (stg b o e)) ?_ ?_ hh (hTg.keeps F.keep) (fun v e p => (hPTg v e p).keeps F.keep) (fun v e p => (hPEg v e p).keeps F.keep) ⟨vs, n, (N _ (.tail _ (.head _))).1, ha⟩ ⟨us, n2, (N _ (.head _)).1, hu⟩ hnl hnp hne hw (fun e he => ⟨(hwe e he).1, Nat.lt_trans (hwe e he).2 hi⟩) hnd (by omega) (by omega) ?_)
  · simp only [depth_deeper]; omega
  · simp only [units_deeper]; omega
  rw [hS]
  rintro h₃ tk₃ kb ⟨vs₁, n₁, hl₁, ha₁⟩ ⟨us₁, k₁, hp₁, hu₁⟩
  obtain ⟨F, N⟩ := back_upd2 (tl := []) F N (fun x h => nomatch h) kb hp₁ hl₁
  dsimp only
  iterate 1 walk1
  rename Fr _ _ _ _ => F
  rename News _ _ _ _ => N
  have hPA : ∀ (tl : List (Addr × Obj)) (h : Heap), g.StaysIn h → News g L h tl → ∀ v e, (PT v e ∨ InL tl v e) → Pair h v e := fun tl h k N v e p => by
    rcases p with p | ⟨a, t1, t2, m, rfl, p⟩
    · exact (hPTg v e p).keeps k
    · exact ⟨a, t1, t2, m, rfl, (N _ p).1⟩
  have hPB : ∀ (tl : List (Addr × Obj)) (h : Heap), g.StaysIn h → News g L h tl → ∀ v e, (PE v e ∨ EnL tl v e) → Ent h v e := fun tl h k N v e p => by
    rcases p with p | ⟨a, t1, t2, t3, m, rfl, p⟩
    · exact (hPEg v e p).keeps k
    · exact ⟨a, t1, t2, t3, m, rfl, (N _ p).1⟩
  refine wpAny_mono (Q := fun f s' => f = .next ∧ ∃ h₅ tk₅ m₅ av vs₅ k5 tl, s' = { s with heap := h₅, toks := tk₅ } ∧ Fr g L h₅ m₅ ∧ Knows m₅ [(Str.ofString "table", .ref tb), (Str.ofString "heap", .ref hp), (Str.ofString "number", .int (i : Int) t), (Str.ofString "word", .str x t2), (Str.ofString "hour", .int hour t3), (Str.ofString "end", .int fin t4), (Str.ofString "answer", av)] ∧
    VIs av (actP kind x i ps₁).1 ∧ News g L h₅ ((hp, listOf us₁.toArray k₁) :: (hl, listOf vs₅.toArray k5) :: tl) ∧ (∀ p ∈ tl, p.1 ≠ hp ∧ p.1 ≠ hl) ∧ All2 (fun v p => PT v p ∨ InL tl v p) vs₅ (actP kind x i ps₁).2) ?_ ?_ (fun _ _ h => h)
  · iterate 5 walk1
    refine wpAny_truthy_bool ?_
    by_cases hk1 : kind = 1
    · rw [if_pos (by simpa using hk1)]
      iterate 5 walk1
      refine tab_method F X (hTg.keeps F.keep) (by k_is) (by k_is) (by k_is) (by decide) ?_
      iterate 7 walk1
      refine SB.mul (star_ok hi) ?_
      intro t₇ k₇
      rw [star_mul _ hi]
      iterate 2 walk1
      rename Fr _ _ _ _ => F
      rename News _ _ _ _ => N
      refine wpAny_call (setdefault_c (P := PT) (ps := ps₁) C (fun b o e => F.keep b o (stg b o e)) ?_ ?_ hh (hTg.keeps F.keep) (fun v e p => (hPTg v e p).keeps F.keep) ⟨vs₁, n₁, (N _ (.tail _ (.head _))).1, ha₁⟩ hnl hx hw₁ (by omega) hi ?_ ?_)
      · simp only [depth_deeper]; omega
      · simp only [units_deeper]; omega
      · rintro hq h₆ tk₆ kb ⟨vs₆, n₆, a₆, u1, u2, m₆, hl₆, ha₆, hb₆, hc₆⟩
        have F0 := F
        have hap : a₆ ≠ hp := fun e => by rw [e, (N _ (.head _)).1] at hc₆; cases hc₆
        have hal : a₆ ≠ hl := fun e => by rw [e, (N _ (.tail _ (.head _))).1] at hc₆; cases hc₆
        obtain ⟨F, N⟩ := back_upd F N (Upd.tail hne (Upd.head (by simp))) kb hl₆
        replace N := news_join (n1 := [_, _]) (n2 := []) F0 N hb₆ hc₆
        dsimp only
        iterate 3 walk1
        rename Fr _ _ _ _ => F
        rename News _ _ _ _ => N
        refine ⟨rfl, _, _, _, .str (star i) t₇, _, n₆, [(a₆, _)], rfl, F, ⟨rfl, rfl, rfl, rfl, rfl, rfl, rfl, trivial⟩, ?_, N, ?_, ?_⟩
        · unfold actP; rw [if_pos hk1, hq]; exact ⟨_, rfl⟩
        · intro p hp; rw [List.mem_singleton.mp hp]; exact ⟨hap, hal⟩
        · unfold actP; rw [if_pos hk1, hq]
          exact (ha₆.mono fun v p h => .inl h).append (.one (.inr ⟨a₆, _, _, _, rfl, .head _⟩))
      · rintro y hq h₆ tk₆ t₆ kb
        obtain ⟨F, N⟩ := back_same F N kb
        dsimp only
        iterate 3 walk1
        rename Fr _ _ _ _ => F
        rename News _ _ _ _ => N
        refine ⟨rfl, _, _, _, .str y t₆, vs₁, n₁, [], rfl, F, ⟨rfl, rfl, rfl, rfl, rfl, rfl, rfl, trivial⟩, ?_, N, (fun p hp => nomatch hp), ?_⟩
        · unfold actP; rw [if_pos hk1, hq]; exact ⟨_, rfl⟩
        · unfold actP; rw [if_pos hk1, hq]
          exact ha₁.mono fun v p h => .inl h
    · rw [if_neg (by simpa using hk1)]
      iterate 7 walk1
      refine wpAny_truthy_bool ?_
      by_cases hk2 : kind = 2
      · rw [if_pos (by simpa using hk2)]
        iterate 7 walk1
        refine tab_del F X (hTg.keeps F.keep) ?_
        refine wpAny_call (delitem_c (P := PT) (ps := ps₁) C (fun b o e => F.keep b o (stg b o e)) ?_ ?_ hh (hTg.keeps F.keep) (fun v e p => (hPTg v e p).keeps F.keep) ⟨vs₁, n₁, (N _ (.tail _ (.head _))).1, ha₁⟩ hnl hx hw₁ (by omega) ?_)
        · simp only [depth_deeper]; omega
        · simp only [units_deeper]; omega
        rintro h₈ tk₈ kb ⟨vs₈, n₈, hl₈, ha₈⟩
        obtain ⟨F, N⟩ := back_upd F N (Upd.tail hne (Upd.head (by simp))) kb hl₈
        dsimp only
        iterate 3 walk1
        refine ⟨rfl, _, _, _, .none, vs₈, n₈, [], rfl, F, ⟨rfl, rfl, rfl, rfl, rfl, rfl, rfl, trivial⟩, ?_, N, (fun p hp => nomatch hp), ?_⟩
        · unfold actP; rw [if_neg hk1, if_pos hk2]; rfl
        · unfold actP; rw [if_neg hk1, if_pos hk2]
          exact ha₈.mono fun v p h => .inl h
      · rw [if_neg (by simpa using hk2)]
        iterate 6 walk1
        refine SB.mul (star_ok hi) ?_
        intro t₇ k₇
        rw [star_mul _ hi]
        iterate 2 walk1
        rename Fr _ _ _ _ => F
        rename News _ _ _ _ => N
        refine tab_set F X (hTg.keeps F.keep) ?_
        refine wpAny_call (setitem_c (P := PT) (ps := ps₁) C (fun b o e => F.keep b o (stg b o e)) ?_ ?_ hh (hTg.keeps F.keep) (fun v e p => (hPTg v e p).keeps F.keep) ⟨vs₁, n₁, (N _ (.tail _ (.head _))).1, ha₁⟩ hnl hx hw₁ (by omega) hi ?_)
        · simp only [depth_deeper]; omega
        · simp only [units_deeper]; omega
        rintro h₆ tk₆ kb ⟨vs₆, n₆, a₆, u1, u2, m₆, hl₆, ha₆, hb₆, hc₆⟩
        have F0 := F
        have hap : a₆ ≠ hp := fun e => by rw [e, (N _ (.head _)).1] at hc₆; cases hc₆
        have hal : a₆ ≠ hl := fun e => by rw [e, (N _ (.tail _ (.head _))).1] at hc₆; cases hc₆
        obtain ⟨F, N⟩ := back_upd F N (Upd.tail hne (Upd.head (by simp))) kb hl₆
        replace N := news_join (n1 := [_, _]) (n2 := []) F0 N hb₆ hc₆
        dsimp only
        iterate 2 walk1
        refine ⟨rfl, _, _, _, .none, _, n₆, [(a₆, _)], rfl, F, ⟨rfl, rfl, rfl, rfl, rfl, rfl, rfl, trivial⟩, ?_, N, ?_, ?_⟩
        · unfold actP; rw [if_neg hk1, if_neg hk2]; rfl
        · intro p hp; rw [List.mem_singleton.mp hp]; exact ⟨hap, hal⟩
        · unfold actP; rw [if_neg hk1, if_neg hk2]
          exact (ha₆.mono fun v p h => .inl h).append (.one (.inr ⟨a₆, _, _, _, rfl, .head _⟩))
  · rintro f s' ⟨rfl, h₅, tk₅, m₅, av, vs₅, k5, tl, rfl, F, hm₅, hav, N, htl, ha₅⟩
    replace F := fr_known F hm₅
    dsimp only
    iterate 1 walk1
    refine wpAny_mono (Q := fun f s' => f = .next ∧ ∃ h₅ tk₅ m₅ us₅ k6 tl₂, s' = { s with heap := h₅, toks := tk₅ } ∧ Fr g L h₅ m₅ ∧ Knows m₅ [(Str.ofString "table", .ref tb), (Str.ofString "heap", .ref hp), (Str.ofString "hour", .int hour t3), (Str.ofString "answer", av)] ∧
      News g L h₅ ((hp, listOf us₅.toArray k6) :: (hl, listOf vs₅.toArray k5) :: tl₂) ∧ (∀ p ∈ tl₂, p.1 ≠ hp ∧ p.1 ≠ hl) ∧ (∀ q ∈ tl, q ∈ tl₂) ∧ All2 (fun v p => PE v p ∨ EnL tl₂ v p) us₅ (pushP (fin, i, x) es₁ (actP kind x i ps₁).2)) ?_ ?_ (fun _ _ h => h)
    · iterate 4 walk1
      refine tab_method F X (hTg.keeps F.keep) (by k_is) (by k_is) (by k_is) (by decide) ?_
      iterate 5 walk1
      have N₁ : News g L h₅ tl := fun p hp => N p (.tail _ (.tail _ hp))
      have hwa : ∀ p ∈ (actP kind x i ps₁).2, p.1 ∈ theWords := fun p hp => by
        rcases actP_sub.1 p hp with h | rfl
        · exact hw₁ p h
        · exact hx
      refine wpAny_call (get_c (ps := (actP kind x i ps₁).2) C (fun b o e => F.keep b o (stg b o e)) ?_ ?_ hh (hTg.keeps F.keep) ⟨vs₅, k5, (N _ (.tail _ (.head _))).1, ha₅.mono (hPA _ _ F.keep N₁)⟩ hx hwa ?_)
      · simp only [depth_deeper]; omega
      · simp only [units_deeper]; omega
      intro h₆ tk₆ v kb hv
      obtain ⟨F, N⟩ := back_same F N kb
      dsimp only
      iterate 3 walk1
      refine SB.mul (star_ok hi) ?_
      intro t₇ k₇
      rw [star_mul _ hi]
      have stay : getR (actP kind x i ps₁).2 x ≠ some (star i) → pushP (fin, i, x) es₁ (actP kind x i ps₁).2 = es₁ := fun h => if_neg h
      cases hq : getR (actP kind x i ps₁).2 x with
      | none =>
        rw [hq] at hv
        cases hv
        iterate 4 walk1
        refine ⟨rfl, _, _, _, us₁, k₁, tl, rfl, F, ⟨rfl, rfl, rfl, rfl, trivial⟩, N, htl, fun q h => h, ?_⟩
        rw [stay (by rw [hq]; simp)]; exact hu₁.mono fun v p h => .inl h
      | some y =>
        rw [hq] at hv
        obtain ⟨ty, rfl⟩ := hv
        walk1
        dsimp only
        refine wpAny_truthy_bool ?_
        cases hy : y == star i with
        | false =>
          rw [if_neg (by simp)]
          walk1
          refine ⟨rfl, _, _, _, us₁, k₁, tl, rfl, F, ⟨rfl, rfl, rfl, rfl, trivial⟩, N, htl, fun q h => h, ?_⟩
          rw [stay (by rw [hq]; intro h; cases h; simp at hy)]; exact hu₁.mono fun v p h => .inl h
        | true =>
          rw [if_pos rfl]
          iterate 16 walk1
          rename Fr _ _ _ _ => F
          rename News _ _ _ _ => N
          refine newTuple_my F N ?_ (by simp)
          intro aT h₉ F N haT
          have aTp : aT ≠ hp := (haT _ (.head _)).symm
          have aTl : aT ≠ hl := (haT _ (.tail _ (.head _))).symm
          replace N : News g L h₉ ((hp, listOf us₁.toArray k₁) :: (hl, listOf vs₅.toArray k5) :: (aT, tupOf #[.int fin t4, .int (i : Int) t, .str x t2] 0) :: tl) := fun p hp' => N p (by
            rcases List.mem_cons.mp hp' with rfl | hp'
            · exact .tail _ (.head _)
            · rcases List.mem_cons.mp hp' with rfl | hp'
              · exact .tail _ (.tail _ (.head _))
              · rcases List.mem_cons.mp hp' with rfl | hp'
                · exact .head _
                · exact .tail _ (.tail _ (.tail _ hp')))
          dsimp only
          iterate 2 walk1
          rename Fr _ _ _ _ => F
          rename News _ _ _ _ => N
          have htl₂ : ∀ p ∈ (aT, tupOf #[.int fin t4, .int (i : Int) t, .str x t2] 0) :: tl, p.1 ≠ hp ∧ p.1 ≠ hl := fun p hp' => by
            rcases List.mem_cons.mp hp' with rfl | hp'
            · exact ⟨aTp, aTl⟩
            · exact htl p hp'
          have N₂ : News g L h₉ ((aT, tupOf #[.int fin t4, .int (i : Int) t, .str x t2] 0) :: tl) := fun p hp => N p (.tail _ (.tail _ hp))
          refine wpAny_call (heappush_c (P := fun v e => PE v e ∨ EnL ((aT, tupOf #[.int fin t4, .int (i : Int) t, .str x t2] 0) :: tl) v e) (e := (fin, i, x)) (es := es₁) C (fun b o e => F.keep b o (stg b o e)) ?_ ?_ (hPB _ _ F.keep N₂) ⟨us₁, k₁, (N _ (.head _)).1, hu₁.mono fun v p h => .inl h⟩ hnp (.inr ⟨aT, _, _, _, _, rfl, .head _⟩) hnn (by omega) ?_)
          · simp only [depth_deeper]; omega
          · simp only [units_deeper]; omega
          rintro h₈ tk₈ kb ⟨us₈, n₈, hp₈, hu₈⟩
          obtain ⟨F, N⟩ := back_upd F N (Upd.head fun p hp' => by
            rcases List.mem_cons.mp hp' with rfl | hp'
            · exact hne.symm
            · exact (htl₂ p hp').1) kb hp₈
          dsimp only
          iterate 1 walk1
          refine ⟨rfl, _, _, _, us₈, n₈, _, rfl, F, ⟨rfl, rfl, rfl, rfl, trivial⟩, N, htl₂, fun q h => .tail _ h, ?_⟩
          unfold pushP
          rw [if_pos (by rw [hq, eq_of_beq hy])]
          exact hu₈
    · rintro f s' ⟨rfl, h₆, tk₆, m₆, us₆, k6, tl₂, rfl, F, hm₆, N, htl₂, hsub, hu₆⟩
      replace F := fr_known F hm₆
      dsimp only
      iterate 13 walk1
      rename Fr _ _ _ _ => F
      rename News _ _ _ _ => N
      obtain ⟨x1, x2⟩ := actP_sub (kind := kind) (x := x) (i := i) (ps := ps₁)
      obtain ⟨y1, y2, y3⟩ := pushP_sub (e := (fin, i, x)) (es := es₁) (ps := (actP kind x i ps₁).2)
      have N₂ : News g L h₆ tl₂ := fun p hp => N p (.tail _ (.tail _ hp))
      refine wpAny_call (swept_c (PT := fun v p => PT v p ∨ InL tl₂ v p) (PE := fun v p => PE v p ∨ EnL tl₂ v p) (es := pushP (fin, i, x) es₁ (actP kind x i ps₁).2) (ps := (actP kind x i ps₁).2) C (fun b o e => F.keep b o (stg b o e)) ?_ ?_ hh (hTg.keeps F.keep) (hPA _ _ F.keep N₂) (hPB _ _ F.keep N₂) ⟨vs₅, k5, (N _ (.tail _ (.head _))).1, ha₅.mono fun v p h => h.imp_right fun h => h.more hsub⟩ ⟨us₆, k6, (N _ (.head _)).1, hu₆⟩ hnl hnp hne ?_ ?_ (y2 hnn) (by omega) (by omega) ?_)
      · simp only [depth_deeper]; omega
      · simp only [units_deeper]; omega
      · intro p hp
        rcases x1 p hp with h | rfl
        · exact hw₁ p h
        · exact hx
      · intro e he
        rcases y1 e he with h | rfl
        · have := hwe e (w1 e h)
          exact ⟨this.1, by omega⟩
        · exact ⟨hx, hi⟩
      rintro h₇ tk₇ kb ⟨vs₇, n₇, hl₇, ha₇⟩ ⟨us₇, k₇, hp₇, hu₇⟩
      obtain ⟨F, N⟩ := back_upd2 F N htl₂ kb hp₇ hl₇
      dsimp only
      iterate 3 walk1
      dsimp only
      refine k _ _ _ tl₂ vs₇ us₇ n₇ k₇ (keepsBut_of hg F) ?_ (fun p hp => ⟨fresh_of hg (N _ (.tail _ (.tail _ hp))).2.2 (fun hm => ?_), (N _ (.tail _ (.tail _ hp))).1⟩) hl₇ ?_ hp₇ ?_
      · unfold calledP; rw [hS]; exact hav
      · rcases List.mem_cons.mp hm with e | hm
        · exact (htl₂ p hp).1 e
        · exact (htl₂ p hp).2 (List.mem_singleton.mp hm)
      · unfold calledP; rw [hS]; exact ha₇
      · unfold calledP; rw [hS]; exact hu₇
end Mine
end
section
open PySem PySem.W PyProof.Rows PySem.Calls
set_option Elab.async false
set_option linter.unusedVariables false
set_option maxRecDepth 100000
namespace Mine
section
variable {prog : Program} {w : World} {A : Around} {s : Shared} {env : Env} {h₀ : Heap}
/-- a for over a range -/
theorem for_range {Q : Flow → Shared → Prop} {target : Expr} {body : List Stmt} {m : Str → Option Value} {news : List (Addr × Obj)} {r : Addr} {a₀ b₀ c : Int} {t₀ u₀ v₀ : Tok} {n : Nat}
    (hh : A.handled = none) (hr : IsRange s.heap r a₀ b₀ c t₀ u₀ v₀) (hsmall : Builtin.Range.small a₀ b₀ c = true) (hn : Builtin.Range.rangeSize a₀ b₀ c = (n : Int)) (F : Fr h₀ env.locals s.heap m) (N : News h₀ env.locals s.heap news)
    (J : Nat → (Str → Option Value) → List (Addr × Obj) → Prop) (h0 : J 0 m news)
    (step : ∀ i t m₁ news₁ h₁ tk₁ I oI, i < n → J i m₁ news₁ → (∀ p ∈ news₁, p.1 ≠ I) → Fr h₀ env.locals h₁ m₁ → News h₀ env.locals h₁ ((I, oI) :: news₁) →
      wpAny (model prog w) A (letOwnedTupleGo target (.ref I) (.int (a₀ + i * c) t)) (fun _ s₁' => wpAny (model prog w) A (assign target env (.int (a₀ + i * c) t)) (fun _ s₂ => wpAny (model prog w) A (execs body env) (ForPost h₀ env.locals s I oI (J (i + 1)) Q) (fun _ _ => False) s₂) (fun _ _ => False) s₁') (fun _ _ => False) { s with heap := h₁, toks := tk₁ })
    (hR : ∀ h' tk m' news', Fr h₀ env.locals h' m' → News h₀ env.locals h' news' → J n m' news' → Q .next { s with heap := h', toks := tk }) :
    wpAny (model prog w) A (pyIter (.ref r)) (fun it s₂ => codeAny (model prog w) A (.forLoop target it body [] env) (fun r s' => match r with | .ok f => Q f s' | .error e => cameBackBy (model prog w) A env (fun _ _ => False) e s') s₂) (fun _ _ => False) s := by
  obtain ⟨oL, _, _, hoL, _⟩ := id F.ns
  refine wpAny_pyIter_range hr hsmall ?_
  have W : Walks prog w A s.heap.objs.size [s.heap.objs.size] [s.heap.objs.size] n (fun i v => i < n ∧ ∃ t, v = .int (a₀ + i * c) t)
      (fun i h => IsRangeIter h s.heap.objs.size (a₀ + (i : Nat) * c) ((n : Int) - (i : Nat)) c) := (Walks.range hh _ a₀ c n).bound
  refine codeAny_mono (for_walks (Q := Q) (h₀ := h₀) (m := m) (news := news) W (fun b hb => ?_) (fun i h st => ?_) (next_is_new F) (fun e => ?_) (fun p hp e => ?_) (by show IsRangeIter _ _ _ _ _; rw [hn]; simpa using Heap.get?_push_size _ rfl) (F.push _)
    (fun p hp => ⟨Heap.get?_push_of_some _ (N p hp).1, (N p hp).2⟩) J h0 ?_ ?_) ?_
  · exact .inl (List.mem_singleton.mp hb)
  · exact ⟨_, st⟩
  · exact absurd (Heap.lt_size hoL) (e ▸ Nat.lt_irrefl _)
  · exact absurd (Heap.lt_size (N p hp).1) (e ▸ Nat.lt_irrefl _)
  · rintro i v m₁ news₁ h₁ tk₁ oI hi ⟨_, t, rfl⟩ hJ hnI st F₁ N₁
    exact step i t m₁ news₁ h₁ tk₁ _ oI hi hJ hnI F₁ N₁
  · intro h' tk m' news' F' N' hJ
    exact hR h' tk m' news' F' N' hJ
  · intro r s' h
    cases r with
    | ok f => exact h
    | error e => exact h.elim
end
/-- a call of the plan: kind, word, hour, end -/
abbrev Call4 := Int × Str × Int × Int
def CallT (h : Heap) (v : Value) (c : Call4) : Prop := ∃ a t1 t2 t3 t4 n, v = .ref a ∧ h.get? a = some (tupOf #[.int c.1 t1, .str c.2.1 t2, .int c.2.2.1 t3, .int c.2.2.2 t4] n)
theorem CallT.keeps {h h' : Heap} {v : Value} {e : Call4} (k : h.StaysIn h') (x : CallT h v e) : CallT h' v e :=
  let ⟨a, t1, t2, t3, t4, n, e1, e2⟩ := x; ⟨a, t1, t2, t3, t4, n, e1, k _ _ e2⟩
theorem CallT.keepsBut {h h' : Heap} {v : Value} {e : Call4} {as : List Addr} (k : KeepsBut as h h') (na : ∀ a ∈ as, ∀ o, h.get? a = some o → o.cls ≠ .type "tuple") (x : CallT h v e) : CallT h' v e :=
  let ⟨a, t1, t2, t3, t4, n, e1, e2⟩ := x; ⟨a, t1, t2, t3, t4, n, e1, k _ _ (fun hm => na a hm _ e2 rfl) e2⟩
/-- one step of the standing row, from the back -/
def standS (cs : List Call4) (acts : List Bool) (hour : Int) (i : Nat) (st : List Str × List (Str × Str)) : List Str × List (Str × Str) :=
  match cs[i]?, acts[i]? with
  | some c, some true => if Txt.lower c.2.1 ∈ st.1 then st else (st.1 ++ [Txt.lower c.2.1], if c.1 ≠ 2 ∧ c.2.2.2 > hour then (c.2.1, star i) :: st.2 else st.2)
  | _, _ => st
def standGo (cs : List Call4) (acts : List Bool) (hour : Int) : Nat → List Str × List (Str × Str) → List Str × List (Str × Str)
  | 0, st => st
  | n + 1, st => standGo cs acts hour n (standS cs acts hour n st)
def standP (cs : List Call4) (acts : List Bool) (hour : Int) : List (Str × Str) := (standGo cs acts hour acts.length ([], [])).2
def IsStr (v : Value) (x : Str) : Prop := ∃ t, v = .str x t
theorem notIn_seen {prog : Program} {w : World} {A : Around} {E : Value → Shared → Prop} {s : Shared} {Q : Value → Shared → Prop} {a : Addr} {vs : List Value} {n : Nat} {xs : List Str} {y : Str} {t : Tok} (ha : s.heap.get? a = some (listOf vs.toArray n)) (hv : All2 IsStr vs xs)
    (h : Q (.bool (decide (y ∉ xs))) s) : wpAny (model prog w) A (compareOp .NotIn (.str y t) (.ref a)) Q E s := by
  have hstr : ∀ v ∈ vs, ∃ x ∈ xs, IsStr v x := fun v hm => hv.mem_left hm
  refine SeqAt.notIn_listAt (fun v => match v with | .str z _ => z == y | _ => false) ⟨_, ha, rfl, _, rfl⟩ (fun v hm => ?_) ?_
  · obtain ⟨x, _, t', rfl⟩ := hstr v (by simpa using hm)
    exact SeqAt.EqAt.str_str x t' y t
  · have e : (!vs.toArray.any fun v => match v with | .str z _ => z == y | _ => false) = decide (y ∉ xs) := by
      rw [List.any_toArray]
      by_cases hin : y ∈ xs
      · have : (vs.any fun v => match v with | .str z _ => z == y | _ => false) = true := by
          obtain ⟨i, hi⟩ := List.getElem?_of_mem hin
          obtain ⟨v, hv1, t', rfl⟩ := hv.get i _ hi
          exact List.any_eq_true.mpr ⟨_, List.mem_of_getElem? hv1, by simp⟩
        rw [this]; simp [hin]
      · have : (vs.any fun v => match v with | .str z _ => z == y | _ => false) = false := by
          rw [List.any_eq_false]
          intro v hm
          obtain ⟨x, hx, t', rfl⟩ := hstr v hm
          simp
          rintro rfl
          exact hin hx
        rw [this]; simp [hin]
    rw [e]; exact h
theorem add_lists_my {prog : Program} {w : World} {A : Around} {E : Value → Shared → Prop} {s : Shared} {h₀ : Heap} {L : Addr} {m : Str → Option Value} {news : List (Addr × Obj)} {l b : Addr} {vs ws : List Value} {n1 n2 : Nat} {Q : Value → Shared → Prop} (F : Fr h₀ L s.heap m) (N : News h₀ L s.heap news) (hl : s.heap.get? l = some (listOf vs.toArray n1)) (hb : s.heap.get? b = some (listOf ws.toArray n2))
    (h : ∀ a h', Fr h₀ L h' m → News h₀ L h' ((a, listOf (vs ++ ws).toArray 0) :: news) → (∀ p ∈ news, p.1 ≠ a) → Q (.ref a) { s with heap := h' }) (hsz : vs.length + ws.length ≤ 100) : wpAny (model prog w) A (binaryOp .Add (.ref l) (.ref b)) Q E s :=
  add_lists F N ⟨_, hl, rfl, _, rfl⟩ ⟨_, hb, rfl, _, rfl⟩ (fun h' F' N' => h _ h' F' N' fun p hp => Nat.ne_of_lt (Heap.lt_size (N p hp).1)) (by rw [sizeLine_eq]; omega)
set_option maxHeartbeats 4000000 in
theorem standing_c {prog : Program} {w : World} {A : Around} {mg mb : Str → Option Value} {mean : ExcName → Option Value} {base : Heap} {s : Shared} {R : Result → Shared → Prop} {ca aa : Addr} {cs : List Call4} {acts : List Bool} {hour : Int} {t : Tok} {n1 : Nat}
    (C : Cx w mg mb mean base) (st : base.StaysIn s.heap) (hroom : A.depth < 890) (hun : A.units < 90) (hh : A.handled = none)
    (hcs : Lst CallT s.heap ca cs) (haa : s.heap.get? aa = some (listOf (acts.map Value.bool).toArray n1)) (hle : acts.length ≤ cs.length) (hcl : cs.length ≤ 16) (hw : ∀ c ∈ cs, c.2.1 ∈ theWords)
    (k : ∀ h' tk D lv n tl, KeepsBut [] s.heap h' → h'.get? D = some (listOf lv.toArray n) → All2 (InL tl) lv (standP cs acts hour) → (∀ p ∈ tl, s.heap.get? p.1 = none ∧ h'.get? p.1 = some p.2) → s.heap.get? D = none → R (.ok (.ret (.ref D))) { s with heap := h', toks := tk }) :
    codeAny (model prog w) A (.call (.ref 238) ⟨[.ref ca, .ref aa, .int hour t], []⟩) R s := by
  obtain ⟨vs, n, hl', ha⟩ := hcs
  refine enter_def (K := hd.heap_39 w.params) (binds := [(Str.ofString "calls", .ref ca), (Str.ofString "acts", .ref aa), (Str.ofString "hour", .int hour t)]) []
    (fun p hp => nomatch hp) (fun p hp => nomatch hp) (C.T.nolimit.keeps st) (C.K.keeps st) st (by k_is) (by k_is) (by unfold recursionLimit; omega) (by exact BindsTo.of_eq rfl) (by exact locs rfl) ?_
  intro g L h₁ hg stg F N
  have X := C.K.keeps stg
  have T := C.T.keeps stg
  have kg : s.heap.StaysIn g := fun b o e => hg b o (fun hm => nomatch hm) e
  have hlg := kg _ _ hl'
  have hag := kg _ _ haa
  refine wpAny_noRaise ?_
  iterate 5 walk1
  refine newList_my F N ?_ (by simp)
  intro sa h₂ F N hsa
  dsimp only
  iterate 6 walk1
  rename Fr _ _ _ _ => F
  rename News _ _ _ _ => N
  refine newList_my F N ?_ (by simp)
  intro ra h₃ F N hra
  have hsr : sa ≠ ra := hra _ (.head _)
  dsimp only
  iterate 3 walk1
  rename Fr _ _ _ _ => F
  rename News _ _ _ _ => N
  refine wpAny_For ?_
  iterate 11 walk1
  refine Calls.call_len_list (PySem.IsL.isList (n := n1) (F.keep _ _ hag)) (by rw [List.size_toArray, List.length_map]; omega) ?_
  dsimp only
  iterate 12 walk1
  rename Fr _ _ _ _ => F
  rename News _ _ _ _ => N
  rename IsRange _ _ _ _ _ _ _ _ => hr
  dsimp only
  replace N : News g L _ [(sa, listOf ([] : List Value).toArray 0), (ra, listOf ([] : List Value).toArray 0)] := fun p hp => N p (by
    rcases List.mem_cons.mp hp with rfl | hp
    · exact .tail _ (.head _)
    · rw [List.mem_singleton.mp hp]; exact .head _)
  refine for_range (n := acts.length) hh hr (small_down (by omega) (by simp; omega) (by omega) (by omega)) (by rw [rangeSize_downNat]; simp) F N (fun i m nw => ∃ (st : List Str × List (Str × Str)) (svs rvs : List Value) (ra : Addr) (m1 m2 : Nat) (tl : List (Addr × Obj)), nw = (sa, listOf svs.toArray m1) :: (ra, listOf rvs.toArray m2) :: tl ∧ (∀ p ∈ tl, p.1 ≠ sa) ∧ ra ≠ sa ∧
    All2 IsStr svs st.1 ∧ All2 (InL tl) rvs st.2 ∧ Knows m [(Str.ofString "calls", .ref ca), (Str.ofString "acts", .ref aa), (Str.ofString "hour", .int hour t), (Str.ofString "seen", .ref sa), (Str.ofString "row", .ref ra)] ∧ st.1.length ≤ i ∧ st.2.length ≤ i ∧ standGo cs acts hour (acts.length - i) st = standGo cs acts hour acts.length ([], [])) ?_ ?_ ?_
  · exact ⟨([], []), [], [], ra, 0, 0, [], rfl, (fun p hp => nomatch hp), hsr.symm, .nil, .nil, ⟨rfl, rfl, rfl, rfl, rfl, trivial⟩, Nat.le_refl _, Nat.le_refl _, rfl⟩
  · rintro i ti m₁ nw h₅ tk₅ I oI hi ⟨st, svs, rvs, rb, m1, m2, tl, rfl, htl, hrs, hsv, hrv, hm, hs1, hs2, htgt⟩ hnI F N
    replace F := fr_known F hm
    obtain ⟨j, hj⟩ : ∃ j, j = acts.length - 1 - i := ⟨_, rfl⟩
    have hidx : ((acts.map Value.bool).toArray.size : Int) - 1 + (i : Int) * (-1) = (j : Int) := by simp; omega
    rw [hidx]
    obtain ⟨c, hc⟩ : ∃ c, cs[j]? = some c := ⟨cs[j], List.getElem?_eq_getElem (by omega)⟩
    obtain ⟨b, hb⟩ : ∃ b, acts[j]? = some b := ⟨acts[j], List.getElem?_eq_getElem (by omega)⟩
    have hgo : acts.length - i = j + 1 := by omega
    rw [hgo] at htgt
    obtain ⟨v, hv, hvc⟩ := ha.get j _ hc
    obtain ⟨a, u1, u2, u3, u4, nc, rfl, hvo⟩ := hvc
    have hvg := kg _ _ hvo
    have hcw := hw _ (List.mem_of_getElem? hc)
    refine wpAny_pure ?_
    iterate 8 walk1
    rename Fr _ _ _ _ => F
    rename News _ _ _ _ => N
    refine item_L (F.keep _ _ hlg) (by omega) (i := (j : Int)) (v := .ref a) hv (by rw [ha.len]; omega) ?_
    dsimp only
    refine unpackN_ F N ⟨_, F.keep _ _ hvg, rfl, _, rfl⟩ hh rfl rfl ?_
    intro h₆ F N
    iterate 15 walk1
    rename Fr _ _ _ _ => F
    rename News _ _ _ _ => N
    have hIsa : I ≠ sa := (hnI _ (.head _)).symm
    have hIrb : rb ≠ I := hnI _ (.tail _ (.head _))
    have htI : ∀ p ∈ tl, p.1 ≠ sa ∧ p.1 ≠ I := fun p hp => ⟨htl p hp, hnI p (.tail _ (.tail _ hp))⟩
    refine wpAny_mono (Q := fun f s' => f = .next ∧ ∃ h₇ tk₇ m₇ svs₇ rvs₇ rb₇ k1 k2 tl₇, s' = { s with heap := h₇, toks := tk₇ } ∧ Fr g L h₇ m₇ ∧ News g L h₇ ((I, oI) :: (sa, listOf svs₇.toArray k1) :: (rb₇, listOf rvs₇.toArray k2) :: tl₇) ∧ (∀ p ∈ tl₇, p.1 ≠ sa ∧ p.1 ≠ I) ∧ rb₇ ≠ sa ∧ rb₇ ≠ I ∧
      All2 IsStr svs₇ (standS cs acts hour j st).1 ∧ All2 (InL tl₇) rvs₇ (standS cs acts hour j st).2 ∧ Knows m₇ [(Str.ofString "calls", .ref ca), (Str.ofString "acts", .ref aa), (Str.ofString "hour", .int hour t), (Str.ofString "seen", .ref sa), (Str.ofString "row", .ref rb₇)]) ?_ ?_ (fun _ _ h => h)
    · iterate 6 walk1
      have hbv : (acts.map Value.bool)[((j : Int)).toNat]? = some (.bool b) := by simp [hb]
      refine item_L (F.keep _ _ hag) (by omega) (i := (j : Int)) hbv (by simp; omega) ?_
      refine wpAny_truthy_bool ?_
      cases b with
      | false =>
        rw [if_neg (by simp)]
        iterate 2 walk1
        have hst : standS cs acts hour j st = st := by unfold standS; rw [hc, hb]
        refine ⟨rfl, _, _, _, svs, rvs, rb, m1, m2, tl, rfl, F, N, htI, hrs, hIrb, ?_, ?_, ⟨rfl, rfl, rfl, rfl, rfl, trivial⟩⟩
        · rw [hst]; exact hsv
        · rw [hst]; exact hrv
      | true =>
        rw [if_pos rfl]
        iterate 6 walk1
        refine SCL.lower (Nat.le_trans (word_len c.2.1 hcw) (by decide)) fun _ => ?_
        iterate 1 walk1
        refine notIn_seen (N _ (.tail _ (.head _))).1 hsv ?_
        refine wpAny_truthy_bool ?_
        by_cases hin : Txt.lower c.2.1 ∈ st.1
        · rw [if_neg (by simpa using hin)]
          iterate 3 walk1
          have hst : standS cs acts hour j st = st := by unfold standS; rw [hc, hb]; exact if_pos hin
          refine ⟨rfl, _, _, _, svs, rvs, rb, m1, m2, tl, rfl, F, N, htI, hrs, hIrb, ?_, ?_, ⟨rfl, rfl, rfl, rfl, rfl, trivial⟩⟩
          · rw [hst]; exact hsv
          · rw [hst]; exact hrv
        · rw [if_pos (by simpa using hin)]
          iterate 14 walk1
          refine SCL.lower (Nat.le_trans (word_len c.2.1 hcw) (by decide)) fun _ => ?_
          walk1
          rename Fr _ _ _ _ => F
          rename News _ _ _ _ => N
          have hslen : svs.length ≤ 16 := by rw [hsv.len]; omega
          have hrlen : rvs.length ≤ 16 := by rw [hrv.len]; omega
          refine append_K F N (Upd.tail hIsa (Upd.head fun p hp' => by
            rcases List.mem_cons.mp hp' with rfl | hp'
            · exact hrs
            · exact htl p hp')) ?_ (by rw [List.size_toArray, sizeLine_eq]; omega)
          intro h₈ F N
          rw [List.push_toArray] at N
          obtain ⟨svs₂, q₂, hsv₂, N⟩ : ∃ (svs₂ : List Value) (q₂ : Nat), All2 IsStr svs₂ (st.1 ++ [Txt.lower c.2.1]) ∧ News g L h₈ ((I, oI) :: (sa, listOf svs₂.toArray q₂) :: (rb, listOf rvs.toArray m2) :: tl) := ⟨_, _, hsv.append (.one ⟨_, rfl⟩), N⟩
          have hst : standS cs acts hour j st = (st.1 ++ [Txt.lower c.2.1], if c.1 ≠ 2 ∧ c.2.2.2 > hour then (c.2.1, star j) :: st.2 else st.2) := by unfold standS; rw [hc, hb]; exact if_neg hin
          dsimp only
          iterate 8 walk1
          by_cases hk2 : c.1 = 2
          · rw [if_neg (by simpa using hk2)]
            iterate 4 walk1
            refine ⟨rfl, _, _, _, _, rvs, rb, _, m2, tl, rfl, F, N, htI, hrs, hIrb, ?_, ?_, ⟨rfl, rfl, rfl, rfl, rfl, trivial⟩⟩
            · rw [hst]; exact hsv₂
            · rw [hst, if_neg (by simp [hk2])]; exact hrv
          · rw [if_pos (by simpa using hk2)]
            iterate 5 walk1
            refine wpAny_truthy_bool ?_
            by_cases hgt : c.2.2.2 > hour
            · rw [if_pos (by simpa using hgt)]
              have hj16 : j < 16 := by omega
              iterate 15 walk1
              refine SB.mul (star_ok hj16) ?_
              intro t₉ k₉
              rw [star_mul _ hj16]
              walk1
              rename Fr _ _ _ _ => F
              rename News _ _ _ _ => N
              refine newTuple_my F N ?_ (by simp)
              intro aT h₉ F N haT
              dsimp only
              walk1
              rename Fr _ _ _ _ => F
              rename News _ _ _ _ => N
              refine newList_my F N ?_ (by simp)
              intro aN h₁₀ F N haN
              dsimp only
              walk1
              rename Fr _ _ _ _ => F
              rename News _ _ _ _ => N
              refine add_lists_my F N (N _ (.head _)).1 (N _ (.tail _ (.tail _ (.tail _ (.tail _ (.head _)))))).1 ?_ (by simp; omega)
              intro aR h₁₁ F N haR
              dsimp only
              iterate 4 walk1
              rename Fr _ _ _ _ => F
              rename News _ _ _ _ => N
              refine ⟨rfl, _, _, _, svs₂, Value.ref aT :: rvs, aR, q₂, 0, (aT, tupOf #[.str c.2.1 u2, .str (star j) t₉] 0) :: tl, rfl, F, fun p hp => N p ?_, ?_, ?_, ?_, ?_, ?_, ⟨rfl, rfl, rfl, rfl, rfl, trivial⟩⟩
              · rcases List.mem_cons.mp hp with rfl | hp
                · exact .tail _ (.tail _ (.tail _ (.head _)))
                · rcases List.mem_cons.mp hp with rfl | hp
                  · exact .tail _ (.tail _ (.tail _ (.tail _ (.head _))))
                  · rcases List.mem_cons.mp hp with rfl | hp
                    · exact .head _
                    · rcases List.mem_cons.mp hp with rfl | hp
                      · exact .tail _ (.tail _ (.head _))
                      · exact .tail _ (.tail _ (.tail _ (.tail _ (.tail _ (.tail _ hp)))))
              · intro p hp
                rcases List.mem_cons.mp hp with rfl | hp
                · exact ⟨(haT _ (.tail _ (.head _))).symm, (haT _ (.head _)).symm⟩
                · exact htI p hp
              · exact (haR _ (.tail _ (.tail _ (.tail _ (.head _))))).symm
              · exact (haR _ (.tail _ (.tail _ (.head _)))).symm
              · rw [hst]; exact hsv₂
              · rw [hst, if_pos ⟨hk2, hgt⟩]
                exact .cons ⟨aT, _, _, _, rfl, .head _⟩ (hrv.mono fun v p hi => hi.more fun q hq => .tail _ hq)
            · rw [if_neg (by simpa using hgt)]
              iterate 4 walk1
              refine ⟨rfl, _, _, _, _, rvs, rb, _, m2, tl, rfl, F, N, htI, hrs, hIrb, ?_, ?_, ⟨rfl, rfl, rfl, rfl, rfl, trivial⟩⟩
              · rw [hst]; exact hsv₂
              · rw [hst, if_neg (by simp [hgt])]; exact hrv
    · rintro f s' ⟨rfl, h₇, tk₇, m₇, svs₇, rvs₇, rb₇, k1, k2, tl₇, rfl, F, N, htl₇, hrs₇, hrI₇, hsv₇, hrv₇, hm₇⟩
      have hl1 : (standS cs acts hour j st).1.length ≤ st.1.length + 1 ∧ (standS cs acts hour j st).2.length ≤ st.2.length + 1 := by
        unfold standS
        split
        · split
          · omega
          · refine ⟨by simp, ?_⟩
            dsimp only
            split <;> simp
        · omega
      dsimp only
      walk1
      refine ⟨_, _, _, _, rfl, F, N, ?_, _, svs₇, rvs₇, rb₇, k1, k2, tl₇, rfl, fun p hp => (htl₇ p hp).1, hrs₇, hsv₇, hrv₇, hm₇, by omega, by omega, ?_⟩
      · intro p hp
        rcases List.mem_cons.mp hp with rfl | hp
        · exact hIsa.symm
        · rcases List.mem_cons.mp hp with rfl | hp
          · exact hrI₇
          · exact (htl₇ p hp).2
      · rw [← htgt, show acts.length - (i + 1) = j by omega]; rfl
  · rintro h₅ tk₅ m₅ nw F N ⟨st, svs, rvs, rb, m1, m2, tl, rfl, htl, hrs, hsv, hrv, hm, hs1, hs2, htgt⟩
    replace F := fr_known F hm
    dsimp only
    iterate 3 walk1
    rw [Nat.sub_self] at htgt
    refine k _ _ rb rvs m2 tl (keepsBut_of hg F) (N _ (.tail _ (.head _))).1 ?_ (fun p hp => ⟨fresh_of hg (N _ (.tail _ (.tail _ hp))).2.2 (fun hm => nomatch hm), (N _ (.tail _ (.tail _ hp))).1⟩) (fresh_of hg (N _ (.tail _ (.head _))).2.2 (fun hm => nomatch hm))
    unfold standP
    rw [← htgt]
    exact hrv
end Mine
end
section
open PySem PySem.W PyProof.Rows PySem.Calls
set_option Elab.async false
set_option linter.unusedVariables false
set_option maxRecDepth 100000
namespace Mine
section
variable {prog : Program} {w : World} {A : Around} {s : Shared} {env : Env} {h₀ : Heap}
theorem for_walksP {Q : Flow → Shared → Prop} {target : Expr} {body : List Stmt} {I : Addr} {fp : List Addr} {n : Nat} {P : Nat → Value → Prop} {St : Nat → Heap → Prop} {m : Str → Option Value}
    {news pins : List (Addr × Obj)} (W : Walks prog w A I fp [I] n P St) (hfp : ∀ b ∈ fp, b = I ∨ ∃ o, (b, o) ∈ pins) (hob : ∀ i h, St i h → ∃ o, h.get? I = some o) (hI : h₀.get? I = none) (hIL : I ≠ env.locals)
    (hnI : ∀ p ∈ news, p.1 ≠ I) (hst : St 0 s.heap) (F : Fr h₀ env.locals s.heap m) (N : News h₀ env.locals s.heap news)
    (J : Nat → (Str → Option Value) → List (Addr × Obj) → Prop) (hpin : ∀ i m nw, J i m nw → ∀ p ∈ pins, p ∈ nw) (h0 : J 0 m news)
    (step : ∀ i v m₁ news₁ h₁ tk₁ oI, i < n → P i v → J i m₁ news₁ → (∀ p ∈ news₁, p.1 ≠ I) → St (i + 1) h₁ → Fr h₀ env.locals h₁ m₁ → News h₀ env.locals h₁ ((I, oI) :: news₁) →
      wpAny (model prog w) A (letOwnedTupleGo target (.ref I) v) (fun _ s₁' => wpAny (model prog w) A (assign target env v) (fun _ s₂ => wpAny (model prog w) A (execs body env) (ForPost h₀ env.locals s I oI (J (i + 1)) Q) (fun _ _ => False) s₂) (fun _ _ => False) s₁') (fun _ _ => False) { s with heap := h₁, toks := tk₁ })
    (hR : ∀ h' tk m' news', Fr h₀ env.locals h' m' → News h₀ env.locals h' news' → J n m' news' → Q .next { s with heap := h', toks := tk }) :
    codeAny (model prog w) A (.forLoop target (.ref I) body [] env) (fun r s' => match r with | .ok f => Q f s' | .error _ => False) s := by
  have old : ∀ b o, h₀.get? b = some o → b ∉ [I] := fun b o e hb => by rw [List.mem_singleton.mp hb, hI] at e; cases e
  refine codeAny_forLoop_any
    (fun k s' => ∃ h' tk m' news' i, s' = { s with heap := h', toks := tk } ∧ St i h' ∧ Fr h₀ env.locals h' m' ∧ News h₀ env.locals h' news' ∧ (∀ p ∈ news', p.1 ≠ I) ∧ J i m' news' ∧ i ≤ n ∧ k = n + 1 - i) ?_ (n + 1)
    ⟨s.heap, s.toks, m, news, 0, rfl, hst, F, N, hnI, h0, Nat.zero_le _, rfl⟩
  rintro k s' ⟨h', tk, m', news', i, rfl, hst', F', N', hnI', hJ, hi, rfl⟩
  have next : ∀ h₁ : Heap, (∀ b o, b ∉ [I] → h'.get? b = some o → h₁.get? b = some o) → Fr h₀ env.locals h₁ m' ∧ News h₀ env.locals h₁ news' := fun h₁ hk₁ =>
    ⟨⟨F'.ns.at' fun o e => hk₁ _ o (fun hm => hIL (List.mem_singleton.mp hm).symm) e, fun b o e => hk₁ b o (old b o e) (F'.keep b o e), F'.above⟩, fun p hp => ⟨hk₁ _ _ (fun hm => hnI' p hp (List.mem_singleton.mp hm)) (N' p hp).1, (N' p hp).2⟩⟩
  by_cases hlt : i < n
  · refine W.item i _ _ _ hlt hst' fun v h₁ tk₁ hP hst₁ hk₁ => ?_
    obtain ⟨F₁, N₁⟩ := next h₁ hk₁
    obtain ⟨oI, hoI⟩ := hob _ _ hst₁
    have N₂ : News h₀ env.locals h₁ ((I, oI) :: news') := fun p hp => by
      rcases List.mem_cons.mp hp with rfl | hp
      · exact ⟨hoI, hIL, hI⟩
      · exact N₁ p hp
    refine wpAny_mono (step i v m' news' h₁ tk₁ oI hlt hP hJ hnI' hst₁ F₁ N₂) (fun _ s₁' h₁' => ?_) fun _ _ e => e.elim
    refine wpAny_mono h₁' (fun _ s₂ h₂ => wpAny_mono h₂ (fun f s₃ h₃ => ?_) fun _ _ e => e.elim) fun _ _ e => e.elim
    have fin : (∃ h' tk m₂ news₂, s₃ = { s with heap := h', toks := tk } ∧ Fr h₀ env.locals h' m₂ ∧ News h₀ env.locals h' ((I, oI) :: news₂) ∧ (∀ p ∈ news₂, p.1 ≠ I) ∧ J (i + 1) m₂ news₂) →
        ∃ k', k' < n + 1 - i ∧ ∃ h' tk m' news' j, s₃ = { s with heap := h', toks := tk } ∧ St j h' ∧ Fr h₀ env.locals h' m' ∧ News h₀ env.locals h' news' ∧ (∀ p ∈ news', p.1 ≠ I) ∧ J j m' news' ∧ j ≤ n ∧ k' = n + 1 - j := by
      rintro ⟨h₃', tk₃, m₂, news₂, rfl, F₃, N₃, ha₃, hJ₃⟩
      refine ⟨n + 1 - (i + 1), by omega, h₃', tk₃, m₂, news₂, i + 1, rfl, W.frame _ _ _ hst₁ (fun b hb o e => ?_), F₃, fun p hp => N₃ p (.tail _ hp), ha₃, hJ₃, hlt, rfl⟩
      rcases hfp b hb with rfl | ⟨o₀, hn⟩
      · have : o = oI := by rw [hoI] at e; exact (Option.some.inj e).symm
        rw [this]; exact (N₃ _ (.head _)).1
      · have : o₀ = o := by have := (N₁ _ (hpin _ _ _ hJ _ hn)).1; dsimp only at this; rw [e] at this; exact (Option.some.inj this).symm
        exact this ▸ (N₃ _ (.tail _ (hpin _ _ _ hJ₃ _ hn))).1
    cases f with
    | next => exact fin h₃
    | cont => exact fin h₃
    | brk => exact h₃
    | ret v => exact h₃
  · have hin : i = n := by omega
    subst hin
    refine W.done _ _ _ hst' fun h₁ tk₁ hk₁ => wpAny_execs_nil ?_
    obtain ⟨F₁, N₁⟩ := next h₁ hk₁
    exact hR h₁ tk₁ m' news' F₁ N₁ hJ
/-- a for over a list of the ledger that the loop leaves alone -/
theorem for_listP {Q : Flow → Shared → Prop} {target : Expr} {body : List Stmt} {m : Str → Option Value} {news : List (Addr × Obj)} {l : Addr} {vs : List Value} {n : Nat}
    (hh : A.handled = none) (hl : (l, listOf vs.toArray n) ∈ news) (F : Fr h₀ env.locals s.heap m) (N : News h₀ env.locals s.heap news)
    (J : Nat → (Str → Option Value) → List (Addr × Obj) → Prop) (hpin : ∀ i m nw, J i m nw → (l, listOf vs.toArray n) ∈ nw) (h0 : J 0 m news)
    (step : ∀ i v m₁ news₁ h₁ tk₁ I oI, vs[i]? = some v → J i m₁ news₁ → (∀ p ∈ news₁, p.1 ≠ I) → h₁.IsListIter I l (i + 1) → Fr h₀ env.locals h₁ m₁ → News h₀ env.locals h₁ ((I, oI) :: news₁) →
      wpAny (model prog w) A (letOwnedTupleGo target (.ref I) v) (fun _ s₁' => wpAny (model prog w) A (assign target env v) (fun _ s₂ => wpAny (model prog w) A (execs body env) (ForPost h₀ env.locals s I oI (J (i + 1)) Q) (fun _ _ => False) s₂) (fun _ _ => False) s₁') (fun _ _ => False) { s with heap := h₁, toks := tk₁ })
    (hR : ∀ h' tk m' news', Fr h₀ env.locals h' m' → News h₀ env.locals h' news' → J vs.length m' news' → Q .next { s with heap := h', toks := tk }) :
    wpAny (model prog w) A (pyIter (.ref l)) (fun it s₂ => codeAny (model prog w) A (.forLoop target it body [] env) (fun r s' => match r with | .ok f => Q f s' | .error e => cameBackBy (model prog w) A env (fun _ _ => False) e s') s₂) (fun _ _ => False) s := by
  have hls : s.heap.get? l = some (listOf vs.toArray n) := (N _ hl).1
  have hlL : s.heap.IsList l vs.toArray := ⟨_, hls, rfl, _, rfl⟩
  have hne : l ≠ s.heap.objs.size := Nat.ne_of_lt (Heap.lt_size hls)
  obtain ⟨oL, _, _, hoL, _⟩ := id F.ns
  refine wpAny_pyIter_list hlL ?_
  have W := Walks.list (prog := prog) (w := w) hh s.heap.objs.size l hne vs.toArray
  refine codeAny_mono (for_walksP (Q := Q) (h₀ := h₀) (m := m) (news := news) (pins := [(l, listOf vs.toArray n)]) W (fun b hb => ?_) (fun i h st => ?_) (next_is_new F) (fun e => ?_) (fun p hp e => ?_) ⟨⟨_, Heap.get?_push_size _ rfl, rfl, rfl⟩, hlL.at fun o e => Heap.get?_push_of_some _ e⟩ (F.push _)
    (fun p hp => ⟨Heap.get?_push_of_some _ (N p hp).1, (N p hp).2⟩) J (fun i m nw hJ p hp => by rw [List.mem_singleton.mp hp]; exact hpin i m nw hJ) h0 ?_ ?_) ?_
  · rcases List.mem_cons.mp hb with rfl | hb
    · exact .inl rfl
    · rw [List.mem_singleton.mp hb]; exact .inr ⟨_, .head _⟩
  · obtain ⟨⟨o, ho, _⟩, _⟩ := st
    exact ⟨o, ho⟩
  · exact absurd (Heap.lt_size hoL) (e ▸ Nat.lt_irrefl _)
  · exact absurd (Heap.lt_size (N p hp).1) (e ▸ Nat.lt_irrefl _)
  · intro i v m₁ news₁ h₁ tk₁ oI _ hP hJ hnI st F₁ N₁
    exact step i v m₁ news₁ h₁ tk₁ _ oI (by simpa using hP) hJ hnI st.1 F₁ N₁
  · intro h' tk m' news' F' N' hJ
    exact hR h' tk m' news' F' N' (by simpa using hJ)
  · intro r s' h
    cases r with
    | ok f => exact h
    | error e => exact h.elim
end
theorem slice_upto7 {prog : Program} {w : World} {A : Around} {E : Value → Shared → Prop} {s : Shared} {h₀ : Heap} {L : Addr} {m : Str → Option Value} {news : List (Addr × Obj)} {l sl : Addr} {vs : List Value} {t : Tok} {Q : Value → Shared → Prop} {value : Expr} {c pos} (F : Fr h₀ L s.heap m) (N : News h₀ L s.heap news) (hl : s.heap.IsList l vs.toArray) (hs : s.heap.IsSliceOf sl .none (.int 7 t) .none) (hz : vs.length ≤ 63)
    (h : ∀ a h', Fr h₀ L h' m → News h₀ L h' ((a, listOf (vs.take 7).toArray 0) :: news) → (∀ p ∈ news, p.1 ≠ a) → Q (.ref a) { s with heap := h' }) :
    wpAny (model prog w) A (subscriptTail value (Expr.Slice none (some c) none pos) (.ref l) (.ref sl)) Q E s := by
  refine tail_any (ops := [_, _]) hl.typeIs slot_list_getitem.lookup (wpAny_getItem_list_slice hl hs .none (.int 7 t) .none (by simp) ?_ (by rw [List.size_toArray, sizeLine_eq]; omega)) rfl
  rw [show (some (7 : Int)) = some ((7 : Nat) : Int) from rfl, slicePick_upto' vs.toArray 7]
  exact h _ _ (F.push _) (News.push F N _) fun p hp => Nat.ne_of_lt (Heap.lt_size (N p hp).1)
/-- a call that stands in the ledger -/
def CaL (tl : List (Addr × Obj)) (v : Value) (c : Call4) : Prop := ∃ a t1 t2 t3 t4 k, v = .ref a ∧ (a, tupOf #[.int c.1 t1, .str c.2.1 t2, .int c.2.2.1 t3, .int c.2.2.2 t4] k) ∈ tl
theorem CaL.more {tl tl' : List (Addr × Obj)} {v : Value} {p : Call4} (h : CaL tl v p) (hs : ∀ q ∈ tl, q ∈ tl') : CaL tl' v p :=
  let ⟨a, t1, t2, t3, t4, k, e1, e2⟩ := h; ⟨a, t1, t2, t3, t4, k, e1, hs _ e2⟩
def IsInt (v : Value) : Prop := ∃ x t, v = .int x t
theorem base_words : ∀ y ∈ [Str.ofString "a", Str.ofString "b", Str.ofString "ab"], y ∈ theWords ∧ Txt.upper y ∈ theWords := by decide +kernel
theorem pick3 {x : Int} (t1 t2 t3 : Tok) : ∃ y t, [Value.str (Str.ofString "a") t1, Value.str (Str.ofString "b") t2, Value.str (Str.ofString "ab") t3][(x.fmod 3).toNat]? = some (.str y t) ∧ y ∈ [Str.ofString "a", Str.ofString "b", Str.ofString "ab"] := by
  have h0 := Int.fmod_nonneg_of_pos x (b := 3) (by decide)
  have h1 := Int.fmod_lt_of_pos x (b := 3) (by decide)
  obtain ⟨j, hj⟩ : ∃ j, j = (x.fmod 3).toNat := ⟨_, rfl⟩
  rw [← hj]
  have : j < 3 := by omega
  match j, this with
  | 0, _ => exact ⟨_, _, rfl, .head _⟩
  | 1, _ => exact ⟨_, _, rfl, .tail _ (.head _)⟩
  | 2, _ => exact ⟨_, _, rfl, .tail _ (.tail _ (.head _))⟩
set_option maxHeartbeats 4000000 in
theorem calls_c {prog : Program} {w : World} {A : Around} {mg mb : Str → Option Value} {mean : ExcName → Option Value} {base : Heap} {s : Shared} {R : Result → Shared → Prop} {sc : Addr} {vs : List Value}
    (C : Cx w mg mb mean base) (st : base.StaysIn s.heap) (hroom : A.depth < 890) (hun : A.units < 90) (hh : A.handled = none)
    (hsc : s.heap.IsList sc vs.toArray) (hvs : ∀ v ∈ vs, IsInt v) (hlen : vs.length ≤ 63)
    (k : ∀ h' tk D lv n cs, KeepsBut [] s.heap h' → h'.get? D = some (listOf lv.toArray n) → All2 (CallT h') lv cs → s.heap.get? D = none → cs.length ≤ 16 → (∀ c ∈ cs, c.2.1 ∈ theWords ∧ 0 ≤ c.2.2.1) → cs.Pairwise (fun a b => a.2.2.1 ≤ b.2.2.1) → R (.ok (.ret (.ref D))) { s with heap := h', toks := tk }) :
    codeAny (model prog w) A (.call (.ref 210) ⟨[.ref sc], []⟩) R s := by
  refine enter_def (K := hd.heap_39 w.params) (binds := [(Str.ofString "script", .ref sc)]) []
    (fun p hp => nomatch hp) (fun p hp => nomatch hp) (C.T.nolimit.keeps st) (C.K.keeps st) st (by k_is) (by k_is) (by unfold recursionLimit; omega) (by exact BindsTo.of_eq rfl) (by exact locs rfl) ?_
  intro g L h₁ hg stg F N
  have X := C.K.keeps stg
  have T := C.T.keeps stg
  have kg : s.heap.StaysIn g := fun b o e => hg b o (fun hm => nomatch hm) e
  have hscg : g.IsList sc vs.toArray := hsc.at fun o e => kg _ _ e
  refine wpAny_noRaise ?_
  iterate 5 walk1
  refine newList_my F N ?_ (by simp)
  intro D h₂ F N hD
  dsimp only
  iterate 7 walk1
  rename Fr _ _ _ _ => F
  rename News _ _ _ _ => N
  refine wpAny_For ?_
  iterate 8 walk1
  rename Fr _ _ _ _ => F
  rename News _ _ _ _ => N
  refine slice_upto7 (F.push _) (fun p hp => ⟨Heap.get?_push_of_some _ (N p hp).1, (N p hp).2⟩) (hscg.at fun o e => Heap.get?_push_of_some _ (F.keep _ _ e)) (Heap.IsSliceOf.new ..) (by omega) ?_
  intro b1 h₃ F N hb1
  dsimp only
  iterate 22 walk1
  rename Fr _ _ _ _ => F
  rename News _ _ _ _ => N
  refine newList_my F N ?_ (by simp)
  intro b2 h₄ F N hb2
  dsimp only
  refine add_lists_my F N (N _ (.tail _ (.head _))).1 (N _ (.head _)).1 ?_ (by simp; omega)
  intro lx h₅ F N hlx
  obtain ⟨xs, hxs, hxl, N⟩ : ∃ xs : List Value, (∀ v ∈ xs, IsInt v) ∧ xs.length ≤ 16 ∧ News g L h₅ [(lx, listOf xs.toArray 0), (D, listOf ([] : List Value).toArray 0)] := by
    have NN : News g L h₅ [_, (D, listOf ([] : List Value).toArray 0)] := List.forall_mem_cons.mpr ⟨N _ (.head _), List.forall_mem_singleton.mpr (N _ (.tail _ (.tail _ (.tail _ (.head _)))))⟩
    refine ⟨_, fun v hv => ?_, ?_, NN⟩
    · rcases List.mem_append.mp hv with hv | hv
      · exact hvs v (List.mem_of_mem_take hv)
      · simp only [List.mem_cons, List.not_mem_nil, or_false] at hv
        rcases hv with rfl | rfl | rfl | rfl | rfl | rfl | rfl | rfl | rfl <;> exact ⟨_, _, rfl⟩
    · simp; omega
  have hlD : lx ≠ D := (hlx _ (.tail _ (.tail _ (.head _)))).symm
  refine for_listP hh (.head _) F N (fun i m nw => ∃ (cs : List Call4) (lv : List Value) (m1 : Nat) (hr : Int) (th : Tok) (tl : List (Addr × Obj)), nw = (lx, listOf xs.toArray 0) :: (D, listOf lv.toArray m1) :: tl ∧ (∀ p ∈ tl, p.1 ≠ D) ∧
    All2 (CaL tl) lv cs ∧ cs.length = i ∧ i ≤ xs.length ∧ Knows m [(Str.ofString "calls", .ref D), (Str.ofString "hour", .int hr th)] ∧ (∀ c ∈ cs, (c.2.1 ∈ theWords ∧ 0 ≤ c.2.2.1) ∧ c.2.2.1 ≤ hr) ∧ cs.Pairwise (fun a b => a.2.2.1 ≤ b.2.2.1) ∧ 0 ≤ hr) ?_ ?_ ?_ ?_
  · rintro i m nw ⟨cs, lv, m1, hr, th, tl, rfl, _⟩
    exact .head _
  · exact ⟨[], [], 0, 0, _, [], rfl, (fun p hp => nomatch hp), .nil, rfl, Nat.zero_le _, ⟨rfl, rfl, trivial⟩, (fun c hc => nomatch hc), .nil, Int.le_refl _⟩
  · rintro i v m₁ nw h₆ tk₆ I oI hv ⟨cs, lv, m1, hr, th, tl, rfl, htl, hlv, hcl, hil, hm, hcw, hpw, hr0⟩ hnI hit F N
    replace F := fr_known F hm
    obtain ⟨x, tx, rfl⟩ := hxs v (List.mem_of_getElem? hv)
    refine wpAny_pure ?_
    iterate 27 walk1
    rename Fr _ _ _ _ => F
    rename News _ _ _ _ => N
    refine newList_my F N ?_ (by simp)
    intro wl h₇ F N hwl
    dsimp only
    iterate 7 walk1
    obtain ⟨y, ty, hy, hyb⟩ := pick3 (x := x.fdiv 4) _ _ _
    refine item_L (N _ (.head _)).1 (Int.fmod_nonneg_of_pos _ (by decide)) hy (by simp) ?_
    replace N : News g L h₇ ((I, oI) :: (lx, listOf xs.toArray 0) :: (D, listOf lv.toArray m1) :: tl) := fun p hp => N p (.tail _ hp)
    dsimp only
    iterate 3 walk1
    rename Fr _ _ _ _ => F
    rename News _ _ _ _ => N
    have hge := Int.fmod_nonneg_of_pos (x.fdiv 24) (b := 3) (by decide)
    generalize hH : hr + (x.fdiv 24).fmod 3 = H at F
    have hle : hr ≤ H := by omega
    refine wpAny_mono (Q := fun f s' => f = .next ∧ ∃ h₈ tk₈ m₈ y' ty' tH tx', s' = { s with heap := h₈, toks := tk₈ } ∧ Fr g L h₈ m₈ ∧ News g L h₈ ((I, oI) :: (lx, listOf xs.toArray 0) :: (D, listOf lv.toArray m1) :: tl) ∧ y' ∈ theWords ∧
      Knows m₈ [(Str.ofString "calls", .ref D), (Str.ofString "hour", .int H tH), (Str.ofString "x", .int x tx'), (Str.ofString "word", .str y' ty')]) ?_ ?_ (fun _ _ h => h)
    · iterate 11 walk1
      refine wpAny_truthy_bool ?_
      by_cases hq : (x.fdiv 12).fmod 2 = 1
      · rw [if_pos (by simpa using hq)]
        iterate 7 walk1
        refine SCL.upper (Nat.le_trans (word_len y (base_words y hyb).1) (by decide)) fun _ => ?_
        dsimp only
        iterate 3 walk1
        rename Fr _ _ _ _ => F
        rename News _ _ _ _ => N
        exact ⟨rfl, _, _, _, _, _, _, _, rfl, F, N, (base_words y hyb).2, ⟨rfl, rfl, rfl, rfl, trivial⟩⟩
      · rw [if_neg (by simpa using hq)]
        iterate 2 walk1
        exact ⟨rfl, _, _, _, _, _, _, _, rfl, F, N, (base_words y hyb).1, ⟨rfl, rfl, rfl, rfl, trivial⟩⟩
    rintro f s' ⟨rfl, h₈, tk₈, m₈, y', ty', tH, tx', rfl, F, N, hyw, hm₈⟩
    replace F := fr_known F hm₈
    dsimp only
    iterate 8 walk1
    rename Fr _ _ _ _ => F
    rename News _ _ _ _ => N
    refine wpAny_mono (Q := fun f s' => f = .next ∧ ∃ h₈ tk₈ m₈ la tla tH tx' ty', s' = { s with heap := h₈, toks := tk₈ } ∧ Fr g L h₈ m₈ ∧ News g L h₈ ((I, oI) :: (lx, listOf xs.toArray 0) :: (D, listOf lv.toArray m1) :: tl) ∧
      Knows m₈ [(Str.ofString "calls", .ref D), (Str.ofString "hour", .int H tH), (Str.ofString "x", .int x tx'), (Str.ofString "word", .str y' ty'), (Str.ofString "lasts", .int la tla)]) ?_ ?_ (fun _ _ h => h)
    · iterate 11 walk1
      refine wpAny_truthy_bool ?_
      by_cases hq : (x.fdiv 72).fmod 2 = 1
      · rw [if_pos (by simpa using hq)]
        iterate 9 walk1
        rename Fr _ _ _ _ => F
        rename News _ _ _ _ => N
        exact ⟨rfl, _, _, _, _, _, _, _, _, rfl, F, N, ⟨rfl, rfl, rfl, rfl, rfl, trivial⟩⟩
      · rw [if_neg (by simpa using hq)]
        iterate 2 walk1
        exact ⟨rfl, _, _, _, _, _, _, _, _, rfl, F, N, ⟨rfl, rfl, rfl, rfl, rfl, trivial⟩⟩
    rintro f s' ⟨rfl, h₉, tk₉, m₉, la, tla, tH, tx', ty', rfl, F, N, hm₉⟩
    replace F := fr_known F hm₉
    dsimp only
    iterate 26 walk1
    rename Fr _ _ _ _ => F
    rename News _ _ _ _ => N
    refine newTuple_my F N ?_ (by simp)
    intro aT h₁₀ F N haT
    dsimp only
    walk1
    rename Fr _ _ _ _ => F
    rename News _ _ _ _ => N
    have hlvn : lv.length ≤ 16 := by rw [hlv.len]; omega
    have hxI : ∀ p ∈ (I, oI) :: (lx, listOf xs.toArray 0) :: (D, listOf lv.toArray m1) :: tl, p.1 ≠ aT := haT
    replace N : News g L h₁₀ ((I, oI) :: (lx, listOf xs.toArray 0) :: (D, listOf lv.toArray m1) :: (aT, tupOf #[.int (x.fmod 4) _, .str y' ty', .int H tH, .int (H + la + 1) _] 0) :: tl) := fun p hp => N p (by
      rcases List.mem_cons.mp hp with rfl | hp
      · exact .tail _ (.head _)
      · rcases List.mem_cons.mp hp with rfl | hp
        · exact .tail _ (.tail _ (.head _))
        · rcases List.mem_cons.mp hp with rfl | hp
          · exact .tail _ (.tail _ (.tail _ (.head _)))
          · rcases List.mem_cons.mp hp with rfl | hp
            · exact .head _
            · exact .tail _ (.tail _ (.tail _ (.tail _ hp))))
    have hDI : I ≠ D := (hnI _ (.tail _ (.head _))).symm
    refine append_K F N (Upd.tail hDI (Upd.tail hlD (Upd.head fun p hp => by
      rcases List.mem_cons.mp hp with rfl | hp
      · exact (hxI _ (.tail _ (.tail _ (.head _)))).symm
      · exact htl p hp))) ?_ (by rw [List.size_toArray, sizeLine_eq]; omega)
    intro h₁₁ F N
    rw [List.push_toArray] at N
    dsimp only
    iterate 2 walk1
    refine ⟨_, _, _, _, rfl, F, N, ?_, cs ++ [(x.fmod 4, y', H, H + la + 1)], _, _, H, tH, _, rfl, ?_, ?_, ?_, ?_, ⟨rfl, rfl, trivial⟩, ?_, ?_, by omega⟩
    · intro p hp
      rcases List.mem_cons.mp hp with rfl | hp
      · exact hnI _ (.head _)
      · rcases List.mem_cons.mp hp with rfl | hp
        · exact hDI.symm
        · rcases List.mem_cons.mp hp with rfl | hp
          · exact (hxI _ (.head _)).symm
          · exact hnI _ (.tail _ (.tail _ hp))
    · intro p hp
      rcases List.mem_cons.mp hp with rfl | hp
      · exact (hxI _ (.tail _ (.tail _ (.head _)))).symm
      · exact htl p hp
    · exact (hlv.mono fun v p hi => hi.more fun q hq => .tail _ hq).append (.one ⟨aT, _, _, _, _, _, rfl, .head _⟩)
    · rw [List.length_append, hcl]; rfl
    · have := (List.getElem?_eq_some_iff.mp hv).1; omega
    · intro c hc
      rcases List.mem_append.mp hc with hc | hc
      · exact ⟨(hcw c hc).1, Int.le_trans (hcw c hc).2 hle⟩
      · rw [List.mem_singleton.mp hc]; exact ⟨⟨hyw, by show 0 ≤ H; omega⟩, Int.le_refl _⟩
    · refine List.pairwise_append.mpr ⟨hpw, List.pairwise_singleton _ _, fun a ha b hb => ?_⟩
      rw [List.mem_singleton.mp hb]
      exact Int.le_trans (hcw a ha).2 hle
  · rintro h₆ tk₆ m₆ nw F N ⟨cs, lv, m1, hr, th, tl, rfl, htl, hlv, hcl, hil, hm, hcw, hpw, hr0⟩
    replace F := fr_known F hm
    dsimp only
    iterate 3 walk1
    refine k _ _ D lv m1 cs (keepsBut_of hg F) (N _ (.tail _ (.head _))).1 ?_ (fresh_of hg (N _ (.tail _ (.head _))).2.2 (fun hm => nomatch hm)) (by omega) (fun c hc => (hcw c hc).1) hpw
    exact hlv.mono fun v p ⟨a, t1, t2, t3, t4, k, e1, e2⟩ => ⟨a, t1, t2, t3, t4, k, e1, (N _ (.tail _ (.tail _ e2))).1⟩
end Mine
end
section
open PySem PySem.W PyProof.Rows PySem.Calls
set_option Elab.async false
set_option linter.unusedVariables false
set_option maxRecDepth 100000
namespace Mine
/-! the plain law -/
def toP (e : Ent3) : Str × Str := (e.2.2, star e.2.1)
def lowE (e : Ent3) : Str := Txt.lower e.2.2
theorem star_inj : ∀ i, i < 16 → ∀ j, j < 16 → star i = star j → i = j := by decide +kernel
theorem star_length : ∀ i, i < 16 → (star i).length = i := by decide +kernel
def Fits (cs : List Call4) (e : Ent3) : Prop := ∃ c : Call4, cs[e.2.1]? = some c ∧ e.1 = c.2.2.2 ∧ e.2.2 = c.2.1
theorem Fits.same {cs : List Call4} {e s : Ent3} (h : Fits cs e) (k : Fits cs s) (hn : e.2.1 = s.2.1) : e = s := by
  obtain ⟨c, h1, h2, h3⟩ := h
  obtain ⟨d, k1, k2, k3⟩ := k
  rw [hn, k1] at h1
  cases h1
  obtain ⟨e1, e2, e3⟩ := e
  obtain ⟨s1, s2, s3⟩ := s
  simp at *
  exact ⟨h2.trans k2.symm, hn, h3.trans k3.symm⟩
def Dist (l : List Ent3) : Prop := l.Pairwise fun a b => lowE a ≠ lowE b
theorem Dist.filter {l : List Ent3} (h : Dist l) (q : Ent3 → Bool) : Dist (l.filter q) := List.Pairwise.filter q h
theorem Dist.one {l : List Ent3} (h : Dist l) {a b : Ent3} (ha : a ∈ l) (hb : b ∈ l) (e : lowE a = lowE b) : a = b := by
  induction l with
  | nil => cases ha
  | cons x r ih =>
    have hx := List.pairwise_cons.mp h
    rcases List.mem_cons.mp ha with ha' | ha'
    · rcases List.mem_cons.mp hb with hb' | hb'
      · rw [ha', hb']
      · exact absurd e (ha' ▸ hx.1 b hb')
    · rcases List.mem_cons.mp hb with hb' | hb'
      · exact absurd e.symm (hb' ▸ hx.1 a ha')
      · exact ih hx.2 ha' hb'
/-- what the table answers -/
theorem getR_in {l : List Ent3} (h : Dist l) {a : Ent3} (ha : a ∈ l) {x : Str} (e : lowE a = Txt.lower x) : getR (l.map toP) x = some (star a.2.1) := by
  unfold getR
  cases hf : (l.map toP).find? (fun p => Txt.lower p.1 == Txt.lower x) with
  | none =>
    have := List.find?_eq_none.mp hf (toP a) (List.mem_map_of_mem ha)
    exact absurd (by simpa [lowE, toP] using e) this
  | some p =>
    have h1 := List.mem_of_find?_eq_some hf
    have h2 := List.find?_some hf
    obtain ⟨b, hb, rfl⟩ := List.mem_map.mp h1
    have h3 : Txt.lower (toP b).1 = Txt.lower x := by simpa using h2
    have : b = a := h.one hb ha (h3.trans e.symm)
    rw [this]; rfl
theorem getR_out {l : List Ent3} {x : Str} (h : ∀ a ∈ l, lowE a ≠ Txt.lower x) : getR (l.map toP) x = none := by
  unfold getR
  have : (l.map toP).find? (fun p => Txt.lower p.1 == Txt.lower x) = none := by
    rw [List.find?_eq_none]
    intro p hp
    obtain ⟨b, hb, rfl⟩ := List.mem_map.mp hp
    simpa [lowE, toP] using h b hb
  rw [this]; rfl
theorem delR_map {l : List Ent3} {x : Str} : delR (l.map toP) x = (l.filter fun e => lowE e != Txt.lower x).map toP := by
  unfold delR
  rw [List.filter_map]
  rfl
/-- the rule of the standing row, from the back -/
theorem standGo_gen {cs : List Call4} {acts : List Bool} {hour : Int} : ∀ (n : Nat) (S : List Str) (R : List (Str × Str)),
    (standGo cs acts hour n (S, R)).2 = ((standGo cs acts hour n ([], [])).2.filter fun p => !(S.contains (Txt.lower p.1))) ++ R
  | 0, S, R => by simp [standGo]
  | n + 1, S, R => by
    have ih := standGo_gen (cs := cs) (acts := acts) (hour := hour) n
    unfold standGo
    have key : ∀ (c : Call4), standS cs acts hour n = (fun st => if Txt.lower c.2.1 ∈ st.1 then st else (st.1 ++ [Txt.lower c.2.1], if c.1 ≠ 2 ∧ c.2.2.2 > hour then (c.2.1, star n) :: st.2 else st.2)) →
        (standGo cs acts hour n (standS cs acts hour n (S, R))).2 = ((standGo cs acts hour n (standS cs acts hour n ([], []))).2.filter fun p => !(S.contains (Txt.lower p.1))) ++ R := by
      intro c hc
      rw [hc]
      dsimp only
      rw [if_neg (show ¬ Txt.lower c.2.1 ∈ ([] : List Str) from nofun)]
      rw [List.nil_append]
      by_cases hin : Txt.lower c.2.1 ∈ S
      · rw [if_pos hin, ih S R, ih [Txt.lower c.2.1]]
        rw [List.filter_append, List.filter_filter]
        congr 1
        rw [show ((if c.1 ≠ 2 ∧ c.2.2.2 > hour then [(c.2.1, star n)] else []).filter fun p => !(S.contains (Txt.lower p.1))) = [] by split <;> simp [hin], List.append_nil]
        apply List.filter_congr
        intro p hp
        by_cases h : S.contains (Txt.lower p.1) = true
        · simp only [h]; rfl
        · have h' : S.contains (Txt.lower p.1) = false := by simpa using h
          simp only [h', Bool.not_false, Bool.true_and]
          have : Txt.lower p.1 ≠ Txt.lower c.2.1 := fun e => h (by rw [e]; simpa using hin)
          simp [this]
      · rw [if_neg hin, ih (S ++ [Txt.lower c.2.1]), ih [Txt.lower c.2.1]]
        rw [List.filter_append, List.filter_filter, List.append_assoc]
        congr 1
        · apply List.filter_congr
          intro p hp
          simp
        · split
          · simp [hin]
          · simp
    cases hc : cs[n]? with
    | none =>
      have e : standS cs acts hour n = id := by funext st; unfold standS; rw [hc]; rfl
      rw [e]; exact ih S R
    | some c =>
      cases hb : acts[n]? with
      | none =>
        have e : standS cs acts hour n = id := by funext st; unfold standS; rw [hc, hb]; rfl
        rw [e]; exact ih S R
      | some b =>
        cases b with
        | false =>
          have e : standS cs acts hour n = id := by funext st; unfold standS; rw [hc, hb]; rfl
          rw [e]; exact ih S R
        | true => exact key c (by funext st; unfold standS; rw [hc, hb])
theorem standGo_low {cs : List Call4} {acts : List Bool} {b : Bool} {hour : Int} : ∀ (n : Nat), n ≤ acts.length → ∀ st, standGo cs (acts ++ [b]) hour n st = standGo cs acts hour n st
  | 0, _, _ => rfl
  | n + 1, h, st => by
    unfold standGo
    rw [standGo_low n (by omega)]
    congr 1
    unfold standS
    rw [List.getElem?_append_left (by omega)]
theorem standP_snoc {cs : List Call4} {acts : List Bool} {b : Bool} {hour : Int} {c : Call4} (hc : cs[acts.length]? = some c) :
    standP cs (acts ++ [b]) hour = if b = true then delR (standP cs acts hour) c.2.1 ++ (if c.1 ≠ 2 ∧ c.2.2.2 > hour then [(c.2.1, star acts.length)] else []) else standP cs acts hour := by
  unfold standP
  rw [List.length_append, List.length_singleton]
  show (standGo cs (acts ++ [b]) hour acts.length (standS cs (acts ++ [b]) hour acts.length ([], []))).2 = _
  rw [standGo_low _ (Nat.le_refl _)]
  have hb : (acts ++ [b])[acts.length]? = some b := by simp
  unfold standS
  rw [hc, hb]
  cases b with
  | false => rfl
  | true =>
    dsimp only
    rw [if_neg (show ¬ Txt.lower c.2.1 ∈ ([] : List Str) from nofun), standGo_gen, if_pos rfl]
    congr 1
    unfold delR
    apply List.filter_congr
    intro p hp
    rw [Bool.eq_iff_iff]
    simp [bne]
theorem ltE_false {a b : Ent3} (h : ltE a b = false) : b.1 ≤ a.1 := by
  unfold ltE ltB keyOf at h
  simp only [decide_eq_false_iff_not] at h
  omega
/-- the sweep -/
structure SW (st es : List Ent3) : Prop where
  dist : Dist st
  sub : ∀ s ∈ st, s ∈ es
  same : ∀ e ∈ es, ∀ s ∈ st, e.2.1 = s.2.1 → e = s
  num : ∀ e ∈ es, e.2.1 < 16
  heap : IsH ltE es
theorem drop_map {st es : List Ent3} (h : SW st es) {e : Ent3} (he : e ∈ es) : dropP (st.map toP) e = (st.filter fun s => s != e).map toP := by
  unfold dropP
  by_cases hm : e ∈ st
  · rw [if_pos (getR_in h.dist hm rfl), delR_map]
    congr 1
    apply List.filter_congr
    intro s hs
    rw [Bool.eq_iff_iff]
    simp only [bne_iff_ne]
    exact ⟨fun k e' => k (by rw [e']; rfl), fun k e' => k (h.dist.one hs hm e')⟩
  · have hall : (st.filter fun s => s != e) = st := List.filter_eq_self.mpr fun s hs => by simp; rintro rfl; exact hm hs
    rw [hall, if_neg]
    intro hg
    by_cases hx : ∃ s ∈ st, lowE s = Txt.lower e.2.2
    · obtain ⟨s, hs, hl⟩ := hx
      rw [getR_in h.dist hs hl] at hg
      have := star_inj _ (h.num s (h.sub s hs)) _ (h.num e he) (Option.some.inj hg)
      exact hm (h.same e he s hs this.symm ▸ hs)
    · rw [getR_out fun a ha e' => hx ⟨a, ha, e'⟩] at hg
      cases hg
theorem SW.pop {st : List Ent3} {ini : List Ent3} {z : Ent3} (h : SW st (ini ++ [z])) : SW (st.filter fun s => s != (hpop ltE ini z).1) (hpop ltE ini z).2 where
  dist := h.dist.filter _
  sub := fun s hs => by
    obtain ⟨h1, h2⟩ := List.mem_filter.mp hs
    have := (hpop_perm (lt := ltE) ini z).symm.subset (h.sub s h1)
    rcases List.mem_cons.mp this with e | e
    · simp [e] at h2
    · exact e
  same := fun e he s hs => h.same e ((hpop_perm (lt := ltE) ini z).subset (.tail _ he)) s (List.mem_filter.mp hs).1
  num := fun e he => h.num e ((hpop_perm (lt := ltE) ini z).subset (.tail _ he))
  heap := hpop_heap ordE ini z h.heap
theorem sweep_spec {H : Int} : ∀ (q : Nat) (es st : List Ent3), es.length ≤ q → SW st es →
    (sweepP H q es (st.map toP)).2 = (st.filter fun e => decide (e.1 > H)).map toP ∧ SW (st.filter fun e => decide (e.1 > H)) (sweepP H q es (st.map toP)).1 := by
  intro q
  induction q with
  | zero =>
    intro es st hl h
    have : es = [] := List.length_eq_zero_iff.mp (Nat.le_zero.mp hl)
    subst this
    have hst : st = [] := by
      cases st with
      | nil => rfl
      | cons x r => exact absurd (h.sub x (.head _)) nofun
    subst hst
    exact ⟨rfl, h⟩
  | succ q ih =>
    intro es st hl h
    rcases List.eq_nil_or_concat es with rfl | ⟨ini, z, rfl⟩
    · have hst : st = [] := by
        cases st with
        | nil => rfl
        | cons x r => exact absurd (h.sub x (.head _)) nofun
      subst hst
      exact ⟨rfl, h⟩
    · simp only [List.concat_eq_append] at *
      have h0 : (ini ++ [z]).head? = some (hpop ltE ini z).1 := by cases ini <;> rfl
      have hpm := hpop_perm (lt := ltE) ini z
      have hin : (hpop ltE ini z).1 ∈ ini ++ [z] := hpm.subset (.head _)
      unfold sweepP
      rw [h0, popE_snoc]
      dsimp only
      by_cases hle : (hpop ltE ini z).1.1 ≤ H
      · rw [if_pos hle, drop_map h hin]
        obtain ⟨a, b⟩ := ih (hpop ltE ini z).2 _ (by rw [hpop_length]; simp at hl; omega) h.pop
        have hf : ((st.filter fun s => s != (hpop ltE ini z).1).filter fun e => decide (e.1 > H)) = st.filter fun e => decide (e.1 > H) := by
          rw [List.filter_filter]
          apply List.filter_congr
          intro s hs
          by_cases hs' : s = (hpop ltE ini z).1
          · rw [hs']; simp; omega
          · simp [hs']
        rw [hf] at a b
        exact ⟨a, b⟩
      · rw [if_neg hle]
        have hall : (st.filter fun e => decide (e.1 > H)) = st := by
          refine List.filter_eq_self.mpr fun s hs => ?_
          have := ltE_false (hpop_min ordE ini z h.heap s (h.sub s hs))
          show decide (s.1 > H) = true
          rw [decide_eq_true_eq]
          omega
        rw [hall]
        exact ⟨rfl, h⟩
/-- what stands after i calls -/
structure Inv (cs : List Call4) (i : Nat) (acts : List Bool) (live es : List Ent3) (ps : List (Str × Str)) (H : Int) : Prop where
  alen : acts.length = i
  stand : ∀ H', standP cs acts H' = (live.filter fun e => decide (e.1 > H')).map toP
  fitL : ∀ e ∈ live, Fits cs e ∧ e.2.1 < i
  fitE : ∀ e ∈ es, Fits cs e ∧ e.2.1 < i
  dist : Dist live
  nd : (es.map (·.2.1)).Nodup
  heap : IsH ltE es
  cover : ∀ s ∈ live, s.1 > H → s ∈ es
  pseq : ps = (live.filter fun e => decide (e.1 > H)).map toP
  elen : es.length ≤ i
  llen : live.length ≤ i
theorem Inv.zero {cs : List Call4} {H : Int} : Inv cs 0 [] [] [] [] H where
  alen := rfl
  stand := fun H' => rfl
  fitL := fun e h => nomatch h
  fitE := fun e h => nomatch h
  dist := .nil
  nd := .nil
  heap := fun i a b _ h => by simp at h
  cover := fun s h => nomatch h
  pseq := rfl
  elen := Nat.le_refl _
  llen := Nat.le_refl _
theorem Inv.sw {cs : List Call4} {i : Nat} {acts : List Bool} {live es : List Ent3} {ps : List (Str × Str)} {H : Int} (h : Inv cs i acts live es ps H) (hi : i ≤ 16) : SW (live.filter fun e => decide (e.1 > H)) es where
  dist := h.dist.filter _
  sub := fun s hs => h.cover s (List.mem_filter.mp hs).1 (by simpa using (List.mem_filter.mp hs).2)
  same := fun e he s hs hn => (h.fitE e he).1.same (h.fitL s (List.mem_filter.mp hs).1).1 hn
  num := fun e he => by have := (h.fitE e he).2; omega
  heap := h.heap
def aheadP (cs : List Call4) (acts : List Bool) (hour : Int) (x : Str) : List Str := ((standP cs acts hour).filter fun p => Txt.lower p.1 == Txt.lower x).map (·.2)
def actB (kind : Int) (ahead : List Str) : Bool := decide (kind ≠ 1 ∨ ahead = [])
def dueP (kind : Int) (ahead : List Str) (i : Nat) : Option Str := if kind = 1 then (ahead ++ [star i])[0]? else none
def liveS (c : Call4) (i : Nat) (b : Bool) (live : List Ent3) : List Ent3 :=
  if b = true then (live.filter fun e => lowE e != Txt.lower c.2.1) ++ (if c.1 ≠ 2 then [(c.2.2.2, i, c.2.1)] else []) else live
theorem filter_hours {l : List Ent3} {H H' : Int} (h : H ≤ H') : ((l.filter fun e => decide (e.1 > H)).filter fun e => decide (e.1 > H')) = l.filter fun e => decide (e.1 > H') := by
  rw [List.filter_filter]
  apply List.filter_congr
  intro e he
  rw [Bool.eq_iff_iff]
  simp
  omega
theorem filter_comm {l : List Ent3} {p q : Ent3 → Bool} : (l.filter p).filter q = (l.filter q).filter p := by
  rw [List.filter_filter, List.filter_filter]
  apply List.filter_congr
  intro e he
  exact Bool.and_comm _ _
theorem SW.filter {st es : List Ent3} (h : SW st es) (q : Ent3 → Bool) : SW (st.filter q) es where
  dist := h.dist.filter q
  sub := fun s hs => h.sub s (List.mem_filter.mp hs).1
  same := fun e he s hs => h.same e he s (List.mem_filter.mp hs).1
  num := h.num
  heap := h.heap
theorem Dist.put {l : List Ent3} (h : Dist l) (fin : Int) (i : Nat) (x : Str) : Dist ((l.filter fun e => lowE e != Txt.lower x) ++ [(fin, i, x)]) := by
  refine List.pairwise_append.mpr ⟨h.filter _, List.pairwise_singleton _ _, fun a ha b hb => ?_⟩
  rw [List.mem_singleton.mp hb]
  have := (List.mem_filter.mp ha).2
  simpa [lowE] using this
theorem Inv.fin {cs : List Call4} {i : Nat} {acts' : List Bool} {live' es₂ st₂ : List Ent3} {hour : Int} (alen : acts'.length = i + 1) (stand : ∀ H', standP cs acts' H' = (live'.filter fun e => decide (e.1 > H')).map toP)
    (fitL : ∀ e ∈ live', Fits cs e ∧ e.2.1 < i + 1) (fitE : ∀ e ∈ es₂, Fits cs e ∧ e.2.1 < i + 1) (dist : Dist live') (nd : (es₂.map (·.2.1)).Nodup) (sw : SW st₂ es₂) (hf : (live'.filter fun e => decide (e.1 > hour)) = st₂.filter fun e => decide (e.1 > hour))
    (elen : es₂.length ≤ i + 1) (llen : live'.length ≤ i + 1) : Inv cs (i + 1) acts' live' (sweepP hour es₂.length es₂ (st₂.map toP)).1 (sweepP hour es₂.length es₂ (st₂.map toP)).2 hour := by
  obtain ⟨a, b⟩ := sweep_spec (H := hour) es₂.length es₂ st₂ (Nat.le_refl _) sw
  obtain ⟨w1, w2, w3, _⟩ := sweepP_sub (hour := hour) es₂.length es₂ (st₂.map toP)
  exact {
    alen := alen
    stand := stand
    fitL := fitL
    fitE := fun e he => fitE e (w1 e he)
    dist := dist
    nd := w2 nd
    heap := b.heap
    cover := fun s hs hgt => b.sub s (hf ▸ List.mem_filter.mpr ⟨hs, by simpa using hgt⟩)
    pseq := by rw [a, hf]
    elen := Nat.le_trans w3 elen
    llen := llen }
theorem liveS_stand {cs : List Call4} {acts : List Bool} {live : List Ent3} {c : Call4} {b : Bool} (hc : cs[acts.length]? = some c) (h : ∀ H', standP cs acts H' = (live.filter fun e => decide (e.1 > H')).map toP) (H' : Int) :
    standP cs (acts ++ [b]) H' = ((liveS c acts.length b live).filter fun e => decide (e.1 > H')).map toP := by
  rw [standP_snoc hc]
  unfold liveS
  cases b with
  | false => exact h H'
  | true =>
    rw [if_pos rfl, if_pos rfl, h H', delR_map, List.filter_append, List.map_append, filter_comm]
    congr 1
    by_cases h2 : c.1 = 2
    · simp [h2]
    · by_cases h3 : c.2.2.2 > H'
      · rw [if_pos ⟨h2, h3⟩, if_pos h2]
        simp [h3, toP]
      · rw [if_neg (fun k => h3 k.2), if_pos h2]
        simp [h3]
theorem Inv.step {cs : List Call4} {i : Nat} {acts : List Bool} {live es : List Ent3} {ps : List (Str × Str)} {H : Int} (h : Inv cs i acts live es ps H) {c : Call4} (hc : cs[i]? = some c) (hH : H ≤ c.2.2.1) (hi : i < 16) :
    (calledP c.1 c.2.1 c.2.2.1 c.2.2.2 i es ps).1 = dueP c.1 (aheadP cs acts c.2.2.1 c.2.1) i ∧
    Inv cs (i + 1) (acts ++ [actB c.1 (aheadP cs acts c.2.2.1 c.2.1)]) (liveS c i (actB c.1 (aheadP cs acts c.2.2.1 c.2.1)) live) (calledP c.1 c.2.1 c.2.2.1 c.2.2.2 i es ps).2.1 (calledP c.1 c.2.1 c.2.2.1 c.2.2.2 i es ps).2.2 c.2.2.1 := by
  have hal := h.alen
  have stand' := fun b => liveS_stand (b := b) (by rw [hal]; exact hc) h.stand
  rw [hal] at stand'
  obtain ⟨kind, x, hour, fin⟩ := c
  dsimp only at *
  have sw0 := h.sw (by omega)
  obtain ⟨a1, b1⟩ := sweep_spec (H := hour) es.length es _ (Nat.le_refl _) sw0
  obtain ⟨w1, w2, w3, _⟩ := sweepP_sub (hour := hour) es.length es ps
  rw [← h.pseq] at a1 b1
  rw [filter_hours hH] at a1 b1
  unfold calledP
  generalize sweepP hour es.length es ps = S at a1 b1 w1 w2 w3
  obtain ⟨es₁, ps₁⟩ := S
  dsimp only at *
  subst a1
  have hah : aheadP cs acts hour x = ((live.filter fun e => decide (e.1 > hour)).filter fun e => lowE e == Txt.lower x).map fun e => star e.2.1 := by
    unfold aheadP
    rw [h.stand hour, List.filter_map, List.map_map]
    rfl
  generalize hst : (live.filter fun e => decide (e.1 > hour)) = st at *
  have fitS : ∀ s ∈ st, Fits cs s ∧ s.2.1 < i := fun s hs => h.fitL s (by rw [← hst] at hs; exact (List.mem_filter.mp hs).1)
  have stF : (st.filter fun e => decide (e.1 > hour)) = st := by rw [← hst, filter_hours (Int.le_refl _)]
  have nd₁ := w2 h.nd
  have fitE₁ : ∀ e ∈ es₁, Fits cs e ∧ e.2.1 < i := fun e he => h.fitE e (w1 e he)
  have nn : ((es₁ ++ [(fin, i, x)]).map (·.2.1)).Nodup := by
    rw [List.map_append]
    refine List.nodup_append.mpr ⟨nd₁, by simp, fun a ha b hb => ?_⟩
    obtain ⟨e, he, rfl⟩ := List.mem_map.mp ha
    simp at hb
    have := (fitE₁ e he).2
    omega
  have hnew : Fits cs (fin, i, x) := ⟨_, hc, rfl, rfl⟩
  have elen := h.elen
  have llen := h.llen
  -- the three ways
  have put : ∀ b, b = true → kind ≠ 2 → getR ((st.filter fun e => lowE e != Txt.lower x).map toP ++ [(x, star i)]) x = some (star i) ∧
      Inv cs (i + 1) (acts ++ [b]) (liveS (kind, x, hour, fin) i b live) (sweepP hour (sdn ltE (fin, i, x) es₁.length (es₁ ++ [(fin, i, x)])).length (sdn ltE (fin, i, x) es₁.length (es₁ ++ [(fin, i, x)])) ((st.filter fun e => lowE e != Txt.lower x).map toP ++ [(x, star i)])).1
        (sweepP hour (sdn ltE (fin, i, x) es₁.length (es₁ ++ [(fin, i, x)])).length (sdn ltE (fin, i, x) es₁.length (es₁ ++ [(fin, i, x)])) ((st.filter fun e => lowE e != Txt.lower x).map toP ++ [(x, star i)])).2 hour := by
    intro b hb h2
    have e1 : (st.filter fun e => lowE e != Txt.lower x).map toP ++ [(x, star i)] = ((st.filter fun e => lowE e != Txt.lower x) ++ [(fin, i, x)]).map toP := by rw [List.map_append]; rfl
    have hd := b1.dist.put fin i x
    rw [e1]
    refine ⟨getR_in hd (List.mem_append_right _ (.head _)) rfl, ?_⟩
    have hpm := push_perm (lt := ltE) (fin, i, x) es₁
    have fitE₂ : ∀ e ∈ sdn ltE (fin, i, x) es₁.length (es₁ ++ [(fin, i, x)]), Fits cs e ∧ e.2.1 < i + 1 := fun e he => by
      rcases List.mem_append.mp (hpm.subset he) with he | he
      · exact ⟨(fitE₁ e he).1, by have := (fitE₁ e he).2; omega⟩
      · rw [List.mem_singleton.mp he]; exact ⟨hnew, Nat.lt_succ_self _⟩
    have hl' : liveS (kind, x, hour, fin) i b live = (live.filter fun e => lowE e != Txt.lower x) ++ [(fin, i, x)] := by
      unfold liveS
      rw [if_pos hb]
      simp [h2]
    refine Inv.fin (by simp [hal]) (stand' b) ?_ fitE₂ ?_ ((hpm.map (·.2.1)).nodup_iff.mpr nn) ⟨hd, ?_, ?_, ?_, push_heap ordE _ _ b1.heap⟩ ?_ ?_ ?_
    · rw [hl']
      intro e he
      rcases List.mem_append.mp he with he | he
      · have := h.fitL e (List.mem_filter.mp he).1
        exact ⟨this.1, by omega⟩
      · rw [List.mem_singleton.mp he]; exact ⟨hnew, Nat.lt_succ_self _⟩
    · rw [hl']; exact h.dist.put fin i x
    · intro s hs
      refine hpm.symm.subset ?_
      rcases List.mem_append.mp hs with hs | hs
      · exact List.mem_append_left _ (b1.sub s (List.mem_filter.mp hs).1)
      · exact List.mem_append_right _ hs
    · intro e he s hs hn
      refine (fitE₂ e he).1.same ?_ hn
      rcases List.mem_append.mp hs with hs | hs
      · exact (fitS s (List.mem_filter.mp hs).1).1
      · rw [List.mem_singleton.mp hs]; exact hnew
    · intro e he
      have := (fitE₂ e he).2
      omega
    · rw [hl', List.filter_append, List.filter_append, filter_comm, hst]
      congr 1
      rw [filter_comm, stF]
    · rw [hpm.length_eq, List.length_append, List.length_singleton]; omega
    · rw [hl', List.length_append, List.length_singleton]
      have := List.length_filter_le (fun e => lowE e != Txt.lower x) live
      omega
  by_cases h1 : kind = 1
  · have h2 : kind ≠ 2 := by omega
    by_cases hx : ∃ s ∈ st, lowE s = Txt.lower x
    · obtain ⟨s, hs, hl⟩ := hx
      have hg := getR_in b1.dist hs hl
      have hq : (st.filter fun e => lowE e == Txt.lower x) ≠ [] := List.ne_nil_of_mem (List.mem_filter.mpr ⟨hs, by simpa using hl⟩)
      obtain ⟨s0, r0, hsr⟩ := List.exists_cons_of_ne_nil hq
      have hs0 : s0 ∈ st.filter fun e => lowE e == Txt.lower x := by rw [hsr]; exact .head _
      have hs0' : s0 = s := b1.dist.one (List.mem_filter.mp hs0).1 hs (by rw [hl]; simpa using (List.mem_filter.mp hs0).2)
      have ha : aheadP cs acts hour x = star s.2.1 :: r0.map fun e => star e.2.1 := by rw [hah, hsr, hs0']; rfl
      have hb : actB kind (aheadP cs acts hour x) = false := by unfold actB; rw [ha]; simp [h1]
      have hne : getR (st.map toP) x ≠ some (star i) := by
        rw [hg]
        intro e
        have := star_inj _ (by have := (fitS s hs).2; omega) _ hi (Option.some.inj e)
        have := (fitS s hs).2
        omega
      have hact : actP kind x i (st.map toP) = (some (star s.2.1), st.map toP) := by unfold actP; rw [if_pos h1, hg]
      have hpush : pushP (fin, i, x) es₁ (st.map toP) = es₁ := if_neg hne
      rw [hact, hb]
      dsimp only
      rw [hpush]
      refine ⟨?_, ?_⟩
      · unfold dueP; rw [if_pos h1, ha]; rfl
      · have hl' : liveS (kind, x, hour, fin) i false live = live := rfl
        refine Inv.fin (by simp [hal]) (stand' false) ?_ ?_ h.dist nd₁ b1 (by rw [hl', hst, stF]) (by omega) (by rw [hl']; omega)
        · exact fun e he => ⟨(h.fitL e he).1, by have := (h.fitL e he).2; omega⟩
        · exact fun e he => ⟨(fitE₁ e he).1, by have := (fitE₁ e he).2; omega⟩
    · have hno : ∀ a ∈ st, lowE a ≠ Txt.lower x := fun a ha e => hx ⟨a, ha, e⟩
      have hg := getR_out hno
      have hf : (st.filter fun e => lowE e != Txt.lower x) = st := List.filter_eq_self.mpr fun a ha => by simpa using hno a ha
      have hq : (st.filter fun e => lowE e == Txt.lower x) = [] := List.filter_eq_nil_iff.mpr fun a ha => by simpa using hno a ha
      have ha : aheadP cs acts hour x = [] := by rw [hah, hq]; rfl
      have hb : actB kind (aheadP cs acts hour x) = true := by unfold actB; rw [ha]; simp
      have hact : actP kind x i (st.map toP) = (some (star i), st.map toP ++ [(x, star i)]) := by unfold actP; rw [if_pos h1, hg]
      obtain ⟨p1, p2⟩ := put _ hb h2
      rw [hf] at p1 p2
      have hpush : pushP (fin, i, x) es₁ (st.map toP ++ [(x, star i)]) = sdn ltE (fin, i, x) es₁.length (es₁ ++ [(fin, i, x)]) := if_pos p1
      rw [hact]
      dsimp only
      rw [hpush]
      refine ⟨?_, p2⟩
      unfold dueP; rw [if_pos h1, ha]; rfl
  · have hb : actB kind (aheadP cs acts hour x) = true := by unfold actB; simp [h1]
    have hdue : dueP kind (aheadP cs acts hour x) i = none := if_neg h1
    by_cases h2 : kind = 2
    · have hact : actP kind x i (st.map toP) = (none, (st.filter fun e => lowE e != Txt.lower x).map toP) := by unfold actP; rw [if_neg h1, if_pos h2, delR_map]
      have hg : getR ((st.filter fun e => lowE e != Txt.lower x).map toP) x = none := getR_out fun a ha => by simpa using (List.mem_filter.mp ha).2
      have hpush : pushP (fin, i, x) es₁ ((st.filter fun e => lowE e != Txt.lower x).map toP) = es₁ := if_neg (by dsimp only; rw [hg]; nofun)
      rw [hact, hdue]
      dsimp only
      rw [hpush]
      refine ⟨rfl, ?_⟩
      have hl' : liveS (kind, x, hour, fin) i (actB kind (aheadP cs acts hour x)) live = live.filter fun e => lowE e != Txt.lower x := by
        unfold liveS
        rw [if_pos hb]
        simp [h2]
      refine Inv.fin (by simp [hal]) (stand' _) ?_ ?_ ?_ nd₁ (b1.filter _) ?_ (by omega) ?_
      · rw [hl']; exact fun e he => ⟨(h.fitL e (List.mem_filter.mp he).1).1, by have := (h.fitL e (List.mem_filter.mp he).1).2; omega⟩
      · exact fun e he => ⟨(fitE₁ e he).1, by have := (fitE₁ e he).2; omega⟩
      · rw [hl']; exact h.dist.filter _
      · rw [hl', filter_comm, hst, filter_comm, stF]
      · rw [hl']
        have := List.length_filter_le (fun e => lowE e != Txt.lower x) live
        omega
    · have hact : actP kind x i (st.map toP) = (none, (st.filter fun e => lowE e != Txt.lower x).map toP ++ [(x, star i)]) := by unfold actP; rw [if_neg h1, if_neg h2, delR_map]
      obtain ⟨p1, p2⟩ := put _ hb h2
      have hpush : pushP (fin, i, x) es₁ ((st.filter fun e => lowE e != Txt.lower x).map toP ++ [(x, star i)]) = sdn ltE (fin, i, x) es₁.length (es₁ ++ [(fin, i, x)]) := if_pos p1
      rw [hact, hdue]
      dsimp only
      rw [hpush]
      exact ⟨rfl, p2⟩
theorem perm_out : ∀ {l : List Ent3} {e : Ent3}, Dist l → e ∈ l → (e :: l.filter fun s => s != e).Perm l
  | [], e, _, h => nomatch h
  | x :: r, e, hd, h => by
    have hx := List.pairwise_cons.mp hd
    by_cases he : x = e
    · subst he
      have : (r.filter fun s => s != x) = r := List.filter_eq_self.mpr fun s hs => by
        simp only [bne_iff_ne]
        rintro rfl
        exact hx.1 s hs rfl
      rw [List.filter_cons_of_neg (by simp), this]
    · have hm : e ∈ r := by
        rcases List.mem_cons.mp h with h | h
        · exact absurd h.symm he
        · exact h
      rw [List.filter_cons_of_pos (by simpa using he)]
      exact (List.Perm.swap ..).trans ((perm_out hx.2 hm).cons x)
/-- what the emptied heap tells -/
theorem empty_spec : ∀ (q : Nat) (es st : List Ent3) (acc : List (Str × Str)), es.length ≤ q → SW st es → ∃ l : List Ent3, emptyP q es (st.map toP) acc = acc ++ l.map toP ∧ l.Perm st ∧ l.Pairwise (fun a b => ltE b a = false) ∧ (∀ e ∈ l, e ∈ es) := by
  intro q
  induction q with
  | zero =>
    intro es st acc hl h
    have : es = [] := List.length_eq_zero_iff.mp (Nat.le_zero.mp hl)
    subst this
    have hst : st = [] := by
      cases st with
      | nil => rfl
      | cons x r => exact absurd (h.sub x (.head _)) nofun
    subst hst
    exact ⟨[], by simp [emptyP], .refl _, .nil, nofun⟩
  | succ q ih =>
    intro es st acc hl h
    rcases List.eq_nil_or_concat es with rfl | ⟨ini, z, rfl⟩
    · have hst : st = [] := by
        cases st with
        | nil => rfl
        | cons x r => exact absurd (h.sub x (.head _)) nofun
      subst hst
      exact ⟨[], by simp [emptyP, popE], .refl _, .nil, nofun⟩
    · simp only [List.concat_eq_append] at *
      have hpm := hpop_perm (lt := ltE) ini z
      have hin : (hpop ltE ini z).1 ∈ ini ++ [z] := hpm.subset (.head _)
      have hd := drop_map h hin
      have hmin := hpop_min ordE ini z h.heap
      unfold emptyP
      rw [popE_snoc]
      dsimp only
      unfold dropP at hd
      by_cases hg : getR (st.map toP) (hpop ltE ini z).1.2.2 = some (star (hpop ltE ini z).1.2.1)
      · rw [if_pos hg] at hd ⊢
        rw [hd]
        have hm : (hpop ltE ini z).1 ∈ st := by
          by_cases hx : ∃ s ∈ st, lowE s = Txt.lower (hpop ltE ini z).1.2.2
          · obtain ⟨s, hs, hl'⟩ := hx
            rw [getR_in h.dist hs hl'] at hg
            have := star_inj _ (h.num s (h.sub s hs)) _ (h.num _ hin) (Option.some.inj hg)
            exact h.same _ hin s hs this.symm ▸ hs
          · rw [getR_out fun a ha e' => hx ⟨a, ha, e'⟩] at hg
            cases hg
        obtain ⟨l, e1, e2, e3, e4⟩ := ih (hpop ltE ini z).2 _ (acc ++ [((hpop ltE ini z).1.2.2, star (hpop ltE ini z).1.2.1)]) (by rw [hpop_length]; simp at hl; omega) h.pop
        refine ⟨(hpop ltE ini z).1 :: l, ?_, ?_, ?_, ?_⟩
        · rw [e1, List.append_assoc]; rfl
        · exact (e2.cons _).trans (perm_out h.dist hm)
        · exact List.pairwise_cons.mpr ⟨fun b hb => hmin b (hpm.subset (.tail _ (e4 b hb))), e3⟩
        · intro e he
          rcases List.mem_cons.mp he with rfl | he
          · exact hin
          · exact hpm.subset (.tail _ (e4 e he))
      · rw [if_neg hg] at hd ⊢
        rw [hd]
        obtain ⟨l, e1, e2, e3, e4⟩ := ih (hpop ltE ini z).2 _ acc (by rw [hpop_length]; simp at hl; omega) h.pop
        have hno : (hpop ltE ini z).1 ∉ st := fun hm => hg (getR_in h.dist hm rfl)
        have hall : (st.filter fun s => s != (hpop ltE ini z).1) = st := List.filter_eq_self.mpr fun s hs => by simp; rintro rfl; exact hno hs
        rw [hall] at e2
        exact ⟨l, e1, e2, e3, fun e he => hpm.subset (.tail _ (e4 e he))⟩
end Mine
end
section
open PySem PySem.W PyProof.Rows PySem.Calls
set_option Elab.async false
set_option linter.unusedVariables false
set_option maxRecDepth 100000
namespace Mine
section
variable {prog : Program} {w : World} {A : Around} {E : Value → Shared → Prop} {s : Shared} {h₀ : Heap} {L a : Addr} {m : Str → Option Value} {news : List (Addr × Obj)} {vs : List Value}
/-- sort on a list of at most one -/
theorem short_sort {n : Nat} {P : PySem.Fin → Shared → Prop} (F : Fr h₀ L s.heap m) (N : News h₀ L s.heap news) (ho : s.heap.get? a = some (seqObj "list" vs.toArray n)) (haL : a ≠ L) (ha0 : h₀.get? a = none) (hna : ∀ p ∈ news, p.1 ≠ a) (h1 : vs.length < 2)
    (h : ∀ c h', Fr h₀ L h' m → News h₀ L h' ((a, listOf vs.toArray c) :: news) → P (.done (.ret .none)) { s with heap := h' }) :
    wpAny (model prog w) A (Builtin.«list.sort» ⟨[.ref a], []⟩) P E s := by
  have s1 := Heap.SameBut.update s.heap a (Obj.mapSeq fun _ => (#[] : Array Value))
  obtain ⟨e1, ho1⟩ : ∃ e1, (s.heap.update a (Obj.mapSeq fun _ => (#[] : Array Value))).get? a = some (seqObj "list" #[] e1) := ⟨_, get?_update_seq ho fun _ => #[]⟩
  rw [list_sort_plain]
  refine wpAny_bind (listItems_at ho rfl ?_)
  refine wpAny_bind (listUpdate_at ho rfl ?_ (by rw [List.size_toArray, sizeLine_eq]; omega) (Nat.zero_le _))
  refine wpAny_bind (seqEpoch_at ho1 rfl ?_)
  refine wpAny_bind (wpAny_newTuple ?_ (by show vs.length ≤ _; rw [sizeLine_eq]; omega))
  refine wpAny_bind (wpAny_newList ?_ (Nat.zero_le _))
  refine wpAny_holding ?_
  dsimp only
  have hn2 : vs.toArray.size < 2 := by rw [List.size_toArray]; omega
  rw [if_pos hn2, if_pos hn2]
  refine wpAny_bind (wpAny_pure ?_)
  have ho2 := Heap.get?_push_of_some (seqObj "list" #[] 0) (Heap.get?_push_of_some (seqObj "tuple" vs.toArray 0) ho1)
  have F3 := ((kas_fr F s1 haL ha0).push (seqObj "tuple" vs.toArray 0)).push (seqObj "list" #[] 0)
  have N3 := (kas_news N s1 hna).grown fun b x e => Heap.get?_push_of_some (seqObj "list" #[] 0) (Heap.get?_push_of_some (seqObj "tuple" vs.toArray 0) e)
  rw [StateT.run_pure]
  refine wpAny_bind (wpAny_pure ?_)
  dsimp only
  have hout : (arrOf (SortSt.mk' general' (vs.toArray.zip vs.toArray) #[] 7 none)).map (·.2) = vs.toArray := by
    show (vs.toArray.zip vs.toArray).map (·.2) = vs.toArray
    apply Array.toList_inj.mp
    simp
    exact List.map_snd_zip (Nat.le_refl _)
  rw [hout]
  refine wpAny_bind (seqEpoch_at ho2 rfl ?_)
  have s2 := Heap.SameBut.update (((s.heap.update a (Obj.mapSeq fun _ => (#[] : Array Value))).push (seqObj "tuple" vs.toArray 0)).push (seqObj "list" #[] 0)) a (Obj.mapSeq fun _ => vs.toArray)
  obtain ⟨c2, hc2⟩ : ∃ c2, ((((s.heap.update a (Obj.mapSeq fun _ => (#[] : Array Value))).push (seqObj "tuple" vs.toArray 0)).push (seqObj "list" #[] 0)).update a (Obj.mapSeq fun _ => vs.toArray)).get? a = some (seqObj "list" vs.toArray c2) := ⟨_, get?_update_seq ho2 fun _ => vs.toArray⟩
  refine wpAny_bind (listUpdate_at ho2 rfl ?_ (Nat.zero_le _) (by rw [List.size_toArray, sizeLine_eq]; omega))
  simp only [bne_self_eq_false, Bool.false_eq_true, if_false]
  refine wpAny_pure (h c2 _ (kas_fr F3 s2 haL ha0) fun p hp => ?_)
  rcases List.mem_cons.mp hp with rfl | hp
  · exact ⟨hc2, haL, ha0⟩
  · exact kas_news N3 s2 hna p hp
theorem short_sorted {l : Addr} {Q : Value → Shared → Prop} (F : Fr h₀ L s.heap m) (N : News h₀ L s.heap news) (hl : s.heap.IsList l vs.toArray) (h1 : vs.length < 2)
    (h : ∀ D c h', Fr h₀ L h' m → News h₀ L h' ((D, listOf vs.toArray c) :: news) → (∀ q ∈ news, q.1 < D) → Q (.ref D) { s with heap := h' }) :
    wpAny (model prog w) A (call (.builtin "sorted") [.ref l]) Q E s := by
  refine Calls.call_function_entry kind_sorted plain_sorted entry_sorted (args_sorted1 _) ?_
  unfold Builtin.«sorted»
  refine wpAny_bind (m := checkCount "sorted" 1 1 _) (wpAny_pure ?_)
  refine wpAny_bind (collect_list hl ?_ (by rw [sizeLine_eq]; omega))
  refine wpAny_bind (wpAny_newList ?_ (by rw [sizeLine_eq]; omega))
  obtain ⟨hh, ehh⟩ : ∃ hh, hh = ((s.heap.push (seqObj "list" #[] 0)).update s.heap.objs.size (Obj.mapSeq (· ++ vs.toArray))) := ⟨_, rfl⟩
  have hsz : hh.objs.size = s.heap.objs.size + 1 := by rw [ehh, Heap.size_update, size_push']
  have keep : ∀ b o, s.heap.get? b = some o → (hh.push (seqObj "list" vs.toArray 0)).get? b = some o := fun b o q => by
    have hlt : b < s.heap.objs.size := Heap.lt_size q
    rw [Heap.get?_push_ne _ _ _ (by rw [hsz]; exact Nat.ne_of_lt (Nat.lt_succ_of_lt hlt)), ehh, Heap.get?_update_ne _ _ _ _ (Nat.ne_of_lt hlt), Heap.get?_push_ne _ _ _ (Nat.ne_of_lt hlt)]
    exact q
  have hoL : (hh.push (seqObj "list" vs.toArray 0)).get? hh.objs.size = some (seqObj "list" vs.toArray 0) := Heap.get?_push_size _ rfl
  have hL : L < s.heap.objs.size := F.ns.lt
  show wpAny _ _ _ _ _ { s with heap := (((s.heap.push (seqObj "list" #[] 0)).update s.heap.objs.size (Obj.mapSeq (· ++ vs.toArray))).push (seqObj "list" vs.toArray 0)) }
  rw [← ehh]
  refine wpAny_bind (wpAny_holding (wpAny_call_entry slot_list_sort ⟨_, hoL, rfl⟩ entry_list_sort ?body (args_list_sort _)))
  case body =>
    refine short_sort (s := { s with heap := hh.push (seqObj "list" vs.toArray 0) })
      (F.kept keep) (N.grown keep) hoL (by rw [hsz]; exact Nat.ne_of_gt (Nat.lt_succ_of_lt hL)) (Heap.get?_none_of_le (Nat.le_trans F.above (by rw [hsz]; exact Nat.le_succ_of_le (Nat.le_of_lt hL))))
      (fun p hp => by rw [hsz]; exact Nat.ne_of_lt (Nat.lt_succ_of_lt (Heap.lt_size (N p hp).1))) h1 fun c h' F' N' => ?_
    exact ⟨_, rfl, wpAny_pure ⟨_, rfl, h _ c h' F' N' fun q hq => by rw [hsz]; exact Nat.lt_succ_of_lt (Heap.lt_size (N q hq).1)⟩⟩
end
/-- a decision tree, answered -/
def krun {α : Type} (lt : Nat → Nat → Bool) : KasT α → α
  | .ret a => a
  | .ask i j k => krun lt (k (lt i j))
def kin {α : Type} (n : Nat) : KasT α → Bool
  | .ret _ => true
  | .ask i j k => decide (i < n) && decide (j < n) && i != j && kin n (k true) && kin n (k false)
theorem krun_wp {α : Type} {n : Nat} {cmp : Nat → Nat → (Bool → Shared → Prop) → Shared → Prop} {lt : Nat → Nat → Bool} {s : Shared} (hc : ∀ i j C, i < n → j < n → i ≠ j → C (lt i j) s → cmp i j C s) {Q : α → Shared → Prop} :
    ∀ (t : KasT α), kin n t = true → Q (krun lt t) s → t.kasWp cmp Q s
  | .ret a, _, h => h
  | .ask i j k, hi, h => by
    simp only [kin, Bool.and_eq_true, decide_eq_true_eq, bne_iff_ne] at hi
    obtain ⟨⟨⟨⟨h1, h2⟩, h3⟩, h4⟩, h5⟩ := hi
    refine hc i j _ h1 h2 h3 (krun_wp hc (k (lt i j)) ?_ h)
    cases lt i j with
    | true => exact h4
    | false => exact h5
theorem krun_congr {α : Type} {n : Nat} {lt lt' : Nat → Nat → Bool} (hc : ∀ i j, i < n → j < n → i ≠ j → lt i j = lt' i j) : ∀ (t : KasT α), kin n t = true → krun lt t = krun lt' t
  | .ret a, _ => rfl
  | .ask i j k, hi => by
    simp only [kin, Bool.and_eq_true, decide_eq_true_eq, bne_iff_ne] at hi
    obtain ⟨⟨⟨⟨h1, h2⟩, h3⟩, h4⟩, h5⟩ := hi
    show krun lt (k (lt i j)) = krun lt' (k (lt' i j))
    rw [hc i j h1 h2 h3]
    refine krun_congr hc _ ?_
    cases lt' i j with
    | true => exact h4
    | false => exact h5
theorem kin2 : kin 2 (kas_sort 2) = true := by decide +kernel
theorem kin3 : kin 3 (kas_sort 3) = true := by decide +kernel
/-- an order told by three answers -/
def tab (b01 b02 b12 : Bool) (i j : Nat) : Bool := match i, j with
  | 0, 1 => b01 | 1, 0 => !b01 | 0, 2 => b02 | 2, 0 => !b02 | 1, 2 => b12 | 2, 1 => !b12 | _, _ => false
theorem tab2 : ∀ b01 b02 b12 : Bool, (krun (tab b01 b02 b12) (kas_sort 2)).toList.Perm [0, 1] ∧ (krun (tab b01 b02 b12) (kas_sort 2)).toList.Pairwise (fun i j => tab b01 b02 b12 j i = false) := by decide +kernel
theorem tab3 : ∀ b01 b02 b12 : Bool, ¬ (b01 = true ∧ b12 = true ∧ b02 = false) → ¬ (b01 = false ∧ b12 = false ∧ b02 = true) → (krun (tab b01 b02 b12) (kas_sort 3)).toList.Perm [0, 1, 2] ∧ (krun (tab b01 b02 b12) (kas_sort 3)).toList.Pairwise (fun i j => tab b01 b02 b12 j i = false) := by decide +kernel
theorem ltE_tot {a b : Ent3} (h : a.2.1 ≠ b.2.1) : ltE b a = !ltE a b := by
  rw [Bool.eq_iff_iff]
  unfold ltE ltB keyOf
  simp only [decide_eq_true_eq, Bool.not_eq_true', decide_eq_false_iff_not]
  omega
theorem ltE_tr {a b c : Ent3} (h1 : ltE a b = true) (h2 : ltE b c = true) : ltE a c = true := by
  unfold ltE ltB keyOf at *
  simp only [decide_eq_true_eq] at *
  omega
abbrev e00 : Ent3 := (0, 0, ⟨#[]⟩)
def ltI (st : List Ent3) (i j : Nat) : Bool := ltE (st.getD i e00) (st.getD j e00)
theorem sort_plain (st : List Ent3) (h2 : 2 ≤ st.length) (h3 : st.length ≤ 3) (hn : (st.map (·.2.1)).Nodup) :
    kin st.length (kas_sort st.length) = true ∧ (krun (ltI st) (kas_sort st.length)).toList.Perm (List.range st.length) ∧ (krun (ltI st) (kas_sort st.length)).toList.Pairwise (fun i j => ltI st j i = false) := by
  match st, h2, h3, hn with
  | [e0, e1], _, _, hn =>
    have d01 : e0.2.1 ≠ e1.2.1 := by simp at hn; exact hn
    have key : ∀ i j, i < 2 → j < 2 → i ≠ j → ltI [e0, e1] i j = tab (ltE e0 e1) false false i j := by
      intro i j hi hj hne
      have hi' : i = 0 ∨ i = 1 := by omega
      have hj' : j = 0 ∨ j = 1 := by omega
      rcases hi' with rfl | rfl <;> rcases hj' with rfl | rfl
      · exact absurd rfl hne
      · rfl
      · exact ltE_tot d01
      · exact absurd rfl hne
    have hr : krun (ltI [e0, e1]) (kas_sort 2) = krun (tab (ltE e0 e1) false false) (kas_sort 2) := krun_congr key _ kin2
    obtain ⟨p1, p2⟩ := tab2 (ltE e0 e1) false false
    refine ⟨kin2, by show (krun (ltI [e0, e1]) (kas_sort 2)).toList.Perm [0, 1]; rw [hr]; exact p1, ?_⟩
    show (krun (ltI [e0, e1]) (kas_sort 2)).toList.Pairwise _
    rw [hr]
    refine (p2.and (p1.nodup_iff.mpr (by decide))).imp_of_mem fun {i j} hi hj h => ?_
    have hi' := p1.subset hi
    have hj' := p1.subset hj
    simp at hi' hj'
    rw [key j i (by omega) (by omega) h.2.symm]
    exact h.1
  | [e0, e1, e2], _, _, hn =>
    have dd : (e0.2.1 ≠ e1.2.1 ∧ e0.2.1 ≠ e2.2.1) ∧ e1.2.1 ≠ e2.2.1 := by simpa using hn
    have key : ∀ i j, i < 3 → j < 3 → i ≠ j → ltI [e0, e1, e2] i j = tab (ltE e0 e1) (ltE e0 e2) (ltE e1 e2) i j := by
      intro i j hi hj hne
      have hi' : i = 0 ∨ i = 1 ∨ i = 2 := by omega
      have hj' : j = 0 ∨ j = 1 ∨ j = 2 := by omega
      rcases hi' with rfl | rfl | rfl <;> rcases hj' with rfl | rfl | rfl
      · exact absurd rfl hne
      · rfl
      · rfl
      · exact ltE_tot dd.1.1
      · exact absurd rfl hne
      · rfl
      · exact ltE_tot dd.1.2
      · exact ltE_tot dd.2
      · exact absurd rfl hne
    have hr : krun (ltI [e0, e1, e2]) (kas_sort 3) = krun (tab (ltE e0 e1) (ltE e0 e2) (ltE e1 e2)) (kas_sort 3) := krun_congr key _ kin3
    obtain ⟨p1, p2⟩ := tab3 (ltE e0 e1) (ltE e0 e2) (ltE e1 e2) (fun ⟨x, y, z⟩ => by rw [ltE_tr x y] at z; cases z) (fun ⟨x, y, z⟩ => by
      have x' : ltE e1 e0 = true := by rw [ltE_tot dd.1.1, x]; rfl
      have y' : ltE e2 e1 = true := by rw [ltE_tot dd.2, y]; rfl
      have := ltE_tr y' x'
      rw [ltE_tot dd.1.2, z] at this
      cases this)
    refine ⟨kin3, by show (krun (ltI [e0, e1, e2]) (kas_sort 3)).toList.Perm [0, 1, 2]; rw [hr]; exact p1, ?_⟩
    show (krun (ltI [e0, e1, e2]) (kas_sort 3)).toList.Pairwise _
    rw [hr]
    refine (p2.and (p1.nodup_iff.mpr (by decide))).imp_of_mem fun {i j} hi hj h => ?_
    have hi' := p1.subset hi
    have hj' := p1.subset hj
    simp at hi' hj'
    rw [key j i (by omega) (by omega) h.2.symm]
    exact h.1
/-- a row to sort: its end, its number, something -/
def RowT (h : Heap) (v : Value) (e : Ent3) : Prop := ∃ a t1 t2 v3 n, v = .ref a ∧ h.get? a = some (tupOf #[.int e.1 t1, .int (e.2.1 : Int) t2, v3] n)
section
variable {prog : Program} {w : World} {A : Around} {E : Value → Shared → Prop} {s : Shared} {h₀ : Heap} {L a : Addr} {m : Str → Option Value} {news : List (Addr × Obj)} {vs : List Value}
open MeetsSeq in
theorem row_lt {x y : Value} {e f : Ent3} {Q : Bool → Shared → Prop} (hx : RowT s.heap x e) (hy : RowT s.heap y f) (hne : e.2.1 ≠ f.2.1) (h : Q (ltE e f) s) : wpAny (model prog w) A (keyLt' (tuples' true) x y) Q E s := by
  obtain ⟨a, t1, t2, v3, n, rfl, ha⟩ := hx
  obtain ⟨b, u1, u2, w3, k, rfl, hb⟩ := hy
  refine kat_lt ha rfl hb rfl (kat_cons ?_)
  refine (EqGives.int e.1 f.1 t1 u1) prog w _ _ _ _ ?_
  by_cases h1 : e.1 = f.1
  · rw [show (e.1 == f.1) = true by simpa using h1]
    refine kat_yes (kat_cons ?_)
    refine (EqGives.int (e.2.1 : Int) (f.2.1 : Int) t2 u2) prog w _ _ _ _ ?_
    rw [show ((e.2.1 : Int) == (f.2.1 : Int)) = false by simp; omega]
    refine kat_no ?_
    refine kat_one _ _ ?_
    refine lt_int ?_
    show Q (decide ((e.2.1 : Int) < (f.2.1 : Int))) s
    have : ltE e f = decide ((e.2.1 : Int) < (f.2.1 : Int)) := by unfold ltE ltB keyOf; simp [h1]
    rw [← this]; exact h
  · rw [show (e.1 == f.1) = false by simpa using h1]
    refine kat_no ?_
    refine oneLt_int ?_
    have : ltE e f = decide (e.1 < f.1) := by unfold ltE ltB keyOf; simp [h1]
    rw [← this]; exact h
theorem tups_of {h : Heap} : ∀ {vs : List Value} {st : List Ent3}, All2 (RowT h) vs st → ∃ fs : List Value, KatTups h vs fs ∧ fs.length = vs.length ∧ ∀ f ∈ fs, IsInt f
  | vs, [], h => by
    rw [h.inv_nil]
    exact ⟨[], .nil, rfl, nofun⟩
  | vs, e :: st, h => by
    obtain ⟨v, vs', rfl, ⟨a, t1, t2, v3, n, rfl, ha⟩, hr⟩ := h.inv_cons
    obtain ⟨fs, h1, h2, h3⟩ := tups_of hr
    refine ⟨.int e.1 t1 :: fs, .cons ha rfl rfl rfl h1, by simp [h2], fun f hf => ?_⟩
    rcases List.mem_cons.mp hf with rfl | hf
    · exact ⟨_, _, rfl⟩
    · exact h3 f hf
theorem All2.getD {α β : Type} {R : α → β → Prop} {vs : List α} {es : List β} (h : All2 R vs es) {i : Nat} (hi : i < es.length) (d : α) (d' : β) : R (vs.getD i d) (es.getD i d') := by
  obtain ⟨v, hv, hr⟩ := h.get i _ (List.getElem?_eq_getElem hi)
  rw [List.getD_eq_getElem?_getD, List.getD_eq_getElem?_getD, hv, List.getElem?_eq_getElem hi]
  exact hr
theorem All2.pick {α β : Type} {R : α → β → Prop} {vs : List α} {es : List β} (h : All2 R vs es) (d : α) (d' : β) : ∀ (p : List Nat), (∀ i ∈ p, i < es.length) → All2 R (p.map fun i => vs.getD i d) (p.map fun i => es.getD i d')
  | [], _ => .nil
  | i :: p, hp => .cons (h.getD (hp i (.head _)) d d') (All2.pick h d d' p fun j hj => hp j (.tail _ hj))
theorem range_pick {β : Type} (es : List β) (d : β) : (List.range es.length).map (fun i => es.getD i d) = es := by
  apply List.ext_getElem?
  intro i
  by_cases hi : i < es.length
  · simp [hi]
  · simp [hi]
theorem rows_sorted {l : Addr} {st : List Ent3} {n : Nat} {Q : Value → Shared → Prop} (F : Fr h₀ L s.heap m) (N : News h₀ L s.heap news) (hl : s.heap.get? l = some (listOf vs.toArray n)) (hr : ∀ h', Fr h₀ L h' m → News h₀ L h' news → All2 (RowT h') vs st) (h3 : st.length ≤ 3) (hn : (st.map (·.2.1)).Nodup)
    (h : ∀ D c h' vs' st', Fr h₀ L h' m → News h₀ L h' ((D, listOf vs'.toArray c) :: news) → (∀ q ∈ news, q.1 < D) → (∀ R : Value → Ent3 → Prop, All2 R vs st → All2 R vs' st') → st'.Perm st → st'.Pairwise (fun a b => ltE b a = false) → Q (.ref D) { s with heap := h' }) :
    wpAny (model prog w) A (call (.builtin "sorted") [.ref l]) Q E s := by
  have hL : s.heap.IsList l vs.toArray := ⟨_, hl, rfl, _, rfl⟩
  have hlen := (hr s.heap F N).len
  by_cases h2 : 2 ≤ st.length
  · obtain ⟨k1, k2, k3⟩ := sort_plain st h2 h3 hn
    refine kat_sorted F N hL (by omega) (by omega) fun D e1 h' F' N' hD => ?_
    have N₂ : News h₀ L h' news := fun p hp => N' p (.tail _ hp)
    have hrow := hr h' F' N₂
    obtain ⟨fs, f1, f2, f3⟩ := tups_of hrow
    refine kat_kind (T := .type "int") f1 (by omega) (fun v hv => ?_) (by decide) ?_
    · obtain ⟨x, t, rfl⟩ := f3 v hv
      exact .now
    rw [hlen]
    refine krun_wp (n := st.length) (lt := ltI st) (fun i j C hi hj hne hC => ?_) _ k1 ?_
    · refine row_lt (hrow.getD hi Value.none e00) (hrow.getD hj Value.none e00) (fun e => hne ?_) hC
      have e' : (st.map (·.2.1))[i]'(by simpa using hi) = (st.map (·.2.1))[j]'(by simpa using hj) := by
        simp only [List.getElem_map]
        rw [List.getD_eq_getElem?_getD, List.getD_eq_getElem?_getD, List.getElem?_eq_getElem hi, List.getElem?_eq_getElem hj] at e
        exact e
      rcases Nat.lt_trichotomy i j with hij | hij | hij
      · exact absurd e' (List.pairwise_iff_getElem.mp hn i j _ _ hij)
      · exact hij
      · exact absurd e'.symm (List.pairwise_iff_getElem.mp hn j i _ _ hij)
    · refine KasFin.intro F' N' (g := fun o => (D, o) :: news) (.head fun q hq => ?_) fun h₂ c F₂ N₂ => ?_
      · exact Nat.ne_of_lt (hD q hq)
      · have hpr : ∀ i ∈ (krun (ltI st) (kas_sort st.length)).toList, i < st.length := fun i hi => List.mem_range.mp (k2.subset hi)
        refine h D c h₂ _ ((krun (ltI st) (kas_sort st.length)).toList.map fun i => st.getD i e00) F₂ N₂ hD (fun R hR => hR.pick _ _ _ hpr) ?_ ?_
        · have := k2.map (fun i => st.getD i e00)
          rw [range_pick] at this
          exact this
        · exact List.pairwise_map.mpr k3
  · refine short_sorted F N hL (by omega) fun D c h' F' N' hD => ?_
    refine h D c h' vs st F' N' hD (fun R hR => hR) (.refl _) ?_
    match st, h2 with
    | [], _ => exact .nil
    | [x], _ => exact List.pairwise_singleton _ _
    | _ :: _ :: _, h2 => exact absurd (by simp) h2
end
end Mine
end
section
open PySem PySem.W PyProof.Rows PySem.Calls
set_option Elab.async false
set_option linter.unusedVariables false
set_option maxRecDepth 100000
namespace Mine
set_option maxHeartbeats 4000000 in
theorem init_c {prog : Program} {w : World} {A : Around} {mg mb : Str → Option Value} {mean : ExcName → Option Value} {base : Heap} {s : Shared} {R : Result → Shared → Prop} {x dx hl : Addr} {n : Nat}
    (C : Cx w mg mb mean base) (st : base.StaysIn s.heap) (hroom : A.depth < 890) (hun : A.units < 90) (hh : A.handled = none) (hx : s.heap.get? x = some (instObj 171 dx)) (hdx : s.heap.get? dx = some (dictOf [] 0)) (hl' : s.heap.get? hl = some (listOf #[] n))
    (hbx : base.get? x = none) (hbd : base.get? dx = none) (hxd : dx < x)
    (k : ∀ h' tk, KeepsBut [x, dx] s.heap h' → h'.get? x = some (instObj 171 dx) → (∃ hsh t n, h'.get? dx = some (dictOf [⟨hsh, .str (Str.ofString "_headers") t, .ref hl⟩] n)) → R (.ok (.ret .none)) { s with heap := h', toks := tk }) :
    codeAny (model prog w) A (.call (.ref 63) ⟨[.ref x, .ref hl], []⟩) R s := by
  refine enter_def (K := hd.heap_39 w.params) (binds := [(Str.ofString "self", .ref x), (Str.ofString "headers", .ref hl)]) [(x, instObj 171 dx), (dx, dictOf [] 0)]
    (List.forall_mem_cons.mpr ⟨hx, List.forall_mem_singleton.mpr hdx⟩) (List.forall_mem_cons.mpr ⟨hbx, List.forall_mem_singleton.mpr hbd⟩) (C.T.nolimit.keeps st) (C.K.keeps st) st (by k_is) (by k_is) (by unfold recursionLimit; omega) (by exact binds_K (C.K.keeps st) rfl (by k_is) rfl rfl rfl) (by exact locs rfl) ?_
  intro g L h₁ hg stg F N
  have X := C.K.keeps stg
  have T := C.T.keeps stg
  have hlg : g.get? hl = some (listOf ([] : List Value).toArray n) := hg _ _ (fun hm => by
    rcases List.mem_cons.mp hm with e | hm
    · rw [e, hx] at hl'; cases hl'
    · rw [List.mem_singleton.mp hm, hdx] at hl'
      have := congrArg Obj.cls (Option.some.inj hl')
      exact absurd this (by show Value.type "dict" ≠ Value.type "list"; decide)) hl'
  have hxd' : x ≠ dx := (Nat.ne_of_lt hxd).symm
  refine wpAny_noRaise ?_
  iterate 21 walk1
  rename Fr _ _ _ _ => F
  rename News _ _ _ _ => N
  refine kto_cont (T := "list") ⟨_, F.keep _ _ hlg, rfl⟩ (by decide) ?_
  iterate 10 walk1
  iterate 9 walk1
  rename Fr _ _ _ _ => F
  rename News _ _ _ _ => N
  obtain ⟨hsh, th, nd, N⟩ : ∃ hsh th nd, News g L _ [(x, instObj 171 dx), (dx, dictOf [⟨hsh, .str (Str.ofString "_headers") th, .ref hl⟩] nd)] := ⟨_, _, _, N⟩
  refine wpAny_For ?_
  iterate 1 walk1
  refine for_list (vs := []) hh hlg F N (fun i m nw => nw = [(x, instObj 171 dx), (dx, dictOf [⟨hsh, .str (Str.ofString "_headers") th, .ref hl⟩] nd)]) rfl ?_ ?_
  · intro i v m₁ nw h₃ tk₃ I oI hv
    cases hv
  · rintro h₃ tk₃ m₃ nw F N rfl
    dsimp only
    iterate 2 walk1
    exact k _ _ (keepsBut_of hg F) (N _ (.head _)).1 ⟨hsh, th, nd, (N _ (.tail _ (.head _))).1⟩
end Mine
end
section
open PySem PySem.W PyProof.Rows PySem.Calls
set_option Elab.async false
set_option linter.unusedVariables false
set_option maxRecDepth 100000
namespace Mine
theorem all_true (n : Nat) : ((List.range n).all fun _ => true) = true := by rw [List.all_eq_true]; intros; rfl
section
variable {prog : Program} {w : World} {A : Around} {E : Value → Shared → Prop} {s : Shared}
theorem pair_eq {v v' : Value} {p : Str × Str} (hv : Pair s.heap v p) (hv' : Pair s.heap v' p) (hu : A.units + 10 < cLine) : SeqAt.EqAt A s v v' true := by
  obtain ⟨a, t1, t2, n, rfl, ha⟩ := hv
  obtain ⟨b, u1, u2, k, rfl, hb⟩ := hv'
  by_cases hab : a = b
  · subst hab
    exact SeqAt.EqAt.same _
  · refine SeqAt.EqAt.of_refs hab ?_
    have := SeqAt.RcAt.tuples (A := A) (s := s) (e := fun _ => true) (items := #[.str p.1 t1, .str p.2 t2]) (items2 := #[.str p.1 u1, .str p.2 u2]) ⟨_, ha, rfl, _, rfl⟩ ⟨_, hb, rfl, _, rfl⟩ (by omega) (fun j h1 h2 => ?_)
    · exact this
    · match j, h1 with
      | 0, _ => have := SeqAt.EqAt.str_str (A := A.in1) (s := s) p.1 t1 p.1 u1; rw [beq_self_eq_true] at this; exact this
      | 1, _ => have := SeqAt.EqAt.str_str (A := A.in1) (s := s) p.2 t2 p.2 u2; rw [beq_self_eq_true] at this; exact this
theorem pairs_ne {a b : Addr} {vs ws : List Value} {n k : Nat} {ps : List (Str × Str)} {Q : Value → Shared → Prop} (ha : s.heap.get? a = some (listOf vs.toArray n)) (hb : s.heap.get? b = some (listOf ws.toArray k)) (hv : All2 (Pair s.heap) vs ps) (hw : All2 (Pair s.heap) ws ps) (hu : A.units + 20 < cLine) (h : Q (.bool false) s) :
    wpAny (model prog w) A (compareOp .NotEq (.ref a) (.ref b)) Q E s := by
  refine cmp_ofNotEq ?_
  refine SeqAt.RcNeAt.lists (e := fun _ => true) ⟨_, ha, rfl, _, rfl⟩ ⟨_, hb, rfl, _, rfl⟩ (by simp [hv.len, hw.len]) (by omega) (fun j h1 h2 => ?_) prog w E Q (by rw [all_true]; exact h)
  obtain ⟨p, hp, hpv⟩ := hv.at (i := j) (v := vs.toArray[j]) (by simp at h1 ⊢)
  obtain ⟨p', hp', hpw⟩ := hw.at (i := j) (v := ws.toArray[j]) (by simp at h2 ⊢)
  rw [hp] at hp'; cases hp'
  refine pair_eq hpv hpw ?_
  show A.units + 1 + 10 < cLine
  omega
theorem pairs_eq {a b : Addr} {vs ws : List Value} {n k : Nat} {ps : List (Str × Str)} {Q : Value → Shared → Prop} (ha : s.heap.get? a = some (listOf vs.toArray n)) (hb : s.heap.get? b = some (listOf ws.toArray k)) (hv : All2 (Pair s.heap) vs ps) (hw : All2 (Pair s.heap) ws ps) (hu : A.units + 20 < cLine) (h : Q (.bool true) s) :
    wpAny (model prog w) A (compareOp .Eq (.ref a) (.ref b)) Q E s := by
  refine SeqAt.eq_listAt (e := fun _ => true) ⟨_, ha, rfl, _, rfl⟩ ⟨_, hb, rfl, _, rfl⟩ (by simp [hv.len, hw.len]) (by omega) (fun j h1 h2 => ?_) (by rw [all_true]; exact h)
  obtain ⟨p, hp, hpv⟩ := hv.at (i := j) (v := vs.toArray[j]) (by simp at h1 ⊢)
  obtain ⟨p', hp', hpw⟩ := hw.at (i := j) (v := ws.toArray[j]) (by simp at h2 ⊢)
  rw [hp] at hp'; cases hp'
  refine pair_eq hpv hpw ?_
  show A.units + 1 + 10 < cLine
  omega
end
open LCg in
theorem comp_map {prog : Program} {w : World} {A : Around} {h₀ : Heap} {L : Addr} {m : Str → Option Value} {env : Env} {elt : Expr} {x : Str} {scope : Scope} {cl : List (Str × Addr)} {s₂ : Shared} {S : List (Addr × Obj) → Prop} {its : Array Value}
    {Fin : List Value → List (Addr × Obj) → Prop} {news : List (Addr × Obj)} (J : Nat → List Value → List (Addr × Obj) → Prop) (h0 : J 0 [] news)
    (step : ∀ i ys nw v I oI C oC D m₂ h tk, its[i]? = some v → J i ys nw → NsObj oC m₂ → m₂ x = some v → Fr h₀ L h m → News h₀ L h ((I, oI) :: (C, oC) :: (D, lst ys) :: nw) → Off3 I C D nw → ((@Ne Nat I C) ∧ (@Ne Nat I D) ∧ (@Ne Nat C D)) →
      wpAny (model prog w) A (eval elt (compEnvC scope cl C env)) (CompEnd h₀ L m { s₂ with heap := h, toks := tk } I oI C oC D (lst ys) S (fun y nw' => J (i + 1) (ys ++ [y]) nw')) (fun _ _ => False) { s₂ with heap := h, toks := tk })
    (fin : ∀ ys nw, J its.size ys nw → Fin ys nw) : CompRest prog w A h₀ L m env elt x scope cl s₂ S (fun i v => its[i]? = some v) Fin its.size 0 [] news := by
  have claim : ∀ k i ys nw, k + i = its.size → J i ys nw → CompRest prog w A h₀ L m env elt x scope cl s₂ S (fun i v => its[i]? = some v) Fin k i ys nw := by
    intro k
    induction k with
    | zero =>
      intro i ys nw hk hJ
      refine CompRest.zero (fin ys nw ?_)
      rw [← hk, Nat.zero_add]; exact hJ
    | succ k ih =>
      intro i ys nw hk hJ
      refine CompRest.succ ?_
      intro v I oI C oC D m₂ h tk E' hP hC hx F N hoff hne
      refine wpAny_noRaise (wpAny_mono (step i ys nw v I oI C oC D m₂ h tk hP hJ hC hx F N hoff hne) (fun y s₃ h₃ => ?_) fun _ _ e => e.elim)
      obtain ⟨h', tk', news', rfl, F', N', off', hS', hJ'⟩ := h₃
      exact ⟨h', tk', news', rfl, F', N', off', hS', ih (i + 1) _ _ (by omega) hJ'⟩
  exact claim _ 0 [] news (by omega) h0
end Mine
end
section
open PySem PySem.W PyProof.Rows PySem.Calls
set_option Elab.async false
set_option linter.unusedVariables false
set_option maxRecDepth 100000
namespace Mine
/-- y is the third of the tuple v -/
def Third (news : List (Addr × Obj)) (v y : Value) : Prop := ∃ t v1 v2 nt, v = .ref t ∧ (t, tupOf #[v1, v2, y] nt) ∈ news
open PySem.Spec LCg in
set_option maxHeartbeats 2000000 in
/-- [c for a, b, c in xs], xs a list of triples -/
theorem comp3 {prog : Program} {w : World} {A : Around} {E : Value → Shared → Prop} {s : Shared} {h₀ : Heap} {L : Addr} {m : Str → Option Value} {env : Env} {iter : Expr} {x₁ x₂ x₃ : Str} {p₁ p₂ p₃ tp pe : Pos} {tk} {scope : Scope} {cl : List (Str × Addr)} {pos : Pos} {Q : Value → Shared → Prop}
    (F₀ : Fr h₀ L s.heap m) (hclos : closureFor scope env = pure cl) (hcell : ∀ y ∈ scope.names, y.2 ≠ .cell) (hkind : scope.kind = .function)
    (hnames : ∀ y ∈ scope.names, y.2 = .local → scope.names.lookup y.1 = some .local) (hx₁ : scope.names.lookup x₁ = some .local) (hx₂ : scope.names.lookup x₂ = some .local) (hx₃ : scope.names.lookup x₃ = some .local) (hdb : (x₃ == ("__debug__" : Str)) = false) (hh : A.handled = none)
    (h : wpAny (model prog w) A (eval iter env) (fun xv s₁ => ∃ ax vs n news, xv = .ref ax ∧ Fr h₀ L s₁.heap m ∧ News h₀ L s₁.heap news ∧ (ax, listOf (List.toArray vs) n) ∈ news ∧ vs.length ≤ sizeLine ∧ (∀ v ∈ vs, ∃ y, Third news v y) ∧
      ∀ D h tk ys, Fr h₀ L h m → News h₀ L h ((D, lst ys) :: news) → All2 (fun y v => Third news v y) ys vs → Q (.ref D) { s₁ with heap := h, toks := tk }) E s)
    (hs : ∀ x, foldedSetIterable iter env x = pure x := by intro _; rfl) :
    wpAny (model prog w) A (eval (.ListComp (.Name x₃ pe) [⟨.Tuple [.Name x₁ p₁, .Name x₂ p₂, .Name x₃ p₃] tk tp, iter, [], 0⟩] scope pos) env) Q E s := by
  rw [eval_ListComp]
  refine wpAny_comprehension_free (use := none) rfl hs hclos hkind hnames (wpAny_mono h (fun xv s₁ h₁ => ?_) fun _ _ e => e)
  obtain ⟨ax, vs, n, news, rfl, F, N, hax, hsz, hthird, hQ⟩ := h₁
  have hl : s₁.heap.IsList ax vs.toArray := ⟨_, (N _ hax).1, rfl, _, rfl⟩
  have hlt : ax < s₁.heap.objs.size := Heap.lt_size (N _ hax).1
  refine wpAny_pyIter_list hl ?_
  have hnI : ∀ p ∈ news, p.1 ≠ s₁.heap.objs.size := fun p hp => Nat.ne_of_lt (Heap.lt_size (N p hp).1)
  have hIL : L ≠ s₁.heap.objs.size := Nat.ne_of_lt F.ns.lt
  have hI₀ : h₀.get? s₁.heap.objs.size = none := next_is_new F
  have W := Walks.list (prog := prog) (w := w) hh s₁.heap.objs.size ax (Nat.ne_of_lt hlt) vs.toArray
  generalize hI : s₁.heap.objs.size = I at *
  generalize hg : s₁.heap.push { cls := .type "list_iterator", data := .fields #[.ref ax, .int 0 0] } = g
  have hgI : g.get? I = some { cls := .type "list_iterator", data := .fields #[.ref ax, .int 0 0] } := by rw [← hg, ← hI]; exact Heap.get?_push_size _ rfl
  have up : ∀ b o, s₁.heap.get? b = some o → g.get? b = some o := fun b o e => by rw [← hg]; exact Heap.get?_push_of_some _ e
  have Fg := F.keeps up
  have Ng := N.grown up
  have hst : g.IsListIter I ax 0 ∧ g.IsList ax vs.toArray := ⟨⟨_, hgI, rfl, rfl⟩, ⟨_, up _ _ (N _ hax).1, rfl, _, rfl⟩⟩
  have hax' : ∀ g', News h₀ L g' news → g'.IsList ax vs.toArray := fun g' N' => ⟨_, (N' _ hax).1, rfl, _, rfl⟩
  have hthL : ∀ (i : Nat) v, vs.toArray[i]? = some v → ∃ y, Third news v y := fun i v hv => hthird v (List.mem_of_getElem? (by simpa using hv))
  have hn2 : ∀ g', News h₀ L g' news → ∀ p ∈ news, p.1 < g'.objs.size := fun g' N' p hp => Heap.lt_size (N' p hp).1
  refine wpAny_newObj_type (wpAny_newFunctionEnv hcell (by intro y hy; simp at hy) (fun h₁ hns₁ hsb₁ => ?_) hkind)
  dsimp only at hns₁ hsb₁ ⊢
  generalize hDe : g.objs.size = D at hns₁ hsb₁ ⊢
  generalize hH : g.push { cls := .type "list", dict := none, data := .seq ([] : List Value).toArray } = H at hns₁ hsb₁ ⊢
  generalize hCe : H.objs.size = C at hns₁ hsb₁ ⊢
  have hCD : C = D + 1 := by rw [← hCe, ← hH, Heap.size_push, hDe]
  have hCneD : D ≠ C := by rw [hCD]; exact Nat.ne_of_lt (Nat.lt_succ_self _)
  have below : ∀ b o, g.get? b = some o → b ≠ C ∧ b ≠ D := fun b o e => by
    have : b < D := hDe ▸ Heap.lt_size e
    exact ⟨by rw [hCD]; exact Nat.ne_of_lt (Nat.lt_succ_of_lt this), Nat.ne_of_lt this⟩
  have fresh : ∀ a, D ≤ a → h₀.get? a = none := fun a ha => by
    cases e : h₀.get? a with
    | none => rfl
    | some o' => exact absurd (hDe ▸ Heap.lt_size (Fg.keep a o' e)) (Nat.not_lt.mpr ha)
  have hD₀ := fresh D (Nat.le_refl _)
  have hC₀ := fresh C (by rw [hCD]; exact Nat.le_succ _)
  obtain ⟨oL, _, _, hoL, _⟩ := Fg.ns
  have hDL : D ≠ L := (below L _ hoL).2.symm
  have hCL : C ≠ L := (below L _ hoL).1.symm
  have hIC : I ≠ C := (below I _ hgI).1
  have hID : I ≠ D := (below I _ hgI).2
  have hnC : ∀ p ∈ news, p.1 ≠ C := fun p hp => (below p.1 _ (Ng p hp).1).1
  have hnD : ∀ p ∈ news, p.1 ≠ D := fun p hp => (below p.1 _ (Ng p hp).1).2
  have haC : ax ≠ C := hnC _ hax
  have haD : ax ≠ D := hnD _ hax
  have old : ∀ b o, g.get? b = some o → h₁.get? b = some o := fun b o e => hsb₁.extBut b o (below b o e).1 (Heap.get?_push_of_some _ (hH ▸ Heap.get?_push_of_some _ e))
  have hacc : h₁.get? D = some (lst []) := hsb₁.extBut _ _ hCneD (Heap.get?_push_of_some _ (by rw [← hH, ← hDe]; exact Heap.get?_push_size _ rfl))
  have hst₁ : h₁.IsListIter I ax 0 ∧ h₁.IsList ax vs.toArray := W.frame _ _ _ hst fun b _ o e => old b o e
  have loop : ∀ s₃ : Shared, s₃ = { s₁ with heap := h₁, toks := s₁.toks + ([] : List (Str × Value)).length } →
      codeAny (model prog w) A (.compLoop (.ListComp (.Name x₃ pe) [⟨.Tuple [.Name x₁ p₁, .Name x₂ p₂, .Name x₃ p₃] tk tp, iter, [], 0⟩] scope pos) 0 (.ref I) (.ref D) (compEnvC scope cl C env))
        (compPost (model prog w) A E none Q (.ref D) C) s₃ := by
    rintro s₃ rfl
    refine LCp.codeAny_compLoop_pair
      (fun k s' => ∃ h' tk i ys m', s' = { s₁ with heap := h', toks := tk } ∧ i ≤ vs.length ∧ k = vs.length + 1 - i ∧ (h'.IsListIter I ax i ∧ h'.IsList ax vs.toArray) ∧ Fr h₀ L h' m ∧ h'.Ns C m' ∧ News h₀ L h' ((D, lst ys) :: news) ∧
        All2 (fun y v => Third news v y) ys (vs.take i)) ?_ (vs.length + 1)
      ⟨h₁, _, 0, [], _, rfl, Nat.zero_le _, rfl, hst₁, Fg.keeps old, hns₁, fun p hp => ?_, .nil⟩
    · rintro k s' ⟨h', tk, i, ys, m', rfl, hi, rfl, hst', F', hn', N', hys⟩
      have N'n : News h₀ L h' news := fun p hp => N' p (.tail _ hp)
      by_cases hlt' : i < vs.length
      · refine W.item i _ _ _ (by simpa using hlt') hst' fun v h₂ tk₂ hPv hst₂ hk₂ => ?_
        obtain ⟨y, t, v1, v2, nt, rfl, hmt⟩ := hthL i v hPv
        have N₂ : News h₀ L h₂ ((D, lst ys) :: news) := news_but N' hk₂ fun p hp => by
          rcases List.mem_cons.mp hp with rfl | hp
          · exact Ne.symm hID
          · exact hnI p hp
        have ht : IsTup h₂ t #[v1, v2, y] := ⟨_, (N₂ _ (.tail _ hmt)).1, rfl, nt, rfl⟩
        refine wpAny_letOwnedTupleGo_listiter hst₂.1 ?_
        refine assign_Tuple_tuple hh ht rfl rfl fun h₅ he => ?_
        have he' : ∀ b o, h₂.get? b = some o → h₅.get? b = some o := fun b o e => he b o (Nat.ne_of_lt (Heap.lt_size e)) e
        refine assignInOrder_cons (wpAny_assign_Name (wpAny_storeName_local (lookup_relabel_local hx₁) ((hn'.at' fun o e => hk₂ _ o (by simpa using Ne.symm hIC) e).at' fun o e => he' _ o e) (fun h₆ hn₆ hs₆ => ?_) (by simp [compEnvC, relabel, hkind])))
        refine assignInOrder_cons (wpAny_assign_Name (wpAny_storeName_local (lookup_relabel_local hx₂) hn₆ (fun h₇ hn₇ hs₇ => ?_) (by simp [compEnvC, relabel, hkind])))
        refine assignInOrder_cons (wpAny_assign_Name (wpAny_storeName_local (lookup_relabel_local hx₃) hn₇ (fun h₃ hn₃ hs₃ => ?_) (by simp [compEnvC, relabel, hkind])))
        refine assignInOrder_nil ?_
        have old3 : ∀ b o, b ≠ C → h₂.get? b = some o → h₃.get? b = some o := fun b o hb e => hs₃.extBut b o hb (hs₇.extBut b o hb (hs₆.extBut b o hb (he' b o e)))
        have hst₃ : h₃.IsListIter I ax (i + 1) ∧ h₃.IsList ax vs.toArray := W.frame _ _ _ hst₂ fun b hb o e => old3 b o (by
          rcases List.mem_cons.mp hb with rfl | hb
          · exact hIC
          · rw [List.mem_singleton.mp hb]; exact haC) e
        have F₃ : Fr h₀ L h₃ m := ((((fr_but F' hk₂ hIL hI₀).keeps he').change hs₆ hCL hC₀).change hs₇ hCL hC₀).change hs₃ hCL hC₀
        have N₃ : News h₀ L h₃ ((D, lst ys) :: news) := fun p hp => by
          refine ⟨old3 _ _ ?_ (N₂ p hp).1, (N₂ p hp).2⟩
          rcases List.mem_cons.mp hp with rfl | hp
          · exact hCneD
          · exact hnC p hp
        refine wpAny_Name (wpAny_loadName_local (by simp [compEnvC, relabel, hkind]) (lookup_relabel_local hx₃) hn₃ (if_pos rfl) ?_) hdb
        have hysl : ys.length = i := by rw [hys.len, List.length_take]; omega
        refine append_at (hsz := by show ys.toArray.size ≤ sizeLine; rw [List.size_toArray, hysl]; exact Nat.le_trans hi hsz) (N₃ _ (.head _)).1 fun h₈ hs₈ hD₈ => ?_
        refine ⟨vs.length + 1 - (i + 1), by omega, h₈, _, i + 1, ys ++ [y], _, rfl, hlt', rfl, W.frame _ _ _ hst₃ fun b hb o e => hs₈.extBut b o ?_ e, F₃.change hs₈ hDL hD₀, hn₃.sameBut hs₈ (Ne.symm hCneD), fun p hp => ?_, ?_⟩
        · rcases List.mem_cons.mp hb with rfl | hb
          · exact hID
          · rw [List.mem_singleton.mp hb]; exact haD
        · rcases List.mem_cons.mp hp with rfl | hp
          · exact ⟨hD₈.trans (congrArg some (lst_snoc ys y)), hDL, hD₀⟩
          · exact ⟨hs₈.extBut _ _ (hnD p hp) (N₃ p (.tail _ hp)).1, (N₃ p (.tail _ hp)).2⟩
        · rw [take_succ_of (by simpa using hPv)]
          exact hys.append (.one ⟨t, v1, v2, nt, rfl, hmt⟩)
      · obtain rfl : i = vs.length := Nat.le_antisymm hi (Nat.not_lt.mp hlt')
        refine W.done _ _ _ (by simpa using hst') fun h₂ tk₂ hk₂ => ?_
        rw [List.take_length] at hys
        have F₂ := fr_but F' hk₂ hIL hI₀
        have N₂ : News h₀ L h₂ ((D, lst ys) :: news) := news_but N' hk₂ fun p hp => by
          rcases List.mem_cons.mp hp with rfl | hp
          · exact Ne.symm hID
          · exact hnI p hp
        refine ⟨_, hn'.at' fun o e => hk₂ _ o (by simpa using Ne.symm hIC) e, fun h'' hs'' => hQ D h'' _ ys (F₂.change hs'' hCL hC₀) (fun p hp => ?_) hys⟩
        refine ⟨hs''.extBut _ _ ?_ (N₂ p hp).1, (N₂ p hp).2⟩
        rcases List.mem_cons.mp hp with rfl | hp
        · exact hCneD
        · exact hnC p hp
    · rcases List.mem_cons.mp hp with rfl | hp
      · exact ⟨hacc, hDL, hD₀⟩
      · exact ⟨old _ _ (Ng p hp).1, (Ng p hp).2⟩
  exact codeAny_compStart_list (loop _ rfl) (W.self 0 _ _ _ hst₁ (loop _ rfl))
end Mine
end
section
open PySem PySem.W PyProof.Rows PySem.Calls
set_option Elab.async false
set_option linter.unusedVariables false
set_option maxRecDepth 100000
namespace Mine
theorem base_none {base g : Heap} {a : Addr} (k : base.StaysIn g) (h : g.get? a = none) : base.get? a = none := by
  cases q : base.get? a with
  | none => rfl
  | some o => have := k _ _ q; rw [h] at this; cases this
theorem Inv.slen {cs : List Call4} {i : Nat} {acts : List Bool} {live es : List Ent3} {ps : List (Str × Str)} {H : Int} (h : Inv cs i acts live es ps H) (H' : Int) : (standP cs acts H').length ≤ i := by
  rw [h.stand H', List.length_map]
  exact Nat.le_trans (List.length_filter_le _ _) h.llen
theorem Inv.words {cs : List Call4} {i : Nat} {acts : List Bool} {live es : List Ent3} {ps : List (Str × Str)} {H : Int} (h : Inv cs i acts live es ps H) (hw : ∀ c ∈ cs, c.2.1 ∈ theWords) (H' : Int) : ∀ p ∈ standP cs acts H', p.1 ∈ theWords := by
  rw [h.stand H']
  intro p hp
  obtain ⟨e, he, rfl⟩ := List.mem_map.mp hp
  obtain ⟨c, h1, _, h3⟩ := (h.fitL e (List.mem_filter.mp he).1).1
  show e.2.2 ∈ theWords
  rw [h3]
  exact hw c (List.mem_of_getElem? h1)
theorem Inv.wordsE {cs : List Call4} {i : Nat} {acts : List Bool} {live es : List Ent3} {ps : List (Str × Str)} {H : Int} (h : Inv cs i acts live es ps H) (hw : ∀ c ∈ cs, c.2.1 ∈ theWords) : ∀ e ∈ es, e.2.2 ∈ theWords ∧ e.2.1 < i := fun e he => by
  obtain ⟨⟨c, h1, _, h3⟩, h4⟩ := h.fitE e he
  rw [h3]
  exact ⟨hw c (List.mem_of_getElem? h1), h4⟩
theorem off1_mem {D : Addr} : ∀ {l : List (Addr × Obj)}, LCg.Off1 D l → ∀ p ∈ l, p.1 ≠ D
  | [], _, _, h => nomatch h
  | _ :: _, x, p, h => by
    rcases List.mem_cons.mp h with rfl | h
    · exact x.1
    · exact off1_mem x.2 p h
theorem eq_nil {prog : Program} {w : World} {A : Around} {E : Value → Shared → Prop} {s : Shared} {a b : Addr} {vs : List Value} {n n2 : Nat} {Q : Value → Shared → Prop} (ha : s.heap.get? a = some (listOf vs.toArray n)) (hb : s.heap.get? b = some (listOf ([] : List Value).toArray n2)) (hu : A.units < cLine) (h : Q (.bool (decide (vs = []))) s) : wpAny (model prog w) A (compareOp .Eq (.ref a) (.ref b)) Q E s := by
  have hA : s.heap.IsList a vs.toArray := ⟨_, ha, rfl, _, rfl⟩
  have hB : s.heap.IsList b #[] := ⟨_, hb, rfl, _, rfl⟩
  cases vs with
  | nil =>
    refine SeqAt.eq_listAt (e := fun _ => true) hA hB rfl hu (fun j h1 h2 => by simp at h2) ?_
    simpa using h
  | cons v r =>
    refine SeqAt.RcAt.lists_lengths hA hB (by simp) hu prog w E Q ?_
    simpa using h
def RwL (tlr tl : List (Addr × Obj)) (v : Value) (e : Ent3) : Prop := ∃ a t1 t2 v3 k, v = .ref a ∧ (a, tupOf #[.int e.1 t1, .int (e.2.1 : Int) t2, v3] k) ∈ tlr ∧ InL tl v3 (toP e)
theorem news_fresh {g h h' : Heap} {L : Addr} {m : Str → Option Value} {fr news : List (Addr × Obj)} (F : Fr g L h m) (N : News g L h' news) (hf : ∀ p ∈ fr, h.get? p.1 = none ∧ h'.get? p.1 = some p.2) : News g L h' (fr ++ news) := fun p hp => by
  rcases List.mem_append.mp hp with hp | hp
  · obtain ⟨h1, h2⟩ := hf p hp
    refine ⟨h2, fun e => ?_, ?_⟩
    · obtain ⟨oL, _, _, hoL, _⟩ := F.ns
      rw [e, hoL] at h1; cases h1
    · cases q : g.get? p.1 with
      | none => rfl
      | some o' => have := F.keep _ _ q; rw [h1] at this; cases this
  · exact N p hp
theorem low_words : ∀ y ∈ theWords, Txt.lower y ∈ [Str.ofString "a", Str.ofString "b", Str.ofString "ab"] := by decide +kernel
theorem Dist.three {l : List Ent3} (h : Dist l) (hw : ∀ e ∈ l, e.2.2 ∈ theWords) : l.length ≤ 3 := by
  have hn : (l.map lowE).Nodup := List.pairwise_map.mpr h
  have := List.Nodup.length_le_of_subset (l₂ := [Str.ofString "a", Str.ofString "b", Str.ofString "ab"]) hn (fun y hy => by
    obtain ⟨e, he, rfl⟩ := List.mem_map.mp hy
    exact low_words _ (hw e he))
  simpa using this
theorem fits_nodup {cs : List Call4} {l : List Ent3} (h : Dist l) (hf : ∀ e ∈ l, Fits cs e) : (l.map (·.2.1)).Nodup :=
  List.pairwise_map.mpr (List.Pairwise.imp_of_mem (fun {a b} ha hb hab e => hab (by rw [(hf a ha).same (hf b hb) e])) h)
theorem RwL.row {h : Heap} {tlr tl : List (Addr × Obj)} {v : Value} {e : Ent3} (x : RwL tlr tl v e) (hN : ∀ p ∈ tlr, h.get? p.1 = some p.2) : RowT h v e :=
  let ⟨a, t1, t2, v3, k, e1, e2, _⟩ := x; ⟨a, t1, t2, v3, k, e1, hN _ e2⟩
/-- behind a call that changes the frames' slots and two lists -/
theorem fr_slots {g h h' : Heap} {L : Addr} {m : Str → Option Value} {as : List Addr} (F : Fr g L h m) (k : KeepsBut as h h') (h0 : ∀ a ∈ as, g.get? a = none) (hL : ∀ o, h.get? L = some o → ∃ sl, h'.get? L = some { o with slots := sl }) : Fr g L h' m := by
  obtain ⟨oL, es, ep, hl, hd, r⟩ := F.ns
  obtain ⟨sl, hs⟩ := hL _ hl
  refine ⟨⟨_, es, ep, hs, hd, r⟩, fun b o e => k b o (fun hb => ?_) (F.keep b o e), F.above⟩
  rw [h0 b hb] at e; cases e
theorem news_filter {g h h' : Heap} {L : Addr} {as : List Addr} {news : List (Addr × Obj)} (N : News g L h news) (k : KeepsBut as h h') : News g L h' (news.filter fun p => decide (p.1 ∉ as)) := fun p hp => by
  obtain ⟨h1, h2⟩ := List.mem_filter.mp hp
  exact ⟨k _ _ (by simpa using h2) (N p h1).1, (N p h1).2⟩
theorem list_ne_tup {its its' : Array Value} {n n' : Nat} : listOf its n ≠ tupOf its' n' := fun e => absurd (congrArg Obj.cls e) (by show Value.type "list" ≠ Value.type "tuple"; decide)
/-- one order, one row -/
theorem rows_same {cs : List Call4} {st l l' : List Ent3} (hf : ∀ e ∈ st, Fits cs e) (h1 : l.Perm st) (h2 : l'.Perm st) (p1 : l.Pairwise fun a b => ltE b a = false) (p2 : l'.Pairwise fun a b => ltE b a = false) : l = l' := by
  refine List.Perm.eq_of_pairwise (le := fun a b => ltE b a = false) (fun a b ha hb q1 q2 => ?_) p1 p2 (h1.trans h2.symm)
  by_cases hn : a.2.1 = b.2.1
  · exact (hf a (h1.subset ha)).same (hf b (h2.subset hb)) hn
  · rw [ltE_tot hn, q2] at q1; cases q1
set_option maxHeartbeats 4000000 in
theorem right_c {prog : Program} {w : World} {A : Around} {mg mb : Str → Option Value} {mean : ExcName → Option Value} {base : Heap} {s : Shared} {R : Result → Shared → Prop} {env1 : Env} {L1 ca : Addr} {o1 : Obj} {cs : List Call4}
    (C : Cx w mg mb mean base) (st : base.StaysIn s.heap) (hroom : A.depth < 850) (hun : A.units < 50) (hh : A.handled = none) (hfr : A.frames = some [env1]) (hff : s.heap.FunFrames base [env1]) (hf1 : env1.frame = some L1) (ho1 : s.heap.get? L1 = some o1) (hdc : KtsDicts [L1] s.heap)
    (hb1 : base.get? L1 = none) (hcs : Lst CallT s.heap ca cs) (hcl : cs.length ≤ 16) (hw : ∀ c ∈ cs, c.2.1 ∈ theWords ∧ 0 ≤ c.2.2.1) (hho : cs.Pairwise (fun a b => a.2.2.1 ≤ b.2.2.1))
    (k : ∀ h' tk, KeepsBut [L1] s.heap h' → R (.ok (.ret (.bool true))) { s with heap := h', toks := tk }) :
    codeAny (model prog w) A (.call (.ref 243) ⟨[.ref ca], []⟩) R s := by
  obtain ⟨vs, n, hl', ha⟩ := hcs
  refine enter_defC (K := hd.heap_39 w.params) (binds := [(Str.ofString "calls", .ref ca)]) [(L1, o1)]
    (List.forall_mem_singleton.mpr ho1) (List.forall_mem_singleton.mpr hb1) (C.T.nolimit.keeps st) (C.K.keeps st) st (by k_is) (by k_is) (by unfold recursionLimit; omega) (by exact BindsTo.of_eq rfl) (by exact rfl) (by decide +kernel) ?_
  intro g L h₁ tk₁ cells hg stg F N Y hlt
  have X := C.K.keeps stg
  have T := C.T.keeps stg
  obtain ⟨ow, oc, rfl, how, hoc⟩ := Y.two
  replace how : ow.data = .cell none := how
  replace hoc : oc.data = .cell (some (.ref ca)) := hoc
  clear Y
  have hL1 : L1 < L := hlt _ (.head _)
  have hdict : ∀ a o, s.heap.get? a = some o → (∀ es n, o.data ≠ .dict es n) → a ∉ [L1] := fun a o e hn hm => by
    obtain ⟨o', es', n', ho', hd'⟩ := hdc L1 (.head _)
    rw [List.mem_singleton.mp hm, ho'] at e
    cases e
    exact hn _ _ hd'
  have hcg : g.get? ca = some (listOf vs.toArray n) := hg _ _ (hdict _ _ hl' (fun es n => nofun)) hl'
  have hag : All2 (CallT g) vs cs := ha.mono fun v c ⟨a, t1, t2, t3, t4, n, e1, e2⟩ => ⟨a, t1, t2, t3, t4, n, e1, hg _ _ (hdict _ _ e2 (fun es n => nofun)) e2⟩
  refine wpAny_noRaise ?_
  iterate 8 walk1
  refine newList_my F N ?_ (by simp)
  intro hl h₂ F N hhl
  dsimp only
  iterate 2 walk1
  refine call_cls F X N (by k_is) (by k_is) (by k_is) ?_
  intro tb dx h₃ F N hlow hdt
  refine init_c C (fun b o e => F.keep b o (stg b o e)) ?_ ?_ hh (N _ (.head _)).1 (N _ (.tail _ (.head _))).1 (N _ (.tail _ (.tail _ (.head _)))).1 ?_ ?_ hdt ?_
  · simp only [depth_under_make, depth_deeper]; omega
  · simp only [units_under_make, units_deeper]; omega
  · exact base_none stg (N _ (.head _)).2.2
  · exact base_none stg (N _ (.tail _ (.head _))).2.2
  rintro h₄ tk₄ kb hx₄ ⟨hsh, th, nd, hd₄⟩
  refine ⟨rfl, ?_⟩
  obtain ⟨F, N⟩ := back_upd2 F N (fun p hp => ⟨Nat.ne_of_lt (Nat.lt_trans (hlow p hp) hdt), Nat.ne_of_lt (hlow p hp)⟩) kb hx₄ hd₄
  iterate 6 walk1
  rename Fr _ _ _ _ => F
  rename News _ _ _ _ => N
  refine newList_my F N ?_ (by simp)
  intro hp h₅ F N hhp
  dsimp only
  iterate 6 walk1
  rename Fr _ _ _ _ => F
  rename News _ _ _ _ => N
  refine newList_my F N ?_ (by simp)
  intro aa h₆ F N haa
  dsimp only
  iterate 7 walk1
  rename Fr _ _ _ _ => F
  rename News _ _ _ _ => N
  refine wpAny_For ?_
  iterate 10 walk1
  rename Fr _ _ _ _ => F
  rename News _ _ _ _ => N
  refine Calls.call_len_list (PySem.IsL.isList (n := n) (F.keep _ _ hcg)) (by rw [List.size_toArray, ha.len]; omega) ?_
  iterate 2 walk1
  rename Fr _ _ _ _ => F
  rename News _ _ _ _ => N
  rename IsRange _ _ _ _ _ _ _ _ => hrg
  have hlcw : hl ≠ L + 1 + 1 := (hhl _ (.head _)).symm
  have hlcc : hl ≠ L + 1 := (hhl _ (.tail _ (.head _))).symm
  have hlL1 : hl ≠ L1 := (hhl _ (.tail _ (.tail _ (.head _)))).symm
  have hcw1 : L1 ≠ L + 1 + 1 := Nat.ne_of_lt (Nat.lt_succ_of_lt (Nat.lt_succ_of_lt hL1))
  have hdxa : ∀ p ∈ (hl, listOf (#[] : Array Value) 0) :: ([(L + 1 + 1, ow), (L + 1, oc)] ++ [(L1, o1)]), p.1 ≠ dx ∧ p.1 ≠ tb := fun p hp => ⟨Nat.ne_of_lt (hlow p hp), Nat.ne_of_lt (Nat.lt_trans (hlow p hp) hdt)⟩
  have hcc : L + 1 ≠ L + 1 + 1 := Nat.ne_of_lt (Nat.lt_succ_self _)
  have ehl : hp ≠ hl := (hhp _ (.tail _ (.tail _ (.head _)))).symm
  have eha : hp ≠ aa := haa _ (.head _)
  have ela : hl ≠ aa := haa _ (.tail _ (.tail _ (.tail _ (.head _))))
  have ehw : hp ≠ L + 1 + 1 := (hhp _ (.tail _ (.tail _ (.tail _ (.head _))))).symm
  have eaw : aa ≠ L + 1 + 1 := (haa _ (.tail _ (.tail _ (.tail _ (.tail _ (.head _)))))).symm
  have hrest : ∀ p ∈ [(tb, instObj 171 dx), (dx, dictOf [{ hash := hsh, key := Value.str (Str.ofString "_headers") th, val := Value.ref hl }] nd), (L + 1, oc), (L1, o1)], p.1 ≠ hp ∧ p.1 ≠ hl ∧ p.1 ≠ aa ∧ p.1 ≠ L + 1 + 1 := fun p hp' => by
    rcases List.mem_cons.mp hp' with rfl | hp'
    · exact ⟨hhp _ (.head _), (hdxa _ (.head _)).2.symm, haa _ (.tail _ (.head _)), (hdxa _ (.tail _ (.head _))).2.symm⟩
    rcases List.mem_cons.mp hp' with rfl | hp'
    · exact ⟨hhp _ (.tail _ (.head _)), (hdxa _ (.head _)).1.symm, haa _ (.tail _ (.tail _ (.head _))), (hdxa _ (.tail _ (.head _))).1.symm⟩
    rcases List.mem_cons.mp hp' with rfl | hp'
    · exact ⟨hhp _ (.tail _ (.tail _ (.tail _ (.tail _ (.head _))))), hlcc.symm, haa _ (.tail _ (.tail _ (.tail _ (.tail _ (.tail _ (.head _)))))), hcc⟩
    rw [List.mem_singleton.mp hp']
    exact ⟨hhp _ (.tail _ (.tail _ (.tail _ (.tail _ (.tail _ (.head _)))))), hlL1.symm, haa _ (.tail _ (.tail _ (.tail _ (.tail _ (.tail _ (.tail _ (.head _))))))), hcw1⟩
  replace N : News g L _ ((hp, listOf ([] : List Value).toArray 0) :: (hl, listOf ([] : List Value).toArray 0) :: (aa, listOf (([] : List Bool).map Value.bool).toArray 0) :: (L + 1 + 1, ow) ::
      ([(tb, instObj 171 dx), (dx, dictOf [{ hash := hsh, key := Value.str (Str.ofString "_headers") th, val := Value.ref hl }] nd), (L + 1, oc), (L1, o1)] ++ [])) := fun p hp' => N p (by
    simp only [List.append_nil, List.mem_cons, List.not_mem_nil, or_false, List.cons_append, List.nil_append, List.map_nil] at hp' ⊢
    rcases hp' with h | h | h | h | h | h | h | h
    · exact .inr (.inl h)
    · exact .inr (.inr (.inr (.inr (.inl h))))
    · exact .inl h
    · exact .inr (.inr (.inr (.inr (.inr (.inl h)))))
    · exact .inr (.inr (.inl h))
    · exact .inr (.inr (.inr (.inl h)))
    · exact .inr (.inr (.inr (.inr (.inr (.inr (.inl h))))))
    · exact .inr (.inr (.inr (.inr (.inr (.inr (.inr h)))))))
  generalize hR0 : [(tb, instObj 171 dx), (dx, dictOf [{ hash := hsh, key := Value.str (Str.ofString "_headers") th, val := Value.ref hl }] nd), (L + 1, oc), (L1, o1)] = rest0 at N hrest
  have hTN : ∀ h, (∀ p ∈ rest0, h.get? p.1 = some p.2) → TbAt h tb hl := fun h hN => ⟨dx, hsh, th, nd, hN (tb, instObj 171 dx) (by rw [← hR0]; exact .head _), hN (dx, _) (by rw [← hR0]; exact .tail _ (.head _))⟩
  have hOC : (L + 1, oc) ∈ rest0 := by rw [← hR0]; exact .tail _ (.tail _ (.head _))
  have hO1 : (L1, o1) ∈ rest0 := by rw [← hR0]; exact .tail _ (.tail _ (.tail _ (.head _)))
  dsimp only
  refine for_range (n := cs.length) hh hrg (small_one (by omega) (by omega) (by omega) (by rw [List.size_toArray, ha.len]; omega)) (by rw [rangeSize_one, List.size_toArray, ha.len]; split <;> omega) F N (fun i m nw => ∃ (acts : List Bool) (live es : List Ent3) (ps : List (Str × Str)) (us vs' : List Value) (hr : Int) (thr : Tok) (m1 m2 m3 : Nat) (ow : Obj) (wv : Option Value) (tl : List (Addr × Obj)),
    nw = (hp, listOf us.toArray m1) :: (hl, listOf vs'.toArray m2) :: (aa, listOf (acts.map Value.bool).toArray m3) :: (L + 1 + 1, ow) :: (rest0 ++ tl) ∧ (∀ p ∈ tl, p.1 ≠ hp ∧ p.1 ≠ hl ∧ p.1 ≠ aa ∧ p.1 ≠ L + 1 + 1) ∧ ow.data = .cell wv ∧
    All2 (EnL tl) us es ∧ All2 (InL tl) vs' ps ∧ Inv cs i acts live es ps hr ∧ (∀ j c, i ≤ j → cs[j]? = some c → hr ≤ c.2.2.1) ∧
    Knows m [(Str.ofString "table", .ref tb), (Str.ofString "heap", .ref hp), (Str.ofString "acts", .ref aa), (Str.ofString "hour", .int hr thr)]) ?_ ?_ ?_
  · exact ⟨[], [], [], [], [], [], 0, _, 0, 0, 0, ow, none, [], rfl, (fun p hp => nomatch hp), how, .nil, .nil, .zero, fun j c _ hc => (hw c (List.mem_of_getElem? hc)).2, ⟨rfl, rfl, rfl, rfl, trivial⟩⟩
  · rintro i ti m₁ nw h₇ tk₇ I oI hi ⟨acts, live, es, ps, us, vs', hr, thr, m1, m2, m3, ow, wv, tl, rfl, htl, how, hus, hvs', inv, hhr, hm⟩ hnI F N
    replace F := fr_known F hm
    have hidx : (0 : Int) + (i : Int) * 1 = (i : Int) := by omega
    rw [hidx]
    obtain ⟨c, hc⟩ : ∃ c, cs[i]? = some c := ⟨cs[i], List.getElem?_eq_getElem hi⟩
    obtain ⟨v, hv, hvc⟩ := hag.get i _ hc
    obtain ⟨ac, u1, u2, u3, u4, nc, rfl, hvg⟩ := hvc
    have hcw := (hw _ (List.mem_of_getElem? hc)).1
    have hi16 : i < 16 := by omega
    refine wpAny_pure ?_
    iterate 6 walk1
    rename Fr _ _ _ _ => F
    rename News _ _ _ _ => N
    refine nameX_C N rfl (.tail _ (.tail _ (.tail _ (.tail _ (.tail _ (List.mem_append_left _ hOC)))))) hoc ?_
    walk1
    refine item_L (F.keep _ _ hcg) (by omega) (i := (i : Int)) (v := .ref ac) hv (by rw [ha.len]; omega) ?_
    refine unpackN_ F N ⟨_, F.keep _ _ hvg, rfl, _, rfl⟩ hh rfl rfl ?_
    intro h₈ F N
    iterate 5 walk1
    rename Fr _ _ _ _ => F
    rename News _ _ _ _ => N
    have hrt : ∀ p ∈ rest0 ++ tl, p.1 ≠ hp ∧ p.1 ≠ hl ∧ p.1 ≠ aa ∧ p.1 ≠ L + 1 + 1 := fun p hp' => (List.mem_append.mp hp').elim (hrest p) (htl p)
    have hIp : I ≠ hp := (hnI _ (.head _)).symm
    have hIl : I ≠ hl := (hnI _ (.tail _ (.head _))).symm
    have hIa : I ≠ aa := (hnI _ (.tail _ (.tail _ (.head _)))).symm
    have hIw : I ≠ L + 1 + 1 := (hnI _ (.tail _ (.tail _ (.tail _ (.head _))))).symm
    have hIr : ∀ p ∈ rest0 ++ tl, p.1 ≠ I := fun p hp' => hnI p (.tail _ (.tail _ (.tail _ (.tail _ hp'))))
    refine storeX_C F N rfl (UpdF.tail hIw (UpdF.tail ehw (UpdF.tail hlcw (UpdF.tail eaw (UpdF.head fun p hp' => (hrt p hp').2.2.2))))) how ?_
    intro h₉ ow₂ F N how₂
    dsimp only
    iterate 9 walk1
    rename Fr _ _ _ _ => F
    rename News _ _ _ _ => N
    refine LCt.Assign_ListComp_T F rfl (by with_unfolding_all rfl) (by with_unfolding_all rfl) (by decide) (by rfl) (by decide) (by rfl) (by rfl) (by rfl) ?_
    iterate 4 walk1
    rename Fr _ _ _ _ => F
    rename News _ _ _ _ => N
    refine nameX_C N rfl (.tail _ (.tail _ (.tail _ (.tail _ (.tail _ (List.mem_append_left _ hOC)))))) hoc ?_
    iterate 6 walk1
    rename Fr _ _ _ _ => F
    rename News _ _ _ _ => N
    refine wpAny_call (standing_c (cs := cs) (acts := acts) C (fun b o e => F.keep b o (stg b o e)) ?_ ?_ hh ⟨vs, n, F.keep _ _ hcg, hag.mono fun v c h => h.keeps F.keep⟩ (N _ (.tail _ (.tail _ (.tail _ (.head _))))).1 (by have := inv.alen; omega) hcl (fun c hc => (hw c hc).1) ?_)
    · simp only [depth_deeper]; omega
    · simp only [units_deeper]; omega
    intro h₁₀ tk₁₀ sD lv nl tl₂ kb hsD hlv htl₂ hsDn
    have F0 := F
    obtain ⟨F, N⟩ := back_same F N kb
    have N₂ := news_fresh (fr := (sD, listOf lv.toArray nl) :: tl₂) F0 N (fun p hp' => by
      rcases List.mem_cons.mp hp' with rfl | hp'
      · exact ⟨hsDn, hsD⟩
      · exact htl₂ p hp')
    refine LCt.CompSrcT.ledger (k := nl) hh F N₂ (.head _) (by rw [List.size_toArray, hlv.len, sizeLine_eq]; have := inv.slen c.2.2.1; omega) ?_
    intro h₁₁
    dsimp only
    refine comp_filter (fun i ys => All2 IsStr ys ((((standP cs acts c.2.2.1).take i).filter fun p => Txt.lower p.1 == Txt.lower c.2.1).map (·.2))) .nil ?_ ?_
    · intro i' ys v I' oI' C' oC' D' m₂ h₁₂ tk₁₂ hv' hJ' hC' hm₂ F N hoff hne'
      obtain ⟨⟨k', y⟩, hpi, hp'⟩ := hlv.at (by simpa using hv')
      obtain ⟨a, t1, t2, n', rfl, ho⟩ := hp'
      dsimp only at ho
      have hk' : k' ∈ theWords := inv.words (fun c hc => (hw c hc).1) _ _ (List.mem_of_getElem? hpi)
      have hoN : h₁₂.get? a = some (tupOf #[.str k' t1, .str y t2] n') := (N _ (.tail _ (.tail _ (.tail _ (List.mem_append_left _ (.tail _ ho)))))).1
      have hwN : (L + 1 + 1, ow₂) ∈ (I', oI') :: (C', oC') :: (D', LCg.lst ys) :: (((sD, listOf lv.toArray nl) :: tl₂) ++ ((I, oI) :: (hp, listOf us.toArray m1) :: (hl, listOf vs'.toArray m2) :: (aa, listOf (acts.map Value.bool).toArray m3) :: (L + 1 + 1, ow₂) :: (rest0 ++ tl))) :=
        .tail _ (.tail _ (.tail _ (List.mem_append_right _ (.tail _ (.tail _ (.tail _ (.tail _ (.head _))))))))
      iterate 6 walk1
      refine item_tupleT (l := [Value.str k' t1, Value.str y t2]) (j := 0) ⟨_, hoN, rfl, _, rfl⟩ (by decide) (by decide) rfl rfl ?_
      iterate 2 walk1
      refine SCL.lower (Nat.le_trans (word_len k' hk') (by decide)) fun _ => ?_
      walk1
      refine wpAny_Name (wpAny_loadName_cell (by with_unfolding_all rfl) (by with_unfolding_all rfl) (by with_unfolding_all rfl) ⟨ow₂, (N _ hwN).1, how₂⟩ ?_) (by decide)
      iterate 2 walk1
      refine SCL.lower (Nat.le_trans (word_len c.2.1 hcw) (by decide)) fun _ => ?_
      walk1
      refine wpAny_truthy_bool ?_
      k_unfold
      dsimp only
      cases hq : Txt.lower k' == Txt.lower c.2.1 with
      | true =>
        rw [if_pos rfl]
        iterate 3 walk1
        refine item_tupleT (l := [Value.str k' t1, Value.str y t2]) (j := 1) ⟨_, hoN, rfl, _, rfl⟩ (by decide) (by decide) rfl rfl ?_
        refine ⟨_, _, _, rfl, F, N, hoff, .inr ⟨_, .head _, rfl, _, rfl⟩, rfl, ?_⟩
        rw [take_succ_of hpi, List.filter_append, List.map_append]
        refine hJ'.append ?_
        rw [List.filter_cons_of_pos (by exact hq)]
        exact .one ⟨_, rfl⟩
      | false =>
        rw [if_neg (by simp)]
        refine ⟨_, _, _, rfl, F, N, hoff, .inr ⟨_, .head _, rfl, _, rfl⟩, rfl, ?_⟩
        rw [take_succ_of hpi, List.filter_append, List.filter_cons_of_neg (by rw [hq]; simp), List.filter_nil, List.append_nil]
        exact hJ'
    · intro ys hJ' aD h₁₂ tk₁₂ F N hoff
      rw [List.size_toArray, hlv.len, List.take_length] at hJ'
      change All2 IsStr ys (aheadP cs acts c.2.2.1 c.2.1) at hJ'
      replace N : News g L h₁₂ ((aD, listOf ys.toArray ys.length) :: (I, oI) :: (hp, listOf us.toArray m1) :: (hl, listOf vs'.toArray m2) :: (aa, listOf (acts.map Value.bool).toArray m3) :: (L + 1 + 1, ow₂) :: (rest0 ++ tl)) := fun p hp' => N p (by
        rcases List.mem_cons.mp hp' with rfl | hp'
        · exact .head _
        · exact .tail _ (List.mem_append_right _ hp'))
      have hDo : ∀ p ∈ (I, oI) :: (hp, listOf us.toArray m1) :: (hl, listOf vs'.toArray m2) :: (aa, listOf (acts.map Value.bool).toArray m3) :: (L + 1 + 1, ow₂) :: (rest0 ++ tl), p.1 ≠ aD := fun p hp' => off1_mem hoff p (List.mem_append_right _ hp')
      generalize hah : aheadP cs acts c.2.2.1 c.2.1 = ahead at hJ'
      have hDa : aD ≠ aa := (hDo _ (.tail _ (.tail _ (.tail _ (.head _))))).symm
      have hyl : ys.length ≤ i := by
        rw [hJ'.len, ← hah]
        unfold aheadP
        rw [List.length_map]
        exact Nat.le_trans (List.length_filter_le _ _) (inv.slen _)
      have app : ∀ (A' : Around) h m tk (F : Fr g L h m) (N : News g L h ((aD, listOf ys.toArray ys.length) :: (I, oI) :: (hp, listOf us.toArray m1) :: (hl, listOf vs'.toArray m2) :: (aa, listOf (acts.map Value.bool).toArray m3) :: (L + 1 + 1, ow₂) :: (rest0 ++ tl))) (b : Bool) (Q : Value → Shared → Prop),
          (∀ h' m3', Fr g L h' m → News g L h' ((aD, listOf ys.toArray ys.length) :: (I, oI) :: (hp, listOf us.toArray m1) :: (hl, listOf vs'.toArray m2) :: (aa, listOf ((acts ++ [b]).map Value.bool).toArray m3') :: (L + 1 + 1, ow₂) :: (rest0 ++ tl)) → Q .none { s with heap := h', toks := tk }) →
          wpAny (model prog w) A' (call (.builtin "list.append") [.ref aa, .bool b]) Q (fun _ _ => False) { s with heap := h, toks := tk } := by
        intro A' h m tk F N b Q hQ
        refine append_K F N (Upd.tail hDa (Upd.tail hIa (Upd.tail eha (Upd.tail ela (Upd.head fun p hp' => ?_))))) ?_ (by rw [List.size_toArray, List.length_map, inv.alen, sizeLine_eq]; omega)
        · rcases List.mem_cons.mp hp' with rfl | hp'
          · exact eaw.symm
          · exact (hrt p hp').2.2.1
        · intro h' F N
          rw [List.push_toArray, show acts.map Value.bool ++ [Value.bool b] = (acts ++ [b]).map Value.bool by simp] at N
          exact hQ h' _ F N
      dsimp only
      iterate 1 walk1
      refine wpAny_mono (Q := fun f s' => f = .next ∧ ∃ h₅ tk₅ m₅ m3', s' = { s with heap := h₅, toks := tk₅ } ∧ Fr g L h₅ m₅ ∧ Knows m₅ [(Str.ofString "table", .ref tb), (Str.ofString "heap", .ref hp), (Str.ofString "acts", .ref aa), (Str.ofString "hour", .int c.2.2.1 u3), (Str.ofString "number", .int (i : Int) ti), (Str.ofString "kind", .int c.1 u1), (Str.ofString "ahead", .ref aD)] ∧
        News g L h₅ ((aD, listOf ys.toArray ys.length) :: (I, oI) :: (hp, listOf us.toArray m1) :: (hl, listOf vs'.toArray m2) :: (aa, listOf ((acts ++ [actB c.1 ahead]).map Value.bool).toArray m3') :: (L + 1 + 1, ow₂) :: (rest0 ++ tl))) ?_ ?_ (fun _ _ h => h)
      · iterate 11 walk1
        refine wpAny_truthy_bool ?_
        by_cases hk1 : c.1 = 1
        · rw [if_neg (by simpa using hk1)]
          iterate 5 walk1
          rename Fr _ _ _ _ => F
          rename News _ _ _ _ => N
          refine newList_my F N ?_ (by simp)
          intro aN h₁₃ F N haN
          dsimp only
          refine eq_nil (N _ (.tail _ (.head _))).1 (N _ (.head _)).1 (by simp only [units_deeper]; unfold cLine; omega) ?_
          replace N : News g L h₁₃ _ := fun p hp' => N p (.tail _ hp')
          walk1
          have hbt : decide (ys = []) = actB c.1 ahead := by
            unfold actB
            have : ys = [] ↔ ahead = [] := by rw [← List.length_eq_zero_iff, ← List.length_eq_zero_iff, hJ'.len]
            simp [hk1, this]
          rw [hbt]
          refine app _ _ _ _ F N _ _ fun h' m3' F N => ?_
          exact ⟨trivial, _, _, _, m3', rfl, F, ⟨rfl, rfl, rfl, rfl, rfl, rfl, rfl, trivial⟩, N⟩
        · rw [if_pos (by simpa using hk1)]
          walk1
          have hbt : (c.1 != 1) = actB c.1 ahead := by unfold actB; simp [hk1]
          rw [hbt]
          refine app _ _ _ _ F N _ _ fun h' m3' F N => ?_
          exact ⟨trivial, _, _, _, m3', rfl, F, ⟨rfl, rfl, rfl, rfl, rfl, rfl, rfl, trivial⟩, N⟩
      · rintro f s' ⟨rfl, h₁₃, tk₁₃, m₁₃, m3', rfl, F, hm₁₃, N⟩
        replace F := fr_known F hm₁₃
        iterate 1 walk1
        refine wpAny_mono (Q := fun f s' => f = .next ∧ ∃ h₅ tk₅ m₅ dv, s' = { s with heap := h₅, toks := tk₅ } ∧ Fr g L h₅ m₅ ∧ Knows m₅ [(Str.ofString "table", .ref tb), (Str.ofString "heap", .ref hp), (Str.ofString "acts", .ref aa), (Str.ofString "hour", .int c.2.2.1 u3), (Str.ofString "number", .int (i : Int) ti), (Str.ofString "due", dv)] ∧ VIs dv (dueP c.1 ahead i) ∧
          News g L h₅ ((I, oI) :: (hp, listOf us.toArray m1) :: (hl, listOf vs'.toArray m2) :: (aa, listOf ((acts ++ [actB c.1 ahead]).map Value.bool).toArray m3') :: (L + 1 + 1, ow₂) :: (rest0 ++ tl))) ?_ ?_ (fun _ _ h => h)
        · iterate 6 walk1
          refine wpAny_truthy_bool ?_
          by_cases hk1 : c.1 = 1
          · rw [if_pos (by simpa using hk1)]
            iterate 8 walk1
            refine SB.mul (star_ok hi16) ?_
            intro t₁₄ k₁₄
            rw [star_mul _ hi16]
            walk1
            rename Fr _ _ _ _ => F
            rename News _ _ _ _ => N
            refine newList_my F N ?_ (by simp)
            intro aN h₁₄ F N haN
            dsimp only
            refine add_lists_my F N (N _ (.tail _ (.head _))).1 (N _ (.head _)).1 ?_ (by simp; omega)
            intro aM h₁₅ F N haM
            walk1
            have hall : All2 IsStr (ys ++ [Value.str (star i) t₁₄]) (ahead ++ [star i]) := hJ'.append (.one ⟨_, rfl⟩)
            obtain ⟨d0, hd0⟩ : ∃ d0, (ahead ++ [star i])[0]? = some d0 := by cases ahead <;> exact ⟨_, rfl⟩
            obtain ⟨dv, hdv, td, rfl⟩ := hall.get 0 _ hd0
            refine item_L (i := 0) (N _ (.head _)).1 (by omega) hdv (by simp; omega) ?_
            walk1
            rename Fr _ _ _ _ => F
            rename News _ _ _ _ => N
            refine ⟨trivial, _, _, _, .str d0 td, rfl, F, ⟨rfl, rfl, rfl, rfl, rfl, rfl, trivial⟩, ?_, fun p hp' => N p (.tail _ (.tail _ (.tail _ hp')))⟩
            unfold dueP; rw [if_pos hk1, hd0]; exact ⟨_, rfl⟩
          · rw [if_neg (by simpa using hk1)]
            iterate 2 walk1
            rename Fr _ _ _ _ => F
            rename News _ _ _ _ => N
            exact ⟨rfl, _, _, _, .none, rfl, F, ⟨rfl, rfl, rfl, rfl, rfl, rfl, trivial⟩, by unfold dueP; rw [if_neg hk1]; rfl, fun p hp' => N p (.tail _ hp')⟩
        · rintro f s' ⟨rfl, h₁₄, tk₁₄, m₁₄, dv, rfl, F, hm₁₄, hdv, N⟩
          replace F := fr_known F hm₁₄
          dsimp only
          iterate 12 walk1
          rename Fr _ _ _ _ => F
          rename News _ _ _ _ => N
          refine nameX_C N rfl (.tail _ (.tail _ (.tail _ (.tail _ (.tail _ (List.mem_append_left _ hOC)))))) hoc ?_
          iterate 1 walk1
          refine item_L (F.keep _ _ hcg) (by omega) (i := (i : Int)) (v := .ref ac) hv (by rw [ha.len]; omega) ?_
          iterate 4 walk1
          rename Fr _ _ _ _ => F
          rename News _ _ _ _ => N
          replace N : News g L h₁₄ ((hp, listOf us.toArray m1) :: (hl, listOf vs'.toArray m2) :: (I, oI) :: (aa, listOf ((acts ++ [actB c.1 ahead]).map Value.bool).toArray m3') :: (L + 1 + 1, ow₂) :: (rest0 ++ tl)) := fun p hp' => N p (by
            rcases List.mem_cons.mp hp' with rfl | hp'
            · exact .tail _ (.head _)
            rcases List.mem_cons.mp hp' with rfl | hp'
            · exact .tail _ (.tail _ (.head _))
            rcases List.mem_cons.mp hp' with rfl | hp'
            · exact .head _
            · exact .tail _ (.tail _ (.tail _ hp')))
          have hTl : ∀ p ∈ (I, oI) :: (aa, listOf ((acts ++ [actB c.1 ahead]).map Value.bool).toArray m3') :: (L + 1 + 1, ow₂) :: (rest0 ++ tl), p.1 ≠ hp ∧ p.1 ≠ hl := fun p hp' => by
            rcases List.mem_cons.mp hp' with rfl | hp'
            · exact ⟨hIp, hIl⟩
            rcases List.mem_cons.mp hp' with rfl | hp'
            · exact ⟨eha.symm, ela.symm⟩
            rcases List.mem_cons.mp hp' with rfl | hp'
            · exact ⟨ehw.symm, hlcw.symm⟩
            · exact ⟨(hrt p hp').1, (hrt p hp').2.1⟩
          have inT : ∀ p ∈ rest0 ++ tl, p ∈ (hp, listOf us.toArray m1) :: (hl, listOf vs'.toArray m2) :: (I, oI) :: (aa, listOf ((acts ++ [actB c.1 ahead]).map Value.bool).toArray m3') :: (L + 1 + 1, ow₂) :: (rest0 ++ tl) := fun p hp' => .tail _ (.tail _ (.tail _ (.tail _ (.tail _ hp'))))
          have hpsl : ps.length ≤ i := by rw [inv.pseq, List.length_map]; exact Nat.le_trans (List.length_filter_le _ _) inv.llen
          have hesl := inv.elen
          have hpw : ∀ p ∈ ps, p.1 ∈ theWords := by rw [inv.pseq, ← inv.stand hr]; exact inv.words (fun c hc => (hw c hc).1) hr
          obtain ⟨hans, inv₂⟩ := inv.step hc (hhr i c (Nat.le_refl _) hc) hi16
          rw [hah] at hans inv₂
          refine wpAny_call (called_c (PT := InL tl) (PE := EnL tl) (es := es) (ps := ps) C (fun b o e => F.keep b o (stg b o e)) ?_ ?_ hh (hTN _ fun p hp' => (N _ (inT _ (List.mem_append_left _ hp'))).1)
            (fun v e ⟨a, t1, t2, k, e1, e2⟩ => ⟨a, t1, t2, k, e1, (N _ (inT _ (List.mem_append_right _ e2))).1⟩) (fun v e ⟨a, t1, t2, t3, k, e1, e2⟩ => ⟨a, t1, t2, t3, k, e1, (N _ (inT _ (List.mem_append_right _ e2))).1⟩)
            ⟨vs', m2, (N _ (.tail _ (.head _))).1, hvs'⟩ ⟨us, m1, (N _ (.head _)).1, hus⟩ (F.keep _ _ hvg) (base_none stg (N _ (.tail _ (.head _))).2.2) (base_none stg (N _ (.head _)).2.2) ehl hcw hi16 hpw (inv.wordsE fun c hc => (hw c hc).1) inv.nd (by omega) (by omega) ?_)
          · simp only [depth_deeper]; omega
          · simp only [units_deeper]; omega
          intro h₁₅ tk₁₅ av fr vs₂ us₂ n₂ k₂ kb hav hfr' hl₂ ha₂ hp₂ hu₂
          have F0 := F
          have N0 := N
          obtain ⟨F, N⟩ := back_upd2 F N hTl kb hp₂ hl₂
          replace N := news_fresh F0 N hfr'
          rw [hans] at hav
          have frn : ∀ p ∈ fr, ∀ q ∈ (hp, listOf us.toArray m1) :: (hl, listOf vs'.toArray m2) :: (I, oI) :: (aa, listOf ((acts ++ [actB c.1 ahead]).map Value.bool).toArray m3') :: (L + 1 + 1, ow₂) :: (rest0 ++ tl), p.1 ≠ q.1 := fun p hp' q hq e => by
            have := (hfr' p hp').1
            rw [e, (N0 q hq).1] at this
            cases this
          have htl' : ∀ p ∈ fr ++ tl, p.1 ≠ hp ∧ p.1 ≠ hl ∧ p.1 ≠ aa ∧ p.1 ≠ L + 1 + 1 := fun p hp' => by
            rcases List.mem_append.mp hp' with hp' | hp'
            · exact ⟨frn p hp' _ (.head _), frn p hp' _ (.tail _ (.head _)), frn p hp' _ (.tail _ (.tail _ (.tail _ (.head _)))), frn p hp' _ (.tail _ (.tail _ (.tail _ (.tail _ (.head _)))))⟩
            · exact htl p hp'
          have htI' : ∀ p ∈ fr ++ tl, p.1 ≠ I := fun p hp' => by
            rcases List.mem_append.mp hp' with hp' | hp'
            · exact frn p hp' _ (.tail _ (.tail _ (.head _)))
            · exact hIr p (List.mem_append_right _ hp')
          replace N : News g L h₁₅ ((I, oI) :: (hp, listOf us₂.toArray k₂) :: (hl, listOf vs₂.toArray n₂) :: (aa, listOf ((acts ++ [actB c.1 ahead]).map Value.bool).toArray m3') :: (L + 1 + 1, ow₂) :: (rest0 ++ (fr ++ tl))) := fun p hp' => N p (by
            rcases List.mem_cons.mp hp' with rfl | hp'
            · exact List.mem_append_right _ (.tail _ (.tail _ (.head _)))
            rcases List.mem_cons.mp hp' with rfl | hp'
            · exact List.mem_append_right _ (.head _)
            rcases List.mem_cons.mp hp' with rfl | hp'
            · exact List.mem_append_right _ (.tail _ (.head _))
            rcases List.mem_cons.mp hp' with rfl | hp'
            · exact List.mem_append_right _ (.tail _ (.tail _ (.tail _ (.head _))))
            rcases List.mem_cons.mp hp' with rfl | hp'
            · exact List.mem_append_right _ (.tail _ (.tail _ (.tail _ (.tail _ (.head _)))))
            rcases List.mem_append.mp hp' with hp' | hp'
            · exact List.mem_append_right _ (.tail _ (.tail _ (.tail _ (.tail _ (.tail _ (List.mem_append_left _ hp'))))))
            rcases List.mem_append.mp hp' with hp' | hp'
            · exact List.mem_append_left _ hp'
            · exact List.mem_append_right _ (.tail _ (.tail _ (.tail _ (.tail _ (.tail _ (List.mem_append_right _ hp')))))))
          replace ha₂ : All2 (InL (fr ++ tl)) vs₂ _ := ha₂.mono fun v p h => h.elim (fun h => h.more fun q hq => List.mem_append_right _ hq) (fun h => h.more fun q hq => List.mem_append_left _ hq)
          replace hu₂ : All2 (EnL (fr ++ tl)) us₂ _ := hu₂.mono fun v p h => h.elim (fun h => h.more fun q hq => List.mem_append_right _ hq) (fun h => h.more fun q hq => List.mem_append_left _ hq)
          have hcmp : ∀ (A' : Around) (E' : Value → Shared → Prop) (s' : Shared) (Q' : Value → Shared → Prop), Q' (.bool false) s' → wpAny (model prog w) A' (compareOp .NotEq av dv) Q' E' s' := by
            intro A' E' s' Q' hQ'
            cases hD : dueP c.1 ahead i with
            | none =>
              rw [hD] at hav hdv
              cases hav; cases hdv
              exact cmp_ofNotEq (SeqAt.RcNeAt.none_none prog w E' Q' hQ')
            | some y =>
              rw [hD] at hav hdv
              obtain ⟨ta, rfl⟩ := hav
              obtain ⟨td, rfl⟩ := hdv
              refine cmp_ofNotEq (SeqAt.RcNeAt.str_str y ta y td prog w E' Q' ?_)
              simpa using hQ'
          dsimp only
          iterate 1 walk1
          refine hcmp _ _ _ _ ?_
          refine wpAny_truthy_bool ?_
          rw [if_neg (by simp)]
          iterate 6 walk1
          rename Fr _ _ _ _ => F
          rename News _ _ _ _ => N
          have hTb : TbAt h₁₅ tb hl := hTN _ fun p hp' => (N _ (.tail _ (.tail _ (.tail _ (.tail _ (.tail _ (List.mem_append_left _ hp'))))))).1
          refine tab_method F X hTb (by k_is) (by k_is) (by k_is) (by decide) ?_
          iterate 1 walk1
          have hps₂ : (calledP c.1 c.2.1 c.2.2.1 c.2.2.2 i es ps).2.2 = standP cs (acts ++ [actB c.1 ahead]) c.2.2.1 := by rw [inv₂.pseq, ← inv₂.stand]
          have hvl : vs₂.length ≤ i + 1 := by rw [ha₂.len, hps₂]; exact inv₂.slen _
          refine wpAny_call (items_c (vs := vs₂) (n := n₂) C (fun b o e => F.keep b o (stg b o e)) ?_ ?_ hTb (N _ (.tail _ (.tail _ (.head _)))).1 (by omega) ?_)
          · simp only [depth_deeper]; omega
          · simp only [units_deeper]; omega
          intro h₁₆ tk₁₆ iD ni kb hiD hiDn
          have F0 := F
          obtain ⟨F, N⟩ := back_same F N kb
          replace N := news_fresh (fr := [(iD, listOf vs₂.toArray ni)]) F0 N (fun p hp' => by rw [List.mem_singleton.mp hp']; exact ⟨hiDn, hiD⟩)
          dsimp only
          iterate 4 walk1
          rename Fr _ _ _ _ => F
          rename News _ _ _ _ => N
          refine nameX_C N rfl (.tail _ (.tail _ (.tail _ (.tail _ (.tail _ (.tail _ (List.mem_append_left _ hOC))))))) hoc ?_
          iterate 6 walk1
          rename Fr _ _ _ _ => F
          rename News _ _ _ _ => N
          refine wpAny_call (standing_c (cs := cs) (acts := acts ++ [actB c.1 ahead]) C (fun b o e => F.keep b o (stg b o e)) ?_ ?_ hh ⟨vs, n, F.keep _ _ hcg, hag.mono fun v c h => h.keeps F.keep⟩ (N _ (.tail _ (.tail _ (.tail _ (.tail _ (.head _)))))).1 (by have := inv₂.alen; omega) hcl (fun c hc => (hw c hc).1) ?_)
          · simp only [depth_deeper]; omega
          · simp only [units_deeper]; omega
          intro h₁₇ tk₁₇ sD₂ lv₂ nl₂ tl₃ kb hsD₂ hlv₂ htl₃ hsDn₂
          have F0 := F
          obtain ⟨F, N⟩ := back_same F N kb
          dsimp only
          refine pairs_ne (ps := standP cs (acts ++ [actB c.1 ahead]) c.2.2.1) (N _ (.head _)).1 hsD₂ ?_ ?_ ?_ ?_
          · rw [← hps₂]
            exact ha₂.mono fun v p ⟨a, t1, t2, k, e1, e2⟩ => ⟨a, t1, t2, k, e1, (N _ (.tail _ (.tail _ (.tail _ (.tail _ (.tail _ (.tail _ (List.mem_append_right _ e2)))))))).1⟩
          · exact hlv₂.mono fun v p ⟨a, t1, t2, k, e1, e2⟩ => ⟨a, t1, t2, k, e1, (htl₃ _ e2).2⟩
          · simp only [units_deeper]; unfold cLine; omega
          refine wpAny_truthy_bool ?_
          rw [if_neg (by simp)]
          iterate 2 walk1
          refine ⟨_, _, _, _, rfl, F, fun p hp' => N p (.tail _ hp'), ?_, _, _, _, _, us₂, vs₂, c.2.2.1, u3, k₂, n₂, m3', ow₂, _, fr ++ tl, rfl, htl', how₂, hu₂, ha₂, inv₂, ?_, ⟨rfl, rfl, rfl, rfl, trivial⟩⟩
          · intro p hp'
            rcases List.mem_cons.mp hp' with rfl | hp'
            · exact hIp.symm
            rcases List.mem_cons.mp hp' with rfl | hp'
            · exact hIl.symm
            rcases List.mem_cons.mp hp' with rfl | hp'
            · exact hIa.symm
            rcases List.mem_cons.mp hp' with rfl | hp'
            · exact hIw.symm
            rcases List.mem_append.mp hp' with hp' | hp'
            · exact hIr p (List.mem_append_left _ hp')
            · exact htI' p hp'
          · intro j c' hj hc'
            have hlt := (List.getElem?_eq_some_iff.mp hc').1
            have h1 := (List.getElem?_eq_some_iff.mp hc).2
            have h2 := (List.getElem?_eq_some_iff.mp hc').2
            have := List.pairwise_iff_getElem.mp hho i j hi hlt (by omega)
            rw [h1, h2] at this
            exact this
  · rintro h₇ tk₇ m₇ nw F N ⟨acts, live, es, ps, us, vs', hr, thr, m1, m2, m3, ow, wv, tl, rfl, htl, how, hus, hvs', inv, hhr, hm⟩
    replace F := fr_known F hm
    dsimp only
    have hrt : ∀ p ∈ rest0 ++ tl, p.1 ≠ hp ∧ p.1 ≠ hl ∧ p.1 ≠ aa ∧ p.1 ≠ L + 1 + 1 := fun p hp' => (List.mem_append.mp hp').elim (hrest p) (htl p)
    iterate 6 walk1
    refine LCg.ListComp_U F (by with_unfolding_all rfl) (by decide) (by rfl) (by decide) (by rfl) ?_
    iterate 4 walk1
    refine nameX_C N rfl (.tail _ (.tail _ (.tail _ (.tail _ (List.mem_append_left _ hOC))))) hoc ?_
    iterate 6 walk1
    refine wpAny_call (standing_c (cs := cs) (acts := acts) C (fun b o e => F.keep b o (stg b o e)) ?_ ?_ hh ⟨vs, n, F.keep _ _ hcg, hag.mono fun v c h => h.keeps F.keep⟩ (N _ (.tail _ (.tail _ (.head _)))).1 (by have := inv.alen; omega) hcl (fun c hc => (hw c hc).1) ?_)
    · simp only [depth_deeper]; omega
    · simp only [units_deeper]; omega
    intro h₈ tk₈ sD lv nl tl₂ kb hsD hlv htl₂ hsDn
    have F0 := F
    have N0 := N
    obtain ⟨F, N⟩ := back_same F N kb
    have N₂ := news_fresh (fr := (sD, listOf lv.toArray nl) :: tl₂) F0 N (fun p hp' => by
      rcases List.mem_cons.mp hp' with rfl | hp'
      · exact ⟨hsDn, hsD⟩
      · exact htl₂ p hp')
    have hslen := inv.slen hr
    rw [inv.stand hr] at hlv hslen
    generalize hst : (live.filter fun e => decide (e.1 > hr)) = stE at hlv hslen
    have fitS : ∀ e ∈ stE, Fits cs e ∧ e.2.1 < cs.length := fun e he => inv.fitL e (by rw [← hst] at he; exact (List.mem_filter.mp he).1)
    have hlvlen : lv.length = stE.length := by rw [hlv.len, List.length_map]
    refine LCg.CompSrc.ledger (k := nl) hh F N₂ (.head _) (by rw [List.size_toArray, hlvlen, sizeLine_eq]; rw [List.length_map] at hslen; omega) ?_
    intro h₉
    dsimp only
    refine comp_map (fun i ys nw => ∃ tlr, nw = tlr ++ (((sD, listOf lv.toArray nl) :: tl₂) ++ ((hp, listOf us.toArray m1) :: (hl, listOf vs'.toArray m2) :: (aa, listOf (acts.map Value.bool).toArray m3) :: (L + 1 + 1, ow) :: (rest0 ++ tl))) ∧ All2 (RwL tlr tl₂) ys (stE.take i)) ⟨[], rfl, .nil⟩ ?_ ?_
    · rintro i ys nw v I oI C oC D m₂ h₁₀ tk₁₀ hv ⟨tlr, rfl, hys⟩ hC hm₂ F N hoff hne
      have hilt : i < stE.length := by
        have := (Array.getElem?_eq_some_iff.mp hv).1
        rw [List.size_toArray, hlvlen] at this
        exact this
      obtain ⟨e, he⟩ : ∃ e, stE[i]? = some e := ⟨stE[i], List.getElem?_eq_getElem hilt⟩
      obtain ⟨p', hpi, hp'⟩ := hlv.at (i := i) (v := v) (by simpa using hv)
      rw [List.getElem?_map, he] at hpi
      cases hpi
      obtain ⟨a, t1, t2, n', rfl, ho⟩ := id hp'
      obtain ⟨⟨c, hc, hc1, hc2⟩, hen⟩ := fitS e (List.mem_of_getElem? he)
      have he16 : e.2.1 < 16 := by omega
      have hoN : h₁₀.get? a = some (tupOf #[.str e.2.2 t1, .str (star e.2.1) t2] n') := (N _ (.tail _ (.tail _ (.tail _ (List.mem_append_right _ (List.mem_append_left _ (.tail _ ho))))))).1
      obtain ⟨vc, hvc, ac, u1, u2, u3, u4, nc, rfl, hvg⟩ := hag.get e.2.1 _ hc
      have hccN : (L + 1, oc) ∈ (I, oI) :: (C, oC) :: (D, LCg.lst ys) :: (tlr ++ (((sD, listOf lv.toArray nl) :: tl₂) ++ ((hp, listOf us.toArray m1) :: (hl, listOf vs'.toArray m2) :: (aa, listOf (acts.map Value.bool).toArray m3) :: (L + 1 + 1, ow) :: (rest0 ++ tl)))) :=
        .tail _ (.tail _ (.tail _ (List.mem_append_right _ (List.mem_append_right _ (.tail _ (.tail _ (.tail _ (.tail _ (List.mem_append_left _ hOC)))))))))
      iterate 4 walk1
      refine wpAny_Name (wpAny_loadName_cell (by with_unfolding_all rfl) (by with_unfolding_all rfl) (by with_unfolding_all rfl) ⟨oc, (N _ hccN).1, hoc⟩ ?_) (by decide)
      iterate 7 walk1
      refine item_tupleT (l := [Value.str e.2.2 t1, Value.str (star e.2.1) t2]) (j := 1) ⟨_, hoN, rfl, _, rfl⟩ (by decide) (by decide) rfl rfl ?_
      iterate 1 walk1
      have hsl : ((star e.2.1).length : Int) = (e.2.1 : Int) := by rw [star_length _ he16]
      refine len_str (by rw [hsl]; omega) ?_
      rw [hsl]
      refine item_L (i := (e.2.1 : Int)) (F.keep _ _ hcg) (by omega) hvc (by rw [ha.len]; omega) ?_
      iterate 1 walk1
      refine item_tupleT (l := [Value.int c.1 u1, Value.str c.2.1 u2, Value.int c.2.2.1 u3, Value.int c.2.2.2 u4]) (j := 3) ⟨_, F.keep _ _ hvg, rfl, _, rfl⟩ (by decide) (by decide) rfl rfl ?_
      iterate 8 walk1
      refine item_tupleT (l := [Value.str e.2.2 t1, Value.str (star e.2.1) t2]) (j := 1) ⟨_, hoN, rfl, _, rfl⟩ (by decide) (by decide) rfl rfl ?_
      iterate 1 walk1
      refine len_str (by rw [hsl]; omega) ?_
      rw [hsl]
      iterate 3 walk1
      refine newTuple_my F N ?_ (by simp)
      intro aT h₁₁ F N haT
      have haI : aT ≠ I := (haT _ (.head _)).symm
      have haC : aT ≠ C := (haT _ (.tail _ (.head _))).symm
      have haD : aT ≠ D := (haT _ (.tail _ (.tail _ (.head _)))).symm
      obtain ⟨tq, N⟩ : ∃ tq, News g L h₁₁ ((aT, tupOf #[.int c.2.2.2 u4, .int (e.2.1 : Int) tq, .ref a] 0) :: (I, oI) :: (C, oC) :: (D, LCg.lst ys) :: (tlr ++ (((sD, listOf lv.toArray nl) :: tl₂) ++ ((hp, listOf us.toArray m1) :: (hl, listOf vs'.toArray m2) :: (aa, listOf (acts.map Value.bool).toArray m3) :: (L + 1 + 1, ow) :: (rest0 ++ tl))))) := ⟨_, N⟩
      refine LCg.CompEnd.intro F N ((aT, tupOf #[.int c.2.2.2 u4, .int (e.2.1 : Int) tq, .ref a] 0) :: (tlr ++ (((sD, listOf lv.toArray nl) :: tl₂) ++ ((hp, listOf us.toArray m1) :: (hl, listOf vs'.toArray m2) :: (aa, listOf (acts.map Value.bool).toArray m3) :: (L + 1 + 1, ow) :: (rest0 ++ tl))))) (fun p hp' => ?_) ⟨⟨haI, haC, haD⟩, hoff⟩ (.inr ⟨_, .tail _ (List.mem_append_right _ (.head _)), rfl, _, rfl⟩) ⟨_ :: tlr, rfl, ?_⟩
      · rcases List.mem_cons.mp hp' with rfl | hp'
        · exact .tail _ (.head _)
        rcases List.mem_cons.mp hp' with rfl | hp'
        · exact .tail _ (.tail _ (.head _))
        rcases List.mem_cons.mp hp' with rfl | hp'
        · exact .tail _ (.tail _ (.tail _ (.head _)))
        rcases List.mem_cons.mp hp' with rfl | hp'
        · exact .head _
        · exact .tail _ (.tail _ (.tail _ (.tail _ hp')))
      · rw [take_succ_of he]
        refine (hys.mono fun v f ⟨a, t1, t2, v3, k, e1, e2, e3⟩ => ⟨a, t1, t2, v3, k, e1, .tail _ e2, e3⟩).append (.one ⟨aT, u4, tq, .ref a, 0, rfl, ?_, ⟨a, t1, t2, n', rfl, ho⟩⟩)
        rw [hc1]
        exact .head _
    · rintro ys nw ⟨tlr, rfl, hys⟩ rD h₁₀ tk₁₀ F N hoff
      rw [List.size_toArray, hlvlen, List.take_length] at hys
      have hdS : Dist stE := by rw [← hst]; exact inv.dist.filter _
      have hwS : ∀ e ∈ stE, e.2.2 ∈ theWords := fun e he => by
        obtain ⟨⟨c, h1, _, h3⟩, _⟩ := fitS e he
        rw [h3]; exact (hw c (List.mem_of_getElem? h1)).1
      dsimp only
      iterate 1 walk1
      refine rows_sorted (st := stE) F N (N _ (.head _)).1 (fun h' F' N' => hys.mono fun v e x => x.row fun p hp' => (N' _ (.tail _ (List.mem_append_left _ hp'))).1) (hdS.three hwS) (fits_nodup hdS fun e he => (fitS e he).1) ?_
      intro sR cR h₁₁ vs₂ st' F N hsR hR hperm hpw
      have hrows : All2 (RwL tlr tl₂) vs₂ st' := hR _ hys
      iterate 14 walk1
      rename Fr _ _ _ _ => F
      rename News _ _ _ _ => N
      have hl₂ := List.mem_append_right tlr (List.mem_append_right ((sD, listOf lv.toArray nl) :: tl₂) (List.mem_cons_of_mem (hp, listOf us.toArray m1) (List.mem_cons_self (a := (hl, listOf vs'.toArray m2)) (l := (aa, listOf (acts.map Value.bool).toArray m3) :: (L + 1 + 1, ow) :: (rest0 ++ tl)))))
      have hp₂ := List.mem_append_right tlr (List.mem_append_right ((sD, listOf lv.toArray nl) :: tl₂) (List.mem_cons_self (a := (hp, listOf us.toArray m1)) (l := (hl, listOf vs'.toArray m2) :: (aa, listOf (acts.map Value.bool).toArray m3) :: (L + 1 + 1, ow) :: (rest0 ++ tl))))
      have hr₂ : ∀ p ∈ rest0 ++ tl, p ∈ tlr ++ (((sD, listOf lv.toArray nl) :: tl₂) ++ ((hp, listOf us.toArray m1) :: (hl, listOf vs'.toArray m2) :: (aa, listOf (acts.map Value.bool).toArray m3) :: (L + 1 + 1, ow) :: (rest0 ++ tl))) := fun p hp' =>
        List.mem_append_right _ (List.mem_append_right _ (.tail _ (.tail _ (.tail _ (.tail _ hp')))))
      have hfl : ∀ e0 : Env, e0.frame = some L → [e0, env1].filterMap (·.frame) = [L, L1] := fun e0 h => by simp [h, hf1]
      have hO1N := N _ (.tail _ (.tail _ (hr₂ _ (List.mem_append_left _ hO1))))
      obtain ⟨o1', es1, n1, ho1', hd1⟩ := hdc L1 (.head _)
      rw [ho1] at ho1'
      cases ho1'
      have hgL := kts_self F
      refine wpAny_call (emptied_c (PT := InL tl) (PE := EnL tl) (es := es) (ps := ps) (outer := [_, env1]) C (fun b o e => F.keep b o (stg b o e)) ?_ ?_ hh (Around.frames_deeper hfr) ?_ ?_ (hTN _ fun p hp' => (N _ (.tail _ (.tail _ (hr₂ _ (List.mem_append_left _ hp'))))).1)
        (fun v e ⟨a, t1, t2, k, e1, e2⟩ => ⟨a, t1, t2, k, e1, (N _ (.tail _ (.tail _ (hr₂ _ (List.mem_append_right _ e2))))).1⟩) (fun v e ⟨a, t1, t2, t3, k, e1, e2⟩ => ⟨a, t1, t2, t3, k, e1, (N _ (.tail _ (.tail _ (hr₂ _ (List.mem_append_right _ e2))))).1⟩)
        ⟨vs', m2, (N _ (.tail _ (.tail _ hl₂))).1, hvs'⟩ ⟨us, m1, (N _ (.tail _ (.tail _ hp₂))).1, hus⟩ (base_none stg (N _ (.tail _ (.tail _ hl₂))).2.2) (base_none stg (N _ (.tail _ (.tail _ hp₂))).2.2) ehl ?_ ?_ inv.nd ?_ ?_ ?_)
      · simp only [depth_deeper]; omega
      · simp only [units_deeper]; omega
      · refine Heap.FunFrames.cons (L := L) (by exact nofun) rfl F.ns (base_none stg hgL) ⟨hff.1, ⟨L1, o1, hf1, hb1, hO1N.1, fun vs q => by rw [hd1] at q; cases q⟩, trivial⟩
      · rw [hfl _ rfl]
        intro b hb
        rcases List.mem_cons.mp hb with rfl | hb
        · obtain ⟨o, es, ep, h1, h2, _⟩ := F.ns
          exact ⟨o, es, ep, h1, h2⟩
        · rw [List.mem_singleton.mp hb]
          exact ⟨o1, es1, n1, hO1N.1, hd1⟩
      · rw [inv.pseq, ← inv.stand hr]; exact inv.words (fun c hc => (hw c hc).1) hr
      · intro e he
        obtain ⟨h1, h2⟩ := inv.wordsE (fun c hc => (hw c hc).1) e he
        exact ⟨h1, by omega⟩
      · rw [inv.pseq, hst]; rw [List.length_map] at hslen ⊢; omega
      · have := inv.elen; omega
      rw [hfl _ rfl]
      intro h₁₂ tk₁₂ eD lv₂ ne tl₃ kb hsl heD hlv₂ htl₃ heDn
      obtain ⟨lE, hE1, hE2, hE3, _⟩ := empty_spec es.length es stE [] (Nat.le_refl _) (hst ▸ inv.sw hcl)
      have hEs : lE = st' := rows_same (fun e he => (fitS e he).1) hE2 hperm hE3 hpw
      rw [inv.pseq, hst, hE1, hEs, List.nil_append] at hlv₂
      have hNT : ∀ a its k, (a, tupOf its k) ∈ (tlr ++ (((sD, listOf lv.toArray nl) :: tl₂) ++ ((hp, listOf us.toArray m1) :: (hl, listOf vs'.toArray m2) :: (aa, listOf (acts.map Value.bool).toArray m3) :: (L + 1 + 1, ow) :: (rest0 ++ tl)))) → a ∉ hp :: hl :: [L, L1] := fun a its k hm hb => by
        have h0 := (N _ (.tail _ (.tail _ hm))).1
        rcases List.mem_cons.mp hb with rfl | hb
        · exact list_ne_tup (Option.some.inj ((N _ (.tail _ (.tail _ hp₂))).1.symm.trans h0))
        rcases List.mem_cons.mp hb with rfl | hb
        · exact list_ne_tup (Option.some.inj ((N _ (.tail _ (.tail _ hl₂))).1.symm.trans h0))
        rcases List.mem_cons.mp hb with rfl | hb
        · exact (N _ (.tail _ (.tail _ hm))).2.1 rfl
        · rw [List.mem_singleton.mp hb] at h0
          have := Option.some.inj (hO1N.1.symm.trans h0)
          rw [show o1 = tupOf its k from this] at hd1
          cases hd1
      have hsRn : sR ∉ hp :: hl :: [L, L1] := fun hb => by
        rcases List.mem_cons.mp hb with e | hb
        · exact Nat.ne_of_lt (hsR _ (.tail _ hp₂)) e.symm
        rcases List.mem_cons.mp hb with e | hb
        · exact Nat.ne_of_lt (hsR _ (.tail _ hl₂)) e.symm
        rcases List.mem_cons.mp hb with e | hb
        · exact (N _ (.head _)).2.1 e
        · exact Nat.ne_of_lt (hsR _ (.tail _ (hr₂ _ (List.mem_append_left _ hO1)))) (List.mem_singleton.mp hb).symm
      have F0 := F
      have N0 := N
      replace F := fr_slots F kb (fun a ha => by
        rcases List.mem_cons.mp ha with rfl | ha
        · exact (N0 _ (.tail _ (.tail _ hp₂))).2.2
        rcases List.mem_cons.mp ha with rfl | ha
        · exact (N0 _ (.tail _ (.tail _ hl₂))).2.2
        rcases List.mem_cons.mp ha with rfl | ha
        · exact hgL
        · rw [List.mem_singleton.mp ha]; exact hO1N.2.2) (hsl L (.head _))
      replace N := news_filter N kb
      replace N := news_fresh (fr := (eD, listOf lv₂.toArray ne) :: tl₃) F0 N (fun p hp' => by
        rcases List.mem_cons.mp hp' with rfl | hp'
        · exact ⟨heDn, heD⟩
        · exact htl₃ p hp')
      dsimp only
      refine comp3 F (by with_unfolding_all rfl) (by decide) rfl (by decide) rfl rfl rfl (by decide) hh ?_
      iterate 1 walk1
      have hmemF : ∀ a its k, (a, tupOf its k) ∈ (tlr ++ (((sD, listOf lv.toArray nl) :: tl₂) ++ ((hp, listOf us.toArray m1) :: (hl, listOf vs'.toArray m2) :: (aa, listOf (acts.map Value.bool).toArray m3) :: (L + 1 + 1, ow) :: (rest0 ++ tl)))) →
          (a, tupOf its k) ∈ (eD, listOf lv₂.toArray ne) :: tl₃ ++ ((sR, listOf vs₂.toArray cR) :: (rD, LCg.lst ys) :: (tlr ++ (((sD, listOf lv.toArray nl) :: tl₂) ++ ((hp, listOf us.toArray m1) :: (hl, listOf vs'.toArray m2) :: (aa, listOf (acts.map Value.bool).toArray m3) :: (L + 1 + 1, ow) :: (rest0 ++ tl))))).filter (fun p => decide (p.1 ∉ hp :: hl :: [L, L1])) :=
        fun a its k hm => List.mem_append_right _ (List.mem_filter.mpr ⟨.tail _ (.tail _ hm), decide_eq_true (hNT _ _ _ hm)⟩)
      refine ⟨sR, vs₂, cR, _, rfl, F, N, List.mem_append_right _ (List.mem_filter.mpr ⟨.head _, decide_eq_true hsRn⟩), ?_, ?_, ?_⟩
      · rw [hrows.len, hperm.length_eq, sizeLine_eq]; rw [List.length_map] at hslen; omega
      · intro v hv
        obtain ⟨e, _, a, t1, t2, v3, k3, rfl, hm, _⟩ := hrows.mem_left hv
        exact ⟨v3, a, _, _, _, rfl, hmemF _ _ _ (List.mem_append_left _ hm)⟩
      · intro D' h₁₃ tk₁₃ ys₂ F N hth
        refine pairs_eq (ps := st'.map toP) (N _ (.tail _ (.head _))).1 (N _ (.head _)).1 ?_ ?_ ?_ ?_
        · exact hlv₂.mono fun v p ⟨a, t1, t2, k, e1, e2⟩ => ⟨a, t1, t2, k, e1, (N _ (.tail _ (.tail _ (List.mem_append_left _ e2)))).1⟩
        · refine ⟨by rw [hth.len, List.length_map, hrows.len], fun i p hp' => ?_⟩
          rw [List.getElem?_map] at hp'
          obtain ⟨e, he, rfl⟩ := Option.map_eq_some_iff.mp hp'
          obtain ⟨v, hv, a, t1, t2, v3, k3, rfl, hm, hin⟩ := hrows.get i e he
          obtain ⟨y, hy, t, w1, w2, nt, e1, hm2⟩ := hth.get i _ hv
          cases e1
          have q1 := (N _ (.tail _ hm2)).1
          have q2 := (N _ (.tail _ (hmemF _ _ _ (List.mem_append_left _ hm)))).1
          have q3 := Option.some.inj (q1.symm.trans q2)
          have q4 : y = v3 := by
            have := congrArg Obj.data q3
            simp only [Data.seq.injEq] at this
            have := congrArg Array.toList this.1
            simp at this
            exact this.2.2
          subst q4
          obtain ⟨b, u1, u2, k4, rfl, hb⟩ := hin
          exact ⟨_, hy, b, u1, u2, k4, rfl, (N _ (.tail _ (hmemF _ _ _ (List.mem_append_right _ (List.mem_append_left _ (.tail _ hb)))))).1⟩
        · simp only [units_deeper]; unfold cLine; omega
        · exact k _ _ (keepsBut_of hg F)
end Mine
end
open PySem PySem.W PyProof.Rows PySem.Calls
set_option Elab.async false
set_option linter.unusedVariables false
set_option maxRecDepth 100000
namespace Mine
theorem ints_mem {vs : List Value} {xs : List Int} (h : IntsAre vs xs) : ∀ v ∈ vs, IsInt v := by
  induction h with
  | nil => exact nofun
  | cons n t _ ih =>
    intro v hv
    rcases List.mem_cons.mp hv with rfl | hv
    · exact ⟨_, _, rfl⟩
    · exact ih v hv
end Mine
set_option maxHeartbeats 4000000 in
theorem PySem.Challenge.cw_nb0229_01_holds : PySem.Challenge.rw_nb0229_01.Holds :=
  Mine.hd (by
  k_go0
  rename_i w s₀ s₁ mg mb G Y fa o pm doc kV ho hg KX X V GL T B TE TW b9 o9 M b7 b6 hcd xs hs hlay0 hL1 hr1 hl2 as4 as3 sc vs as hL ra w1 r0 hI hr hc1 hc2 K0 hD h₁ F N
  have C : Mine.Cx w mg mb _ s₁.heap := ⟨KX, T⟩
  have hlen : vs.length ≤ 63 := by have := hI.length; omega
  iterate 13 walk1
  refine wpAny_call (Mine.calls_c C F.keep ?_ ?_ rfl (hL.at fun o e => F.keep _ _ e) (Mine.ints_mem hI) hlen ?_)
  · simp only [depth_deeper, depth_caller]; omega
  · simp only [units_deeper, units_caller]; omega
  intro h₂ tk₂ D lv n cs kb hD₂ hlv hDn hcl hw hho
  have F0 := F
  obtain ⟨F, N⟩ := Mine.back_same F N kb
  dsimp only
  iterate 2 walk1
  obtain ⟨o1, es1, n1, ho1, hd1, _⟩ := id F.ns
  have hb1 := kts_self F
  refine wpAny_call (Mine.right_c (L1 := s₁.heap.objs.size) (o1 := o1) C F.keep ?_ ?_ rfl (Around.frames_deeper rfl) ?_ rfl ho1 ?_ hb1 ⟨lv, n, hD₂, hlv⟩ hcl hw hho ?_)
  · simp only [depth_deeper, depth_caller]; omega
  · simp only [units_deeper, units_caller]; omega
  · exact Heap.FunFrames.cons (L := s₁.heap.objs.size) (by exact nofun) rfl F.ns hb1 trivial
  · intro b hb
    rw [List.mem_singleton.mp hb]
    exact ⟨o1, es1, n1, ho1, hd1⟩
  intro h₃ tk₃ kb₃
  refine ⟨.inl ⟨.bool true, .bool true, [], rfl, raisesW_false ?_, .bool true, ?_, unshared_nil⟩, fun b o e => kb₃ b o ?_ (F.keep b o e), rfl, hg⟩
  · exact nofun
  · refine postW_of (X := true == true) (by rfl) ?_ rfl
    exact w_eq_bool (w_res rfl) w_lit
  · intro hm
    rw [List.mem_singleton.mp hm] at e
    exact absurd (Heap.lt_size e) (Nat.lt_irrefl _))
