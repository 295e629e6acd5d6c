import PyProof.Rows.All
import Wide.All
import OpenK.AllK
import Wide.FinOn
import PySem.Challenge.RW_re0026_01
set_option Elab.async false
set_option maxRecDepth 100000
set_option maxHeartbeats 0
set_option linter.unusedVariables false
section
open PySem PySem.W PySem.W.X PySem.W.ZRun PyProof.Rows
local macro_rules | `(tactic| k_head) => `(tactic| z_head)
open_top Mine.topz for PySem.Challenge.rw_re0026_01
end
section
open PySem PySem.W PyProof.Rows
namespace Mine
/-! ## the fast reading of a code -/
noncomputable def den0 (c : Code) : Sem PySem.Fin := Fast.tw11892475500146522536 Fast.tw14364793385576792824 c
theorem den0_eq (c : Code) : den0 c = denote table c := by
  unfold den0
  rw [← Fast.te11892475500146522536, ← Fast.te14364793385576792824, ← table_eq_tree]
noncomputable def locSfx : Str := ⟨#[46,60,108,111,99,97,108,115,62,46]⟩
theorem locSfx_eq : (".<locals>." : Str) = locSfx := by decide +kernel
/-- a call of a def, the look at the number of frames left out -/
noncomputable def nameF (fd : FuncData) : Sem Str := match fd.code with
  | .none => .pure fd.qualname
  | c => Sem.bind (Fast.tw6609576154772507232 c 1) fun
    | .str q _ => .pure q
    | _ => .pure fd.qualname
noncomputable def callFn (self : Addr) (fd : FuncData) (args : Args) : Sem PySem.Fin :=
  R.bindR (nameF fd) fun compiled => R.bindR (Fast.tw9782568553167038054 fd args) fun b =>
  R.bindR (Fast.tw11113344188204177931 fd.scope fd.globals fd.closure b (compiled ++ locSfx) (some self) fd.code none fd.builtins) fun env =>
  .pure (.again (match fd.body with
    | .stmts b => .func b env
    | .expr e => .expr e env))
noncomputable def den (c : Code) : Sem PySem.Fin := match c with
  | .call (.ref a) args => .load a none fun o => match o.data with
    | .func fd => match fd.scope.isGenerator, fd.scope.isCoroutine with
      | false, false => callFn a fd args
      | _, _ => den0 c
    | _ => den0 c
  | c => den0 c
section
variable {prog : Program} {w : World} {A : Around} {E : Value → Shared → Prop} {s : Shared}
theorem callFunction_eq (self : Addr) (fd : FuncData) (args : Args) (hg : fd.scope.isGenerator = false) (hc : fd.scope.isCoroutine = false) :
    callFunction self fd args = Sem.bind (nameF fd) fun compiled => Sem.bind (bindArgs fd args) fun b =>
      Sem.bind (newFunctionEnv fd.scope fd.globals fd.closure b (compiled ++ locSfx) (some self) fd.code none fd.builtins) fun env =>
      Sem.bind enterFrame fun _ => .pure (.again (match fd.body with
        | .stmts b => .func b env
        | .expr e => .expr e env)) := by
  unfold callFunction nameF
  rw [hg, hc, locSfx_eq, ← Fast.te6609576154772507232]
  cases fd.code <;> first | rfl | skip
  all_goals (
    show Sem.bind (field _ 1) _ = Sem.bind (Sem.bind (field _ 1) _) _
    rw [show ∀ (m : Sem Value) (f : Value → Sem Str) (g : Str → Sem PySem.Fin), Sem.bind (Sem.bind m f) g = Sem.bind m fun x => Sem.bind (f x) g from fun m f g => Sem.bind_assoc m f g]
    congr 1
    funext x
    cases x <;> rfl)
theorem callFn_sound {P : PySem.Fin → Shared → Prop} (hd : A.depth < recursionLimit) {self : Addr} {fd : FuncData} {args : Args} (hg : fd.scope.isGenerator = false) (hc : fd.scope.isCoroutine = false)
    {Γ : Ctx} {p : Pos} (hΓ : Γ.In A)
    (h : Sem.wp (model prog w) Γ (callFn self fd args) (fun fin _ s' => s'.heap.NoLimit ∧ P fin s') (fun e _ s' => E e s') p s) :
    Sem.wp (model prog w) Γ (callFunction self fd args) (fun fin _ s' => P fin s') (fun e _ s' => E e s') p s := by
  rw [callFunction_eq self fd args hg hc]
  unfold callFn at h
  rw [← R.bindR_eq, ← Fast.te9782568553167038054, ← Fast.te11113344188204177931] at h
  erw [Sem.wp_bind'] at h ⊢
  refine Sem.wp_mono _ Γ _ (fun a p' s' h' => ?_) (fun _ _ _ h' => h') p s h
  erw [Sem.wp_bind'] at h' ⊢
  refine Sem.wp_mono _ Γ _ (fun a p' s' h' => ?_) (fun _ _ _ h' => h') p' s' h'
  erw [Sem.wp_bind'] at h' ⊢
  refine Sem.wp_mono _ Γ _ (fun a p' s' h' => ?_) (fun _ _ _ h' => h') p' s' h'
  have q : s'.heap.NoLimit ∧ P _ s' := h'
  exact (wpAny_bind (wpAny_enterFrame q.1 hd (wpAny_pure q.2)) : wpAny (model prog w) A (enterFrame >>= fun _ => _) P E s') Γ p' hΓ
theorem den_sound {P : PySem.Fin → Shared → Prop} (c : Code) (hd : A.depth < recursionLimit)
    (h : wpAny (model prog w) A (den c) (fun fin s' => s'.heap.NoLimit ∧ P fin s') E s) : wpAny (model prog w) A (denote table c) P E s := by
  have plain : wpAny (model prog w) A (den0 c) (fun fin s' => s'.heap.NoLimit ∧ P fin s') E s → wpAny (model prog w) A (denote table c) P E s := fun h => by
    rw [den0_eq] at h
    exact wpAny_mono h (fun _ _ x => x.2) fun _ _ x => x
  cases c with
  | call f args =>
    cases f with
    | ref a =>
      intro Γ p hΓ
      obtain ⟨o, ho, h⟩ := h Γ p hΓ
      have back : Sem.wp (model prog w) Γ (den0 (.call (.ref a) args)) (fun fin _ s' => s'.heap.NoLimit ∧ P fin s') (fun e _ s' => E e s') p s →
          Sem.wp (model prog w) Γ (denote table (.call (.ref a) args)) (fun fin _ s' => P fin s') (fun e _ s' => E e s') p s := fun h => by
        rw [den0_eq] at h
        exact Sem.wp_mono _ Γ _ (fun _ _ _ x => x.2) (fun _ _ _ x => x) p s h
      cases hdat : o.data with
      | func fd =>
        simp only [hdat] at h
        cases hg : fd.scope.isGenerator with
        | true => simp only [hg] at h; exact back h
        | false =>
          cases hc : fd.scope.isCoroutine with
          | true => simp only [hg, hc] at h; exact back h
          | false =>
            simp only [hg, hc] at h
            refine ⟨o, ho, ?_⟩
            show Sem.wp (model prog w) Γ (match o.data with | .func fd => callFunction a fd args | .fields vs => _ | _ => _) _ _ p s
            rw [hdat]
            exact callFn_sound hd hg hc hΓ h
      | _ => simp only [hdat] at h; exact back h
    | _ => exact plain h
  | _ => exact plain h
end
/-! ## the run -/
noncomputable abbrev KK := List (Code × Option Value × Nat × (Result → Sem PySem.Fin))
structure Bs where
  S : Setting
  K : Nat → Option Obj
  ag : Bool
  d0 : Nat
  N : Nat
  t₀ : Nat
structure Cf where
  c : Code
  κ : KK
  t : Sem PySem.Fin
  dep : Nat
  m : Nat
  i : Nat
  news : List (Addr × Obj)
noncomputable def hdOf : KK → Option Value
  | [] => none
  | (_, hd, _, _) :: κ => match hd with
    | some v => some v
    | none => hdOf κ
noncomputable def okHd : Option Value → Bool
  | none => true
  | some (.ref _) => true
  | _ => false
noncomputable def nth : List (Addr × Obj) → Nat → Option (Addr × Obj)
  | [], _ => none
  | p :: _, 0 => some p
  | _ :: l, n + 1 => nth l n
noncomputable def setN : List (Addr × Obj) → Nat → (Addr × Obj) → List (Addr × Obj)
  | [], _, _ => []
  | _ :: l, 0, q => q :: l
  | p :: l, n + 1, q => p :: setN l n q
structure Rz where
  ok : Bool
  f : Cf
  hs : List Nat
  eqs : List (Addr × Addr)
noncomputable def wgt (c : Code) : Nat := ZFast.zw1243936422450756474 c
theorem wgt_eq (c : Code) : wgt c = c.weight := by unfold wgt; rw [← ZFast.ze1243936422450756474]
noncomputable def qui (c : Code) : Bool := ZFast.zw17772548960776305114 c
theorem qui_eq (c : Code) : qui c = c.quiet := by unfold qui; rw [← ZFast.ze17772548960776305114]
/-- a hint says where an object lies: 0 of the top, j + 1 the ledger's j-th -/
noncomputable def go (B : Bs) : Nat → List Nat → Cf → List (Addr × Addr) → Rz
  | 0, hs, f, e => ⟨true, f, hs, e⟩
  | n + 1, hs, ⟨c, κ, t, dep, m, i, news⟩, e => match t with
    | .pure fin => match κ with
      | [] => match fin with
        | .done _ => ⟨false, ⟨c, κ, t, dep, m, i, news⟩, hs, e⟩
        | .again c' => match B.ag && (qui c' && Nat.blt (B.d0 + wgt c') 1000) with
          | true => go B n hs ⟨c', [], den c', B.d0 + wgt c', m, i, news⟩ e
          | false => ⟨false, ⟨c, κ, t, dep, m, i, news⟩, hs, e⟩
      | (cp, hd, d, k) :: κ' => match fin with
        | .done fl => go B n hs ⟨cp, κ', k (.ok fl), d, m, i, news⟩ e
        | .again c' => match qui c' && Nat.blt (d + wgt c') 1000 with
          | true => go B n hs ⟨c', (cp, hd, d, k) :: κ', den c', d + wgt c', m, i, news⟩ e
          | false => ⟨false, ⟨c, κ, t, dep, m, i, news⟩, hs, e⟩
    | .raise v => match κ with
      | [] => ⟨false, ⟨c, κ, t, dep, m, i, news⟩, hs, e⟩
      | (cp, _, d, k) :: κ' => go B n hs ⟨cp, κ', k (.error v), d, m, i, news⟩ e
    | .rule _ k => go B n hs ⟨c, κ, k (), dep, m, i, news⟩ e
    | .at _ k => go B n hs ⟨c, κ, k (), dep, m, i, news⟩ e
    | .point _ k => go B n hs ⟨c, κ, k (), dep, m, i, news⟩ e
    | .ask k => go B n hs ⟨c, κ, k B.S, dep, m, i, news⟩ e
    | .load a _ k => match hs with
      | [] => ⟨false, ⟨c, κ, t, dep, m, i, news⟩, hs, e⟩
      | 0 :: hs' => match B.K a with
        | some o => go B n hs' ⟨c, κ, k o, dep, m, i, news⟩ e
        | none => ⟨false, ⟨c, κ, t, dep, m, i, news⟩, hs, e⟩
      | (j + 1) :: hs' => match nth news j with
        | some (a', o) => go B n hs' ⟨c, κ, k o, dep, m, i, news⟩ ((a, a') :: e)
        | none => ⟨false, ⟨c, κ, t, dep, m, i, news⟩, hs, e⟩
    | .loadIfAlive a k => match hs with
      | [] => ⟨false, ⟨c, κ, t, dep, m, i, news⟩, hs, e⟩
      | 0 :: hs' => match B.K a with
        | some o => go B n hs' ⟨c, κ, k (some o), dep, m, i, news⟩ e
        | none => ⟨false, ⟨c, κ, t, dep, m, i, news⟩, hs, e⟩
      | (j + 1) :: hs' => match nth news j with
        | some (a', o) => go B n hs' ⟨c, κ, k (some o), dep, m, i, news⟩ ((a, a') :: e)
        | none => ⟨false, ⟨c, κ, t, dep, m, i, news⟩, hs, e⟩
    | .alloc o k => match o.isFreed with
      | true => ⟨false, ⟨c, κ, t, dep, m, i, news⟩, hs, e⟩
      | false => go B n hs ⟨c, κ, k (B.N + m), dep, m + 1, i, (B.N + m, o) :: news⟩ e
    | .update a _ g k => match hs with
      | [] => ⟨false, ⟨c, κ, t, dep, m, i, news⟩, hs, e⟩
      | 0 :: _ => ⟨false, ⟨c, κ, t, dep, m, i, news⟩, hs, e⟩
      | (j + 1) :: hs' => match nth news j with
        | some (a', o) => match (g o).isFreed with
          | true => ⟨false, ⟨c, κ, t, dep, m, i, news⟩, hs, e⟩
          | false => go B n hs' ⟨c, κ, k (), dep, m, i, setN news j (a', g o)⟩ ((a, a') :: e)
        | none => ⟨false, ⟨c, κ, t, dep, m, i, news⟩, hs, e⟩
    | .fresh k => go B n hs ⟨c, κ, k (B.t₀ + i), dep, m, i + 1, news⟩ e
    | .handled own k => match own with
      | false => go B n hs ⟨c, κ, k (hdOf κ), dep, m, i, news⟩ e
      | true => ⟨false, ⟨c, κ, t, dep, m, i, news⟩, hs, e⟩
    | .call c' hd _ _ k => match okHd hd && Nat.blt (dep + wgt c') 1000 with
      | true => go B n hs ⟨c', (c, hd, dep, k) :: κ, den c', dep + wgt c', m, i, news⟩ e
      | false => ⟨false, ⟨c, κ, t, dep, m, i, news⟩, hs, e⟩
    | _ => ⟨false, ⟨c, κ, t, dep, m, i, news⟩, hs, e⟩
end Mine
end
section
open PySem PySem.W PyProof.Rows PySem.W.X
namespace Mine
theorem nth_mem : ∀ {l : List (Addr × Obj)} {j : Nat} {q : Addr × Obj}, nth l j = some q → q ∈ l
  | [], _, _, h => nomatch h
  | p :: _, 0, q, h => by cases h; exact .head _
  | _ :: l, j + 1, q, h => .tail _ (nth_mem (l := l) h)
theorem setN_keys : ∀ {l : List (Addr × Obj)} {j : Nat} {q : Addr × Obj} {o : Obj}, nth l j = some q → (setN l j (q.1, o)).map (·.1) = l.map (·.1)
  | [], _, _, _, h => nomatch h
  | p :: _, 0, q, _, h => by cases h; rfl
  | p :: l, j + 1, q, o, h => congrArg (p.1 :: ·) (setN_keys (l := l) h)
theorem setN_mem : ∀ {l : List (Addr × Obj)} {j : Nat} {q x : Addr × Obj} {o : Obj}, nth l j = some q → (l.map (·.1)).Nodup → x ∈ setN l j (q.1, o) → x = (q.1, o) ∨ (x ∈ l ∧ x.1 ≠ q.1)
  | [], _, _, _, _, h, _, _ => nomatch h
  | p :: l, 0, q, x, o, h, hn, hx => by
    cases h
    rcases List.mem_cons.mp hx with rfl | hx
    · exact .inl rfl
    · refine .inr ⟨.tail _ hx, fun e => ?_⟩
      rw [List.map_cons, List.nodup_cons] at hn
      exact hn.1 (e ▸ List.mem_map_of_mem hx)
  | p :: l, j + 1, q, x, o, h, hn, hx => by
    rw [List.map_cons, List.nodup_cons] at hn
    rcases List.mem_cons.mp hx with rfl | hx
    · refine .inr ⟨.head _, fun e => hn.1 ?_⟩
      rw [e]
      exact List.mem_map_of_mem (nth_mem (l := l) h)
    · rcases setN_mem (l := l) h hn.2 hx with e | e
      · exact .inl e
      · exact .inr ⟨.tail _ e.1, e.2⟩
theorem setN_has : ∀ {l : List (Addr × Obj)} {j : Nat} {q : Addr × Obj} {x : Addr × Obj}, nth l j = some q → x ∈ setN l j x
  | [], _, _, _, h => nomatch h
  | p :: _, 0, q, _, h => .head _
  | p :: l, j + 1, q, o, h => .tail _ (setN_has (l := l) h)
theorem setN_key {l : List (Addr × Obj)} {j : Nat} {q x : Addr × Obj} {o : Obj} (h : nth l j = some q) (hx : x ∈ l) : ∃ y ∈ setN l j (q.1, o), y.1 = x.1 := by
  have : x.1 ∈ (setN l j (q.1, o)).map (·.1) := by rw [setN_keys h]; exact List.mem_map_of_mem hx
  obtain ⟨y, hy, e⟩ := List.mem_map.mp this
  exact ⟨y, hy, e⟩
structure Rep (B : Bs) (hB : Heap) (ks : List Addr) (h : Heap) (m : Nat) (news : List (Addr × Obj)) : Prop where
  size : h.objs.size = B.N + m
  le : hB.objs.size ≤ h.objs.size
  old : ∀ p ∈ news, p.1 < hB.objs.size → p.1 ∈ ks
  keep : ∀ b o, hB.get? b = some o → (∀ p ∈ news, p.1 ≠ b) → h.get? b = some o
  nw : ∀ p ∈ news, h.get? p.1 = some p.2
  nd : (news.map (·.1)).Nodup
  sep : ∀ p ∈ news, B.K p.1 = none
structure Gd (B : Bs) (hB : Heap) (prog : Program) (w : World) : Prop where
  S : B.S = ⟨prog, w.params⟩
  K : ∀ a o, B.K a = some o → hB.get? a = some o
  lim : hB.NoLimit
  two : (B.K cStatics).isSome = true
section
variable {B : Bs} {hB h : Heap} {ks : List Addr} {prog : Program} {w : World} {m : Nat} {news : List (Addr × Obj)}
theorem Rep.top (D : Gd B hB prog w) (R : Rep B hB ks h m news) {a : Addr} {o : Obj} (e : B.K a = some o) : h.get? a = some o :=
  R.keep a o (D.K a o e) fun p hp q => by have := R.sep p hp; rw [q, e] at this; cases this
theorem Rep.lim (D : Gd B hB prog w) (R : Rep B hB ks h m news) : h.NoLimit := by
  obtain ⟨o, e⟩ := Option.isSome_iff_exists.mp D.two
  obtain ⟨mc, ⟨o', es, ep, ho, r⟩, hn⟩ := D.lim
  have q := D.K _ _ e
  rw [ho] at q
  have q := Option.some.inj q
  subst q
  exact ⟨mc, ⟨_, es, ep, R.top D e, r⟩, hn⟩
theorem Rep.alloc (D : Gd B hB prog w) (R : Rep B hB ks h m news) {o : Obj} (hf : o.isFreed = false) : Rep B hB ks (h.push o) (m + 1) ((B.N + m, o) :: news) := by
  have lt : ∀ p ∈ news, p.1 ≠ B.N + m := fun p hp e => by have := Heap.lt_size (R.nw p hp); rw [R.size, e] at this; exact Nat.lt_irrefl _ this
  refine ⟨by rw [Heap.size_push, R.size]; rfl, by rw [Heap.size_push]; exact Nat.le_succ_of_le R.le, fun p hp => ?_, fun b o' e q => Heap.get?_push_of_some _ (R.keep b o' e fun p hp => q p (.tail _ hp)), fun p hp => ?_, ?_, fun p hp => ?_⟩
  · rcases List.mem_cons.mp hp with rfl | hp
    · intro lt'
      have := R.le
      rw [R.size] at this
      exact absurd lt' (Nat.not_lt.mpr this)
    · exact R.old p hp
  · rcases List.mem_cons.mp hp with rfl | hp
    · show (h.push o).get? (B.N + m) = some o
      rw [← R.size]; exact Heap.get?_push_size _ hf
    · exact Heap.get?_push_of_some _ (R.nw p hp)
  · rw [List.map_cons, List.nodup_cons]
    refine ⟨fun hm => ?_, R.nd⟩
    obtain ⟨p, hp, e⟩ := List.mem_map.mp hm
    exact lt p hp e
  · rcases List.mem_cons.mp hp with rfl | hp
    · show B.K (B.N + m) = none
      cases q : B.K (B.N + m) with
      | none => rfl
      | some o' =>
        have := Heap.lt_size (R.keep _ _ (D.K _ _ q) lt)
        rw [R.size] at this
        exact absurd this (Nat.lt_irrefl _)
    · exact R.sep p hp
theorem Rep.update (R : Rep B hB ks h m news) {j : Nat} {q : Addr × Obj} {g : Obj → Obj} (hj : nth news j = some q) (hf : (g q.2).isFreed = false) : Rep B hB ks (h.update q.1 g) m (setN news j (q.1, g q.2)) := by
  have ho := R.nw q (nth_mem hj)
  have hs : Heap.SameBut q.1 h (h.update q.1 g) := Heap.SameBut.update ..
  refine ⟨by rw [hs.1, R.size], by rw [hs.1]; exact R.le, fun p hp => ?_, fun b o e z => ?_, fun p hp => ?_, by rw [setN_keys hj]; exact R.nd, fun p hp => ?_⟩
  · rcases setN_mem hj R.nd hp with rfl | ⟨hp, ne⟩
    · exact R.old q (nth_mem hj)
    · exact R.old p hp
  · have ne : b ≠ q.1 := fun eb => by
      obtain ⟨y, hy, e'⟩ := setN_key (o := g q.2) hj (nth_mem hj)
      exact z y hy (e'.trans eb.symm)
    refine (hs.2 b ne).trans (R.keep b o e fun p hp e' => ?_)
    obtain ⟨y, hy, e2⟩ := setN_key (o := g q.2) hj hp
    exact z y hy (e2.trans e')
  · rcases setN_mem hj R.nd hp with rfl | ⟨hp, ne⟩
    · exact Heap.get?_update_self g ho hf
    · exact (hs.2 _ ne).trans (R.nw p hp)
  · rcases setN_mem hj R.nd hp with rfl | ⟨hp, ne⟩
    · exact R.sep q (nth_mem hj)
    · exact R.sep p hp
end
/-! ## what a state of the run means -/
section
variable (prog : Program) (w : World) (A₀ : Around) (G₀ : PySem.Fin → Shared → Prop) (E₀ : Value → Shared → Prop)
noncomputable def cur : Code → KK → Around
  | c, [] => A₀.under c
  | c, (cp, hd, _, _) :: κ => ((cur cp κ).mark hd).under c
noncomputable def post : KK → (PySem.Fin → Shared → Prop) × (Value → Shared → Prop)
  | [] => (G₀, E₀)
  | (cp, hd, _, k) :: κ =>
    (fun fin s => s.heap.NoLimit ∧ match fin with
      | .done f => wpAny (model prog w) (cur A₀ cp κ) (k (.ok f)) (post κ).1 (post κ).2 s
      | .again c' => c'.quiet = true ∧ codeAny (model prog w) ((cur A₀ cp κ).mark hd) c' (fun r s' => wpAny (model prog w) (cur A₀ cp κ) (k r) (post κ).1 (post κ).2 s') s,
     fun e s => wpAny (model prog w) (cur A₀ cp κ) (k (.error e)) (post κ).1 (post κ).2 s)
noncomputable def Mn (f : Cf) (s : Shared) : Prop := wpAny (model prog w) (cur A₀ f.c f.κ) f.t (post prog w A₀ G₀ E₀ f.κ).1 (post prog w A₀ G₀ E₀ f.κ).2 s
noncomputable def depK : KK → Prop
  | [] => True
  | (cp, _, d, _) :: κ => (cur A₀ cp κ).depth ≤ d ∧ depK κ
noncomputable def Dep (f : Cf) : Prop := (cur A₀ f.c f.κ).depth ≤ f.dep ∧ depK A₀ f.κ
end
section
variable {prog : Program} {w : World} {A₀ : Around} {G₀ : PySem.Fin → Shared → Prop} {E₀ : Value → Shared → Prop} {B : Bs} {hB : Heap} {ks : List Addr}
theorem cur_handled (h0 : A₀.handled = none) : ∀ (κ : KK) (c : Code), (cur A₀ c κ).handled = hdOf κ
  | [], _ => h0
  | (cp, hd, d, k) :: κ, c => by
    show (hd.or (cur A₀ cp κ).handled) = _
    rw [cur_handled h0 κ cp]
    cases hd <;> rfl
theorem code_in {c : Code} {hd : Option Value} {A : Around} {R : Result → Shared → Prop} {P : PySem.Fin → Shared → Prop} {E : Value → Shared → Prop} {s : Shared}
    (hdep : (A.under c).depth < recursionLimit)
    (hP : ∀ fin s', P fin s' → s'.heap.NoLimit ∧ match fin with | .done f => R (.ok f) s' | .again c' => c'.quiet = true ∧ codeAny (model prog w) A c' R s') (hE : ∀ e s', E e s' → R (.error e) s')
    (h : wpAny (model prog w) (A.under c) (den c) P E s) : codeAny (model prog w) A c R s := by
  refine codeAny_of_tree ?_
  refine den_sound c hdep (wpAny_mono h (fun fin s' x => ?_) hE)
  exact hP fin s' x
theorem dep_under {A : Around} {hd : Option Value} {c : Code} {d : Nat} (h : A.depth ≤ d) : ((A.mark hd).under c).depth ≤ d + wgt c := by
  show A.depth + c.weight ≤ d + wgt c
  rw [wgt_eq]; omega
theorem okHd_ne {hd : Option Value} (h : okHd hd = true) : hd ≠ some byPass := by
  intro e; subst e; cases h
theorem go_eqs (B : Bs) : ∀ (n : Nat) (hs : List Nat) (f : Cf) (e : List (Addr × Addr)), ∀ p ∈ e, p ∈ (go B n hs f e).eqs := by
  intro n
  induction n with
  | zero => intro hs f e p hp; exact hp
  | succ n ih =>
    intro hs f e p hp
    unfold go
    (repeat' split) <;> first | exact hp | exact ih _ _ _ _ hp | exact ih _ _ _ _ (.tail _ hp)
/-- every state on the way means what the last one means -/
theorem go_sound (D : Gd B hB prog w) (h0 : A₀.handled = none) (hd0 : A₀.depth ≤ B.d0)
    (HG : B.ag = true → ∀ c' s, s.heap.NoLimit → c'.quiet = true → (A₀.under c').depth < recursionLimit → wpAny (model prog w) (A₀.under c') (den c') G₀ E₀ s → G₀ (.again c') s) (gs : Array GenState) (dr : Drawn) (os : OsState) :
    ∀ (n : Nat) (hs : List Nat) (f : Cf) (e : List (Addr × Addr)) (h : Heap),
      (go B n hs f e).ok = true → (∀ p ∈ (go B n hs f e).eqs, p.1 = p.2) → Rep B hB ks h f.m f.news → Dep A₀ f →
      (∀ h', Rep B hB ks h' (go B n hs f e).f.m (go B n hs f e).f.news → Dep A₀ (go B n hs f e).f → Mn prog w A₀ G₀ E₀ (go B n hs f e).f ⟨h', gs, dr, B.t₀ + (go B n hs f e).f.i, os⟩) →
      Mn prog w A₀ G₀ E₀ f ⟨h, gs, dr, B.t₀ + f.i, os⟩ := by
  intro n
  induction n with
  | zero => intro hs f e h _ _ R d k; exact k h R d
  | succ n ih =>
    intro hs f e h hok heq R d k
    have E1 : ∀ {hs : List Nat} {f : Cf} {e : List (Addr × Addr)} {p : Addr × Addr}, (∀ p ∈ (go B n hs f e).eqs, p.1 = p.2) → p ∈ e → p.1 = p.2 := fun q hp => q _ (go_eqs B n _ _ _ _ hp)
    obtain ⟨c, κ, t, dep, m, i, news⟩ := f
    show wpAny (model prog w) (cur A₀ c κ) t _ _ _
    dsimp only at R
    cases t with
    | pure fin =>
      cases κ with
      | nil =>
        cases fin with
        | done fl => simp only [go] at hok; cases hok
        | again c' =>
          cases q : (B.ag && (qui c' && Nat.blt (B.d0 + wgt c') 1000)) with
          | false => simp only [go, q] at hok; cases hok
          | true =>
            simp only [go, q] at hok heq k
            obtain ⟨q0, q⟩ := Bool.and_eq_true_iff.mp q
            obtain ⟨q1, q2⟩ := Bool.and_eq_true_iff.mp q
            rw [qui_eq] at q1
            have hlt : B.d0 + wgt c' < 1000 := Nat.le_of_ble_eq_true q2
            have dd := dep_under (hd := none) (c := c') hd0
            have dd' : (A₀.under c').depth ≤ B.d0 + wgt c' := dd
            refine wpAny_pure (HG q0 c' _ (R.lim D) q1 (show _ < 1000 by omega) ?_)
            exact ih _ _ _ h hok heq R ⟨dd', d.2⟩ k
      | cons x κ =>
        obtain ⟨cp, hd, dp, kk⟩ := x
        cases fin with
        | done fl =>
          simp only [go] at hok heq k
          refine wpAny_pure ⟨R.lim D, ?_⟩
          exact ih _ _ _ h hok heq R ⟨d.2.1, d.2.2⟩ k
        | again c' =>
          cases q : (qui c' && Nat.blt (dp + wgt c') 1000) with
          | false => simp only [go, q] at hok; cases hok
          | true =>
            simp only [go, q] at hok heq k
            obtain ⟨q1, q2⟩ := Bool.and_eq_true_iff.mp q
            rw [qui_eq] at q1
            have hlt : dp + wgt c' < 1000 := Nat.le_of_ble_eq_true q2
            have dd := dep_under (hd := hd) (c := c') d.2.1
            refine wpAny_pure ⟨R.lim D, q1, ?_⟩
            refine code_in (hd := hd) (show _ < 1000 by omega) (fun fin s' x => x) (fun e s' x => x) ?_
            exact ih _ _ _ h hok heq R ⟨dd, d.2⟩ k
    | raise v =>
      cases κ with
      | nil => simp only [go] at hok; cases hok
      | cons x κ =>
        obtain ⟨cp, hd, dp, kk⟩ := x
        simp only [go] at hok heq k
        refine x_raise ?_
        exact ih _ _ _ h hok heq R ⟨d.2.1, d.2.2⟩ k
    | rule tg kk => simp only [go] at hok heq k; exact x_rule (ih _ _ _ h hok heq R d k)
    | «at» q kk => simp only [go] at hok heq k; exact x_at (ih _ _ _ h hok heq R d k)
    | point l kk => simp only [go] at hok heq k; exact x_point (ih _ _ _ h hok heq R d k)
    | ask kk => simp only [go] at hok heq k; exact x_ask (by rw [← D.S]; exact ih _ _ _ h hok heq R d k)
    | load a q kk =>
      cases hs with
      | nil => simp only [go] at hok; cases hok
      | cons j hs =>
        cases j with
        | zero =>
          cases z : B.K a with
          | none => simp only [go, z] at hok; cases hok
          | some o =>
            simp only [go, z] at hok heq k
            exact x_load (R.top D z) (ih _ _ _ h hok heq R d k)
        | succ j =>
          cases z : nth news j with
          | none => simp only [go, z] at hok; cases hok
          | some o =>
            simp only [go, z] at hok heq k
            have ea : a = o.1 := E1 heq (.head _)
            exact x_load (by rw [ea]; exact R.nw o (nth_mem z)) (ih _ _ _ h hok heq R d k)
    | loadIfAlive a kk =>
      cases hs with
      | nil => simp only [go] at hok; cases hok
      | cons j hs =>
        cases j with
        | zero =>
          cases z : B.K a with
          | none => simp only [go, z] at hok; cases hok
          | some o =>
            simp only [go, z] at hok heq k
            intro Γ p hΓ
            show Sem.wp _ Γ (kk (h.get? a)) _ _ p _
            rw [R.top D z]
            exact ih _ _ _ h hok heq R d k Γ p hΓ
        | succ j =>
          cases z : nth news j with
          | none => simp only [go, z] at hok; cases hok
          | some o =>
            simp only [go, z] at hok heq k
            have ea : a = o.1 := E1 heq (.head _)
            intro Γ p hΓ
            show Sem.wp _ Γ (kk (h.get? a)) _ _ p _
            rw [ea, R.nw o (nth_mem z)]
            exact ih _ _ _ h hok heq R d k Γ p hΓ
    | alloc o kk =>
      cases z : o.isFreed with
      | true => simp only [go, z] at hok; cases hok
      | false =>
        simp only [go, z] at hok heq k
        intro Γ p hΓ
        show Sem.wp _ Γ (kk h.objs.size) _ _ p ⟨h.push o, gs, dr, B.t₀ + i, os⟩
        rw [R.size]
        exact ih _ _ _ (h.push o) hok heq (R.alloc D z) d k Γ p hΓ
    | update a q g kk =>
      cases hs with
      | nil => simp only [go] at hok; cases hok
      | cons j hs =>
        cases j with
        | zero => simp only [go] at hok; cases hok
        | succ j =>
          cases z : nth news j with
          | none => simp only [go, z] at hok; cases hok
          | some o =>
            cases z2 : (g o.2).isFreed with
            | true => simp only [go, z, z2] at hok; cases hok
            | false =>
              simp only [go, z, z2] at hok heq k
              have ea : a = o.1 := E1 heq (.head _)
              intro Γ p hΓ
              subst ea
              exact ⟨by show (h.get? o.1).isSome = true; rw [R.nw o (nth_mem z)]; rfl, ih _ _ _ (h.update o.1 g) hok heq (R.update z z2) d k Γ p hΓ⟩
    | fresh kk => simp only [go] at hok heq k; exact x_fresh (ih _ _ _ h hok heq R d k)
    | handled own kk =>
      cases own with
      | true => simp only [go] at hok; cases hok
      | false => simp only [go] at hok heq k; exact x_handled (by rw [cur_handled h0]; exact ih _ _ _ h hok heq R d k)
    | call c' hd g l kk =>
      cases q : (okHd hd && Nat.blt (dep + wgt c') 1000) with
      | false => simp only [go, q] at hok; cases hok
      | true =>
        simp only [go, q] at hok heq k
        obtain ⟨q1, q2⟩ := Bool.and_eq_true_iff.mp q
        have hlt : dep + wgt c' < 1000 := Nat.le_of_ble_eq_true q2
        have dd := dep_under (hd := hd) (c := c') (show (cur A₀ c κ).depth ≤ dep from d.1)
        refine x_call ?_ (okHd_ne q1)
        refine code_in (hd := hd) (show _ < 1000 by omega) (fun fin s' x => x) (fun e s' x => x) ?_
        exact ih _ _ _ h hok heq R ⟨dd, d.1, d.2⟩ k
    | unsupported => simp only [go] at hok; cases hok
    | finish => simp only [go] at hok; cases hok
    | register => simp only [go] at hok; cases hok
    | choose => simp only [go] at hok; cases hok
    | os => simp only [go] at hok; cases hok
    | newGen => simp only [go] at hok; cases hok
    | genState => simp only [go] at hok; cases hok
    | resume => simp only [go] at hok; cases hok
    | yield => simp only [go] at hok; cases hok
    | stack => simp only [go] at hok; cases hok
    | fork => simp only [go] at hok; cases hok
    | thread => simp only [go] at hok; cases hok
    | await => simp only [go] at hok; cases hok
end
end Mine
end
section
open PySem PySem.W PyProof.Rows PySem.W.X
namespace Mine
/-- what is given to a call: objects that it may turn -/
structure Giv (K : Nat → Option Obj) (h : Heap) (L : List (Addr × Obj)) : Prop where
  nw : ∀ p ∈ L, h.get? p.1 = some p.2
  nd : (L.map (·.1)).Nodup
  sep : ∀ p ∈ L, K p.1 = none
/-- the top's objects lie as written -/
structure Tp (K : Nat → Option Obj) (h : Heap) : Prop where
  K : ∀ a o, K a = some o → h.get? a = some o
  lim : h.NoLimit
/-- what a call leaves: the given objects as told, all else as it was -/
structure Aft (h : Heap) (L : List (Addr × Obj)) (h' : Heap) : Prop where
  le : h.objs.size ≤ h'.objs.size
  nw : ∀ p ∈ L, h'.get? p.1 = some p.2
  keep : ∀ b o, h.get? b = some o → (∀ p ∈ L, p.1 ≠ b) → h'.get? b = some o
/-- where a call may stand -/
structure Okk (A : Around) (d : Nat) : Prop where
  hd : A.handled = none
  dep : A.depth ≤ d
@[irreducible] noncomputable def rn (B : Bs) (n : Nat) (hs : List Nat) (f : Cf) : Cf := (go B n hs f []).f
@[irreducible] noncomputable def e1 (B : Bs) (n : Nat) (hs : List Nat) (f : Cf) : List Addr := (go B n hs f []).eqs.map (·.1)
@[irreducible] noncomputable def e2 (B : Bs) (n : Nat) (hs : List Nat) (f : Cf) : List Addr := (go B n hs f []).eqs.map (·.2)
@[irreducible] noncomputable def okk (B : Bs) (n : Nat) (hs : List Nat) (f : Cf) : Bool := (go B n hs f []).ok
theorem all_eq : ∀ {l : List (Addr × Addr)}, l.map (·.1) = l.map (·.2) → ∀ p ∈ l, p.1 = p.2
  | [], _, _, hp => nomatch hp
  | q :: l, h, p, hp => by
    rw [List.map_cons, List.map_cons] at h
    injection h with h1 h2
    rcases List.mem_cons.mp hp with rfl | hp
    · exact h1
    · exact all_eq h2 p hp
noncomputable def callOf : Sem PySem.Fin → Option (Code × Option Value)
  | .call c hd _ _ _ => some (c, hd)
  | _ => none
noncomputable def contOf : Sem PySem.Fin → Result → Sem PySem.Fin
  | .call _ _ _ _ k, r => k r
  | t, _ => t
noncomputable def picks (news : List (Addr × Obj)) (idx : List Nat) : List (Option (Addr × Obj)) := idx.map (nth news)
noncomputable def putAt : List Nat → List (Addr × Obj) → List (Addr × Obj) → List (Addr × Obj)
  | i :: is, p :: ps, news => setN (putAt is ps news) i p
  | _, _, news => news
/-- the run's own ground -/
structure Bse (prog : Program) (w : World) (A₀ : Around) (G₀ : PySem.Fin → Shared → Prop) (E₀ : Value → Shared → Prop) (B : Bs) : Prop where
  hd : A₀.handled = none
  dep : A₀.depth ≤ B.d0
  HG : B.ag = true → ∀ c' s, s.heap.NoLimit → c'.quiet = true → (A₀.under c').depth < recursionLimit → wpAny (model prog w) (A₀.under c') (den c') G₀ E₀ s → G₀ (.again c') s
section
variable {prog : Program} {w : World} {A A₀ : Around} {G₀ : PySem.Fin → Shared → Prop} {E₀ : Value → Shared → Prop} {B : Bs} {hB h : Heap} {ks : List Addr} {f : Cf} {gs : Array GenState} {dr : Drawn} {os : OsState} {n : Nat} {hs : List Nat}
theorem run_go (D : Gd B hB prog w) (h0 : Bse prog w A₀ G₀ E₀ B) (R : Rep B hB ks h f.m f.news) (d : Dep A₀ f) (hk : okk B n hs f = true) (he : e1 B n hs f = e2 B n hs f)
    (k : ∀ h', Rep B hB ks h' (rn B n hs f).m (rn B n hs f).news → Dep A₀ (rn B n hs f) → Mn prog w A₀ G₀ E₀ (rn B n hs f) ⟨h', gs, dr, B.t₀ + (rn B n hs f).i, os⟩) :
    Mn prog w A₀ G₀ E₀ f ⟨h, gs, dr, B.t₀ + f.i, os⟩ :=
  by
  unfold rn at k
  unfold okk at hk
  unfold e1 e2 at he
  exact go_sound D h0.hd h0.dep h0.HG gs dr os n hs f [] h hk (all_eq he) R d k
/-- the run stands before a call of c -/
theorem run_cut {c : Code} (m : Nat) (D : Gd B hB prog w) (h0 : Bse prog w A₀ G₀ E₀ B) (R : Rep B hB ks h f.m f.news) (d : Dep A₀ f)
    (hk : (okk B n hs f, e1 B n hs f, callOf (rn B n hs f).t, hdOf (rn B n hs f).κ, Nat.ble (rn B n hs f).dep m) = (true, e2 B n hs f, some (c, none), none, true))
    (k : ∀ h', Rep B hB ks h' (rn B n hs f).m (rn B n hs f).news → Dep A₀ (rn B n hs f) → Okk (cur A₀ (rn B n hs f).c (rn B n hs f).κ) m →
      codeAny (model prog w) (cur A₀ (rn B n hs f).c (rn B n hs f).κ) c (fun r s' => Mn prog w A₀ G₀ E₀ { rn B n hs f with t := contOf (rn B n hs f).t r } s') ⟨h', gs, dr, B.t₀ + (rn B n hs f).i, os⟩) :
    Mn prog w A₀ G₀ E₀ f ⟨h, gs, dr, B.t₀ + f.i, os⟩ := by
  simp only [Prod.mk.injEq] at hk
  obtain ⟨k1, k2, k3, k4, k5⟩ := hk
  refine run_go D h0 R d k1 k2 fun h' R' d' => ?_
  have q := k h' R' d' ⟨by rw [cur_handled h0.hd]; exact k4, Nat.le_trans d'.1 (Nat.le_of_ble_eq_true k5)⟩
  generalize hf : rn B n hs f = F at *
  obtain ⟨c', κ', t', dep', m', i', news'⟩ := F
  dsimp only at k3 q
  cases t' with
  | call cc hd g l kk =>
    have : cc = c ∧ hd = none := by simpa [callOf] using k3
    obtain ⟨rfl, rfl⟩ := this
    exact x_call q (fun e => by cases e)
  | _ => cases k3
/-- the run stands at a tree that is written out -/
theorem run_at {T : Sem PySem.Fin} (D : Gd B hB prog w) (h0 : Bse prog w A₀ G₀ E₀ B) (R : Rep B hB ks h f.m f.news) (d : Dep A₀ f)
    (hk : (okk B n hs f, e1 B n hs f, (rn B n hs f).t) = (true, e2 B n hs f, T))
    (k : ∀ h', Rep B hB ks h' (rn B n hs f).m (rn B n hs f).news → Dep A₀ (rn B n hs f) →
      wpAny (model prog w) (cur A₀ (rn B n hs f).c (rn B n hs f).κ) T (post prog w A₀ G₀ E₀ (rn B n hs f).κ).1 (post prog w A₀ G₀ E₀ (rn B n hs f).κ).2 ⟨h', gs, dr, B.t₀ + (rn B n hs f).i, os⟩) :
    Mn prog w A₀ G₀ E₀ f ⟨h, gs, dr, B.t₀ + f.i, os⟩ := by
  simp only [Prod.mk.injEq] at hk
  obtain ⟨k1, k2, k3⟩ := hk
  refine run_go D h0 R d k1 k2 fun h' R' d' => ?_
  have q := k h' R' d'
  unfold Mn
  rw [k3]
  exact q
/-- the run has come to its own end -/
theorem run_end {fin : PySem.Fin} (D : Gd B hB prog w) (h0 : Bse prog w A₀ G₀ E₀ B) (R : Rep B hB ks h f.m f.news) (d : Dep A₀ f)
    {idx : List Nat} {L : List (Addr × Obj)}
    (hk : (okk B n hs f, e1 B n hs f, (rn B n hs f).κ, (rn B n hs f).t, picks (rn B n hs f).news idx) = (true, e2 B n hs f, [], Sem.pure fin, L.map some))
    (k : ∀ h' t', Rep B hB ks h' (rn B n hs f).m (rn B n hs f).news → (∀ p ∈ L, h'.get? p.1 = some p.2) → t' = B.t₀ + (rn B n hs f).i → G₀ fin ⟨h', gs, dr, t', os⟩) :
    Mn prog w A₀ G₀ E₀ f ⟨h, gs, dr, B.t₀ + f.i, os⟩ := by
  simp only [Prod.mk.injEq] at hk
  obtain ⟨k1, k2, k3, k4, k5⟩ := hk
  refine run_go D h0 R d k1 k2 fun h' R' d' => ?_
  have hL : ∀ p ∈ L, h'.get? p.1 = some p.2 := fun p hp => by
    have : some p ∈ picks (rn B n hs f).news idx := by rw [k5]; exact List.mem_map_of_mem hp
    obtain ⟨j, _, e⟩ := List.mem_map.mp this
    exact R'.nw p (nth_mem e)
  have q := k h' _ R' hL rfl
  unfold Mn
  rw [k3, k4]
  exact wpAny_pure q
theorem Rep.aft {h' : Heap} {m : Nat} {news L : List (Addr × Obj)} (R : Rep B hB ks h' m news) (hL : ∀ p ∈ L, h'.get? p.1 = some p.2) (hk : ∀ a ∈ ks, ∃ p ∈ L, p.1 = a) : Aft hB L h' :=
  ⟨R.le, hL, fun b o e z => R.keep b o e fun p hp ep => by
    have := R.old p hp (by rw [ep]; exact Heap.lt_size e)
    obtain ⟨q, hq, e'⟩ := hk _ this
    exact z q hq (e'.trans ep)⟩
theorem giv_start {K : Nat → Option Obj} {h : Heap} {L : List (Addr × Obj)} {S : Setting} {ag : Bool} {d0 t : Nat} (G : Giv K h L) : Rep ⟨S, K, ag, d0, h.objs.size, t⟩ h (L.map (·.1)) h 0 L :=
  ⟨rfl, Nat.le_refl _, fun p hp _ => List.mem_map_of_mem hp, fun b o e _ => e, G.nw, G.nd, G.sep⟩
theorem gd_of {K : Nat → Option Obj} {h : Heap} {ag : Bool} {d0 N t : Nat} (T : Tp K h) (h2 : (K cStatics).isSome = true) : Gd ⟨⟨prog, w.params⟩, K, ag, d0, N, t⟩ h prog w := ⟨rfl, T.K, T.lim, h2⟩
theorem Rep.tp {m : Nat} {news : List (Addr × Obj)} (D : Gd B hB prog w) (R : Rep B hB ks h m news) : Tp B.K h := ⟨fun a o e => R.top D e, R.lim D⟩
theorem picks_mem {news L : List (Addr × Obj)} {idx : List Nat} (e : picks news idx = L.map some) : ∀ p ∈ L, p ∈ news := fun p hp => by
  have : some p ∈ picks news idx := by rw [e]; exact List.mem_map_of_mem hp
  obtain ⟨j, _, e⟩ := List.mem_map.mp this
  exact nth_mem e
theorem nth_inj : ∀ {l : List (Addr × Obj)} {i j : Nat} {p q : Addr × Obj}, (l.map (·.1)).Nodup → nth l i = some p → nth l j = some q → p.1 = q.1 → i = j
  | [], _, _, _, _, _, h, _, _ => nomatch h
  | x :: l, 0, 0, _, _, _, _, _, _ => rfl
  | x :: l, 0, j + 1, p, q, hn, h1, h2, e => by
    cases h1
    rw [List.map_cons, List.nodup_cons] at hn
    exact absurd (e ▸ List.mem_map_of_mem (nth_mem (l := l) h2)) hn.1
  | x :: l, i + 1, 0, p, q, hn, h1, h2, e => by
    cases h2
    rw [List.map_cons, List.nodup_cons] at hn
    exact absurd (e ▸ List.mem_map_of_mem (nth_mem (l := l) h1)) hn.1
  | x :: l, i + 1, j + 1, p, q, hn, h1, h2, e => by
    rw [List.map_cons, List.nodup_cons] at hn
    rw [nth_inj (l := l) hn.2 h1 h2 e]
theorem picks_nodup {news : List (Addr × Obj)} (hn : (news.map (·.1)).Nodup) : ∀ {idx : List Nat} {L : List (Addr × Obj)}, idx.Nodup → picks news idx = L.map some → (L.map (·.1)).Nodup
  | [], [], _, _ => List.nodup_nil
  | [], _ :: _, _, e => by cases e
  | _ :: _, [], _, e => by cases e
  | i :: idx, p :: L, hi, e => by
    unfold picks at e
    rw [List.map_cons, List.map_cons] at e
    injection e with e1 e2
    rw [List.nodup_cons] at hi
    rw [List.map_cons, List.nodup_cons]
    refine ⟨fun hm => ?_, picks_nodup hn hi.2 e2⟩
    obtain ⟨q, hq, eq⟩ := List.mem_map.mp hm
    have : some q ∈ idx.map (nth news) := by rw [e2]; exact List.mem_map_of_mem hq
    obtain ⟨j, hj, ej⟩ := List.mem_map.mp this
    exact hi.1 (nth_inj hn ej e1 eq ▸ hj)
theorem Rep.giv {m : Nat} {news L : List (Addr × Obj)} {idx : List Nat} (R : Rep B hB ks h m news) (hi : idx.Nodup) (e : picks news idx = L.map some) : Giv B.K h L :=
  ⟨fun p hp => R.nw p (picks_mem e p hp), picks_nodup R.nd hi e, fun p hp => R.sep p (picks_mem e p hp)⟩
theorem nth_keys : ∀ {l l' : List (Addr × Obj)} {j : Nat}, l.map (·.1) = l'.map (·.1) → (nth l j).map (·.1) = (nth l' j).map (·.1)
  | [], [], _, _ => rfl
  | [], _ :: _, _, e => by cases e
  | _ :: _, [], _, e => by cases e
  | p :: l, q :: l', j, e => by
    rw [List.map_cons, List.map_cons] at e
    injection e with e1 e2
    cases j with
    | zero => exact congrArg some e1
    | succ j => exact nth_keys (l := l) (l' := l') e2
theorem putAt_facts {news : List (Addr × Obj)} (hn : (news.map (·.1)).Nodup) : ∀ {idx : List Nat} {L : List (Addr × Obj)}, idx.map (fun i => (nth news i).map (·.1)) = L.map (fun p => some p.1) →
    (putAt idx L news).map (·.1) = news.map (·.1) ∧ (∀ x ∈ putAt idx L news, x ∈ L ∨ (x ∈ news ∧ ∀ p ∈ L, p.1 ≠ x.1))
  | [], [], _ => ⟨rfl, fun x hx => .inr ⟨hx, fun _ hp => (nomatch hp)⟩⟩
  | [], _ :: _, e => by cases e
  | _ :: _, [], e => by cases e
  | i :: idx, p :: L, e => by
    rw [List.map_cons, List.map_cons] at e
    injection e with e1 e2
    obtain ⟨a, b⟩ := putAt_facts hn e2
    have hk : (nth (putAt idx L news) i).map (·.1) = some p.1 := (nth_keys a).trans e1
    obtain ⟨q, hq, ek⟩ := Option.map_eq_some_iff.mp hk
    obtain ⟨pa, po⟩ := p
    dsimp only at ek
    subst ek
    have hn' : ((putAt idx L news).map (·.1)).Nodup := by rw [a]; exact hn
    refine ⟨(setN_keys hq).trans a, fun x hx => ?_⟩
    rcases setN_mem hq hn' hx with rfl | ⟨hx, ne⟩
    · exact .inl (.head _)
    · rcases b x hx with hx | ⟨hx, z⟩
      · exact .inl (.tail _ hx)
      · refine .inr ⟨hx, fun p hp => ?_⟩
        rcases List.mem_cons.mp hp with rfl | hp
        · exact Ne.symm ne
        · exact z p hp
theorem Rep.call {m t' : Nat} {news L : List (Addr × Obj)} {h' : Heap} (idx : List Nat) (R : Rep B hB ks h m news) (F : Aft h L h')
    (e : idx.map (fun i => (nth news i).map (·.1)) = L.map (fun p => some p.1)) : Rep ⟨B.S, B.K, B.ag, B.d0, h'.objs.size, t'⟩ hB ks h' 0 (putAt idx L news) := by
  obtain ⟨a, b⟩ := putAt_facts R.nd e
  have mem : ∀ x ∈ putAt idx L news, ∃ y ∈ news, y.1 = x.1 := fun x hx => by
    have : x.1 ∈ news.map (·.1) := by rw [← a]; exact List.mem_map_of_mem hx
    obtain ⟨y, hy, e⟩ := List.mem_map.mp this
    exact ⟨y, hy, e⟩
  have mem' : ∀ x ∈ news, ∃ y ∈ putAt idx L news, y.1 = x.1 := fun x hx => by
    have : x.1 ∈ (putAt idx L news).map (·.1) := by rw [a]; exact List.mem_map_of_mem hx
    obtain ⟨y, hy, e⟩ := List.mem_map.mp this
    exact ⟨y, hy, e⟩
  have lk : ∀ p ∈ L, ∃ y ∈ news, y.1 = p.1 := fun p hp => by
    have : some p.1 ∈ idx.map (fun i => (nth news i).map (·.1)) := by rw [e]; exact List.mem_map_of_mem (f := fun p : Addr × Obj => some p.1) hp
    obtain ⟨i, _, ei⟩ := List.mem_map.mp this
    obtain ⟨y, hy, ey⟩ := Option.map_eq_some_iff.mp ei
    exact ⟨y, nth_mem hy, ey⟩
  refine ⟨rfl, Nat.le_trans R.le F.le, fun p hp lt => ?_, fun b' o eb z => ?_, fun p hp => ?_, by rw [a]; exact R.nd, fun p hp => ?_⟩
  · obtain ⟨y, hy, ey⟩ := mem p hp
    rw [← ey] at lt ⊢
    exact R.old y hy lt
  · refine F.keep b' o (R.keep b' o eb fun p hp ep => ?_) fun p hp ep => ?_
    · obtain ⟨y, hy, ey⟩ := mem' p hp
      exact z y hy (ey.trans ep)
    · obtain ⟨y, hy, ey⟩ := lk p hp
      obtain ⟨y', hy', ey'⟩ := mem' y hy
      exact z y' hy' (ey'.trans (ey.trans ep))
  · rcases b p hp with hp | ⟨hp, z⟩
    · exact F.nw p hp
    · exact F.keep _ _ (R.nw p hp) z
  · obtain ⟨y, hy, ey⟩ := mem p hp
    have := R.sep y hy
    rw [ey] at this
    exact this
theorem gd_re {N t : Nat} (D : Gd B hB prog w) : Gd ⟨B.S, B.K, B.ag, B.d0, N, t⟩ hB prog w := ⟨D.S, D.K, D.lim, D.two⟩
theorem bse_re {N t : Nat} (D : Bse prog w A₀ G₀ E₀ B) : Bse prog w A₀ G₀ E₀ ⟨B.S, B.K, B.ag, B.d0, N, t⟩ := ⟨D.hd, D.dep, D.HG⟩
noncomputable def gC (prog : Program) (w : World) (A : Around) (R : Result → Shared → Prop) (fin : PySem.Fin) (s' : Shared) : Prop := s'.heap.NoLimit ∧ match fin with
  | .done f => R (.ok f) s'
  | .again c' => c'.quiet = true ∧ codeAny (model prog w) A c' R s'
noncomputable def eC (R : Result → Shared → Prop) (e : Value) (s' : Shared) : Prop := R (.error e) s'
theorem bse_code {R : Result → Shared → Prop} {d : Nat} (hA : Okk A d) (hB : B.d0 = d) : Bse prog w A (gC prog w A R) (eC R) B :=
  ⟨hA.hd, by rw [hB]; exact hA.dep, fun _ c' s hl hq hd h => ⟨hl, hq, code_in (hd := none) hd (fun _ _ x => x) (fun _ _ x => x) h⟩⟩
/-- a code's contract begins as a run -/
theorem code_run {c : Code} {R : Result → Shared → Prop} {s : Shared} {d : Nat} {news : List (Addr × Obj)} (hA : Okk A d) (hd : Nat.blt (d + wgt c) 1000 = true)
    (h : Mn prog w A (gC prog w A R) (eC R) ⟨c, [], den c, d + wgt c, 0, 0, news⟩ s) : codeAny (model prog w) A c R s := by
  have hlt : d + wgt c < 1000 := Nat.le_of_ble_eq_true hd
  have hA := hA.dep
  have q : (A.under c).depth ≤ d + wgt c := by show A.depth + c.weight ≤ d + wgt c; rw [wgt_eq]; omega
  exact code_in (hd := none) (show _ < 1000 by omega) (fun _ _ x => x) (fun _ _ x => x) h
theorem dep_start {c : Code} {t : Sem PySem.Fin} {d m i : Nat} {news : List (Addr × Obj)} (hA : Okk A d) : Dep A ⟨c, [], t, d + wgt c, m, i, news⟩ :=
  ⟨by show A.depth + c.weight ≤ d + wgt c; rw [wgt_eq]; have := hA.dep; omega, trivial⟩
end
end Mine
end
section
open PySem PySem.W PyProof.Rows PySem.W.X
open PySem.Builtin PySem.Builtin.Str
namespace Mine
section
variable {prog : Program} {w : World} {A : Around} {R : Result → Shared → Prop} {s : Shared}
theorem cut_meets {T : String} {name : Str} {id : String} {B : Builtin} {self : Value} {rest : List Value} {S : PySem.Spec} (slot : Slot T name id) (hT : s.TypeIs self T)
    (entry : entryFor table id = some B) (args : argsOk id ⟨self :: rest, []⟩) (g : Meets (B ⟨self :: rest, []⟩) S) (h : S A R s) :
    codeAny (model prog w) A (.call (.builtin id) ⟨self :: rest, []⟩) R s :=
  codeAny_call_builtin slot.plain entry (slot.check _ _ _ _ _ _ _ _ hT args (g prog w A R s h))
/-- the one sign at p, or none behind the end -/
noncomputable def chr (X : Str) (p : Nat) : Str := ⟨(X.cps[p]?).toList.toArray⟩
theorem range_one (p : Nat) : sliceRange (p : Int) ((p : Int) + 1) 1 = [p] := by
  unfold sliceRange
  have : ((p : Int) + 1 - (p : Int) + 1 - 1) / 1 = 1 := by omega
  simp only [show (1 : Int) > 0 from by decide, if_true, show ((p : Int) < (p : Int) + 1) from by omega, this]
  simp [List.range_succ]
theorem range_none (p : Nat) : sliceRange (p : Int) (p : Int) 1 = [] := by
  unfold sliceRange
  simp
theorem picked (X : Str) (p : Nat) (t1 t2 : Tok) (hp : p ≤ X.length) : slicePicked X (some ((p : Int), t1)) (some ((p : Int) + 1, t2)) none = if p < X.length then [p] else [] := by
  unfold slicePicked strSliceIndices
  simp only [Option.map_some, Option.map_none, Option.getD_none]
  have a1 : ¬ ((p : Int) < 0) := by omega
  have a2 : ¬ ((p : Int) + 1 < 0) := by omega
  simp only [a1, a2, if_false, show (1 : Int) > 0 from by decide, if_true]
  by_cases h : p < X.length
  · rw [if_pos h]
    have e1 : max 0 (min (p : Int) (X.length : Int)) = p := by omega
    have e2 : max 0 (min ((p : Int) + 1) (X.length : Int)) = (p : Int) + 1 := by omega
    rw [e1, e2]; exact range_one p
  · rw [if_neg h]
    have e1 : max 0 (min (p : Int) (X.length : Int)) = p := by omega
    have e2 : max 0 (min ((p : Int) + 1) (X.length : Int)) = (p : Int) := by omega
    rw [e1, e2]; exact range_none p
theorem cut_getitem {X : Str} {t : Tok} {a : Addr} {p : Nat} {t1 t2 : Tok} {h : Heap} {gs : Array GenState} {dr : Drawn} {tk : Nat} {os : OsState}
    (ha : h.get? a = some ⟨.type "slice", none, .fields #[.int (p : Int) t1, .int ((p : Int) + 1) t2, .none], #[]⟩) (hp : p ≤ X.length)
    (k : ∀ tok t', R (.ok (.ret (.str (chr X p) tok))) ⟨h, gs, dr, t', os⟩) :
    codeAny (model prog w) A (.call (.builtin "str.__getitem__") ⟨[.str X t, .ref a], []⟩) R ⟨h, gs, dr, tk, os⟩ := by
  refine cut_meets F.slot_str_getitem (typeIs_str _ X t) F.entry_str_getitem (F.args_str_getitem_2 _ _) (meets_str_getitem_slice X t a (some ((p : Int), t1)) (some ((p : Int) + 1, t2)) none rfl) ⟨⟨_, ha, rfl, rfl⟩, ?_⟩
  unfold sliceMade
  rw [picked X p t1 t2 hp]
  have ext : ∀ {Y : Str}, Y.cps = X.cps → Y = X := fun {Y} e => by cases Y; cases X; simpa using e
  by_cases hl : p < X.length
  · rw [if_pos hl]
    have hc : X.cps[p]? = some (X.cps[p]'hl) := Array.getElem?_eq_getElem hl
    have ec : chr X p = ⟨#[X.cps[p]'hl]⟩ := by unfold chr; rw [hc]; rfl
    by_cases h1 : X.length = 1
    · have : chr X p = X := by
        rw [ec]
        apply ext
        have p0 : p = 0 := by omega
        subst p0
        apply Array.ext
        · show 1 = X.cps.size; exact h1.symm
        · intro i h1' h2'
          have : i = 0 := by simp at h1'; omega
          subst this; rfl
      have q := k t tk
      rw [this] at q
      have : ((((none : Option (Int × Tok)).map (·.1)).getD 1 == 1 && ([p] : List Nat).length == X.length) = true) := by rw [h1]; rfl
      rw [if_pos this]
      exact q
    · have : ¬ ((((none : Option (Int × Tok)).map (·.1)).getD 1 == 1 && ([p] : List Nat).length == X.length) = true) := by simp; omega
      rw [if_neg this]
      have q := k tk (tk + 1)
      rw [ec] at q
      have e : (⟨(List.filterMap (X.cps[·]?) [p]).toArray⟩ : Str) = ⟨#[X.cps[p]'hl]⟩ := by simp [hc]
      rw [e]
      exact ⟨by show (1 : Nat) ≤ sizeLine; decide, q⟩
  · rw [if_neg hl]
    have hc : X.cps[p]? = none := Array.getElem?_eq_none (by show X.cps.size ≤ p; have : X.length = X.cps.size := rfl; omega)
    have ec : chr X p = ⟨#[]⟩ := by unfold chr; rw [hc]; rfl
    by_cases h1 : X.length = 0
    · have : chr X p = X := by
        rw [ec]
        apply ext
        exact (Array.eq_empty_of_size_eq_zero h1).symm
      have q := k t tk
      rw [this] at q
      have : ((((none : Option (Int × Tok)).map (·.1)).getD 1 == 1 && ([] : List Nat).length == X.length) = true) := by rw [h1]; rfl
      rw [if_pos this]
      exact q
    · have : ¬ ((((none : Option (Int × Tok)).map (·.1)).getD 1 == 1 && ([] : List Nat).length == X.length) = true) := by simp; omega
      rw [if_neg this]
      have q := k tk (tk + 1)
      rw [ec] at q
      exact ⟨by show (0 : Nat) ≤ sizeLine; decide, q⟩
end
end Mine
end
section
open PySem PySem.W PyProof.Rows PySem.W.X
namespace Mine
/-- the top's objects, but the one table that the law's call turns -/
noncomputable def Kt (P : Params) (a : Nat) : Option Obj := match Nat.beq a 130 with
  | true => none
  | false => KT.get (topz.ktop_305 P) a
theorem kt_two (P : Params) : (Kt P cStatics).isSome = true := by kernel_rfl
noncomputable def nF1 : Nat := PySem.code "special-get-raises"
noncomputable def nF2 : Nat := PySem.code "comprehension-iter-twice"
/-- the world's two rows that the run asks, told -/
noncomputable def Pf (P : Params) (b1 b2 : Bool) : Params := { P with followText := fun r => match S.eqLit nF1 r with
  | true => b1
  | false => match S.eqLit nF2 r with
    | true => b2
    | false => P.followText r }
noncomputable def Wf (w : World) (b1 b2 : Bool) : World := { w with params := Pf w.params b1 b2 }
theorem wf_self (w : World) : Wf w (w.params.followText "special-get-raises") (w.params.followText "comprehension-iter-twice") = w := by
  obtain ⟨dr, P⟩ := w
  have e1 := S.eqLit_eq "special-get-raises" nF1 rfl
  have e2 := S.eqLit_eq "comprehension-iter-twice" nF2 rfl
  have : Pf P (P.followText "special-get-raises") (P.followText "comprehension-iter-twice") = P := by
    unfold Pf
    have : (fun r => match S.eqLit nF1 r with | true => P.followText "special-get-raises" | false => match S.eqLit nF2 r with | true => P.followText "comprehension-iter-twice" | false => P.followText r) = P.followText := by
      funext r
      rw [← e1, ← e2]
      by_cases h1 : r = "special-get-raises"
      · subst h1; simp
      · have q1 : (r == "special-get-raises") = false := by simpa using h1
        simp only [q1]
        by_cases h2 : r = "comprehension-iter-twice"
        · subst h2; simp
        · have q2 : (r == "comprehension-iter-twice") = false := by simpa using h2
          simp only [q2]
    rw [this]
  show (⟨dr, _⟩ : World) = _
  dsimp only
  rw [this]
end Mine
end
section
open PySem PySem.W PyProof.Rows PySem.W.X
namespace Mine
structure Lx where
  hl : Int
  hi : Int
  hw : Int
  hp : Int
  hr : Int
  kl : Tok
  ki : Tok
  kw : Tok
  kp : Tok
  kr : Tok
  tw : Tok
  tX : Tok
  tq : Tok
  FD : FuncData
  c0 : Value
  cr : List Value
  ctup : Addr
  pm : Value
noncomputable def lexBody (P : Params) : List Stmt := match Kt P 135 with
  | some ⟨_, _, .func fd, _⟩ => match fd.body with
    | .stmts b => b
    | _ => []
  | _ => []
noncomputable def sQual : Str := ⟨#[95,108,97,119,95,108,101,120,101,114,46,60,108,111,99,97,108,115,62,46,95,108,97,119,95,114,101,97,100,95,111,110]⟩
noncomputable def sText : Str := ⟨#[116,101,120,116]⟩
noncomputable def sAt : Str := ⟨#[97,116]⟩
noncomputable def sLineno : Str := ⟨#[108,105,110,101,110,111]⟩
noncomputable def sInstream : Str := ⟨#[105,110,115,116,114,101,97,109]⟩
noncomputable def sWhitespace : Str := ⟨#[119,104,105,116,101,115,112,97,99,101]⟩
noncomputable def sPushback : Str := ⟨#[112,117,115,104,98,97,99,107]⟩
noncomputable def sRead : Str := ⟨#[114,101,97,100]⟩
noncomputable def roFD (P : Params) (ct ca cd ctup : Addr) (pm : Value) : FuncData := match lexBody P with
  | _ :: .FunctionDef nm args body _ _ _ scope _ _ _ :: _ => { name := nm, qualname := sQual, params := args, body := .stmts body, scope := scope, globals := 3, closure := [(sText, ct), (sAt, ca)], defaults := .none, kwdefaults := .none, doc := .none, pyModule := pm, annotations := none, code := .ref cd, closureTuple := .ref ctup, builtins := 0 }
  | _ => default
/-- a lexer over a text: the objects that it is made of -/
noncomputable def lexL (P : Params) (x dx pb fs fd fr cd ct ca la : Addr) (o : Lx) (X : Str) (p ln : Int) (tp tl : Tok) (q : List Value) (ep : Nat) : List (Addr × Obj) := [
  (x, ⟨.ref 107, some dx, .plain, #[]⟩),
  (dx, ⟨.type "dict", none, .dict #[⟨o.hl, .str sLineno o.kl, .int ln tl⟩, ⟨o.hi, .str sInstream o.ki, .ref fs⟩, ⟨o.hw, .str sWhitespace o.kw, .str ⟨#[10,9,13,32]⟩ o.tw⟩, ⟨o.hp, .str sPushback o.kp, .ref pb⟩] 4, #[]⟩),
  (pb, ⟨.type "list", none, .seq q.toArray ep, #[]⟩),
  (fs, ⟨.type "function", some fd, .func o.FD, #[]⟩),
  (fd, ⟨.type "dict", none, .dict #[⟨o.hr, .str sRead o.kr, .ref fr⟩] 1, #[]⟩),
  (fr, ⟨.type "function", none, .func (roFD P ct ca cd o.ctup o.pm), #[]⟩),
  (cd, ⟨.type "code", none, .fields (o.c0 :: .str sQual o.tq :: o.cr).toArray, #[]⟩),
  (ct, ⟨.type "cell", none, .cell (some (.str X o.tX)), #[]⟩),
  (ca, ⟨.type "cell", none, .cell (some (.ref la)), #[]⟩),
  (la, ⟨.type "list", none, .seq #[.int p tp] 0, #[]⟩)]
noncomputable def slOf : Option (Addr × Obj) → Option (Addr × Int × Int)
  | some (a, ⟨.type "slice", none, .fields vs, sl⟩) => match vs.toList, sl.toList with
    | [.int l _, .int u _, .none], [] => some (a, l, u)
    | _, _ => none
  | _ => none
theorem slOf_spec {q : Option (Addr × Obj)} {a : Addr} {l u : Int} (h : slOf q = some (a, l, u)) : ∃ t1 t2, q = some (a, ⟨.type "slice", none, .fields #[.int l t1, .int u t2, .none], #[]⟩) := by
  unfold slOf at h
  split at h
  · rename_i a' vs sl
    split at h
    · rename_i l' t1 u' t2 e1 e2
      cases h
      refine ⟨t1, t2, ?_⟩
      have q1 : vs = #[.int l t1, .int u t2, .none] := Array.ext' e1
      have q2 : sl = #[] := Array.ext' e2
      rw [q1, q2]
    · cases h
  · cases h
theorem lt_of_some {X : Str} {p c : Nat} (h : X.cps[p]? = some c) : p < X.length := (Array.getElem?_eq_some_iff.mp h).1
theorem chr_some {X : Str} {p c : Nat} (h : X.cps[p]? = some c) : chr X p = ⟨#[c]⟩ := by unfold chr; rw [h]; rfl
theorem chr_end {X : Str} {p : Nat} (h : X.length = p) : chr X p = ⟨#[]⟩ := by
  unfold chr
  rw [Array.getElem?_eq_none (by have : X.length = X.cps.size := rfl; omega)]; rfl
noncomputable def nx (f : Cf) (r : Result) (news : List (Addr × Obj)) : Cf := ⟨f.c, f.κ, contOf f.t r, f.dep, 0, 0, news⟩
/-- the tree behind the reading of the last sign, and behind the look at it -/
noncomputable def ciK (self : Value) : Sem PySem.Fin := R.bindR (rule SL.s986709197705307712x35) fun _ => R.bindR (Fast.tw7774638238746244234 self) fun _ => Fast.tw17615448654315672387
noncomputable def ciT (self : Value) (t : Tok) (r : Value) : Sem PySem.Fin :=
  R.bindR (Fast.tw17359229931016689406 [r] (Fast.tw13926502685295537346 (.str ⟨#[]⟩ t) r)) fun b => if (!b) = true then Fast.tw6905046200447255374 r else ciK self
theorem ciT_sound {prog : Program} {w : World} {A : Around} {Q : PySem.Fin → Shared → Prop} {E : Value → Shared → Prop} {s : Shared} {self : Value} {t u : Tok}
    (h : wpAny (model prog w) A (ciK self) Q E s) : wpAny (model prog w) A (ciT self t (.str ⟨#[]⟩ u)) Q E s := by
  unfold ciT
  rw [← R.bindR_eq, ← Fast.te17359229931016689406, ← Fast.te13926502685295537346]
  refine wpAny_bind (wpAny_holding (wpAny_eqBool_str ?_))
  simpa using h
section
variable {prog : Program} {w : World} {A₀ : Around} {G₀ : PySem.Fin → Shared → Prop} {E₀ : Value → Shared → Prop} {f : Cf} {r : Result} {s : Shared} {news : List (Addr × Obj)}
theorem mn_nx (h : Mn prog w A₀ G₀ E₀ (nx f r news) s) : Mn prog w A₀ G₀ E₀ { f with t := contOf f.t r } s := h
theorem dep_nx (d : Dep A₀ f) : Dep A₀ (nx f r news) := d
theorem aft_refl (h : Heap) : Aft h [] h := ⟨Nat.le_refl _, fun _ hp => (nomatch hp), fun _ _ e _ => e⟩
theorem keys_of {ks : List Addr} {L : List (Addr × Obj)} (e : ks = L.map (·.1)) : ∀ a ∈ ks, ∃ p ∈ L, p.1 = a := fun a ha => by
  rw [e] at ha
  obtain ⟨p, hp, e⟩ := List.mem_map.mp ha
  exact ⟨p, hp, e⟩
end
end Mine
end
section
open PySem PySem.W PyProof.Rows PySem.W.X
namespace Mine
theorem meets_enum_tuple (l : Addr) (items : Array Value) (n : Nat) :
    Meets (Builtin.«enumerate.__new__» ⟨[.type "enumerate", .ref l], []⟩) (fun _ R s => s.heap.get? l = some { cls := .type "tuple", dict := none, data := .seq items n, slots := #[] } ∧
      R (.ok (.ret (.ref (s.heap.push { cls := .type "tuple_iterator", data := .fields #[.ref l, .int 0 0] }).objs.size)))
        { s with heap := (s.heap.push { cls := .type "tuple_iterator", data := .fields #[.ref l, .int 0 0] }).push { cls := .type "enumerate", data := .fields #[.none, .bool false, .ref s.heap.objs.size, rawInt 0, .none, .none] } }) :=
  .of_wp fun prog w A R s h => by
    obtain ⟨hp, g, d, tk, os⟩ := s; obtain ⟨hl, h⟩ := h
    have hsub := sub_enumerate
    have hL : Heap.IsTuple (Shared.heap ⟨hp, g, d, tk, os⟩) l items := ⟨_, hl, rfl, n, rfl⟩
    wp_walk using AutoSeq1.wpAny_loadPart' hl
    refine wpAny_stack_any fun st => wpAny_pure ?_
    split
    · rename_i c _ _ _ _ _
      cases (c == Value.type "enumerate")
      · wp_walk using AutoSeq1.wpAny_loadPart' hl, wpAny_pyIter_tuple hL
        exact ⟨_, rfl, h⟩
      · wp_walk using AutoSeq1.wpAny_loadPart' hl, wpAny_pyIter_tuple hL
        exact ⟨_, rfl, h⟩
    · wp_walk using AutoSeq1.wpAny_loadPart' hl, wpAny_pyIter_tuple hL
      exact ⟨_, rfl, h⟩
end Mine
namespace Mine
section
variable {prog : Program} {w : World} {A : Around} {R : Result → Shared → Prop} {h : Heap} {gs : Array GenState} {dr : Drawn} {t0 : Nat} {os : OsState}
theorem cut_enum {l : Addr} {items : Array Value} {n : Nat} (hl : h.get? l = some ⟨.type "tuple", none, .seq items n, #[]⟩)
    (k : R (.ok (.ret (.ref (h.objs.size + 1)))) ⟨(h.push ⟨.type "tuple_iterator", none, .fields #[.ref l, .int 0 0], #[]⟩).push ⟨.type "enumerate", none, .fields #[.none, .bool false, .ref h.objs.size, rawInt 0, .none, .none], #[]⟩, gs, dr, t0, os⟩) :
    codeAny (model prog w) A (.call (.builtin "enumerate.__new__") ⟨[.type "enumerate", .ref l], []⟩) R ⟨h, gs, dr, t0, os⟩ := by
  refine codeAny_call_builtin (by decide +kernel) F.entry_enumerate_new ?_
  rw [show checkBuiltinCall "enumerate.__new__" ⟨[.type "enumerate", .ref l], []⟩ = pure () from F.newCall_enumerate_1 _]
  refine wpAny_pure (meets_enum_tuple l items n prog w A R _ ⟨hl, ?_⟩)
  rw [show (Heap.push h _).objs.size = h.objs.size + 1 from Heap.size_push ..]
  exact k
end
end Mine
end
section
open PySem PySem.W PyProof.Rows PySem.W.X
namespace Mine
noncomputable abbrev pw := PySem.Challenge.pw_re0026_01
noncomputable abbrev bS (w : World) (b1 b2 : Bool) (d N t : Nat) : Bs := ⟨⟨pw, Pf w.params b1 b2⟩, Kt (Pf w.params b1 b2), true, d, N, t⟩
noncomputable abbrev kP (w : World) (b1 b2 : Bool) : Nat → Option Obj := Kt (Pf w.params b1 b2)
noncomputable abbrev MnS (w : World) (b1 b2 : Bool) (A : Around) (R : Result → Shared → Prop) (f : Cf) (s : Shared) : Prop := Mn pw (Wf w b1 b2) A (gC pw (Wf w b1 b2) A R) (eC R) f s
/-- a run stands at f -/
structure Ok (w : World) (b1 b2 : Bool) (A : Around) (R : Result → Shared → Prop) (d : Nat) (hB : Heap) (ks : List Addr) (f : Cf) (h : Heap) (N t : Nat) : Prop where
  D : Gd (bS w b1 b2 d N t) hB pw (Wf w b1 b2)
  E : Bse pw (Wf w b1 b2) A (gC pw (Wf w b1 b2) A R) (eC R) (bS w b1 b2 d N t)
  R : Rep (bS w b1 b2 d N t) hB ks h f.m f.news
  d : Dep A f
/-- a call's leavings: the given objects as told, new ones, all else as it was -/
structure Af (h : Heap) (L Nw : List (Addr × Obj)) (h' : Heap) : Prop where
  a : Aft h L h'
  nw : ∀ p ∈ Nw, h'.get? p.1 = some p.2
  ge : ∀ p ∈ Nw, h.objs.size ≤ p.1
  nd : (Nw.map (·.1)).Nodup
theorem af_refl (h : Heap) : Af h [] [] h := ⟨aft_refl h, fun _ hp => (nomatch hp), fun _ hp => (nomatch hp), List.nodup_nil⟩
theorem af_of {h h' : Heap} {L : List (Addr × Obj)} (a : Aft h L h') : Af h L [] h' := ⟨a, fun _ hp => (nomatch hp), fun _ hp => (nomatch hp), List.nodup_nil⟩
section
variable {w : World} {b1 b2 : Bool} {A : Around} {R : Result → Shared → Prop} {d : Nat} {hB h : Heap} {ks : List Addr} {f F : Cf} {N t : Nat} {gs : Array GenState} {dr : Drawn} {os : OsState} {c : Code} {L Nw : List (Addr × Obj)} {n : Nat} {hs : List Nat}
noncomputable abbrev startF (c : Code) (d : Nat) (L : List (Addr × Obj)) : Cf := ⟨c, [], den c, d + wgt c, 0, 0, L⟩
theorem bothB {P : Bool → Prop} (hf : let b1 := false; P b1) (ht : let b1 := true; P b1) : ∀ b1, P b1 := fun b1 => match b1 with | false => hf | true => ht
theorem okS (hA : Okk A d) (T : Tp (kP w b1 b2) h) (G : Giv (kP w b1 b2) h L) : Ok w b1 b2 A R d h (L.map (·.1)) (startF c d L) h h.objs.size t :=
  ⟨gd_of (w := Wf w b1 b2) T (kt_two _), bse_code hA rfl, giv_start G, dep_start hA⟩
theorem goC (hA : Okk A d) (T : Tp (kP w b1 b2) h) (G : Giv (kP w b1 b2) h L) (hd : Nat.blt (d + wgt c) 1000 = true)
    (k : let L0 := L; let F0 := startF c d L0; Ok w b1 b2 A R d h (L0.map (·.1)) F0 h h.objs.size t → MnS w b1 b2 A R F0 ⟨h, gs, dr, t, os⟩) :
    codeAny (model pw (Wf w b1 b2)) A c R ⟨h, gs, dr, t, os⟩ := code_run hA hd (k (okS hA T G))
/-- what is left to show behind a cut -/
noncomputable def MnR (w : World) (b1 b2 : Bool) (A : Around) (R : Result → Shared → Prop) (F : Cf) (r : Result) (s : Shared) : Prop := MnS w b1 b2 A R { F with t := contOf F.t r } s
theorem cutS (m mm : Nat) {idx : List Nat} {Lf : Cf → List (Addr × Obj)} (r : Ok w b1 b2 A R d hB ks f h N t) (hi : idx.Nodup)
    (hk : (okk (bS w b1 b2 d N t) n hs f, e1 (bS w b1 b2 d N t) n hs f, callOf (rn (bS w b1 b2 d N t) n hs f).t, hdOf (rn (bS w b1 b2 d N t) n hs f).κ, Nat.ble (rn (bS w b1 b2 d N t) n hs f).dep m, picks (rn (bS w b1 b2 d N t) n hs f).news idx, (rn (bS w b1 b2 d N t) n hs f).m)
      = (true, e2 (bS w b1 b2 d N t) n hs f, some (c, none), none, true, (Lf (rn (bS w b1 b2 d N t) n hs f)).map some, mm))
    (k : ∀ h' t1, Ok w b1 b2 A R d hB ks (rn (bS w b1 b2 d N t) n hs f) h' N t → Tp (kP w b1 b2) h' → Giv (kP w b1 b2) h' (Lf (rn (bS w b1 b2 d N t) n hs f)) → Okk (cur A (rn (bS w b1 b2 d N t) n hs f).c (rn (bS w b1 b2 d N t) n hs f).κ) m → h'.objs.size = N + mm →
      codeAny (model pw (Wf w b1 b2)) (cur A (rn (bS w b1 b2 d N t) n hs f).c (rn (bS w b1 b2 d N t) n hs f).κ) c (fun r s' => MnR w b1 b2 A R (rn (bS w b1 b2 d N t) n hs f) r s') ⟨h', gs, dr, t1, os⟩) :
    MnS w b1 b2 A R f ⟨h, gs, dr, t + f.i, os⟩ := by
  have hk' := hk
  simp only [Prod.mk.injEq] at hk'
  obtain ⟨k1, k2, k3, k4, k5, k6, k7⟩ := hk'
  refine run_cut m r.D r.E r.R r.d (by simp only [Prod.mk.injEq]; exact ⟨k1, k2, k3, k4, k5⟩) fun h' R' d' o' => ?_
  exact k h' _ ⟨r.D, r.E, R', d'⟩ (R'.tp r.D) (R'.giv hi k6) o' (by rw [← k7]; exact R'.size)
/-- the ledger grown by new objects -/
theorem Rep.more {B : Bs} {m : Nat} {news : List (Addr × Obj)} {prog : Program} {w : World} (D : Gd B hB prog w) (R : Rep B hB ks h m news) (hn : ∀ p ∈ Nw, h.get? p.1 = some p.2) (hg : ∀ p ∈ Nw, ∀ q ∈ news, q.1 < p.1) (hb : ∀ p ∈ Nw, hB.objs.size ≤ p.1) (nd : (Nw.map (·.1)).Nodup) :
    Rep B hB ks h m (Nw ++ news) := by
  refine ⟨R.size, R.le, fun p hp lt => ?_, fun b o e z => R.keep b o e fun p hp => z p (List.mem_append_right _ hp), fun p hp => ?_, ?_, fun p hp => ?_⟩
  · rcases List.mem_append.mp hp with hp | hp
    · exact absurd lt (Nat.not_lt.mpr (hb p hp))
    · exact R.old p hp lt
  · rcases List.mem_append.mp hp with hp | hp
    · exact hn p hp
    · exact R.nw p hp
  · rw [List.map_append, List.nodup_append]
    refine ⟨nd, R.nd, fun a ha b hb e => ?_⟩
    obtain ⟨p, hp, rfl⟩ := List.mem_map.mp ha
    obtain ⟨q, hq, rfl⟩ := List.mem_map.mp hb
    exact absurd e.symm (Nat.ne_of_lt (hg p hp q hq))
  · rcases List.mem_append.mp hp with hp | hp
    · cases q : B.K p.1 with
      | none => rfl
      | some o' =>
        exact absurd (Heap.lt_size (D.K _ _ q)) (Nat.not_lt.mpr (hb p hp))
    · exact R.sep p hp
theorem goS {h' : Heap} {t' N' : Nat} (r : Ok w b1 b2 A R d hB ks F h N t) (res : Result) (idx : List Nat) (x : Af h L Nw h') (hN' : h'.objs.size = N') (e : idx.map (fun i => (nth F.news i).map (·.1)) = L.map (fun p => some p.1))
    (k : let F' := nx F res (Nw ++ putAt idx L F.news); Ok w b1 b2 A R d hB ks F' h' N' t' → MnS w b1 b2 A R F' ⟨h', gs, dr, t', os⟩) :
    MnR w b1 b2 A R F res ⟨h', gs, dr, t', os⟩ := by
  have R1 := Rep.call (t' := t') idx r.R x.a e
  have lt : ∀ q ∈ putAt idx L F.news, q.1 < h.objs.size := fun q hq => by
    have : q.1 ∈ F.news.map (·.1) := by rw [← (putAt_facts r.R.nd e).1]; exact List.mem_map_of_mem hq
    obtain ⟨y, hy, ey⟩ := List.mem_map.mp this
    rw [← ey]
    exact Heap.lt_size (r.R.nw y hy)
  have R2 := Rep.more (gd_re r.D) R1 x.nw (fun p hp q hq => Nat.lt_of_lt_of_le (lt q hq) (x.ge p hp)) (fun p hp => Nat.le_trans r.R.le (x.ge p hp)) x.nd
  subst hN'
  exact k ⟨gd_re r.D, bse_re r.E, R2, dep_nx r.d⟩
theorem nodup_drop {l : List Addr} (hn : l.Nodup) {q i : Nat} {a : Addr} (hi : i < q) (ha : l[i]? = some a) : a ∉ l.drop q := by
  intro hm
  obtain ⟨j, hj, e⟩ := List.getElem_of_mem hm
  rw [List.length_drop] at hj
  have hjj : q + j < l.length := by omega
  rw [List.getElem_drop] at e
  obtain ⟨hi', e'⟩ := List.getElem?_eq_some_iff.mp ha
  have := (List.nodup_iff_pairwise_ne.mp hn)
  have w := List.pairwise_iff_getElem.mp this i (q + j) hi' hjj (by omega)
  exact w (e'.trans e.symm)
theorem nth_get : ∀ {l : List (Addr × Obj)} {i : Nat} {p : Addr × Obj}, nth l i = some p → (l.map (·.1))[i]? = some p.1
  | [], _, _, h => nomatch h
  | _ :: _, 0, _, h => by cases h; rfl
  | _ :: l, i + 1, p, h => by simpa using nth_get (l := l) h
/-- the ledger's picked parts, at an end -/
theorem Ok.af {q : Nat} {idx idn : List Nat} (r : Ok w b1 b2 A R d hB ks F h N t) (hn : idn.Nodup) (e1 : picks F.news idx = L.map some) (e2 : picks F.news idn = Nw.map some)
    (e3 : ∀ i ∈ idn, i < q) (e4 : (F.news.map (·.1)).drop q = ks) (e5 : L.map (·.1) = ks) : Af hB L Nw h := by
  have m1 := picks_mem e1
  have m2 := picks_mem e2
  refine ⟨r.R.aft (fun p hp => r.R.nw p (m1 p hp)) (fun a ha => ?_), fun p hp => r.R.nw p (m2 p hp), fun p hp => ?_, picks_nodup r.R.nd hn e2⟩
  · rw [← e5] at ha
    obtain ⟨p, hp, e⟩ := List.mem_map.mp ha
    exact ⟨p, hp, e⟩
  · apply Nat.le_of_not_lt
    intro lt
    have hk := r.R.old p (m2 p hp) lt
    have : some p ∈ picks F.news idn := by rw [e2]; exact List.mem_map_of_mem hp
    obtain ⟨i, hi, e⟩ := List.mem_map.mp this
    rw [← e4] at hk
    exact nodup_drop r.R.nd (e3 i hi) (nth_get e) hk
/-- the run ends -/
theorem endS (mm : Nat) {fl : Flow} {q : Nat} {idx idn : List Nat} {Lf Nf : Cf → List (Addr × Obj)} (r : Ok w b1 b2 A R d hB ks f h N t) (hn : idn.Nodup)
    (hk : (okk (bS w b1 b2 d N t) n hs f, e1 (bS w b1 b2 d N t) n hs f, (rn (bS w b1 b2 d N t) n hs f).κ, (rn (bS w b1 b2 d N t) n hs f).t, picks (rn (bS w b1 b2 d N t) n hs f).news idx, picks (rn (bS w b1 b2 d N t) n hs f).news idn, idn.all (Nat.blt · q), ((rn (bS w b1 b2 d N t) n hs f).news.map (·.1)).drop q, (Lf (rn (bS w b1 b2 d N t) n hs f)).map (·.1), (rn (bS w b1 b2 d N t) n hs f).m)
      = (true, e2 (bS w b1 b2 d N t) n hs f, [], Sem.pure (.done fl), (Lf (rn (bS w b1 b2 d N t) n hs f)).map some, (Nf (rn (bS w b1 b2 d N t) n hs f)).map some, true, ks, ks, mm))
    (k : ∀ h' t1, Af hB (Lf (rn (bS w b1 b2 d N t) n hs f)) (Nf (rn (bS w b1 b2 d N t) n hs f)) h' → h'.objs.size = N + mm → R (.ok fl) ⟨h', gs, dr, t1, os⟩) :
    MnS w b1 b2 A R f ⟨h, gs, dr, t + f.i, os⟩ := by
  simp only [Prod.mk.injEq] at hk
  obtain ⟨k1, k2, k3, k4, k5, k6, k7, k8, k9, k0⟩ := hk
  refine run_go r.D r.E r.R r.d k1 k2 fun h' R' d' => ?_
  have r' : Ok w b1 b2 A R d hB ks (rn (bS w b1 b2 d N t) n hs f) h' N t := ⟨r.D, r.E, R', d'⟩
  have x := r'.af (L := Lf (rn (bS w b1 b2 d N t) n hs f)) (Nw := Nf (rn (bS w b1 b2 d N t) n hs f)) hn k5 k6 (fun i hi => Nat.le_of_ble_eq_true (List.all_eq_true.mp k7 i hi)) k8 k9
  have q := k h' (t + (rn (bS w b1 b2 d N t) n hs f).i) x (by rw [← k0]; exact R'.size)
  unfold Mn
  rw [k3, k4]
  exact wpAny_pure ⟨R'.lim r.D, q⟩
/-- the run goes over into a code at its own foot -/
theorem agS (mm : Nat) {q : Nat} {idx idn : List Nat} {Lf Nf : Cf → List (Addr × Obj)} (r : Ok w b1 b2 A R d hB ks f h N t) (hi : (idn ++ idx).Nodup)
    (hk : (okk (bS w b1 b2 d N t) n hs f, e1 (bS w b1 b2 d N t) n hs f, (rn (bS w b1 b2 d N t) n hs f).κ, (rn (bS w b1 b2 d N t) n hs f).t, picks (rn (bS w b1 b2 d N t) n hs f).news idx, picks (rn (bS w b1 b2 d N t) n hs f).news idn, idn.all (Nat.blt · q), ((rn (bS w b1 b2 d N t) n hs f).news.map (·.1)).drop q, (Lf (rn (bS w b1 b2 d N t) n hs f)).map (·.1), qui c, (rn (bS w b1 b2 d N t) n hs f).m)
      = (true, e2 (bS w b1 b2 d N t) n hs f, [], Sem.pure (.again c), (Lf (rn (bS w b1 b2 d N t) n hs f)).map some, (Nf (rn (bS w b1 b2 d N t) n hs f)).map some, true, ks, ks, true, mm))
    (k : ∀ h' t1, Af hB (Lf (rn (bS w b1 b2 d N t) n hs f)) (Nf (rn (bS w b1 b2 d N t) n hs f)) h' → h'.objs.size = N + mm → Tp (kP w b1 b2) h' → Giv (kP w b1 b2) h' (Nf (rn (bS w b1 b2 d N t) n hs f) ++ Lf (rn (bS w b1 b2 d N t) n hs f)) → codeAny (model pw (Wf w b1 b2)) A c R ⟨h', gs, dr, t1, os⟩) :
    MnS w b1 b2 A R f ⟨h, gs, dr, t + f.i, os⟩ := by
  simp only [Prod.mk.injEq] at hk
  obtain ⟨k1, k2, k3, k4, k5, k6, k7, k8, k9, k10, k0⟩ := hk
  refine run_go r.D r.E r.R r.d k1 k2 fun h' R' d' => ?_
  have r' : Ok w b1 b2 A R d hB ks (rn (bS w b1 b2 d N t) n hs f) h' N t := ⟨r.D, r.E, R', d'⟩
  have x := r'.af (L := Lf (rn (bS w b1 b2 d N t) n hs f)) (Nw := Nf (rn (bS w b1 b2 d N t) n hs f)) (List.nodup_append.mp hi).1 k5 k6 (fun i hi => Nat.le_of_ble_eq_true (List.all_eq_true.mp k7 i hi)) k8 k9
  have g := R'.giv (L := Nf (rn (bS w b1 b2 d N t) n hs f) ++ Lf (rn (bS w b1 b2 d N t) n hs f)) hi (by unfold picks at k5 k6 ⊢; rw [List.map_append, List.map_append, k5, k6])
  have q := k h' (t + (rn (bS w b1 b2 d N t) n hs f).i) x (by rw [← k0]; exact R'.size) (R'.tp r.D) g
  unfold Mn
  rw [k3, k4]
  exact wpAny_pure ⟨R'.lim r.D, (qui_eq c).symm.trans k10, q⟩
/-- the run stands at a tree that is written out; the ledger told anew -/
theorem toS (mm : Nat) {T : Sem PySem.Fin} {q : Nat} {idx idn : List Nat} {Lf Nf : Cf → List (Addr × Obj)} (r : Ok w b1 b2 A R d hB ks f h N t) (hi : (idn ++ idx).Nodup)
    (hk : (okk (bS w b1 b2 d N t) n hs f, e1 (bS w b1 b2 d N t) n hs f, (rn (bS w b1 b2 d N t) n hs f).t, picks (rn (bS w b1 b2 d N t) n hs f).news idx, picks (rn (bS w b1 b2 d N t) n hs f).news idn, idn.all (Nat.blt · q), ((rn (bS w b1 b2 d N t) n hs f).news.map (·.1)).drop q, (Lf (rn (bS w b1 b2 d N t) n hs f)).map (·.1), (rn (bS w b1 b2 d N t) n hs f).m)
      = (true, e2 (bS w b1 b2 d N t) n hs f, T, (Lf (rn (bS w b1 b2 d N t) n hs f)).map some, (Nf (rn (bS w b1 b2 d N t) n hs f)).map some, true, ks, ks, mm))
    (k : ∀ h' t1, Ok w b1 b2 A R d hB ks ⟨(rn (bS w b1 b2 d N t) n hs f).c, (rn (bS w b1 b2 d N t) n hs f).κ, T, (rn (bS w b1 b2 d N t) n hs f).dep, 0, 0, Nf (rn (bS w b1 b2 d N t) n hs f) ++ Lf (rn (bS w b1 b2 d N t) n hs f)⟩ h' (N + mm) t1 →
      MnS w b1 b2 A R ⟨(rn (bS w b1 b2 d N t) n hs f).c, (rn (bS w b1 b2 d N t) n hs f).κ, T, (rn (bS w b1 b2 d N t) n hs f).dep, 0, 0, Nf (rn (bS w b1 b2 d N t) n hs f) ++ Lf (rn (bS w b1 b2 d N t) n hs f)⟩ ⟨h', gs, dr, t1, os⟩) :
    MnS w b1 b2 A R f ⟨h, gs, dr, t + f.i, os⟩ := by
  simp only [Prod.mk.injEq] at hk
  obtain ⟨k1, k2, k3, k5, k6, k7, k8, k9, k0⟩ := hk
  refine run_go r.D r.E r.R r.d k1 k2 fun h' R' d' => ?_
  have r' : Ok w b1 b2 A R d hB ks (rn (bS w b1 b2 d N t) n hs f) h' N t := ⟨r.D, r.E, R', d'⟩
  have x := r'.af (L := Lf (rn (bS w b1 b2 d N t) n hs f)) (Nw := Nf (rn (bS w b1 b2 d N t) n hs f)) (List.nodup_append.mp hi).1 k5 k6 (fun i hi => Nat.le_of_ble_eq_true (List.all_eq_true.mp k7 i hi)) k8 k9
  have g := R'.giv (L := Nf (rn (bS w b1 b2 d N t) n hs f) ++ Lf (rn (bS w b1 b2 d N t) n hs f)) hi (by unfold picks at k5 k6 ⊢; rw [List.map_append, List.map_append, k5, k6])
  have g5 := picks_mem k5
  have g6 := picks_mem k6
  have q := k h' (t + (rn (bS w b1 b2 d N t) n hs f).i) ⟨gd_re r.D, bse_re r.E, ⟨by rw [← k0]; exact R'.size, R'.le, fun p hp lt => ?_, fun b o e z => R'.keep b o e fun p hp ep => ?_, g.nw, g.nd, g.sep⟩, d'⟩
  · unfold Mn at q ⊢
    rw [k3]
    exact q
  · rcases List.mem_append.mp hp with hp | hp
    · exact R'.old p (g6 p hp) lt
    · exact R'.old p (g5 p hp) lt
  · have hk := R'.old p hp (by rw [ep]; exact Heap.lt_size e)
    rw [← k9] at hk
    obtain ⟨y, hy, ey⟩ := List.mem_map.mp hk
    exact z y (List.mem_append_right _ hy) (ey.trans ep)
end
/-- a ledger's dict: the k-th entry's hash, and its key's token -/
noncomputable def dEnts (F : Cf) (j : Nat) : List DictEntry := match nth F.news j with
  | some (_, ⟨_, _, .dict es _, _⟩) => es.toList
  | _ => []
noncomputable def entNo : List DictEntry → Nat → DictEntry
  | [], _ => ⟨0, .none, .none⟩
  | e :: _, 0 => e
  | _ :: l, n + 1 => entNo l n
noncomputable def hOf (F : Cf) (j k : Nat) : Int := (entNo (dEnts F j) k).hash
noncomputable def kOf (F : Cf) (j k : Nat) : Tok := match (entNo (dEnts F j) k).key with
  | .str _ t => t
  | _ => 0
end Mine
end
section
open PySem PySem.W PyProof.Rows PySem.W.X
namespace Mine
noncomputable abbrev oList (xs : List Value) (ep : Nat) : Obj := ⟨.type "list", none, .seq xs.toArray ep, #[]⟩
noncomputable abbrev oTup (xs : List Value) : Obj := ⟨.type "tuple", none, .seq xs.toArray 0, #[]⟩
noncomputable abbrev oLit (l : Addr) (i : Nat) : Obj := ⟨.type "list_iterator", none, .fields #[.ref l, .int i 0], #[]⟩
noncomputable abbrev oD (es : List DictEntry) (ep : Nat) : Obj := ⟨.type "dict", none, .dict es.toArray ep, #[]⟩
noncomputable abbrev oLitX (i : Nat) : Obj := ⟨.type "list_iterator", none, .fields #[.none, .int i 0], #[]⟩
noncomputable abbrev oFr (es : List DictEntry) (ep : Nat) : Obj := ⟨.type "frame", none, .dict es.toArray ep, #[]⟩
section
variable {prog : Program} {w : World} {A : Around} {R : Result → Shared → Prop} {h : Heap} {gs : Array GenState} {dr : Drawn} {t0 : Nat} {os : OsState}
theorem af_upd {l : Addr} {o : Obj} {g : Obj → Obj} (ho : h.get? l = some o) (hf : (g o).isFreed = false) : Af h [(l, g o)] [] (h.update l g) := by
  have hs : Heap.SameBut l h (h.update l g) := Heap.SameBut.update ..
  refine af_of ⟨Nat.le_of_eq hs.1.symm, fun p hp => ?_, fun b o' e z => ?_⟩
  · cases List.mem_singleton.mp hp
    exact Heap.get?_update_self g ho hf
  · exact (hs.2 b (fun e' => z _ (.head _) e'.symm)).trans e
theorem af_push {o : Obj} (hf : o.isFreed = false) : Af h [] [(h.objs.size, o)] (h.push o) := by
  refine ⟨⟨by rw [Heap.size_push]; omega, fun _ hp => (nomatch hp), fun b o' e _ => Heap.get?_push_of_some _ e⟩, fun p hp => ?_, fun p hp => ?_, by simp⟩
  · cases List.mem_singleton.mp hp; exact Heap.get?_push_size _ hf
  · cases List.mem_singleton.mp hp; exact Nat.le_refl _
theorem Af.push {h' : Heap} {L Nw : List (Addr × Obj)} {o : Obj} (x : Af h L Nw h') (hf : o.isFreed = false) : Af h L ((h'.objs.size, o) :: Nw) (h'.push o) := by
  refine ⟨⟨by rw [Heap.size_push]; exact Nat.le_succ_of_le x.a.le, fun p hp => Heap.get?_push_of_some _ (x.a.nw p hp), fun b o' e z => Heap.get?_push_of_some _ (x.a.keep b o' e z)⟩, fun p hp => ?_, fun p hp => ?_, ?_⟩
  · rcases List.mem_cons.mp hp with rfl | hp
    · exact Heap.get?_push_size _ hf
    · exact Heap.get?_push_of_some _ (x.nw p hp)
  · rcases List.mem_cons.mp hp with rfl | hp
    · exact x.a.le
    · exact x.ge p hp
  · rw [List.map_cons, List.nodup_cons]
    refine ⟨fun hm => ?_, x.nd⟩
    obtain ⟨p, hp, e⟩ := List.mem_map.mp hm
    exact absurd e (Nat.ne_of_lt (Heap.lt_size (x.nw p hp)))
theorem lf_next {it l : Addr} {xs : List Value} {ep i : Nat} {x : Value} (hi : h.get? it = some (oLit l i)) (hl : h.get? l = some (oList xs ep)) (hx : xs[i]? = some x) {N : Nat} (hN : h.objs.size = N)
    (k : ∀ h', Af h [(it, oLit l (i + 1))] [] h' → h'.objs.size = N → R (.ok (.ret x)) ⟨h', gs, dr, t0, os⟩) :
    codeAny (model prog w) A (.call (.builtin "list_iterator.__next__") ⟨[.ref it], []⟩) R ⟨h, gs, dr, t0, os⟩ := by
  have hT : (⟨h, gs, dr, t0, os⟩ : Shared).TypeIs (.ref it) "list_iterator" := ⟨_, hi, rfl⟩
  have hx' : xs.toArray[((i : Nat) : Int).toNat]? = some x := by simpa using hx
  refine codeAny_call_builtin slot_listiter_next.plain entry_listiter_next (slot_listiter_next.check _ _ _ _ _ _ _ _ hT (args_listiter_next _) ?_)
  show wpAny _ _ (field (.ref it) 0 >>= _) _ _ _
  refine wpAny_bind (wpAny_field hi rfl (x := .ref l) rfl ?_)
  show wpAny _ _ (if (Value.ref l == Value.none) = true then _ else _) _ _ _
  rw [if_neg (show ¬ ((Value.ref l == Value.none) = true) from Bool.false_ne_true)]
  show wpAny _ _ (field (.ref it) 1 >>= _) _ _ _
  refine wpAny_bind (wpAny_field hi rfl (x := .int i 0) rfl ?_)
  show wpAny _ _ (seqItems? (.ref l) >>= _) _ _ _
  refine wpAny_bind (wpAny_seqItems hl rfl ?_)
  simp only [hx']
  refine wpAny_bind (wpAny_setField hi rfl (by simp) (wpAny_pure ?_))
  have y := af_upd (g := Obj.mapFields fun x => x.setIfInBounds 1 (rawInt (↑i + 1))) hi rfl
  exact k _ y ((Heap.SameBut.update ..).1.trans hN)
theorem lf_append {l : Addr} {xs : List Value} {ep : Nat} {v : Value} (hl : h.get? l = some (oList xs ep)) (hz : xs.length ≤ 1000) {N : Nat} (hN : h.objs.size = N)
    (k : ∀ h', Af h [(l, oList (xs ++ [v]) (ep + 1))] [] h' → h'.objs.size = N → R (.ok (.ret .none)) ⟨h', gs, dr, t0, os⟩) :
    codeAny (model prog w) A (.call (.builtin "list.append") ⟨[.ref l, v], []⟩) R ⟨h, gs, dr, t0, os⟩ := by
  have hz' : xs.toArray.size ≤ sizeLine := by
    have : 1000 ≤ sizeLine := by decide
    simpa using Nat.le_trans hz this
  refine cut_meets slot_list_append ⟨_, hl, rfl⟩ entry_list_append (args_list_append _ _) (list_append l xs.toArray ep v hz') ⟨hl, ?_⟩
  refine k _ ?_ ((Heap.SameBut.update ..).1.trans hN)
  have x := af_upd (g := Obj.mapSeq fun xs => xs.push v) hl rfl
  have e : Obj.mapSeq (fun xs => xs.push v) (oList xs ep) = oList (xs ++ [v]) (ep + 1) := by
    simp [Obj.mapSeq, oList]
  rw [e] at x
  exact x
theorem lf_enum {l : Addr} {xs : List Value} {N : Nat} (hl : h.get? l = some (oTup xs)) (hN : h.objs.size = N)
    (k : ∀ h', Af h [] [(N + 1, ⟨.type "enumerate", none, .fields #[.none, .bool false, .ref N, rawInt 0, .none, .none], #[]⟩), (N, ⟨.type "tuple_iterator", none, .fields #[.ref l, .int 0 0], #[]⟩)] h' → h'.objs.size = N + 2 → R (.ok (.ret (.ref (N + 1)))) ⟨h', gs, dr, t0, os⟩) :
    codeAny (model prog w) A (.call (.builtin "enumerate.__new__") ⟨[.type "enumerate", .ref l], []⟩) R ⟨h, gs, dr, t0, os⟩ := by
  subst hN
  refine cut_enum hl (k _ ?_ ?_)
  · have y := (af_push (h := h) (o := ⟨.type "tuple_iterator", none, .fields #[.ref l, .int 0 0], #[]⟩) rfl).push (o := ⟨.type "enumerate", none, .fields #[.none, .bool false, .ref h.objs.size, rawInt 0, .none, .none], #[]⟩) rfl
    rw [show (Heap.push h ⟨.type "tuple_iterator", none, .fields #[.ref l, .int 0 0], #[]⟩).objs.size = h.objs.size + 1 from Heap.size_push ..] at y
    exact y
  · rw [Heap.size_push, Heap.size_push]
end
end Mine
end
section
open PySem PySem.W PyProof.Rows PySem.W.X
namespace Mine
section
variable {prog : Program} {w : World} {A : Around} {R : Result → Shared → Prop} {h : Heap} {gs : Array GenState} {dr : Drawn} {t0 : Nat} {os : OsState}
theorem size_line : 1000 ≤ sizeLine := by decide
theorem sliceRange_len (lo hi : Int) (h0 : 0 ≤ lo) (h1 : hi ≤ 24) (st : Int) (hs : 0 < st) : (sliceRange lo hi st).length ≤ 24 := by
  unfold sliceRange
  simp only [List.length_map, List.length_range, show st > 0 from hs, if_true]
  split
  · have : (hi - lo + st - 1) / st ≤ hi - lo := by
      have h3 : (hi - lo + st - 1) < (hi - lo + 1) * st := by
        have e : (hi - lo + 1) * st = (hi - lo) * st + st := by rw [Int.add_mul, Int.one_mul]
        have h2 : (hi - lo) * 1 ≤ (hi - lo) * st := Int.mul_le_mul_of_nonneg_left (by omega) (by omega)
        omega
      have := Int.ediv_lt_of_lt_mul hs h3
      omega
    omega
  · simp
end
end Mine
namespace Mine
section
variable {prog : Program} {w : World} {A : Around} {R : Result → Shared → Prop} {h : Heap} {gs : Array GenState} {dr : Drawn} {t0 : Nat} {os : OsState}
theorem slicePick_mem {items : Array Value} {lo hi st : Option Int} {v : Value} (hv : v ∈ (slicePick items lo hi st).toList) : v ∈ items := by
  unfold slicePick at hv
  simp only [List.mem_filterMap] at hv
  obtain ⟨i, _, e⟩ := hv
  exact Array.mem_of_getElem? e
theorem slicePick_len {items : Array Value} {lo : Option Int} {st : Option Int} (hs : ∀ i, st = some i → 0 < i) : (slicePick items lo (some 24) st).toList.length ≤ 24 := by
  unfold slicePick
  refine Nat.le_trans (List.length_filterMap_le _ _) ?_
  have hst : 0 < st.getD 1 := by cases st with | none => decide | some i => exact hs i rfl
  refine sliceRange_len _ _ ?_ ?_ _ hst
  · simp only [sliceBounds, hst, if_true]
    cases lo with
    | none => simp
    | some i => dsimp only; omega
  · simp only [sliceBounds, hst, if_true]
    have : ¬ ((24 : Int) < 0) := by decide
    simp only [this, if_false]
    omega
theorem lf_slice {l sl : Addr} {xs : List Value} {ep N : Nat} {vl vs : Value} {t2 : Tok} {lo st : Option Int} (hl : h.get? l = some (oList xs ep)) (hs : h.get? sl = some ⟨.type "slice", none, .fields #[vl, .int 24 t2, vs], #[]⟩)
    (pl : IsPart vl lo) (ps : IsPart vs st) (hst : ∀ i, st = some i → 0 < i) (hz : xs.length ≤ 1000) (hN : h.objs.size = N)
    (k : ∀ h' ys, (∀ y ∈ ys, y ∈ xs) → ys.length ≤ 24 → Af h [] [(N, oList ys 0)] h' → h'.objs.size = N + 1 → R (.ok (.ret (.ref N))) ⟨h', gs, dr, t0, os⟩) :
    codeAny (model prog w) A (.call (.builtin "list.__getitem__") ⟨[.ref l, .ref sl], []⟩) R ⟨h, gs, dr, t0, os⟩ := by
  subst hN
  have hT : (⟨h, gs, dr, t0, os⟩ : Shared).TypeIs (.ref l) "list" := ⟨_, hl, rfl⟩
  have hTs : (⟨h, gs, dr, t0, os⟩ : Shared).TypeIs (.ref sl) "slice" := ⟨_, hs, rfl⟩
  have h0 : st ≠ some 0 := fun e => by have := hst 0 e; omega
  have hz' : xs.toArray.size ≤ sizeLine := Nat.le_trans (by simpa using hz) size_line
  refine codeAny_call_builtin slot_list_getitem.plain entry_list_getitem (slot_list_getitem.check _ _ _ _ _ _ _ _ hT (args_list_getitem _ _) ?_)
  show wpAny _ _ (Builtin.List.listSubscript? (.ref sl) >>= _) _ _ _
  refine wpAny_bind ?_
  unfold Builtin.List.listSubscript?
  refine wpAny_bind (wpAny_specialOf hTs slice_no_index ?_)
  simp only [Option.isNone_none, if_true]
  refine wpAny_pure ?_
  show wpAny _ _ (typeOf (.ref sl) >>= _) _ _ _
  refine wpAny_bind (wpAny_typeOf hTs ?_)
  rw [if_neg (by decide)]
  rw [listSliceParts_eq]
  have hstep : ¬ ((rawPart st == rawInt 0) = true) := by
    cases st with
    | none => exact Bool.false_ne_true
    | some c =>
      intro hh
      have : c = 0 := by simpa [rawPart, rawInt] using hh
      exact h0 (by rw [this])
  refine wpAny_bind (wpAny_bind (wpAny_field hs rfl (x := vs) rfl (wpAny_bind (wpAny_listPart ps ?_))))
  rw [if_neg hstep]
  refine wpAny_bind (wpAny_field hs rfl (x := vl) rfl (wpAny_bind (wpAny_listPart pl ?_)))
  refine wpAny_bind (wpAny_field hs rfl (x := .int 24 t2) rfl (wpAny_bind (wpAny_listPart (.int 24 t2) (wpAny_pure ?_))))
  refine wpAny_bind (m := Builtin.List.listItems (.ref l)) ?_
  unfold Builtin.List.listItems
  refine wpAny_bind (wpAny_seqItems hl rfl (wpAny_pure ?_))
  refine wpAny_bind (wpAny_of_eq (sliceIndices_raw lo (some 24) st xs.toArray.size h0) ?_)
  refine wpAny_bind (wpAny_newObj_type (wpAny_pure ?_) (Nat.le_trans (slicePick_size_le xs.toArray lo (some 24) st) hz'))
  refine k _ (slicePick xs.toArray lo (some 24) st).toList (fun y hy => ?_) (slicePick_len hst) ?_ (Heap.size_push ..)
  · simpa using slicePick_mem hy
  · exact af_push (o := oList _ 0) rfl
end
end Mine
end
section
open PySem PySem.W PyProof.Rows PySem.W.X
namespace Mine
noncomputable abbrev oStop (tu : Addr) : Obj := ⟨.type "StopIteration", none, .fields #[.ref tu, .none, .none, .none, .bool false, .none], #[]⟩
section
variable {prog : Program} {w : World} {A : Around} {R : Result → Shared → Prop} {E : Value → Shared → Prop} {h : Heap} {gs : Array GenState} {dr : Drawn} {t0 : Nat} {os : OsState}
theorem lf_next_end {it l : Addr} {xs : List Value} {ep i N : Nat} (hh : A.handled = none) (hi : h.get? it = some (oLit l i)) (hl : h.get? l = some (oList xs ep)) (hx : xs[i]? = none) (hN : h.objs.size = N)
    (k : ∀ h', Af h [(it, oLitX i)] [(N + 1, oStop N), (N, oTup [])] h' → h'.objs.size = N + 2 → R (.error (.ref (N + 1))) ⟨h', gs, dr, t0, os⟩) :
    codeAny (model prog w) A (.call (.builtin "list_iterator.__next__") ⟨[.ref it], []⟩) R ⟨h, gs, dr, t0, os⟩ := by
  subst hN
  have hT : (⟨h, gs, dr, t0, os⟩ : Shared).TypeIs (.ref it) "list_iterator" := ⟨_, hi, rfl⟩
  have hx' : xs.toArray[((i : Nat) : Int).toNat]? = none := by simpa using hx
  refine codeAny_call_builtin slot_listiter_next.plain entry_listiter_next (slot_listiter_next.check _ _ _ _ _ _ _ _ hT (args_listiter_next _) ?_)
  show wpAny _ _ (field (.ref it) 0 >>= _) _ _ _
  refine wpAny_bind (wpAny_field hi rfl (x := .ref l) rfl ?_)
  show wpAny _ _ (if (Value.ref l == Value.none) = true then _ else _) _ _ _
  rw [if_neg (show ¬ ((Value.ref l == Value.none) = true) from Bool.false_ne_true)]
  show wpAny _ _ (field (.ref it) 1 >>= _) _ _ _
  refine wpAny_bind (wpAny_field hi rfl (x := .int i 0) rfl ?_)
  show wpAny _ _ (seqItems? (.ref l) >>= _) _ _ _
  refine wpAny_bind (wpAny_seqItems hl rfl ?_)
  simp only [hx']
  refine wpAny_bind (wpAny_rule (wpAny_bind (wpAny_setField hi rfl (by simp) ?_)))
  show wpAny _ _ (newExc (.type "StopIteration") [] >>= _) _ _ _
  refine wpAny_bind ?_
  simp only [newExc, newTuple]
  refine wpAny_bind (wpAny_newObj_type ?_ (by size_fits))
  refine wpAny_bind (m := firstArgMember _ _) (wpAny_of_eq (a := Value.none) (by first | rfl | (simp only [firstArgMember]; rfl)) ?_)
  refine wpAny_newObj_type ?_ (by size_fits)
  simp only [raiseNew]
  refine wpAny_bind (wpAny_handled ?_)
  rw [show A.in1.handled = none from hh]
  refine wpAny_bind (wpAny_pure (wpAny_throw ?_))
  have s0 := (Heap.SameBut.update (h := h) (a := it) (f := Obj.mapFields fun x => x.setIfInBounds 0 Value.none)).1
  have y := ((af_upd (g := Obj.mapFields fun x => x.setIfInBounds 0 Value.none) hi rfl).push (o := oTup []) rfl).push (o := oStop (h.update it (Obj.mapFields fun x => x.setIfInBounds 0 Value.none)).objs.size) rfl
  have e1 : ((h.update it (Obj.mapFields fun x => x.setIfInBounds 0 Value.none)).push (oTup [])).objs.size = h.objs.size + 1 := by rw [Heap.size_push, s0]
  rw [e1, s0] at y
  have q := k _ y (by rw [Heap.size_push, Heap.size_push, s0])
  have e2 : ({ heap := (h.update it (Obj.mapFields fun x => x.setIfInBounds 0 Value.none)).push { cls := Value.type "tuple", data := Data.seq #[] }, gens := gs, drawn := dr, toks := t0, os := os } : Shared).heap.objs.size = h.objs.size + 1 := e1
  dsimp only at e2 ⊢
  rw [e2]
  have e3 : (h.update it (Obj.mapFields fun x => x.setIfInBounds 0 Value.none)).objs.size = h.objs.size := s0
  rw [e3]
  exact q
theorem pn_item {it l : Addr} {xs : List Value} {ep i : Nat} {x : Value} {Q : Option Value → Shared → Prop} (hi : h.get? it = some (oLit l i)) (hl : h.get? l = some (oList xs ep)) (hx : xs[i]? = some x)
    (k : ∀ h', Af h [(it, oLit l (i + 1))] [] h' → h'.objs.size = h.objs.size → Q (some x) ⟨h', gs, dr, t0, os⟩) :
    wpAny (model prog w) A (pyNext (.ref it)) Q E ⟨h, gs, dr, t0, os⟩ := by
  have hT : (⟨h, gs, dr, t0, os⟩ : Shared).TypeIs (.ref it) "list_iterator" := ⟨_, hi, rfl⟩
  unfold pyNext
  refine wpAny_bind (wpAny_attempt (wpAny_callSpecial?_slot (name := Str.ofString "__next__") hT slot_listiter_next (wpAny_call (lf_next hi hl hx rfl fun h' x1 z => ?_))))
  exact wpAny_pure (k h' x1 z)
theorem pn_end {it l : Addr} {xs : List Value} {ep i N : Nat} {Q : Option Value → Shared → Prop} (hh : A.handled = none) (hi : h.get? it = some (oLit l i)) (hl : h.get? l = some (oList xs ep)) (hx : xs[i]? = none) (hN : h.objs.size = N)
    (k : ∀ h', Af h [(it, oLitX i)] [(N + 1, oStop N), (N, oTup [])] h' → h'.objs.size = N + 2 → Q none ⟨h', gs, dr, t0, os⟩) :
    wpAny (model prog w) A (pyNext (.ref it)) Q E ⟨h, gs, dr, t0, os⟩ := by
  have hT : (⟨h, gs, dr, t0, os⟩ : Shared).TypeIs (.ref it) "list_iterator" := ⟨_, hi, rfl⟩
  unfold pyNext
  refine wpAny_bind (wpAny_attempt (wpAny_callSpecial?_slot (name := Str.ofString "__next__") hT slot_listiter_next (wpAny_call (lf_next_end hh hi hl hx hN fun h' x1 z => ?_))))
  refine wpAny_bind (wpAny_isInstance (T := "StopIteration") (b := true) ⟨_, x1.nw _ (.head _), rfl⟩ isSubtype_stop ?_)
  exact wpAny_pure (k h' x1 z)
end
end Mine
end
section
open PySem PySem.W PyProof.Rows PySem.W.X
namespace Mine
/-- a list of ints, told by naturals -/
noncomputable def AreN (xs : List Value) (ns : List Nat) : Prop := xs.length = ns.length ∧ ∀ (i n : Nat), ns[i]? = some n → ∃ t, xs[i]? = some (Value.int (n : Int) t)
section
variable {prog : Program} {w : World} {A : Around} {R : Result → Shared → Prop} {E : Value → Shared → Prop} {h : Heap} {gs : Array GenState} {dr : Drawn} {t0 : Nat} {os : OsState}
theorem keep_upd {h0 h h' : Heap} {L Nw : List (Addr × Obj)} (x : Af h L Nw h') (hk : ∀ b o, h0.get? b = some o → h.get? b = some o) (hL : ∀ p ∈ L, h0.objs.size ≤ p.1) : ∀ b o, h0.get? b = some o → h'.get? b = some o :=
  fun b o e => x.a.keep b o (hk b o e) fun p hp e' => absurd (Heap.lt_size e) (Nat.not_lt.mpr (e' ▸ hL p hp))
theorem sum_loop {h0 : Heap} {I S l : Addr} {xs : List Value} {n : Nat} {ep : Nat} (val : Nat → Int) (hh : A.handled = none) (hn : xs.length = n) (hval : ∀ i, i < n → ∃ t, xs[i]? = some (Value.int (val i) t)) (hfit : ∀ j, j < n → InLong (val j) ∧ InLong (preSum val (j + 1)))
    (hI : h0.objs.size ≤ I) (hS : h0.objs.size ≤ S) (hIS : I ≠ S) (hlI : l ≠ I) (hlS : l ≠ S)
    (hR : ∀ h' t tk, (∀ b o, h0.get? b = some o → h'.get? b = some o) → h'.objs.size = h.objs.size + 2 → R (.ok (.ret (.int (preSum val n) t))) ⟨h', gs, dr, tk, os⟩) :
    ∀ (k i : Nat) (h1 : Heap) (c tk : Nat) (tA : Tok), h1.objs.size = h.objs.size → n - i = k → i ≤ n → h1.get? I = some (oLit l i) → h1.get? l = some (oList xs ep) → h1.get? S = some (oList [.int (preSum val i) tA] c) →
      (∀ b o, h0.get? b = some o → h1.get? b = some o) → codeAny (model prog w) A (.builtin "sum.loop" ⟨[.ref I, .ref S, rawInt 0, rawInt 0], []⟩) R ⟨h1, gs, dr, tk, os⟩ := by
  intro k
  induction k with
  | zero =>
    intro i h1 c tk tA hsz hk hi h2 h3 h4 h5
    have hin : i = n := by omega
    subst hin
    refine codeAny_builtin F.entry_sum_loop ?_
    rw [Around.under_plainId F.plain_sum_loop _]
    show wpAny _ A.in1 (seqItems? (.ref S) >>= _) _ _ _
    refine wpAny_bind (wpAny_seqItems h4 rfl ?_)
    show wpAny _ A.in1 (tryCatch (pyNext (.ref I)) _ >>= _) _ _ _
    refine wpAny_bind (wpAny_tryCatch (pn_end hh h2 h3 (List.getElem?_eq_none (Nat.le_of_eq hn)) rfl fun h' x z => ?_))
    exact wpAny_pure (hR h' tA tk (keep_upd x h5 (fun p hp => by cases List.mem_singleton.mp hp; exact hI)) (by rw [z, hsz]))
  | succ k ih =>
    intro i h1 c tk tA hsz hk hi h2 h3 h4 h5
    have hlt : i < n := by omega
    obtain ⟨t, ht⟩ := hval i hlt
    obtain ⟨⟨f1, f2⟩, f3, f4⟩ := hfit i hlt
    refine codeAny_builtin F.entry_sum_loop ?_
    rw [Around.under_plainId F.plain_sum_loop _]
    show wpAny _ A.in1 (seqItems? (.ref S) >>= _) _ _ _
    refine wpAny_bind (wpAny_seqItems h4 rfl ?_)
    show wpAny _ A.in1 (tryCatch (pyNext (.ref I)) _ >>= _) _ _ _
    refine wpAny_bind (wpAny_tryCatch (pn_item h2 h3 ht fun h' x z => ?_))
    have keep4 : h'.get? S = some (oList [.int (preSum val i) tA] c) := x.a.keep _ _ h4 fun p hp e => by cases List.mem_singleton.mp hp; exact hIS e
    have keep3 : h'.get? l = some (oList xs ep) := x.a.keep _ _ h3 fun p hp e => by cases List.mem_singleton.mp hp; exact hlI e.symm
    have keep2 := x.a.nw _ (.head _)
    have hc : ((decide (-(2 ^ 63) ≤ val i) && decide (val i < 2 ^ 63)) && (decide (-(2 ^ 63) ≤ preSum val i + val i) && decide (preSum val i + val i < 2 ^ 63))) = true := by
      simp only [preSum] at f3 f4
      simp only [Bool.and_eq_true, decide_eq_true_eq]
      exact ⟨⟨f1, f2⟩, f3, f4⟩
    show wpAny _ A.in1 (if (_ : Bool) = true then (mkInt (preSum val i + val i) >>= _) else _) _ _ _
    split
    · refine wpAny_bind (wpAny_mkInt ?_)
      show wpAny _ A.in1 (updateSeq S (fun _ => #[.int (preSum val i + val i) tk]) >>= _) _ _ _
      refine wpAny_bind ?_
      have y := af_upd (g := Obj.mapSeq fun _ => #[Value.int (preSum val i + val i) tk]) keep4 rfl
      refine wpAny_updateSeq keep4 rfl (wpAny_pure ⟨plainId_quiet F.plain_sum_loop _, ih (i + 1) _ c _ tk ((Heap.SameBut.update ..).1.trans (z.trans hsz)) (by omega) hlt ?_ ?_ ?_ ?_⟩)
      · exact y.a.keep _ _ keep2 fun p hp e => by cases List.mem_singleton.mp hp; exact hIS e.symm
      · exact y.a.keep _ _ keep3 fun p hp e => by cases List.mem_singleton.mp hp; exact hlS e.symm
      · exact y.a.nw _ (.head _)
      · exact keep_upd y (keep_upd x h5 (fun p hp => by cases List.mem_singleton.mp hp; exact hI)) (fun p hp => by cases List.mem_singleton.mp hp; exact hS)
    · rename_i hneg
      exact absurd hc hneg
theorem lf_sum {l : Addr} {xs : List Value} {n : Nat} {ep N : Nat} (val : Nat → Int) (hh : A.handled = none) (hl : h.get? l = some (oList xs ep)) (hn : xs.length = n) (hval : ∀ i, i < n → ∃ t, xs[i]? = some (Value.int (val i) t)) (hfit : ∀ j, j < n → InLong (val j) ∧ InLong (preSum val (j + 1))) (hN : h.objs.size = N)
    (k : ∀ h' t tk, Af h [] [] h' → h'.objs.size = N + 4 → R (.ok (.ret (.int (preSum val n) t))) ⟨h', gs, dr, tk, os⟩) :
    codeAny (model prog w) A (.call (.builtin "sum") ⟨[.ref l], []⟩) R ⟨h, gs, dr, t0, os⟩ := by
  subst hN
  have hT : (⟨h, gs, dr, t0, os⟩ : Shared).heap.IsList l xs.toArray := ⟨_, hl, rfl, ep, rfl⟩
  have ll := Heap.lt_size hl
  refine codeAny_call_builtin F.plain_sum F.entry_sum ?_
  have chk : checkBuiltinCall "sum" ⟨[.ref l], []⟩ = pure () := by
    simp only [checkBuiltinCall, F.kind_sum]
    have ok := F.args_sum1 (.ref l)
    cases hsig : Manifest.signature? "sum" with
    | none => rfl
    | some sig => simp only [argsOk, hsig] at ok; exact ok
  rw [chk]
  refine wpAny_pure ?_
  unfold Builtin.«sum»
  simp only [List.length_cons, List.length_nil]
  rw [if_neg (by decide)]
  refine wpAny_bind (wpAny_of_eq (show Builtin.Builtins.bindParams "sum" ["start"] 0 { } = pure [none] from rfl) ?_)
  refine wpAny_bind (wpAny_pyIter_list hT ?_)
  refine wpAny_bind (wpAny_mkInt ?_)
  refine wpAny_bind (wpAny_pure ?_)
  simp only [List.forIn_cons, List.forIn_nil]
  refine wpAny_bind (wpAny_bind (wpAny_bind (wpAny_isInstance (T := "int") (b := false) (typeIs_int _ _ _) PySem.sub_int_str ?_)))
  simp only [Bool.false_eq_true, if_false]
  refine wpAny_pure (wpAny_bind (wpAny_bind (wpAny_isInstance (T := "int") (b := false) (typeIs_int _ _ _) PySem.sub_int_bytes ?_)))
  simp only [Bool.false_eq_true, if_false]
  refine wpAny_pure (wpAny_bind (wpAny_bind (wpAny_isInstance (T := "int") (b := false) (typeIs_int _ _ _) PySem.sub_int_bytearray ?_)))
  simp only [Bool.false_eq_true, if_false]
  refine wpAny_pure (wpAny_pure ?_)
  refine wpAny_bind (wpAny_newObj_type ?_)
  have e1 : (h.push (oLit l 0)).objs.size = h.objs.size + 1 := Heap.size_push ..
  have y1 := af_push (h := h) (o := oLit l 0) rfl
  have y := y1.push (o := oList [.int (preSum val 0) t0] 0) rfl
  refine wpAny_pure ⟨plainId_quiet F.plain_sum_loop _, ?_⟩
  refine sum_loop (h := (h.push (oLit l 0)).push (oList [.int (preSum val 0) t0] 0)) (h0 := h) (l := l) (ep := ep) val hh hn hval hfit (Nat.le_refl _) (by show h.objs.size ≤ (h.push (oLit l 0)).objs.size; rw [e1]; exact Nat.le_succ _) (fun e => ?_) (Nat.ne_of_lt ll) (fun e => ?_) ?_ n 0 _ 0 _ t0 rfl rfl (Nat.zero_le _) ?_ ?_ ?_ (fun b o e => y.a.keep b o e fun _ hp => (nomatch hp))
  · have e : h.objs.size = (h.push (oLit l 0)).objs.size := e
    rw [e1] at e; exact absurd e (Nat.ne_of_lt (Nat.lt_succ_self _))
  · have e : l = (h.push (oLit l 0)).objs.size := e
    rw [e1] at e; exact absurd e (Nat.ne_of_lt (Nat.lt_succ_of_lt ll))
  · intro h' t tk hk hz
    refine k h' t tk ⟨⟨?_, fun _ hp => (nomatch hp), fun b o e _ => hk b o e⟩, fun _ hp => (nomatch hp), fun _ hp => (nomatch hp), List.nodup_nil⟩ ?_
    · rw [hz, Heap.size_push, e1]; omega
    · rw [hz, Heap.size_push, e1]
  · exact y.nw _ (.tail _ (.head _))
  · exact y.a.keep _ _ hl fun _ hp => (nomatch hp)
  · exact y.nw _ (.head _)
end
end Mine
end
section
open PySem PySem.W PyProof.Rows PySem.W.X
namespace Mine
/-! ## parts of the text, found in the top's own objects -/
noncomputable def bodyAt (P : Params) (a : Nat) : List Stmt := match Kt P a with
  | some ⟨_, _, .func fd, _⟩ => match fd.body with
    | .stmts b => b
    | _ => []
  | _ => []
noncomputable def codeAt (P : Params) (a : Nat) : Value := match Kt P a with
  | some ⟨_, _, .func fd, _⟩ => fd.code
  | _ => .none
noncomputable def scopeAt (P : Params) (a : Nat) : Scope := match Kt P a with
  | some ⟨_, _, .func fd, _⟩ => fd.scope
  | _ => default
noncomputable def stmtNo : List Stmt → Nat → Stmt
  | [], _ => .Pass ⟨0, 0, 0, 0⟩
  | s :: _, 0 => s
  | _ :: l, n + 1 => stmtNo l n
noncomputable def exprNo : List Expr → Nat → Expr
  | [], _ => .Name Str.empty ⟨0, 0, 0, 0⟩
  | s :: _, 0 => s
  | _ :: l, n + 1 => exprNo l n
noncomputable def noExpr : Expr := .Name Str.empty ⟨0, 0, 0, 0⟩
/-- a statement's own expression -/
noncomputable def exprOf : Stmt → Expr
  | .Assign _ v _ => v
  | .If t _ _ _ => t
  | .Return (some v) _ => v
  | .AugAssign _ _ v _ => v
  | .For _ it _ _ _ => it
  | .Expr v _ => v
  | _ => noExpr
noncomputable def kid : Expr → Nat → Expr
  | .BoolOp _ vs _, n => exprNo vs n
  | .BinOp l _ r _, n => match n with | 0 => l | _ => r
  | .ListComp e gs _ _, n => match n with
    | 0 => e
    | _ => match gs with
      | g :: _ => g.iter
      | [] => noExpr
  | .DictComp k v gs _ _, n => match n with
    | 0 => k
    | 1 => v
    | _ => match gs with
      | g :: _ => g.iter
      | [] => noExpr
  | .Compare l _ cs _, n => match n with | 0 => l | m + 1 => exprNo cs m
  | .Call f as _ _, n => match n with | 0 => f | m + 1 => exprNo as m
  | .Subscript v s _, n => match n with | 0 => v | _ => s
  | .IfExp t b o _, n => match n with | 0 => t | 1 => b | _ => o
  | .Tuple es _ _, n => exprNo es n
  | .List es _, n => exprNo es n
  | .UnaryOp _ v _, _ => v
  | .Attribute v _ _, _ => v
  | _, _ => noExpr
noncomputable def kidAt : Expr → List Nat → Expr
  | e, [] => e
  | e, n :: l => kidAt (kid e n) l
noncomputable def ownS (s : Scope) : Scope := { s with names := s.names.map fun (n, k) => if k == .free then (n, .cell) else (n, k) }
noncomputable def scopeOf : Expr → Scope
  | .ListComp _ _ s _ => ownS s
  | .DictComp _ _ _ s _ => ownS s
  | _ => default
noncomputable def isLC : Expr → Bool
  | .ListComp _ (⟨_, _, _, .ofNat 0⟩ :: _) _ _ => true
  | _ => false
/-- a comprehension's own frame -/
noncomputable def envC (e : Expr) (q : Str) (loc : Addr) (cells : List (Str × Addr)) (cd : Value) (fr : Addr) : Env := { scope := scopeOf e, locals := loc, globals := 3, cells := cells, qual := q, code := cd, frame := some fr }
section
variable {prog : Program} {w : World} {A : Around} {R : Result → Shared → Prop} {E : Value → Shared → Prop} {s : Shared}
theorem it_self {it : Addr} {T id : String} {Q : Value → Shared → Prop} {nid : Value} (hT : s.TypeIs (.ref it) T) (sl : Slot T "__iter__" id) (en : entryFor table id = some Builtin.«dict_keyiterator.__iter__») (ar : argsOk id ⟨[.ref it], []⟩)
    (sn : typeLookup (.type T) "__next__" = pure (some nid)) (h : Q (.ref it) s) : wpAny (model prog w) A (pyIter (.ref it)) Q E s := by
  refine wpAny_pyIter_slot hT sl (wpAny_call_entry sl hT en ?_ ar)
  show wpAny _ _ (ret (.ref it)) _ _ s
  exact wpAny_pure ⟨_, rfl, T, _, hT, sn, h⟩
inductive SelfIt (s : Shared) (it : Addr) : Prop
  | list : s.TypeIs (.ref it) "list_iterator" → SelfIt s it
  | range : s.TypeIs (.ref it) "range_iterator" → SelfIt s it
  | enum : s.TypeIs (.ref it) "enumerate" → SelfIt s it
theorem SelfIt.wp {it : Addr} {Q : Value → Shared → Prop} (x : SelfIt s it) (h : Q (.ref it) s) : wpAny (model prog w) A (pyIter (.ref it)) Q E s := by
  cases x with
  | list hT => exact it_self hT slot_listiter_iter entry_listiter_iter (args_listiter_iter _) slot_listiter_next.lookup h
  | range hT => exact it_self hT F.slot_range_iterator_iter F.entry_range_iterator_iter (F.args_range_iterator_iter_1 _) F.slot_range_iterator_next.lookup h
  | enum hT => exact it_self hT F.slot_enumerate_iter F.entry_enumerate_iter (F.args_enumerate_iter_1 _) F.slot_enumerate_next.lookup h
/-- a comprehension starts -/
theorem comp_start {e : Expr} {it : Addr} {acc : Value} {env : Env} (he : isLC e = true) (x : SelfIt s it)
    (h : codeAny (model prog w) A (.compLoop e 0 (.ref it) acc env) R s) : codeAny (model prog w) A (.compStart e 0 (.ref it) acc env) R s := by
  unfold isLC at he
  split at he
  · exact codeAny_compStart_list h (x.wp h)
  · cases he
end
/-- one after the other -/
theorem Af.trans {h h1 h2 : Heap} {L1 N1 L2 N2 : List (Addr × Obj)} (x : Af h L1 N1 h1) (y : Af h1 L2 N2 h2) (e : L1.map (·.1) = L2.map (·.1)) : Af h L2 N2 h2 := by
  refine ⟨⟨Nat.le_trans x.a.le y.a.le, y.a.nw, fun b o eb z => y.a.keep b o (x.a.keep b o eb fun p hp ep => ?_) z⟩, y.nw, fun p hp => Nat.le_trans x.a.le (y.ge p hp), y.nd⟩
  have : p.1 ∈ L2.map (·.1) := by rw [← e]; exact List.mem_map_of_mem hp
  obtain ⟨q, hq, eq⟩ := List.mem_map.mp this
  exact z q hq (eq.trans ep)
theorem Af.noNew {h h' : Heap} {L N : List (Addr × Obj)} (x : Af h L N h') : Af h L [] h' := af_of x.a
end Mine
end
section
open PySem PySem.W PyProof.Rows PySem.W.X
namespace Mine
noncomputable abbrev CA (w : World) (b1 b2 : Bool) (A : Around) (c : Code) (R : Result → Shared → Prop) (s : Shared) : Prop := codeAny (model pw (Wf w b1 b2)) A c R s
noncomputable abbrev PP (w : World) (b1 b2 : Bool) : Params := Pf w.params b1 b2
noncomputable def qLaw : Str := ⟨#[108,97,119,46,60,108,111,99,97,108,115,62,46]⟩
noncomputable def lawE (P : Params) (i : Nat) (p : List Nat) : Expr := kidAt (exprOf (stmtNo (bodyAt P 157) i)) p
noncomputable abbrev envL (P : Params) (e : Expr) (loc : Addr) (cells : List (Str × Addr)) (fr : Addr) : Env := envC e qLaw loc cells (.ref 156) fr
/-- a comprehension's names: none yet, or one -/
noncomputable def oX (n : Str) : Option (Int × Tok × Value) → Obj
  | none => oD [] 0
  | some (hx, kx, v) => oD [⟨hx, .str n kx, v⟩] 1
noncomputable def sX : Str := ⟨#[120]⟩
noncomputable abbrev cComp (P : Params) (e : Expr) (it acc loc : Addr) (cells : List (Str × Addr)) (fr : Addr) : Code := .compLoop e 0 (.ref it) (.ref acc) (envL P e loc cells fr)
end Mine
end
section
open PySem PySem.W PyProof.Rows PySem.W.X
namespace Mine
section
variable {w : World} {b1 b2 : Bool} {A : Around} {R : Result → Shared → Prop} {h : Heap} {gs : Array GenState} {dr : Drawn} {t0 : Nat} {os : OsState}
/-- the rests of a list's ints, so far -/
noncomputable def ModsOf (m : Int) (ys zs : List Value) (i : Nat) : Prop := zs.length = i ∧ ∀ j, j < i → ∃ a ta u, ys[j]? = some (Value.int a ta) ∧ zs[j]? = some (Value.int (a.fmod m) u)
theorem ModsOf.succ {m : Int} {ys zs : List Value} {i : Nat} (x : ModsOf m ys zs i) {a : Int} {ta u : Tok} (hy : ys[i]? = some (.int a ta)) : ModsOf m ys (zs ++ [.int (a.fmod m) u]) (i + 1) := by
  refine ⟨by rw [List.length_append, x.1]; rfl, fun j hj => ?_⟩
  by_cases e : j < i
  · obtain ⟨a', ta', u', e1, e2⟩ := x.2 j e
    exact ⟨a', ta', u', e1, by rw [List.getElem?_append_left (by rw [x.1]; exact e)]; exact e2⟩
  · have : j = i := by omega
    subst this
    exact ⟨a, ta, u, hy, by rw [List.getElem?_append_right (by rw [x.1]; exact Nat.le_refl _), x.1, Nat.sub_self]; rfl⟩
noncomputable abbrev eMod16 (P : Params) : Expr := lawE P 0 [0,1,1]
noncomputable abbrev eMod840 (P : Params) : Expr := lawE P 1 [1]

theorem mod16_turn {ys zs : List Value} {ep ey i : Nat} {it acc loc l fr : Addr} {ox : Option (Int × Tok × Value)} {a : Int} {ta : Tok}
    (hA : Okk A 450) (T : Tp (kP w b1 b2) h) (G : Giv (kP w b1 b2) h [(it, oLit l i), (acc, oList zs ep), (loc, oX sX ox), (l, oList ys ey)]) (hx : ys[i]? = some (.int a ta)) (hz : zs.length ≤ 1000)
    (k : ∀ h' t' tk hv kv, Af h [(it, oLit l (i + 1)), (acc, oList (zs ++ [.int (a.fmod 16) tk]) (ep + 1)), (loc, oX sX (some (hv, kv, .int a ta))), (l, oList ys ey)] [] h' → h'.objs.size = h.objs.size → Tp (kP w b1 b2) h' →
      Giv (kP w b1 b2) h' [(it, oLit l (i + 1)), (acc, oList (zs ++ [.int (a.fmod 16) tk]) (ep + 1)), (loc, oX sX (some (hv, kv, .int a ta))), (l, oList ys ey)] →
      CA w b1 b2 A (cComp (PP w b1 b2) (eMod16 (PP w b1 b2)) it acc loc [] fr) R ⟨h', gs, dr, t', os⟩) :
    CA w b1 b2 A (cComp (PP w b1 b2) (eMod16 (PP w b1 b2)) it acc loc [] fr) R ⟨h, gs, dr, t0, os⟩ := by
  revert b1
  refine @bothB _ ?_ ?_ <;> set_option tactic.hygienic false in intros
  all_goals (
  refine goC hA T G (by kernel_rfl) ?_; intro _ _ r
  refine cutS 550 0 (n := 2) (hs := [1]) (c := (.call (.builtin "list_iterator.__next__") ⟨[(.ref it)], []⟩)) (idx := [0,3]) (Lf := fun F => [(it, oLit l i), (l, oList ys ey)]) r (by decide) (by kernel_rfl) ?_; intro h1 t1 r1 T1 G1 o1 z1
  refine lf_next (G1.nw _ (.head _)) (G1.nw _ (.tail _ (.head _))) hx z1 ?_
  intro h2 x2 z2
  refine goS r1 (.ok (.ret (.int a ta))) [0] x2 z2 (by kernel_rfl) ?_; intro _ r2
  obtain _ | ⟨u1, u2, u3⟩ := ox
  · refine cutS 550 0 (n := 15) (hs := [3,3,3]) (c := (.call (.builtin "list.append") ⟨[(.ref acc), (.int (a.fmod 16) (t1 + 2))], []⟩)) (idx := [1]) (Lf := fun F => [(acc, oList zs ep)]) r2 (by decide) (by kernel_rfl) ?_; intro h3 t3 r3 T3 G3 o3 z3
    refine lf_append (G3.nw _ (.head _)) hz z3 ?_
    intro h4 x4 z4
    refine goS r3 (.ok (.ret .none)) [1] x4 z4 (by kernel_rfl) ?_; intro _ r4
    refine agS 0 (n := 0) (hs := []) (c := (cComp (PP w b1 b2) (eMod16 (PP w b1 b2)) it acc loc [] fr)) (q := 0) (idx := [0,1,2,3]) (idn := []) (Lf := fun F => [(it, oLit l (i + 1)), (acc, oList (zs ++ [Value.int (a.fmod 16) (t1 + 2)]) (ep + 1)), (loc, oD [⟨hOf F 2 0, .str ⟨#[120]⟩ (kOf F 2 0), (.int a ta)⟩] 1), (l, oList ys ey)]) (Nf := fun F => []) r4 (by decide) (by kernel_rfl) ?_; intro h5 t5 x5 z5 T5 G5
    exact k _ _ _ _ _ x5 z5 T5 G5
  · refine cutS 550 0 (n := 15) (hs := [3,3,3]) (c := (.call (.builtin "list.append") ⟨[(.ref acc), (.int (a.fmod 16) (t1 + 2))], []⟩)) (idx := [1]) (Lf := fun F => [(acc, oList zs ep)]) r2 (by decide) (by kernel_rfl) ?_; intro h3 t3 r3 T3 G3 o3 z3
    refine lf_append (G3.nw _ (.head _)) hz z3 ?_
    intro h4 x4 z4
    refine goS r3 (.ok (.ret .none)) [1] x4 z4 (by kernel_rfl) ?_; intro _ r4
    refine agS 0 (n := 0) (hs := []) (c := (cComp (PP w b1 b2) (eMod16 (PP w b1 b2)) it acc loc [] fr)) (q := 0) (idx := [0,1,2,3]) (idn := []) (Lf := fun F => [(it, oLit l (i + 1)), (acc, oList (zs ++ [Value.int (a.fmod 16) (t1 + 2)]) (ep + 1)), (loc, oD [⟨u1, .str ⟨#[120]⟩ u2, (.int a ta)⟩] 1), (l, oList ys ey)]) (Nf := fun F => []) r4 (by decide) (by kernel_rfl) ?_; intro h5 t5 x5 z5 T5 G5
    exact k _ _ _ _ _ x5 z5 T5 G5)

theorem mod16_end {ys zs : List Value} {ep ey i : Nat} {it acc loc l fr : Addr} {ox : Option (Int × Tok × Value)}
    (hA : Okk A 450) (T : Tp (kP w b1 b2) h) (G : Giv (kP w b1 b2) h [(it, oLit l i), (acc, oList zs ep), (loc, oX sX ox), (l, oList ys ey)]) (hx : ys[i]? = none)
    (k : ∀ h' t', Af h [(it, oLitX i), (acc, oList zs ep), (loc, oX sX ox), (l, oList ys ey)] [] h' → h'.objs.size = h.objs.size + 2 → R (.ok .next) ⟨h', gs, dr, t', os⟩) :
    CA w b1 b2 A (cComp (PP w b1 b2) (eMod16 (PP w b1 b2)) it acc loc [] fr) R ⟨h, gs, dr, t0, os⟩ := by
  revert b1
  refine @bothB _ ?_ ?_ <;> set_option tactic.hygienic false in intros
  all_goals (
  refine goC hA T G (by kernel_rfl) ?_; intro _ _ r
  refine cutS 550 0 (n := 2) (hs := [1]) (c := (.call (.builtin "list_iterator.__next__") ⟨[(.ref it)], []⟩)) (idx := [0,3]) (Lf := fun F => [(it, oLit l i), (l, oList ys ey)]) r (by decide) (by kernel_rfl) ?_; intro h1 t1 r1 T1 G1 o1 z1
  refine lf_next_end o1.hd (G1.nw _ (.head _)) (G1.nw _ (.tail _ (.head _))) hx z1 ?_
  intro h2 x2 z2
  refine goS r1 (.error (.ref (h.objs.size + 0 + 1))) [0] x2 z2 (by kernel_rfl) ?_; intro _ r2
  refine endS 0 (n := 1) (hs := [1]) (fl := .next) (q := 2) (idx := [2,3,4,5]) (idn := []) (Lf := fun F => [(it, oLitX i), (acc, oList zs ep), (loc, (oX sX ox)), (l, oList ys ey)]) (Nf := fun F => []) r2 (by decide) (by kernel_rfl) ?_; intro h3 t3 x3 z3
  exact k _ _ x3 z3)
theorem mod16_loop {ys : List Value} {ey : Nat} {it acc loc l fr : Addr} (hA : Okk A 450) (hl : ys.length ≤ 1000) (hy : ∀ v ∈ ys, ∃ a t, v = Value.int a t) :
    ∀ (k i : Nat) (zs : List Value) (ep : Nat) (ox : Option (Int × Tok × Value)) (h : Heap) (t0 : Nat), ys.length - i = k → i ≤ ys.length → ModsOf 16 ys zs i → Tp (kP w b1 b2) h → Giv (kP w b1 b2) h [(it, oLit l i), (acc, oList zs ep), (loc, oX sX ox), (l, oList ys ey)] →
    (∀ h' t' zs' ep' ox', ModsOf 16 ys zs' ys.length → Af h [(it, oLitX ys.length), (acc, oList zs' ep'), (loc, oX sX ox'), (l, oList ys ey)] [] h' → h'.objs.size = h.objs.size + 2 → R (.ok .next) ⟨h', gs, dr, t', os⟩) →
    CA w b1 b2 A (cComp (PP w b1 b2) (eMod16 (PP w b1 b2)) it acc loc [] fr) R ⟨h, gs, dr, t0, os⟩ := by
  intro k
  induction k with
  | zero =>
    intro i zs ep ox h t0 hk hi hm T G kk
    have : i = ys.length := by omega
    subst this
    exact mod16_end hA T G (List.getElem?_eq_none (Nat.le_refl _)) fun h' t' x z => kk h' t' zs ep ox hm x z
  | succ k ih =>
    intro i zs ep ox h t0 hk hi hm T G kk
    have hlt : i < ys.length := by omega
    obtain ⟨a, ta, e⟩ := hy _ (List.getElem_mem hlt)
    have hx : ys[i]? = some (.int a ta) := by rw [List.getElem?_eq_getElem hlt, e]
    refine mod16_turn hA T G hx (by rw [hm.1]; omega) fun h' t' tk hv kv x z T' G' => ?_
    refine ih (i + 1) _ _ _ h' t' (by omega) hlt (hm.succ hx) T' G' fun h2 t2 zs2 ep2 ox2 m2 x2 z2 => ?_
    exact kk h2 t2 zs2 ep2 ox2 m2 (x.trans x2 rfl) (z2.trans (by rw [z]))

theorem mod840_turn {ys zs : List Value} {ep ey i : Nat} {it acc loc l fr : Addr} {ox : Option (Int × Tok × Value)} {a : Int} {ta : Tok}
    (hA : Okk A 450) (T : Tp (kP w b1 b2) h) (G : Giv (kP w b1 b2) h [(it, oLit l i), (acc, oList zs ep), (loc, oX sX ox), (l, oList ys ey)]) (hx : ys[i]? = some (.int a ta)) (hz : zs.length ≤ 1000)
    (k : ∀ h' t' tk hv kv, Af h [(it, oLit l (i + 1)), (acc, oList (zs ++ [.int (a.fmod 840) tk]) (ep + 1)), (loc, oX sX (some (hv, kv, .int a ta))), (l, oList ys ey)] [] h' → h'.objs.size = h.objs.size → Tp (kP w b1 b2) h' →
      Giv (kP w b1 b2) h' [(it, oLit l (i + 1)), (acc, oList (zs ++ [.int (a.fmod 840) tk]) (ep + 1)), (loc, oX sX (some (hv, kv, .int a ta))), (l, oList ys ey)] →
      CA w b1 b2 A (cComp (PP w b1 b2) (eMod840 (PP w b1 b2)) it acc loc [] fr) R ⟨h', gs, dr, t', os⟩) :
    CA w b1 b2 A (cComp (PP w b1 b2) (eMod840 (PP w b1 b2)) it acc loc [] fr) R ⟨h, gs, dr, t0, os⟩ := by
  revert b1
  refine @bothB _ ?_ ?_ <;> set_option tactic.hygienic false in intros
  all_goals (
  refine goC hA T G (by kernel_rfl) ?_; intro _ _ r
  refine cutS 550 0 (n := 2) (hs := [1]) (c := (.call (.builtin "list_iterator.__next__") ⟨[(.ref it)], []⟩)) (idx := [0,3]) (Lf := fun F => [(it, oLit l i), (l, oList ys ey)]) r (by decide) (by kernel_rfl) ?_; intro h1 t1 r1 T1 G1 o1 z1
  refine lf_next (G1.nw _ (.head _)) (G1.nw _ (.tail _ (.head _))) hx z1 ?_
  intro h2 x2 z2
  refine goS r1 (.ok (.ret (.int a ta))) [0] x2 z2 (by kernel_rfl) ?_; intro _ r2
  obtain _ | ⟨u1, u2, u3⟩ := ox
  · refine cutS 550 0 (n := 15) (hs := [3,3,3]) (c := (.call (.builtin "list.append") ⟨[(.ref acc), (.int (a.fmod 840) (t1 + 2))], []⟩)) (idx := [1]) (Lf := fun F => [(acc, oList zs ep)]) r2 (by decide) (by kernel_rfl) ?_; intro h3 t3 r3 T3 G3 o3 z3
    refine lf_append (G3.nw _ (.head _)) hz z3 ?_
    intro h4 x4 z4
    refine goS r3 (.ok (.ret .none)) [1] x4 z4 (by kernel_rfl) ?_; intro _ r4
    refine agS 0 (n := 0) (hs := []) (c := (cComp (PP w b1 b2) (eMod840 (PP w b1 b2)) it acc loc [] fr)) (q := 0) (idx := [0,1,2,3]) (idn := []) (Lf := fun F => [(it, oLit l (i + 1)), (acc, oList (zs ++ [Value.int (a.fmod 840) (t1 + 2)]) (ep + 1)), (loc, oD [⟨hOf F 2 0, .str ⟨#[120]⟩ (kOf F 2 0), (.int a ta)⟩] 1), (l, oList ys ey)]) (Nf := fun F => []) r4 (by decide) (by kernel_rfl) ?_; intro h5 t5 x5 z5 T5 G5
    exact k _ _ _ _ _ x5 z5 T5 G5
  · refine cutS 550 0 (n := 15) (hs := [3,3,3]) (c := (.call (.builtin "list.append") ⟨[(.ref acc), (.int (a.fmod 840) (t1 + 2))], []⟩)) (idx := [1]) (Lf := fun F => [(acc, oList zs ep)]) r2 (by decide) (by kernel_rfl) ?_; intro h3 t3 r3 T3 G3 o3 z3
    refine lf_append (G3.nw _ (.head _)) hz z3 ?_
    intro h4 x4 z4
    refine goS r3 (.ok (.ret .none)) [1] x4 z4 (by kernel_rfl) ?_; intro _ r4
    refine agS 0 (n := 0) (hs := []) (c := (cComp (PP w b1 b2) (eMod840 (PP w b1 b2)) it acc loc [] fr)) (q := 0) (idx := [0,1,2,3]) (idn := []) (Lf := fun F => [(it, oLit l (i + 1)), (acc, oList (zs ++ [Value.int (a.fmod 840) (t1 + 2)]) (ep + 1)), (loc, oD [⟨u1, .str ⟨#[120]⟩ u2, (.int a ta)⟩] 1), (l, oList ys ey)]) (Nf := fun F => []) r4 (by decide) (by kernel_rfl) ?_; intro h5 t5 x5 z5 T5 G5
    exact k _ _ _ _ _ x5 z5 T5 G5)

theorem mod840_end {ys zs : List Value} {ep ey i : Nat} {it acc loc l fr : Addr} {ox : Option (Int × Tok × Value)}
    (hA : Okk A 450) (T : Tp (kP w b1 b2) h) (G : Giv (kP w b1 b2) h [(it, oLit l i), (acc, oList zs ep), (loc, oX sX ox), (l, oList ys ey)]) (hx : ys[i]? = none)
    (k : ∀ h' t', Af h [(it, oLitX i), (acc, oList zs ep), (loc, oX sX ox), (l, oList ys ey)] [] h' → h'.objs.size = h.objs.size + 2 → R (.ok .next) ⟨h', gs, dr, t', os⟩) :
    CA w b1 b2 A (cComp (PP w b1 b2) (eMod840 (PP w b1 b2)) it acc loc [] fr) R ⟨h, gs, dr, t0, os⟩ := by
  revert b1
  refine @bothB _ ?_ ?_ <;> set_option tactic.hygienic false in intros
  all_goals (
  refine goC hA T G (by kernel_rfl) ?_; intro _ _ r
  refine cutS 550 0 (n := 2) (hs := [1]) (c := (.call (.builtin "list_iterator.__next__") ⟨[(.ref it)], []⟩)) (idx := [0,3]) (Lf := fun F => [(it, oLit l i), (l, oList ys ey)]) r (by decide) (by kernel_rfl) ?_; intro h1 t1 r1 T1 G1 o1 z1
  refine lf_next_end o1.hd (G1.nw _ (.head _)) (G1.nw _ (.tail _ (.head _))) hx z1 ?_
  intro h2 x2 z2
  refine goS r1 (.error (.ref (h.objs.size + 0 + 1))) [0] x2 z2 (by kernel_rfl) ?_; intro _ r2
  refine endS 0 (n := 1) (hs := [1]) (fl := .next) (q := 2) (idx := [2,3,4,5]) (idn := []) (Lf := fun F => [(it, oLitX i), (acc, oList zs ep), (loc, (oX sX ox)), (l, oList ys ey)]) (Nf := fun F => []) r2 (by decide) (by kernel_rfl) ?_; intro h3 t3 x3 z3
  exact k _ _ x3 z3)
theorem mod840_loop {ys : List Value} {ey : Nat} {it acc loc l fr : Addr} (hA : Okk A 450) (hl : ys.length ≤ 1000) (hy : ∀ v ∈ ys, ∃ a t, v = Value.int a t) :
    ∀ (k i : Nat) (zs : List Value) (ep : Nat) (ox : Option (Int × Tok × Value)) (h : Heap) (t0 : Nat), ys.length - i = k → i ≤ ys.length → ModsOf 840 ys zs i → Tp (kP w b1 b2) h → Giv (kP w b1 b2) h [(it, oLit l i), (acc, oList zs ep), (loc, oX sX ox), (l, oList ys ey)] →
    (∀ h' t' zs' ep' ox', ModsOf 840 ys zs' ys.length → Af h [(it, oLitX ys.length), (acc, oList zs' ep'), (loc, oX sX ox'), (l, oList ys ey)] [] h' → h'.objs.size = h.objs.size + 2 → R (.ok .next) ⟨h', gs, dr, t', os⟩) →
    CA w b1 b2 A (cComp (PP w b1 b2) (eMod840 (PP w b1 b2)) it acc loc [] fr) R ⟨h, gs, dr, t0, os⟩ := by
  intro k
  induction k with
  | zero =>
    intro i zs ep ox h t0 hk hi hm T G kk
    have : i = ys.length := by omega
    subst this
    exact mod840_end hA T G (List.getElem?_eq_none (Nat.le_refl _)) fun h' t' x z => kk h' t' zs ep ox hm x z
  | succ k ih =>
    intro i zs ep ox h t0 hk hi hm T G kk
    have hlt : i < ys.length := by omega
    obtain ⟨a, ta, e⟩ := hy _ (List.getElem_mem hlt)
    have hx : ys[i]? = some (.int a ta) := by rw [List.getElem?_eq_getElem hlt, e]
    refine mod840_turn hA T G hx (by rw [hm.1]; omega) fun h' t' tk hv kv x z T' G' => ?_
    refine ih (i + 1) _ _ _ h' t' (by omega) hlt (hm.succ hx) T' G' fun h2 t2 zs2 ep2 ox2 m2 x2 z2 => ?_
    exact kk h2 t2 zs2 ep2 ox2 m2 (x.trans x2 rfl) (z2.trans (by rw [z]))
end
end Mine
end
section
open PySem PySem.W PyProof.Rows PySem.W.X
namespace Mine
section
variable {w : World} {b1 b2 : Bool} {A : Around} {R : Result → Shared → Prop} {h : Heap} {gs : Array GenState} {dr : Drawn} {t0 : Nat} {os : OsState}
noncomputable abbrev eDrawn (P : Params) : Expr := lawE P 0 []
noncomputable abbrev oEnum (ti : Addr) (i : Int) (v2 v3 : Value) : Obj := ⟨.type "enumerate", none, .fields #[.none, .bool false, .ref ti, rawInt i, v2, v3], #[]⟩
noncomputable abbrev oTit (tu : Addr) (i : Int) : Obj := ⟨.type "tuple_iterator", none, .fields #[.ref tu, .int i 0], #[]⟩
noncomputable abbrev oCell (v : Value) : Obj := ⟨.type "cell", none, .cell (some v), #[]⟩
noncomputable abbrev oCell0 : Obj := ⟨.type "cell", none, .cell none, #[]⟩
noncomputable def sScript : Str := ⟨#[115,99,114,105,112,116]⟩
theorem preSum_bound (val : Nat → Int) (m : Int) (hm : 0 < m) : ∀ n : Nat, (∀ i, i < n → 0 ≤ val i ∧ val i < m) → 0 ≤ preSum val n ∧ preSum val n ≤ n * (m - 1)
  | 0, _ => by simp [preSum]
  | n + 1, hv => by
    have ih := preSum_bound val m hm n fun i hi => hv i (Nat.lt_succ_of_lt hi)
    have q := hv n (Nat.lt_succ_self n)
    have e : ((n + 1 : Nat) : Int) * (m - 1) = (n : Int) * (m - 1) + (m - 1) := by rw [Int.natCast_add, Int.add_mul]; simp
    simp only [preSum]
    rw [e]
    omega
theorem mods_sum {m : Nat} {ys zs : List Value} {n : Nat} (x : ModsOf (m : Int) ys zs n) (hn : n ≤ 24) (h0 : 0 < m) (h1 : m ≤ 1000) : ∃ (val : Nat → Int) (D : Nat), (∀ i, i < n → ∃ t, zs[i]? = some (Value.int (val i) t)) ∧ (∀ j, j < n → InLong (val j) ∧ InLong (preSum val (j + 1))) ∧ preSum val n = (D : Int) ∧ D < 24000 := by
  let val : Nat → Int := fun i => match ys[i]? with
    | some (.int a _) => a.fmod m
    | _ => 0
  have hv : ∀ i, i < n → ∃ a ta u, ys[i]? = some (Value.int a ta) ∧ zs[i]? = some (Value.int (val i) u) ∧ val i = a.fmod m := fun i hi => by
    obtain ⟨a, ta, u, e1, e2⟩ := x.2 i hi
    have : val i = a.fmod m := by show (match ys[i]? with | some (.int a _) => a.fmod m | _ => 0) = _; rw [e1]
    exact ⟨a, ta, u, e1, by rw [this]; exact e2, this⟩
  have hm : (0 : Int) < m := by omega
  have hb : ∀ i, i < n → 0 ≤ val i ∧ val i < m := fun i hi => by
    obtain ⟨a, ta, u, _, _, e⟩ := hv i hi
    rw [e]
    exact ⟨Int.fmod_nonneg_of_pos a hm, Int.fmod_lt_of_pos a hm⟩
  have hp : ∀ j, j ≤ n → 0 ≤ preSum val j ∧ preSum val j ≤ j * ((m : Int) - 1) := fun j hj => preSum_bound val m hm j fun i hi => hb i (Nat.lt_of_lt_of_le hi hj)
  have hq : ∀ j, j ≤ n → preSum val j < 24000 := fun j hj => by
    have q := (hp j hj).2
    have r : (j : Int) * ((m : Int) - 1) ≤ 24 * 999 := by
      refine Int.le_trans (Int.mul_le_mul_of_nonneg_right (show (j : Int) ≤ 24 by omega) (by omega)) (Int.mul_le_mul_of_nonneg_left (by omega) (by decide))
    omega
  refine ⟨val, (preSum val n).toNat, fun i hi => ?_, fun j hj => ?_, ?_, ?_⟩
  · obtain ⟨_, _, u, _, e, _⟩ := hv i hi
    exact ⟨u, e⟩
  · have a1 := hb j hj
    have a2 := hp (j + 1) hj
    have a3 := hq (j + 1) hj
    have e : (2 : Int) ^ 63 = 9223372036854775808 := by decide
    unfold InLong
    rw [e]
    omega
  · have := (hp n (Nat.le_refl _)).1
    omega
  · have := (hp n (Nat.le_refl _)).1
    have := hq n (Nat.le_refl _)
    omega
noncomputable def sK : Str := ⟨#[107]⟩
noncomputable def sStart : Str := ⟨#[115,116,97,114,116]⟩
/-- the outer comprehension's names -/
noncomputable def oKS : Option (Int × Tok × Value × Int × Tok × Value) → Obj
  | none => oD [] 0
  | some (h1, k1, v1, h2, k2, v2) => oD [⟨h1, .str sK k1, v1⟩, ⟨h2, .str sStart k2, v2⟩] 2
noncomputable abbrev drawnL (xs : List Value) (ep : Nat) (ta tb tc td : Tok) (i : Nat) (v5 : Value) (zs : List Value) (ez : Nat) (ks : Option (Int × Tok × Value × Int × Tok × Value)) : List (Addr × Obj) :=
  [(170, oEnum 169 i .none v5), (169, oTit 168 i), (168, oTup [.int 5 ta, .int 6 tb, .int 9 tc, .int 12 td]), (171, oList zs ez), (172, oKS ks), (160, oCell (.ref 158)), (158, oList xs ep)]

theorem drawn_turn0 {xs : List Value} {ep ez : Nat} {ta tb tc td : Tok} {v5 : Value} (hA : Okk A 400) (T : Tp (kP w b1 b2) h)
    (G : Giv (kP w b1 b2) h (drawnL xs ep ta tb tc td 0 v5 [] ez (none))) (hN : h.objs.size = 173)
    (hz : xs.length ≤ 1000) (hx : ∀ v ∈ xs, ∃ a t, v = Value.int a t)
    (k : ∀ h' t' (d0 : Nat) k0 v5 ez g1 g2 g3 g4 g5 g6, d0 < 30000 → Af h (drawnL xs ep ta tb tc td 1 v5 [.int (d0 : Nat) k0] ez (some (g1, g2, g3, g4, g5, g6))) [] h' → h'.objs.size = 188 → Tp (kP w b1 b2) h' → Giv (kP w b1 b2) h' (drawnL xs ep ta tb tc td 1 v5 [.int (d0 : Nat) k0] ez (some (g1, g2, g3, g4, g5, g6))) →
      CA w b1 b2 A (cComp (PP w b1 b2) (eDrawn (PP w b1 b2)) 170 171 172 [(sScript, 160)] 159) R ⟨h', gs, dr, t', os⟩) :
    CA w b1 b2 A (cComp (PP w b1 b2) (eDrawn (PP w b1 b2)) 170 171 172 [(sScript, 160)] 159) R ⟨h, gs, dr, t0, os⟩ := by
  revert b1
  refine @bothB _ ?_ ?_ <;> set_option tactic.hygienic false in intros
  all_goals (
  refine goC hA T G (by kernel_rfl) ?_; intro _ _ r
  rw [hN] at r
  refine cutS 450 5 (n := 115) (hs := [1,1,1,2,2,2,2,3,2,2,1,1,1,1,1,1,2,2,2,2,2,2,2,2,2,2,2,1,1,1,1,1,1,1,1,1,2,1,1,1,1,1,1,2,1,1,1,1,1,1,2,1,1,1,9,9,9,9,9,0,0,10,9,12,12,12]) (c := (.call (.builtin "list.__getitem__") ⟨[(.ref 158), (.ref 177)], []⟩)) (idx := [0,11]) (Lf := fun F => [(177, ⟨(.type "slice"), Option.none, (.fields #[(.int 0 t0), (.int 24 (t0 + 3)), (.int 4 (t0 + 4))]), #[]⟩), (158, oList xs ep)]) r (by decide) (by kernel_rfl) ?_; intro ha ta' ra Ta Ga oa za
  refine lf_slice (Ga.nw _ (.tail _ (.head _))) (Ga.nw _ (.head _)) (.int _ _) (.int _ _) (by intro i e; cases e; decide) hz za ?_
  intro hb ys hy hl xb zb
  refine goS ra _ [] xb zb (by kernel_rfl) ?_; intro _ rb
  refine cutS 450 3 (n := 13) (hs := [1,1,1,1]) (c := (.compStart (eMod16 (PP w b1 b2)) 0 (.ref 179) (.ref 180) (envL (PP w b1 b2) (eMod16 (PP w b1 b2)) 181 ([]) (159)))) (idx := [2,1,0,3]) (Lf := fun F => [(179, oLit 178 0), (180, oList [] 0), (181, oD [] 0), (178, oList ys 0)]) rb (by decide) (by kernel_rfl) ?_; intro hc tc' rc Tc Gc oc zc
  refine comp_start (by kernel_rfl) (.list ⟨_, Gc.nw _ (.head _), rfl⟩) ?_
  refine mod16_loop oc (by omega) (fun v hv => hx v (hy v hv)) ys.length 0 [] 0 none _ _ rfl (Nat.zero_le _) ⟨rfl, fun _ hj => (nomatch hj)⟩ Tc Gc ?_
  intro hd td' zs ep1 ox md xd zd
  rw [zc] at zd
  obtain ⟨vl, D, hv, hf, hs, hD⟩ := mods_sum md hl (by decide) (by decide)
  refine goS rc _ [2,1,0,3] xd zd (by kernel_rfl) ?_; intro _ rd
  obtain _ | ⟨u1, u2, u3⟩ := ox
  · refine cutS 450 0 (n := 2) (hs := [1]) (c := (.call (.builtin "sum") ⟨[(.ref 180)], []⟩)) (idx := [1]) (Lf := fun F => [(180, oList zs ep1)]) rd (by decide) (by kernel_rfl) ?_; intro he te re Te Ge oe ze
    refine lf_sum vl oe.hd (Ge.nw _ (.head _)) md.1 hv hf ze ?_
    intro hg tg ug xg zg
    rw [hs]
    refine goS re _ [] xg zg (by kernel_rfl) ?_; intro _ rg
    refine agS 0 (n := 13) (hs := [13,13,13,13]) (c := (cComp (PP w b1 b2) (eDrawn (PP w b1 b2)) 170 171 172 [(sScript, 160)] 159)) (q := 9) (idx := [9,10,11,12,13,14,15]) (idn := []) (Lf := fun F => [(170, ⟨(.type "enumerate"), Option.none, (.fields #[.none, (.bool Bool.false), (.ref 169), (.int 1 0), .none, (.int 5 ta)]), #[]⟩), (169, ⟨(.type "tuple_iterator"), Option.none, (.fields #[(.ref 168), (.int 1 0)]), #[]⟩), (168, oTup [(.int 5 ta), (.int 6 tb), (.int 9 tc), (.int 12 td)]), (171, oList [(.int ((5 + D) : Int) ug)] (ez + 1)), (172, oD [⟨hOf F 13 0, .str ⟨#[107]⟩ (kOf F 13 0), (.int 0 t0)⟩, ⟨hOf F 13 1, .str ⟨#[115,116,97,114,116]⟩ (kOf F 13 1), (.int 5 ta)⟩] 2), (160, ⟨(.type "cell"), Option.none, (.cell (Option.some (.ref 158))), #[]⟩), (158, oList xs ep)]) (Nf := fun F => []) rg (by decide) (by kernel_rfl) ?_; intro h5 t5 x5 z5 T5 G5
    exact k h5 t5 (5 + D) _ _ _ _ _ _ _ _ _ (by omega) x5 z5 T5 G5
  · refine cutS 450 0 (n := 6) (hs := [1,1,1]) (c := (.call (.builtin "sum") ⟨[(.ref 180)], []⟩)) (idx := [1]) (Lf := fun F => [(180, oList zs ep1)]) rd (by decide) (by kernel_rfl) ?_; intro he te re Te Ge oe ze
    refine lf_sum vl oe.hd (Ge.nw _ (.head _)) md.1 hv hf ze ?_
    intro hg tg ug xg zg
    rw [hs]
    refine goS re _ [] xg zg (by kernel_rfl) ?_; intro _ rg
    refine agS 0 (n := 13) (hs := [13,13,13,13]) (c := (cComp (PP w b1 b2) (eDrawn (PP w b1 b2)) 170 171 172 [(sScript, 160)] 159)) (q := 9) (idx := [9,10,11,12,13,14,15]) (idn := []) (Lf := fun F => [(170, ⟨(.type "enumerate"), Option.none, (.fields #[.none, (.bool Bool.false), (.ref 169), (.int 1 0), .none, (.int 5 ta)]), #[]⟩), (169, ⟨(.type "tuple_iterator"), Option.none, (.fields #[(.ref 168), (.int 1 0)]), #[]⟩), (168, oTup [(.int 5 ta), (.int 6 tb), (.int 9 tc), (.int 12 td)]), (171, oList [(.int ((5 + D) : Int) ug)] (ez + 1)), (172, oD [⟨hOf F 13 0, .str ⟨#[107]⟩ (kOf F 13 0), (.int 0 t0)⟩, ⟨hOf F 13 1, .str ⟨#[115,116,97,114,116]⟩ (kOf F 13 1), (.int 5 ta)⟩] 2), (160, ⟨(.type "cell"), Option.none, (.cell (Option.some (.ref 158))), #[]⟩), (158, oList xs ep)]) (Nf := fun F => []) rg (by decide) (by kernel_rfl) ?_; intro h5 t5 x5 z5 T5 G5
    exact k h5 t5 (5 + D) _ _ _ _ _ _ _ _ _ (by omega) x5 z5 T5 G5)

theorem drawn_turn1 {xs : List Value} {ep ez : Nat} {ta tb tc td : Tok} {v5 : Value} {d0 : Nat} {k0 : Tok} {g1 : Int} {g2 : Tok} {g3 : Value} {g4 : Int} {g5 : Tok} {g6 : Value} (hA : Okk A 400) (T : Tp (kP w b1 b2) h)
    (G : Giv (kP w b1 b2) h (drawnL xs ep ta tb tc td 1 v5 [.int (d0 : Nat) k0] ez (some (g1, g2, g3, g4, g5, g6)))) (hN : h.objs.size = 188)
    (hz : xs.length ≤ 1000) (hx : ∀ v ∈ xs, ∃ a t, v = Value.int a t)
    (k : ∀ h' t' (d1 : Nat) k1 v5 ez g1 g2 g3 g4 g5 g6, d1 < 30000 → Af h (drawnL xs ep ta tb tc td 2 v5 [.int (d0 : Nat) k0, .int (d1 : Nat) k1] ez (some (g1, g2, g3, g4, g5, g6))) [] h' → h'.objs.size = 203 → Tp (kP w b1 b2) h' → Giv (kP w b1 b2) h' (drawnL xs ep ta tb tc td 2 v5 [.int (d0 : Nat) k0, .int (d1 : Nat) k1] ez (some (g1, g2, g3, g4, g5, g6))) →
      CA w b1 b2 A (cComp (PP w b1 b2) (eDrawn (PP w b1 b2)) 170 171 172 [(sScript, 160)] 159) R ⟨h', gs, dr, t', os⟩) :
    CA w b1 b2 A (cComp (PP w b1 b2) (eDrawn (PP w b1 b2)) 170 171 172 [(sScript, 160)] 159) R ⟨h, gs, dr, t0, os⟩ := by
  revert b1
  refine @bothB _ ?_ ?_ <;> set_option tactic.hygienic false in intros
  all_goals (
  refine goC hA T G (by kernel_rfl) ?_; intro _ _ r
  rw [hN] at r
  refine cutS 450 5 (n := 115) (hs := [1,1,1,2,2,2,2,3,2,2,1,1,1,1,1,1,2,2,2,2,2,2,2,2,2,2,2,1,1,1,1,1,1,1,1,1,2,1,1,1,1,1,1,2,1,1,1,1,1,1,2,1,1,1,9,9,9,9,9,0,0,10,9,12,12,12]) (c := (.call (.builtin "list.__getitem__") ⟨[(.ref 158), (.ref 192)], []⟩)) (idx := [0,11]) (Lf := fun F => [(192, ⟨(.type "slice"), Option.none, (.fields #[(.int 1 t0), (.int 24 (t0 + 3)), (.int 4 (t0 + 4))]), #[]⟩), (158, oList xs ep)]) r (by decide) (by kernel_rfl) ?_; intro ha ta' ra Ta Ga oa za
  refine lf_slice (Ga.nw _ (.tail _ (.head _))) (Ga.nw _ (.head _)) (.int _ _) (.int _ _) (by intro i e; cases e; decide) hz za ?_
  intro hb ys hy hl xb zb
  refine goS ra _ [] xb zb (by kernel_rfl) ?_; intro _ rb
  refine cutS 450 3 (n := 13) (hs := [1,1,1,1]) (c := (.compStart (eMod16 (PP w b1 b2)) 0 (.ref 194) (.ref 195) (envL (PP w b1 b2) (eMod16 (PP w b1 b2)) 196 ([]) (159)))) (idx := [2,1,0,3]) (Lf := fun F => [(194, oLit 193 0), (195, oList [] 0), (196, oD [] 0), (193, oList ys 0)]) rb (by decide) (by kernel_rfl) ?_; intro hc tc' rc Tc Gc oc zc
  refine comp_start (by kernel_rfl) (.list ⟨_, Gc.nw _ (.head _), rfl⟩) ?_
  refine mod16_loop oc (by omega) (fun v hv => hx v (hy v hv)) ys.length 0 [] 0 none _ _ rfl (Nat.zero_le _) ⟨rfl, fun _ hj => (nomatch hj)⟩ Tc Gc ?_
  intro hd td' zs ep1 ox md xd zd
  rw [zc] at zd
  obtain ⟨vl, D, hv, hf, hs, hD⟩ := mods_sum md hl (by decide) (by decide)
  refine goS rc _ [2,1,0,3] xd zd (by kernel_rfl) ?_; intro _ rd
  obtain _ | ⟨u1, u2, u3⟩ := ox
  · refine cutS 450 0 (n := 2) (hs := [1]) (c := (.call (.builtin "sum") ⟨[(.ref 195)], []⟩)) (idx := [1]) (Lf := fun F => [(195, oList zs ep1)]) rd (by decide) (by kernel_rfl) ?_; intro he te re Te Ge oe ze
    refine lf_sum vl oe.hd (Ge.nw _ (.head _)) md.1 hv hf ze ?_
    intro hg tg ug xg zg
    rw [hs]
    refine goS re _ [] xg zg (by kernel_rfl) ?_; intro _ rg
    refine agS 0 (n := 13) (hs := [13,13,13,13]) (c := (cComp (PP w b1 b2) (eDrawn (PP w b1 b2)) 170 171 172 [(sScript, 160)] 159)) (q := 9) (idx := [9,10,11,12,13,14,15]) (idn := []) (Lf := fun F => [(170, ⟨(.type "enumerate"), Option.none, (.fields #[.none, (.bool Bool.false), (.ref 169), (.int 2 0), .none, (.int 6 tb)]), #[]⟩), (169, ⟨(.type "tuple_iterator"), Option.none, (.fields #[(.ref 168), (.int 2 0)]), #[]⟩), (168, oTup [(.int 5 ta), (.int 6 tb), (.int 9 tc), (.int 12 td)]), (171, oList [(.int (d0 : Int) k0), (.int ((6 + D) : Int) ug)] (ez + 1)), (172, oD [⟨g1, .str ⟨#[107]⟩ g2, (.int 1 t0)⟩, ⟨g4, .str ⟨#[115,116,97,114,116]⟩ g5, (.int 6 tb)⟩] 2), (160, ⟨(.type "cell"), Option.none, (.cell (Option.some (.ref 158))), #[]⟩), (158, oList xs ep)]) (Nf := fun F => []) rg (by decide) (by kernel_rfl) ?_; intro h5 t5 x5 z5 T5 G5
    exact k h5 t5 (6 + D) _ _ _ _ _ _ _ _ _ (by omega) x5 z5 T5 G5
  · refine cutS 450 0 (n := 6) (hs := [1,1,1]) (c := (.call (.builtin "sum") ⟨[(.ref 195)], []⟩)) (idx := [1]) (Lf := fun F => [(195, oList zs ep1)]) rd (by decide) (by kernel_rfl) ?_; intro he te re Te Ge oe ze
    refine lf_sum vl oe.hd (Ge.nw _ (.head _)) md.1 hv hf ze ?_
    intro hg tg ug xg zg
    rw [hs]
    refine goS re _ [] xg zg (by kernel_rfl) ?_; intro _ rg
    refine agS 0 (n := 13) (hs := [13,13,13,13]) (c := (cComp (PP w b1 b2) (eDrawn (PP w b1 b2)) 170 171 172 [(sScript, 160)] 159)) (q := 9) (idx := [9,10,11,12,13,14,15]) (idn := []) (Lf := fun F => [(170, ⟨(.type "enumerate"), Option.none, (.fields #[.none, (.bool Bool.false), (.ref 169), (.int 2 0), .none, (.int 6 tb)]), #[]⟩), (169, ⟨(.type "tuple_iterator"), Option.none, (.fields #[(.ref 168), (.int 2 0)]), #[]⟩), (168, oTup [(.int 5 ta), (.int 6 tb), (.int 9 tc), (.int 12 td)]), (171, oList [(.int (d0 : Int) k0), (.int ((6 + D) : Int) ug)] (ez + 1)), (172, oD [⟨g1, .str ⟨#[107]⟩ g2, (.int 1 t0)⟩, ⟨g4, .str ⟨#[115,116,97,114,116]⟩ g5, (.int 6 tb)⟩] 2), (160, ⟨(.type "cell"), Option.none, (.cell (Option.some (.ref 158))), #[]⟩), (158, oList xs ep)]) (Nf := fun F => []) rg (by decide) (by kernel_rfl) ?_; intro h5 t5 x5 z5 T5 G5
    exact k h5 t5 (6 + D) _ _ _ _ _ _ _ _ _ (by omega) x5 z5 T5 G5)

theorem drawn_turn2 {xs : List Value} {ep ez : Nat} {ta tb tc td : Tok} {v5 : Value} {d0 d1 : Nat} {k0 k1 : Tok} {g1 : Int} {g2 : Tok} {g3 : Value} {g4 : Int} {g5 : Tok} {g6 : Value} (hA : Okk A 400) (T : Tp (kP w b1 b2) h)
    (G : Giv (kP w b1 b2) h (drawnL xs ep ta tb tc td 2 v5 [.int (d0 : Nat) k0, .int (d1 : Nat) k1] ez (some (g1, g2, g3, g4, g5, g6)))) (hN : h.objs.size = 203)
    (hz : xs.length ≤ 1000) (hx : ∀ v ∈ xs, ∃ a t, v = Value.int a t)
    (k : ∀ h' t' (d2 : Nat) k2 v5 ez g1 g2 g3 g4 g5 g6, d2 < 30000 → Af h (drawnL xs ep ta tb tc td 3 v5 [.int (d0 : Nat) k0, .int (d1 : Nat) k1, .int (d2 : Nat) k2] ez (some (g1, g2, g3, g4, g5, g6))) [] h' → h'.objs.size = 218 → Tp (kP w b1 b2) h' → Giv (kP w b1 b2) h' (drawnL xs ep ta tb tc td 3 v5 [.int (d0 : Nat) k0, .int (d1 : Nat) k1, .int (d2 : Nat) k2] ez (some (g1, g2, g3, g4, g5, g6))) →
      CA w b1 b2 A (cComp (PP w b1 b2) (eDrawn (PP w b1 b2)) 170 171 172 [(sScript, 160)] 159) R ⟨h', gs, dr, t', os⟩) :
    CA w b1 b2 A (cComp (PP w b1 b2) (eDrawn (PP w b1 b2)) 170 171 172 [(sScript, 160)] 159) R ⟨h, gs, dr, t0, os⟩ := by
  revert b1
  refine @bothB _ ?_ ?_ <;> set_option tactic.hygienic false in intros
  all_goals (
  refine goC hA T G (by kernel_rfl) ?_; intro _ _ r
  rw [hN] at r
  refine cutS 450 5 (n := 115) (hs := [1,1,1,2,2,2,2,3,2,2,1,1,1,1,1,1,2,2,2,2,2,2,2,2,2,2,2,1,1,1,1,1,1,1,1,1,2,1,1,1,1,1,1,2,1,1,1,1,1,1,2,1,1,1,9,9,9,9,9,0,0,10,9,12,12,12]) (c := (.call (.builtin "list.__getitem__") ⟨[(.ref 158), (.ref 207)], []⟩)) (idx := [0,11]) (Lf := fun F => [(207, ⟨(.type "slice"), Option.none, (.fields #[(.int 2 t0), (.int 24 (t0 + 3)), (.int 4 (t0 + 4))]), #[]⟩), (158, oList xs ep)]) r (by decide) (by kernel_rfl) ?_; intro ha ta' ra Ta Ga oa za
  refine lf_slice (Ga.nw _ (.tail _ (.head _))) (Ga.nw _ (.head _)) (.int _ _) (.int _ _) (by intro i e; cases e; decide) hz za ?_
  intro hb ys hy hl xb zb
  refine goS ra _ [] xb zb (by kernel_rfl) ?_; intro _ rb
  refine cutS 450 3 (n := 13) (hs := [1,1,1,1]) (c := (.compStart (eMod16 (PP w b1 b2)) 0 (.ref 209) (.ref 210) (envL (PP w b1 b2) (eMod16 (PP w b1 b2)) 211 ([]) (159)))) (idx := [2,1,0,3]) (Lf := fun F => [(209, oLit 208 0), (210, oList [] 0), (211, oD [] 0), (208, oList ys 0)]) rb (by decide) (by kernel_rfl) ?_; intro hc tc' rc Tc Gc oc zc
  refine comp_start (by kernel_rfl) (.list ⟨_, Gc.nw _ (.head _), rfl⟩) ?_
  refine mod16_loop oc (by omega) (fun v hv => hx v (hy v hv)) ys.length 0 [] 0 none _ _ rfl (Nat.zero_le _) ⟨rfl, fun _ hj => (nomatch hj)⟩ Tc Gc ?_
  intro hd td' zs ep1 ox md xd zd
  rw [zc] at zd
  obtain ⟨vl, D, hv, hf, hs, hD⟩ := mods_sum md hl (by decide) (by decide)
  refine goS rc _ [2,1,0,3] xd zd (by kernel_rfl) ?_; intro _ rd
  obtain _ | ⟨u1, u2, u3⟩ := ox
  · refine cutS 450 0 (n := 2) (hs := [1]) (c := (.call (.builtin "sum") ⟨[(.ref 210)], []⟩)) (idx := [1]) (Lf := fun F => [(210, oList zs ep1)]) rd (by decide) (by kernel_rfl) ?_; intro he te re Te Ge oe ze
    refine lf_sum vl oe.hd (Ge.nw _ (.head _)) md.1 hv hf ze ?_
    intro hg tg ug xg zg
    rw [hs]
    refine goS re _ [] xg zg (by kernel_rfl) ?_; intro _ rg
    refine agS 0 (n := 13) (hs := [13,13,13,13]) (c := (cComp (PP w b1 b2) (eDrawn (PP w b1 b2)) 170 171 172 [(sScript, 160)] 159)) (q := 9) (idx := [9,10,11,12,13,14,15]) (idn := []) (Lf := fun F => [(170, ⟨(.type "enumerate"), Option.none, (.fields #[.none, (.bool Bool.false), (.ref 169), (.int 3 0), .none, (.int 9 tc)]), #[]⟩), (169, ⟨(.type "tuple_iterator"), Option.none, (.fields #[(.ref 168), (.int 3 0)]), #[]⟩), (168, oTup [(.int 5 ta), (.int 6 tb), (.int 9 tc), (.int 12 td)]), (171, oList [(.int (d0 : Int) k0), (.int (d1 : Int) k1), (.int ((9 + D) : Int) ug)] (ez + 1)), (172, oD [⟨g1, .str ⟨#[107]⟩ g2, (.int 2 t0)⟩, ⟨g4, .str ⟨#[115,116,97,114,116]⟩ g5, (.int 9 tc)⟩] 2), (160, ⟨(.type "cell"), Option.none, (.cell (Option.some (.ref 158))), #[]⟩), (158, oList xs ep)]) (Nf := fun F => []) rg (by decide) (by kernel_rfl) ?_; intro h5 t5 x5 z5 T5 G5
    exact k h5 t5 (9 + D) _ _ _ _ _ _ _ _ _ (by omega) x5 z5 T5 G5
  · refine cutS 450 0 (n := 6) (hs := [1,1,1]) (c := (.call (.builtin "sum") ⟨[(.ref 210)], []⟩)) (idx := [1]) (Lf := fun F => [(210, oList zs ep1)]) rd (by decide) (by kernel_rfl) ?_; intro he te re Te Ge oe ze
    refine lf_sum vl oe.hd (Ge.nw _ (.head _)) md.1 hv hf ze ?_
    intro hg tg ug xg zg
    rw [hs]
    refine goS re _ [] xg zg (by kernel_rfl) ?_; intro _ rg
    refine agS 0 (n := 13) (hs := [13,13,13,13]) (c := (cComp (PP w b1 b2) (eDrawn (PP w b1 b2)) 170 171 172 [(sScript, 160)] 159)) (q := 9) (idx := [9,10,11,12,13,14,15]) (idn := []) (Lf := fun F => [(170, ⟨(.type "enumerate"), Option.none, (.fields #[.none, (.bool Bool.false), (.ref 169), (.int 3 0), .none, (.int 9 tc)]), #[]⟩), (169, ⟨(.type "tuple_iterator"), Option.none, (.fields #[(.ref 168), (.int 3 0)]), #[]⟩), (168, oTup [(.int 5 ta), (.int 6 tb), (.int 9 tc), (.int 12 td)]), (171, oList [(.int (d0 : Int) k0), (.int (d1 : Int) k1), (.int ((9 + D) : Int) ug)] (ez + 1)), (172, oD [⟨g1, .str ⟨#[107]⟩ g2, (.int 2 t0)⟩, ⟨g4, .str ⟨#[115,116,97,114,116]⟩ g5, (.int 9 tc)⟩] 2), (160, ⟨(.type "cell"), Option.none, (.cell (Option.some (.ref 158))), #[]⟩), (158, oList xs ep)]) (Nf := fun F => []) rg (by decide) (by kernel_rfl) ?_; intro h5 t5 x5 z5 T5 G5
    exact k h5 t5 (9 + D) _ _ _ _ _ _ _ _ _ (by omega) x5 z5 T5 G5)

theorem drawn_turn3 {xs : List Value} {ep ez : Nat} {ta tb tc td : Tok} {v5 : Value} {d0 d1 d2 : Nat} {k0 k1 k2 : Tok} {g1 : Int} {g2 : Tok} {g3 : Value} {g4 : Int} {g5 : Tok} {g6 : Value} (hA : Okk A 400) (T : Tp (kP w b1 b2) h)
    (G : Giv (kP w b1 b2) h (drawnL xs ep ta tb tc td 3 v5 [.int (d0 : Nat) k0, .int (d1 : Nat) k1, .int (d2 : Nat) k2] ez (some (g1, g2, g3, g4, g5, g6)))) (hN : h.objs.size = 218)
    (hz : xs.length ≤ 1000) (hx : ∀ v ∈ xs, ∃ a t, v = Value.int a t)
    (k : ∀ h' t' (d3 : Nat) k3 v5 ez g1 g2 g3 g4 g5 g6, d3 < 30000 → Af h (drawnL xs ep ta tb tc td 4 v5 [.int (d0 : Nat) k0, .int (d1 : Nat) k1, .int (d2 : Nat) k2, .int (d3 : Nat) k3] ez (some (g1, g2, g3, g4, g5, g6))) [] h' → h'.objs.size = 233 → Tp (kP w b1 b2) h' → Giv (kP w b1 b2) h' (drawnL xs ep ta tb tc td 4 v5 [.int (d0 : Nat) k0, .int (d1 : Nat) k1, .int (d2 : Nat) k2, .int (d3 : Nat) k3] ez (some (g1, g2, g3, g4, g5, g6))) →
      CA w b1 b2 A (cComp (PP w b1 b2) (eDrawn (PP w b1 b2)) 170 171 172 [(sScript, 160)] 159) R ⟨h', gs, dr, t', os⟩) :
    CA w b1 b2 A (cComp (PP w b1 b2) (eDrawn (PP w b1 b2)) 170 171 172 [(sScript, 160)] 159) R ⟨h, gs, dr, t0, os⟩ := by
  revert b1
  refine @bothB _ ?_ ?_ <;> set_option tactic.hygienic false in intros
  all_goals (
  refine goC hA T G (by kernel_rfl) ?_; intro _ _ r
  rw [hN] at r
  refine cutS 450 5 (n := 115) (hs := [1,1,1,2,2,2,2,3,2,2,1,1,1,1,1,1,2,2,2,2,2,2,2,2,2,2,2,1,1,1,1,1,1,1,1,1,2,1,1,1,1,1,1,2,1,1,1,1,1,1,2,1,1,1,9,9,9,9,9,0,0,10,9,12,12,12]) (c := (.call (.builtin "list.__getitem__") ⟨[(.ref 158), (.ref 222)], []⟩)) (idx := [0,11]) (Lf := fun F => [(222, ⟨(.type "slice"), Option.none, (.fields #[(.int 3 t0), (.int 24 (t0 + 3)), (.int 4 (t0 + 4))]), #[]⟩), (158, oList xs ep)]) r (by decide) (by kernel_rfl) ?_; intro ha ta' ra Ta Ga oa za
  refine lf_slice (Ga.nw _ (.tail _ (.head _))) (Ga.nw _ (.head _)) (.int _ _) (.int _ _) (by intro i e; cases e; decide) hz za ?_
  intro hb ys hy hl xb zb
  refine goS ra _ [] xb zb (by kernel_rfl) ?_; intro _ rb
  refine cutS 450 3 (n := 13) (hs := [1,1,1,1]) (c := (.compStart (eMod16 (PP w b1 b2)) 0 (.ref 224) (.ref 225) (envL (PP w b1 b2) (eMod16 (PP w b1 b2)) 226 ([]) (159)))) (idx := [2,1,0,3]) (Lf := fun F => [(224, oLit 223 0), (225, oList [] 0), (226, oD [] 0), (223, oList ys 0)]) rb (by decide) (by kernel_rfl) ?_; intro hc tc' rc Tc Gc oc zc
  refine comp_start (by kernel_rfl) (.list ⟨_, Gc.nw _ (.head _), rfl⟩) ?_
  refine mod16_loop oc (by omega) (fun v hv => hx v (hy v hv)) ys.length 0 [] 0 none _ _ rfl (Nat.zero_le _) ⟨rfl, fun _ hj => (nomatch hj)⟩ Tc Gc ?_
  intro hd td' zs ep1 ox md xd zd
  rw [zc] at zd
  obtain ⟨vl, D, hv, hf, hs, hD⟩ := mods_sum md hl (by decide) (by decide)
  refine goS rc _ [2,1,0,3] xd zd (by kernel_rfl) ?_; intro _ rd
  obtain _ | ⟨u1, u2, u3⟩ := ox
  · refine cutS 450 0 (n := 2) (hs := [1]) (c := (.call (.builtin "sum") ⟨[(.ref 225)], []⟩)) (idx := [1]) (Lf := fun F => [(225, oList zs ep1)]) rd (by decide) (by kernel_rfl) ?_; intro he te re Te Ge oe ze
    refine lf_sum vl oe.hd (Ge.nw _ (.head _)) md.1 hv hf ze ?_
    intro hg tg ug xg zg
    rw [hs]
    refine goS re _ [] xg zg (by kernel_rfl) ?_; intro _ rg
    refine agS 0 (n := 13) (hs := [13,13,13,13]) (c := (cComp (PP w b1 b2) (eDrawn (PP w b1 b2)) 170 171 172 [(sScript, 160)] 159)) (q := 9) (idx := [9,10,11,12,13,14,15]) (idn := []) (Lf := fun F => [(170, ⟨(.type "enumerate"), Option.none, (.fields #[.none, (.bool Bool.false), (.ref 169), (.int 4 0), .none, (.int 12 td)]), #[]⟩), (169, ⟨(.type "tuple_iterator"), Option.none, (.fields #[(.ref 168), (.int 4 0)]), #[]⟩), (168, oTup [(.int 5 ta), (.int 6 tb), (.int 9 tc), (.int 12 td)]), (171, oList [(.int (d0 : Int) k0), (.int (d1 : Int) k1), (.int (d2 : Int) k2), (.int ((12 + D) : Int) ug)] (ez + 1)), (172, oD [⟨g1, .str ⟨#[107]⟩ g2, (.int 3 t0)⟩, ⟨g4, .str ⟨#[115,116,97,114,116]⟩ g5, (.int 12 td)⟩] 2), (160, ⟨(.type "cell"), Option.none, (.cell (Option.some (.ref 158))), #[]⟩), (158, oList xs ep)]) (Nf := fun F => []) rg (by decide) (by kernel_rfl) ?_; intro h5 t5 x5 z5 T5 G5
    exact k h5 t5 (12 + D) _ _ _ _ _ _ _ _ _ (by omega) x5 z5 T5 G5
  · refine cutS 450 0 (n := 6) (hs := [1,1,1]) (c := (.call (.builtin "sum") ⟨[(.ref 225)], []⟩)) (idx := [1]) (Lf := fun F => [(225, oList zs ep1)]) rd (by decide) (by kernel_rfl) ?_; intro he te re Te Ge oe ze
    refine lf_sum vl oe.hd (Ge.nw _ (.head _)) md.1 hv hf ze ?_
    intro hg tg ug xg zg
    rw [hs]
    refine goS re _ [] xg zg (by kernel_rfl) ?_; intro _ rg
    refine agS 0 (n := 13) (hs := [13,13,13,13]) (c := (cComp (PP w b1 b2) (eDrawn (PP w b1 b2)) 170 171 172 [(sScript, 160)] 159)) (q := 9) (idx := [9,10,11,12,13,14,15]) (idn := []) (Lf := fun F => [(170, ⟨(.type "enumerate"), Option.none, (.fields #[.none, (.bool Bool.false), (.ref 169), (.int 4 0), .none, (.int 12 td)]), #[]⟩), (169, ⟨(.type "tuple_iterator"), Option.none, (.fields #[(.ref 168), (.int 4 0)]), #[]⟩), (168, oTup [(.int 5 ta), (.int 6 tb), (.int 9 tc), (.int 12 td)]), (171, oList [(.int (d0 : Int) k0), (.int (d1 : Int) k1), (.int (d2 : Int) k2), (.int ((12 + D) : Int) ug)] (ez + 1)), (172, oD [⟨g1, .str ⟨#[107]⟩ g2, (.int 3 t0)⟩, ⟨g4, .str ⟨#[115,116,97,114,116]⟩ g5, (.int 12 td)⟩] 2), (160, ⟨(.type "cell"), Option.none, (.cell (Option.some (.ref 158))), #[]⟩), (158, oList xs ep)]) (Nf := fun F => []) rg (by decide) (by kernel_rfl) ?_; intro h5 t5 x5 z5 T5 G5
    exact k h5 t5 (12 + D) _ _ _ _ _ _ _ _ _ (by omega) x5 z5 T5 G5)
end
end Mine
end
section
open PySem PySem.W PyProof.Rows PySem.W.X
namespace Mine
section
variable {w : World} {b1 b2 : Bool} {A : Around} {R : Result → Shared → Prop} {h : Heap} {gs : Array GenState} {dr : Drawn} {t0 : Nat} {os : OsState}
noncomputable abbrev oEnumX (o1 v5 : Value) (i : Int) : Obj := ⟨.type "enumerate", none, .fields #[.none, .bool false, o1, rawInt i, .none, v5], #[]⟩
theorem drawn_end {xs : List Value} {ep ez : Nat} {ta tb tc td : Tok} {v5 : Value} {d0 d1 d2 d3 : Nat} {k0 k1 k2 k3 : Tok} {g1 : Int} {g2 : Tok} {g3 : Value} {g4 : Int} {g5 : Tok} {g6 : Value} (hA : Okk A 400) (T : Tp (kP w b1 b2) h)
    (G : Giv (kP w b1 b2) h (drawnL xs ep ta tb tc td 4 v5 [.int (d0 : Nat) k0, .int (d1 : Nat) k1, .int (d2 : Nat) k2, .int (d3 : Nat) k3] ez (some (g1, g2, g3, g4, g5, g6)))) (hN : h.objs.size = 233)
    (k : ∀ h' t' o170 o169, Af h [(170, o170), (169, o169), (168, oTup [.int 5 ta, .int 6 tb, .int 9 tc, .int 12 td]), (171, oList [.int (d0 : Nat) k0, .int (d1 : Nat) k1, .int (d2 : Nat) k2, .int (d3 : Nat) k3] ez), (172, oKS (some (g1, g2, g3, g4, g5, g6))), (160, oCell (.ref 158)), (158, oList xs ep)] [] h' → h'.objs.size = 235 → R (.ok .next) ⟨h', gs, dr, t', os⟩) :
    CA w b1 b2 A (cComp (PP w b1 b2) (eDrawn (PP w b1 b2)) 170 171 172 [(sScript, 160)] 159) R ⟨h, gs, dr, t0, os⟩ := by
  revert b1
  refine @bothB _ ?_ ?_ <;> set_option tactic.hygienic false in intros
  all_goals (
  refine goC hA T G (by kernel_rfl) ?_; intro _ _ r
  rw [hN] at r
  refine endS 2 (n := 22) (hs := [1,1,1,2,2,2,2,3,2,2,1]) (fl := .next) (q := 2) (idx := [2,3,4,5,6,7,8]) (idn := []) (Lf := fun F => [(170, ⟨(.type "enumerate"), Option.none, (.fields #[.none, (.bool Bool.false), (.ref 169), (.int 4 0), .none, v5]), #[]⟩), (169, ⟨(.type "tuple_iterator"), Option.none, (.fields #[.none, (.int 4 0)]), #[]⟩), (168, oTup [(.int 5 ta), (.int 6 tb), (.int 9 tc), (.int 12 td)]), (171, oList [(.int (d0 : Int) k0), (.int (d1 : Int) k1), (.int (d2 : Int) k2), (.int (d3 : Int) k3)] ez), (172, oD [⟨g1, .str ⟨#[107]⟩ g2, g3⟩, ⟨g4, .str ⟨#[115,116,97,114,116]⟩ g5, g6⟩] 2), (160, ⟨(.type "cell"), Option.none, (.cell (Option.some (.ref 158))), #[]⟩), (158, oList xs ep)]) (Nf := fun F => []) r (by decide) (by kernel_rfl) ?_; intro h1 t1 x1 z1
  exact k _ _ _ _ x1 z1)
theorem drawn_comp {xs : List Value} {ep : Nat} {ta tb tc td : Tok} (hA : Okk A 400) (T : Tp (kP w b1 b2) h)
    (G : Giv (kP w b1 b2) h (drawnL xs ep ta tb tc td 0 .none [] 0 none)) (hN : h.objs.size = 173)
    (hz : xs.length ≤ 1000) (hx : ∀ v ∈ xs, ∃ a t, v = Value.int a t)
    (k : ∀ h' t' o170 o169 (d0 d1 d2 d3 : Nat) k0 k1 k2 k3 ez g1 g2 g3 g4 g5 g6, d0 < 30000 → d1 < 30000 → d2 < 30000 → d3 < 30000 → Af h [(170, o170), (169, o169), (168, oTup [.int 5 ta, .int 6 tb, .int 9 tc, .int 12 td]), (171, oList [.int (d0 : Nat) k0, .int (d1 : Nat) k1, .int (d2 : Nat) k2, .int (d3 : Nat) k3] ez), (172, oKS (some (g1, g2, g3, g4, g5, g6))), (160, oCell (.ref 158)), (158, oList xs ep)] [] h' → h'.objs.size = 235 → R (.ok .next) ⟨h', gs, dr, t', os⟩) :
    CA w b1 b2 A (cComp (PP w b1 b2) (eDrawn (PP w b1 b2)) 170 171 172 [(sScript, 160)] 159) R ⟨h, gs, dr, t0, os⟩ := by
  refine drawn_turn0 hA T G hN hz hx fun h1 t1 d0 k0 v1 e1 a1 a2 a3 a4 a5 a6 l0 x1 z1 T1 G1 => ?_
  refine drawn_turn1 hA T1 G1 z1 hz hx fun h2 t2 d1 k1 v2 e2 a1 a2 a3 a4 a5 a6 l1 x2 z2 T2 G2 => ?_
  refine drawn_turn2 hA T2 G2 z2 hz hx fun h3 t3 d2 k2 v3 e3 a1 a2 a3 a4 a5 a6 l2 x3 z3 T3 G3 => ?_
  refine drawn_turn3 hA T3 G3 z3 hz hx fun h4 t4 d3 k3 v4 e4 a1 a2 a3 a4 a5 a6 l3 x4 z4 T4 G4 => ?_
  refine drawn_end hA T4 G4 z4 fun h5 t5 o170 o169 x5 z5 => ?_
  exact k h5 t5 o170 o169 d0 d1 d2 d3 k0 k1 k2 k3 e4 a1 a2 a3 a4 a5 a6 l0 l1 l2 l3 ((((x1.trans x2 rfl).trans x3 rfl).trans x4 rfl).trans x5 rfl) z5
noncomputable def restT (c : Code) : Sem PySem.Fin := match den c with
  | .point _ k => k ()
  | t => t
noncomputable def dropS : Nat → List Stmt → List Stmt
  | 0, l => l
  | _ + 1, [] => []
  | n + 1, _ :: l => dropS n l
noncomputable def sDrawn : Str := ⟨#[100,114,97,119,110]⟩
noncomputable def sDeal : Str := ⟨#[100,101,97,108]⟩
noncomputable def sEnd : Str := ⟨#[101,110,100]⟩
noncomputable def sShift : Str := ⟨#[115,104,105,102,116]⟩
noncomputable def sCells : Str := ⟨#[99,101,108,108,115]⟩
noncomputable def sReader : Str := ⟨#[114,101,97,100,101,114]⟩
noncomputable def sTold : Str := ⟨#[116,111,108,100]⟩
noncomputable def sPairs : Str := ⟨#[112,97,105,114,115]⟩
noncomputable def sNames : Str := ⟨#[110,97,109,101,115]⟩
noncomputable def sBoard : Str := ⟨#[98,111,97,114,100]⟩
noncomputable def sRest : Str := ⟨#[114,101,115,116]⟩
noncomputable def sRooks : Str := ⟨#[114,111,111,107,115]⟩
noncomputable def sLast : Str := ⟨#[108,97,115,116]⟩
noncomputable def sOthers : Str := ⟨#[111,116,104,101,114,115]⟩
noncomputable def sBehind : Str := ⟨#[98,101,104,105,110,100]⟩
noncomputable def sColumn : Str := ⟨#[99,111,108,117,109,110]⟩
noncomputable def sCell : Str := ⟨#[99,101,108,108]⟩
noncomputable def sTurn : Str := ⟨#[116,117,114,110]⟩
noncomputable def sColumns : Str := ⟨#[99,111,108,117,109,110,115]⟩
noncomputable def sWord : Str := ⟨#[119,111,114,100]⟩
noncomputable def sPair : Str := ⟨#[112,97,105,114]⟩
noncomputable abbrev envLaw (P : Params) : Env := { scope := scopeAt P 157, locals := 159, globals := 3, cells := [(sOthers, 167), (sRooks, 166), (sTold, 165), (sReader, 164), (sShift, 163), (sEnd, 162), (sDrawn, 161), (sScript, 160)], qual := qLaw, func := some 157, code := .ref 156, frame := some 159 }
/-- the law's body from its n-th statement on -/
noncomputable abbrev lawC (P : Params) (n : Nat) : Code := .func (dropS n (bodyAt P 157)) (envLaw P)
/-- the law stands before its n-th statement -/
noncomputable abbrev lawF (P : Params) (n d : Nat) (L : List (Addr × Obj)) : Cf := ⟨lawC P 0, [], restT (lawC P n), d, 0, 0, L⟩
noncomputable abbrev lawL (tab : Obj) (es : List DictEntry) (ee : Nat) (cO cR cT cRd cS cE cD : Obj) (xs : List Value) (ep : Nat) : List (Addr × Obj) := [(159, oFr es ee), (167, cO), (166, cR), (165, cT), (164, cRd), (163, cS), (162, cE), (161, cD), (160, oCell (.ref 158)), (130, tab), (158, oList xs ep)]
/-- the run stands before one of the law's statements -/
theorem toL (mm : Nat) {c : Code} {dp : Nat} {d : Nat} {hB : Heap} {ks : List Addr} {f : Cf} {N t n : Nat} {hs : List Nat} {T : Sem PySem.Fin} {q : Nat} {idx idn : List Nat} {Lf Nf : Cf → List (Addr × Obj)} (r : Ok w b1 b2 A R d hB ks f h N t) (hi : (idn ++ idx).Nodup)
    (hk : (okk (bS w b1 b2 d N t) n hs f, e1 (bS w b1 b2 d N t) n hs f, (rn (bS w b1 b2 d N t) n hs f).t, picks (rn (bS w b1 b2 d N t) n hs f).news idx, picks (rn (bS w b1 b2 d N t) n hs f).news idn, idn.all (Nat.blt · q), ((rn (bS w b1 b2 d N t) n hs f).news.map (·.1)).drop q, (Lf (rn (bS w b1 b2 d N t) n hs f)).map (·.1), (rn (bS w b1 b2 d N t) n hs f).m)
      = (true, e2 (bS w b1 b2 d N t) n hs f, T, (Lf (rn (bS w b1 b2 d N t) n hs f)).map some, (Nf (rn (bS w b1 b2 d N t) n hs f)).map some, true, ks, ks, mm))
    (hc : ((rn (bS w b1 b2 d N t) n hs f).c, (rn (bS w b1 b2 d N t) n hs f).κ, (rn (bS w b1 b2 d N t) n hs f).dep) = (c, [], dp))
    (k : ∀ h' t1, Ok w b1 b2 A R d hB ks ⟨c, [], T, dp, 0, 0, Nf (rn (bS w b1 b2 d N t) n hs f) ++ Lf (rn (bS w b1 b2 d N t) n hs f)⟩ h' (N + mm) t1 →
      MnS w b1 b2 A R ⟨c, [], T, dp, 0, 0, Nf (rn (bS w b1 b2 d N t) n hs f) ++ Lf (rn (bS w b1 b2 d N t) n hs f)⟩ ⟨h', gs, dr, t1, os⟩) :
    MnS w b1 b2 A R f ⟨h, gs, dr, t + f.i, os⟩ := by
  refine toS mm r hi hk fun h' t1 r' => ?_
  simp only [Prod.mk.injEq] at hc
  obtain ⟨c1, c2, c3⟩ := hc
  rw [c1, c2, c3] at r' ⊢
  exact k h' t1 r'
theorem st0 {tab : Obj} {xs : List Value} {ep : Nat} (hA : Okk A 350) (T : Tp (kP w b1 b2) h) (G : Giv (kP w b1 b2) h [(130, tab), (158, oList xs ep)]) (hN : h.objs.size = 159) (hz : xs.length ≤ 1000) (hx : ∀ v ∈ xs, ∃ a t, v = Value.int a t)
    (k : ∀ h' t' (d0 d1 d2 d3 : Nat) k0 k1 k2 k3 ez, d0 < 30000 → d1 < 30000 → d2 < 30000 → d3 < 30000 →
      Ok w b1 b2 A R 350 h [130,158] (lawF (PP w b1 b2) 1 351 ((171, oList [.int (d0 : Nat) k0, .int (d1 : Nat) k1, .int (d2 : Nat) k2, .int (d3 : Nat) k3] ez) :: lawL tab [] 0 oCell0 oCell0 oCell0 oCell0 oCell0 oCell0 (oCell (.ref 171)) xs ep)) h' 235 t' →
      MnS w b1 b2 A R (lawF (PP w b1 b2) 1 351 ((171, oList [.int (d0 : Nat) k0, .int (d1 : Nat) k1, .int (d2 : Nat) k2, .int (d3 : Nat) k3] ez) :: lawL tab [] 0 oCell0 oCell0 oCell0 oCell0 oCell0 oCell0 (oCell (.ref 171)) xs ep)) ⟨h', gs, dr, t', os⟩) :
    CA w b1 b2 A (.call (.ref 157) ⟨[.ref 158], []⟩) R ⟨h, gs, dr, t0, os⟩ := by
  revert b1
  refine @bothB _ ?_ ?_ <;> set_option tactic.hygienic false in intros
  all_goals (
  refine goC hA T G (by kernel_rfl) ?_; intro _ _ r
  rw [hN] at r
  refine cutS 370 10 (n := 28) (hs := [0,0,8,8,0,0]) (c := (.call (.builtin "enumerate.__new__") ⟨[(.type "enumerate"), (.ref 168)], []⟩)) (idx := [0]) (Lf := fun F => [(168, oTup [(.int 5 t0), (.int 6 (t0 + 1)), (.int 9 (t0 + 2)), (.int 12 (t0 + 3))])]) r (by decide) (by kernel_rfl) ?_; intro h1 t1 r1 T1 G1 o1 z1
  refine lf_enum (G1.nw _ (.head _)) z1 ?_
  intro h2 x2 z2
  refine goS r1 _ [] x2 z2 (by kernel_rfl) ?_; intro _ r2
  refine cutS 400 2 (n := 20) (hs := [1,1,1,1,1,1,1,1]) (c := (.compStart (eDrawn (PP w b1 b2)) 0 (.ref 170) (.ref 171) (envL (PP w b1 b2) (eDrawn (PP w b1 b2)) 172 ([(sScript, 160)]) (159)))) (idx := [2,3,4,1,0,12,15]) (Lf := fun F => [(170, ⟨(.type "enumerate"), Option.none, (.fields #[.none, (.bool Bool.false), (.ref 169), (.int 0 0), .none, .none]), #[]⟩), (169, ⟨(.type "tuple_iterator"), Option.none, (.fields #[(.ref 168), (.int 0 0)]), #[]⟩), (168, oTup [(.int 5 t0), (.int 6 (t0 + 1)), (.int 9 (t0 + 2)), (.int 12 (t0 + 3))]), (171, oList [] 0), (172, oD [] 0), (160, ⟨(.type "cell"), Option.none, (.cell (Option.some (.ref 158))), #[]⟩), (158, oList xs ep)]) r2 (by decide) (by kernel_rfl) ?_; intro h3 t3 r3 T3 G3 o3 z3
  refine comp_start (by kernel_rfl) (.enum ⟨_, G3.nw _ (.head _), rfl⟩) ?_
  refine drawn_comp o3 T3 G3 z3 hz hx ?_
  intro h4 t4 o170 o169 d0 d1 d2 d3 k0 k1 k2 k3 ez g1 g2 g3 g4 g5 g6 l0 l1 l2 l3 x4 z4
  refine goS r3 _ [2,3,4,1,0,12,15] x4 z4 (by kernel_rfl) ?_; intro _ r4
  refine toL 0 (n := 15) (hs := [1,1,1,1,1,1,12,12]) (T := restT (lawC (PP w b1 b2) 1)) (c := lawC (PP w b1 b2) 0) (dp := 351) (q := 14) (idx := [14,15]) (idn := [1,13,5,6,7,8,9,10,11,12]) (Lf := fun F => [(130, tab), (158, oList xs ep)]) (Nf := fun F => [(171, oList [(.int (d0 : Int) k0), (.int (d1 : Int) k1), (.int (d2 : Int) k2), (.int (d3 : Int) k3)] ez), (159, oFr [] 0), (167, ⟨(.type "cell"), Option.none, (.cell Option.none), #[]⟩), (166, ⟨(.type "cell"), Option.none, (.cell Option.none), #[]⟩), (165, ⟨(.type "cell"), Option.none, (.cell Option.none), #[]⟩), (164, ⟨(.type "cell"), Option.none, (.cell Option.none), #[]⟩), (163, ⟨(.type "cell"), Option.none, (.cell Option.none), #[]⟩), (162, ⟨(.type "cell"), Option.none, (.cell Option.none), #[]⟩), (161, ⟨(.type "cell"), Option.none, (.cell (Option.some (.ref 171))), #[]⟩), (160, ⟨(.type "cell"), Option.none, (.cell (Option.some (.ref 158))), #[]⟩)]) r4 (by decide) (by kernel_rfl) (by kernel_rfl) ?_; intro h5 t5 r5
  exact k _ _ d0 d1 d2 d3 k0 k1 k2 k3 ez l0 l1 l2 l3 r5)
end
end Mine
end
section
open PySem PySem.W PyProof.Rows PySem.W.X
namespace Mine
section
variable {w : World} {b1 b2 : Bool} {A : Around} {R : Result → Shared → Prop} {hB h : Heap} {gs : Array GenState} {dr : Drawn} {t0 N : Nat} {os : OsState}
noncomputable abbrev OkL (w : World) (b1 b2 : Bool) (A : Around) (R : Result → Shared → Prop) (hB : Heap) (n : Nat) (L : List (Addr × Obj)) (h : Heap) (N t : Nat) : Prop := Ok w b1 b2 A R 350 hB [130,158] (lawF (PP w b1 b2) n 351 L) h N t
noncomputable abbrev GoL (w : World) (b1 b2 : Bool) (A : Around) (R : Result → Shared → Prop) (n : Nat) (L : List (Addr × Obj)) (s : Shared) : Prop := MnS w b1 b2 A R (lawF (PP w b1 b2) n 351 L) s
/-- deal -/
theorem st1 {tab o1 cD : Obj} {xs : List Value} {ep : Nat} (hz : xs.length ≤ 1000) (hx : ∀ v ∈ xs, ∃ a t, v = Value.int a t)
    (r : OkL w b1 b2 A R hB 1 ((171, o1) :: lawL tab [] 0 oCell0 oCell0 oCell0 oCell0 oCell0 oCell0 cD xs ep) h N t0)
    (k : ∀ h' N' t' (D : Nat) hd kd td, D < 24000 → OkL w b1 b2 A R hB 2 ((171, o1) :: lawL tab [⟨hd, .str sDeal kd, .int (D : Int) td⟩] 1 oCell0 oCell0 oCell0 oCell0 oCell0 oCell0 cD xs ep) h' N' t' →
      GoL w b1 b2 A R 2 ((171, o1) :: lawL tab [⟨hd, .str sDeal kd, .int (D : Int) td⟩] 1 oCell0 oCell0 oCell0 oCell0 oCell0 oCell0 cD xs ep) ⟨h', gs, dr, t', os⟩) :
    GoL w b1 b2 A R 1 ((171, o1) :: lawL tab [] 0 oCell0 oCell0 oCell0 oCell0 oCell0 oCell0 cD xs ep) ⟨h, gs, dr, t0, os⟩ := by
  revert b1
  refine @bothB _ ?_ ?_ <;> set_option tactic.hygienic false in intros
  all_goals (
  refine cutS 450 1 (n := 12) (hs := [0,0,10,13,13,13]) (c := (.call (.builtin "list.__getitem__") ⟨[(.ref 158), (.ref N)], []⟩)) (idx := [0,12]) (Lf := fun F => [(N, ⟨(.type "slice"), Option.none, (.fields #[.none, (.int 24 t0), .none]), #[]⟩), (158, oList xs ep)]) r (by decide) (by kernel_rfl) ?_; intro ha ta ra Ta Ga oa za
  refine lf_slice (Ga.nw _ (.tail _ (.head _))) (Ga.nw _ (.head _)) .none .none (by intro i e; cases e) hz za ?_
  intro hb ys hy hl xb zb
  refine goS ra _ [] xb zb (by kernel_rfl) ?_; intro _ rb
  refine cutS 450 3 (n := 13) (hs := [1,1,1,1]) (c := (.compStart (eMod840 (PP w b1 b2)) 0 (.ref (N + 1 + 1 + 0)) (.ref (N + 1 + 1 + 1)) (envL (PP w b1 b2) (eMod840 (PP w b1 b2)) (N + 1 + 1 + 2) ([]) (159)))) (idx := [2,1,0,3]) (Lf := fun F => [((N + 1 + 1 + 0), oLit (N + 1) 0), ((N + 1 + 1 + 1), oList [] 0), ((N + 1 + 1 + 2), oD [] 0), ((N + 1), oList ys 0)]) rb (by decide) (by kernel_rfl) ?_; intro hc tc' rc Tc Gc oc zc
  refine comp_start (by kernel_rfl) (.list ⟨_, Gc.nw _ (.head _), rfl⟩) ?_
  refine mod840_loop oc (by omega) (fun v hv => hx v (hy v hv)) ys.length 0 [] 0 none _ _ rfl (Nat.zero_le _) ⟨rfl, fun _ hj => (nomatch hj)⟩ Tc Gc ?_
  intro hd td' zs ep1 ox md xd zd
  rw [zc] at zd
  obtain ⟨vl, D, hv, hf, hs, hD⟩ := mods_sum md hl (by decide) (by decide)
  refine goS rc _ [2,1,0,3] xd zd (by kernel_rfl) ?_; intro _ rd
  obtain _ | ⟨u1, u2, u3⟩ := ox
  · refine cutS 450 0 (n := 2) (hs := [1]) (c := (.call (.builtin "sum") ⟨[(.ref (N + 3))], []⟩)) (idx := [1]) (Lf := fun F => [((N + 3), oList zs ep1)]) rd (by decide) (by kernel_rfl) ?_; intro he te re Te Ge oe ze
    refine lf_sum vl oe.hd (Ge.nw _ (.head _)) md.1 hv hf ze ?_
    intro hg tg ug xg zg
    rw [hs]
    refine goS re _ [] xg zg (by kernel_rfl) ?_; intro _ rg
    refine toL 0 (n := 8) (hs := [7,7]) (T := restT (lawC (PP w b1 b2) 2)) (c := lawC (PP w b1 b2) 0) (dp := 351) (q := 15) (idx := [15,16]) (idn := [5,6,7,8,9,10,11,12,13,14]) (Lf := fun F => [(130, tab), (158, oList xs ep)]) (Nf := fun F => [(171, o1), (159, oFr [⟨hOf F 6 0, .str ⟨#[100,101,97,108]⟩ (kOf F 6 0), (.int (D : Int) tg)⟩] 1), (167, ⟨(.type "cell"), Option.none, (.cell Option.none), #[]⟩), (166, ⟨(.type "cell"), Option.none, (.cell Option.none), #[]⟩), (165, ⟨(.type "cell"), Option.none, (.cell Option.none), #[]⟩), (164, ⟨(.type "cell"), Option.none, (.cell Option.none), #[]⟩), (163, ⟨(.type "cell"), Option.none, (.cell Option.none), #[]⟩), (162, ⟨(.type "cell"), Option.none, (.cell Option.none), #[]⟩), (161, cD), (160, ⟨(.type "cell"), Option.none, (.cell (Option.some (.ref 158))), #[]⟩)]) rg (by decide) (by kernel_rfl) (by kernel_rfl) ?_; intro h5 t5 r5
    exact k _ _ _ D _ _ _ hD r5
  · refine cutS 450 0 (n := 6) (hs := [1,1,1]) (c := (.call (.builtin "sum") ⟨[(.ref (N + 3))], []⟩)) (idx := [1]) (Lf := fun F => [((N + 3), oList zs ep1)]) rd (by decide) (by kernel_rfl) ?_; intro he te re Te Ge oe ze
    refine lf_sum vl oe.hd (Ge.nw _ (.head _)) md.1 hv hf ze ?_
    intro hg tg ug xg zg
    rw [hs]
    refine goS re _ [] xg zg (by kernel_rfl) ?_; intro _ rg
    refine toL 0 (n := 8) (hs := [7,7]) (T := restT (lawC (PP w b1 b2) 2)) (c := lawC (PP w b1 b2) 0) (dp := 351) (q := 15) (idx := [15,16]) (idn := [5,6,7,8,9,10,11,12,13,14]) (Lf := fun F => [(130, tab), (158, oList xs ep)]) (Nf := fun F => [(171, o1), (159, oFr [⟨hOf F 6 0, .str ⟨#[100,101,97,108]⟩ (kOf F 6 0), (.int (D : Int) tg)⟩] 1), (167, ⟨(.type "cell"), Option.none, (.cell Option.none), #[]⟩), (166, ⟨(.type "cell"), Option.none, (.cell Option.none), #[]⟩), (165, ⟨(.type "cell"), Option.none, (.cell Option.none), #[]⟩), (164, ⟨(.type "cell"), Option.none, (.cell Option.none), #[]⟩), (163, ⟨(.type "cell"), Option.none, (.cell Option.none), #[]⟩), (162, ⟨(.type "cell"), Option.none, (.cell Option.none), #[]⟩), (161, cD), (160, ⟨(.type "cell"), Option.none, (.cell (Option.some (.ref 158))), #[]⟩)]) rg (by decide) (by kernel_rfl) (by kernel_rfl) ?_; intro h5 t5 r5
    exact k _ _ _ D _ _ _ hD r5)

end
end Mine
end
section
open PySem PySem.W PyProof.Rows PySem.W.X
namespace Mine
section
variable {prog : Program} {w : World} {A : Around} {R : Result → Shared → Prop} {h : Heap} {gs : Array GenState} {dr : Drawn} {t0 N : Nat} {os : OsState}
theorem lf_int {name : Str} {id : String} {B : Builtin} {a b v : Int} {t u : Tok} (slot : Slot "int" name id) (en : entryFor table id = some B) (ar : argsOk id ⟨[.int a t, .int b u], []⟩) (g : Gives (B ⟨[.int a t, .int b u], []⟩) (.int v)) (hN : h.objs.size = N)
    (k : ∀ h' tok tk, Af h [] [] h' → h'.objs.size = N → R (.ok (.ret (.int v tok))) ⟨h', gs, dr, tk, os⟩) :
    codeAny (model prog w) A (.call (.builtin id) ⟨[.int a t, .int b u], []⟩) R ⟨h, gs, dr, t0, os⟩ :=
  cut_meets slot (typeIs_int _ a t) en ar g.meets (k h _ _ (af_refl h) hN)
theorem lf_val {name : Str} {id : String} {B : Builtin} {a b : Int} {v : Value} {t u : Tok} (slot : Slot "int" name id) (en : entryFor table id = some B) (ar : argsOk id ⟨[.int a t, .int b u], []⟩) (g : Gives (B ⟨[.int a t, .int b u], []⟩) (.val v)) (hN : h.objs.size = N)
    (k : ∀ h' tk, Af h [] [] h' → h'.objs.size = N → R (.ok (.ret v)) ⟨h', gs, dr, tk, os⟩) :
    codeAny (model prog w) A (.call (.builtin id) ⟨[.int a t, .int b u], []⟩) R ⟨h, gs, dr, t0, os⟩ :=
  cut_meets slot (typeIs_int _ a t) en ar g.meets (k h _ (af_refl h) hN)
theorem lf_mod {a b : Nat} {t u : Tok} (hb : 0 < b) (hN : h.objs.size = N)
    (k : ∀ h' tok tk, Af h [] [] h' → h'.objs.size = N → R (.ok (.ret (.int ((a % b : Nat) : Int) tok))) ⟨h', gs, dr, tk, os⟩) :
    codeAny (model prog w) A (.call (.builtin "int.__mod__") ⟨[.int (a : Int) t, .int (b : Int) u], []⟩) R ⟨h, gs, dr, t0, os⟩ := by
  have e : ((a % b : Nat) : Int) = (a : Int).fmod (b : Int) := by
    rw [Int.fmod_eq_emod_of_nonneg _ (Int.natCast_nonneg b)]
    exact Int.natCast_emod a b
  have hb' : ¬ (((b : Int)) == 0) = true := by
    intro e
    have : (b : Int) = 0 := by simpa using e
    omega
  refine lf_int F.slot_int_mod F.entry_int_mod (F.args_int_mod_2 _ _) (AutoIntG6.int___mod___int_int_1 _ _ _ _ hb') hN fun h' tok tk x z => ?_
  rw [← e]
  exact k h' tok tk x z
theorem rshift_eq (a c : Nat) : ((a / 2 ^ c : Nat) : Int) = (a : Int).fdiv (2 ^ ((c : Int)).toNat) := by
  have e1 : ((2 : Int) ^ ((c : Int)).toNat) = ((2 ^ c : Nat) : Int) := by simp
  rw [e1, Int.fdiv_eq_ediv_of_nonneg _ (Int.natCast_nonneg _)]
  exact Int.natCast_ediv a (2 ^ c)
theorem lf_rshift {a c : Nat} {t u : Tok} (hN : h.objs.size = N)
    (k : ∀ h' tok tk, Af h [] [] h' → h'.objs.size = N → R (.ok (.ret (.int ((a / 2 ^ c : Nat) : Int) tok))) ⟨h', gs, dr, tk, os⟩) :
    codeAny (model prog w) A (.call (.builtin "int.__rshift__") ⟨[.int (a : Int) t, .int (c : Int) u], []⟩) R ⟨h, gs, dr, t0, os⟩ := by
  have h0 : ¬ ((c : Int) < 0) := by omega
  by_cases h1 : (c : Int) ≥ ((Builtin.Int.intBits (a : Int) : Nat) : Int)
  · refine lf_int F.slot_int_rshift F.entry_int_rshift (F.args_int_rshift_2 _ _) (AutoIntG9.int___rshift___int_int_1 _ _ _ _ h0 h1) hN fun h' tok tk x z => ?_
    have e : (if (a : Int) < 0 then (-1 : Int) else 0) = ((a / 2 ^ c : Nat) : Int) := by
      rw [if_neg (by omega)]
      have : a / 2 ^ c = 0 := by
        apply Nat.div_eq_of_lt
        unfold Builtin.Int.intBits at h1
        by_cases ha : a = 0
        · subst ha; exact Nat.two_pow_pos _
        · have ha' : ¬ (((a : Int)) == 0) = true := by simpa using ha
          rw [if_neg ha'] at h1
          have h2 : a.log2 + 1 ≤ c := by
            have : ((a : Int)).natAbs = a := Int.natAbs_natCast a
            rw [this] at h1
            omega
          exact Nat.lt_of_lt_of_le Nat.lt_log2_self (Nat.pow_le_pow_right (by decide) h2)
      rw [this]; rfl
    rw [e]
    exact k h' tok tk x z
  · refine lf_int F.slot_int_rshift F.entry_int_rshift (F.args_int_rshift_2 _ _) (AutoIntG0.int___rshift___int_int_2 _ _ _ _ h0 h1) hN fun h' tok tk x z => ?_
    rw [← rshift_eq]
    exact k h' tok tk x z
theorem lf_eqi {a b : Int} {t u : Tok} {v : Bool} (hv : (a == b) = v) (hN : h.objs.size = N)
    (k : ∀ h' tk, Af h [] [] h' → h'.objs.size = N → R (.ok (.ret (.bool v))) ⟨h', gs, dr, tk, os⟩) :
    codeAny (model prog w) A (.call (.builtin "int.__eq__") ⟨[.int a t, .int b u], []⟩) R ⟨h, gs, dr, t0, os⟩ := by
  subst hv
  exact lf_val F.slot_int_eq F.entry_int_eq (F.args_int_eq_2 _ _) (AutoIntG7.int___eq___int_int_0 _ _ _ _) hN k
end
end Mine
end
section
open PySem PySem.W PyProof.Rows PySem.W.X
namespace Mine
section
variable {w : World} {b1 b2 : Bool} {A : Around} {R : Result → Shared → Prop} {hB h : Heap} {gs : Array GenState} {dr : Drawn} {t0 N : Nat} {os : OsState}
noncomputable def endStr : Nat → Str
  | 0 => ⟨#[13]⟩
  | 1 => ⟨#[10]⟩
  | _ => ⟨#[13,10]⟩
theorem st2 {tab o1 cD : Obj} {xs : List Value} {ep : Nat} {D : Nat} {hd : Int} {kd td : Tok}
    (r : OkL w b1 b2 A R hB 2 ((171, o1) :: lawL tab [⟨hd, .str sDeal kd, .int (D : Int) td⟩] 1 oCell0 oCell0 oCell0 oCell0 oCell0 oCell0 cD xs ep) h N t0)
    (k : ∀ h' N' t' te (e : Nat), e < 3 → OkL w b1 b2 A R hB 3 ((171, o1) :: lawL tab [⟨hd, .str sDeal kd, .int (D : Int) td⟩] 1 oCell0 oCell0 oCell0 oCell0 oCell0 (oCell (.str (endStr e) te)) cD xs ep) h' N' t' →
      GoL w b1 b2 A R 3 ((171, o1) :: lawL tab [⟨hd, .str sDeal kd, .int (D : Int) td⟩] 1 oCell0 oCell0 oCell0 oCell0 oCell0 (oCell (.str (endStr e) te)) cD xs ep) ⟨h', gs, dr, t', os⟩) :
    GoL w b1 b2 A R 2 ((171, o1) :: lawL tab [⟨hd, .str sDeal kd, .int (D : Int) td⟩] 1 oCell0 oCell0 oCell0 oCell0 oCell0 oCell0 cD xs ep) ⟨h, gs, dr, t0, os⟩ := by
  revert b1
  refine @bothB _ ?_ ?_ <;> set_option tactic.hygienic false in intros
  all_goals (
  refine cutS 450 1 (n := 10) (hs := [3]) (c := (.call (.builtin "int.__mod__") ⟨[(.int (D : Int) td), (.int 3 (t0 + 3))], []⟩)) (idx := []) (Lf := fun F => []) r (by decide) (by kernel_rfl) ?_; intro ha ta ra Ta Ga oa za
  refine lf_mod (a := D) (b := 3) (by decide) za ?_
  intro hb ub tb xb zb
  have h3 : D % 3 = 0 ∨ D % 3 = 1 ∨ D % 3 = 2 := by omega
  rcases h3 with e | e | e
  · rw [e]
    refine goS ra _ [] xb zb (by kernel_rfl) ?_; intro _ rb
    refine toL 0 (n := 16) (hs := [1,1,1,1,1,9,9]) (T := restT (lawC (PP w b1 b2) 3)) (c := lawC (PP w b1 b2) 0) (dp := 351) (q := 11) (idx := [11,12]) (idn := [1,2,3,4,5,6,7,8,9,10]) (Lf := fun F => [(130, tab), (158, oList xs ep)]) (Nf := fun F => [(171, o1), (159, oFr [⟨hd, .str ⟨#[100,101,97,108]⟩ kd, (.int (D : Int) td)⟩] 1), (167, ⟨(.type "cell"), Option.none, (.cell Option.none), #[]⟩), (166, ⟨(.type "cell"), Option.none, (.cell Option.none), #[]⟩), (165, ⟨(.type "cell"), Option.none, (.cell Option.none), #[]⟩), (164, ⟨(.type "cell"), Option.none, (.cell Option.none), #[]⟩), (163, ⟨(.type "cell"), Option.none, (.cell Option.none), #[]⟩), (162, ⟨(.type "cell"), Option.none, (.cell (Option.some (.str ⟨#[13]⟩ t0))), #[]⟩), (161, cD), (160, ⟨(.type "cell"), Option.none, (.cell (Option.some (.ref 158))), #[]⟩)]) rb (by decide) (by kernel_rfl) (by kernel_rfl) ?_; intro h5 t5 r5
    exact k _ _ _ _ 0 (by decide) r5
  · rw [e]
    refine goS ra _ [] xb zb (by kernel_rfl) ?_; intro _ rb
    refine toL 0 (n := 16) (hs := [1,1,1,1,1,9,9]) (T := restT (lawC (PP w b1 b2) 3)) (c := lawC (PP w b1 b2) 0) (dp := 351) (q := 11) (idx := [11,12]) (idn := [1,2,3,4,5,6,7,8,9,10]) (Lf := fun F => [(130, tab), (158, oList xs ep)]) (Nf := fun F => [(171, o1), (159, oFr [⟨hd, .str ⟨#[100,101,97,108]⟩ kd, (.int (D : Int) td)⟩] 1), (167, ⟨(.type "cell"), Option.none, (.cell Option.none), #[]⟩), (166, ⟨(.type "cell"), Option.none, (.cell Option.none), #[]⟩), (165, ⟨(.type "cell"), Option.none, (.cell Option.none), #[]⟩), (164, ⟨(.type "cell"), Option.none, (.cell Option.none), #[]⟩), (163, ⟨(.type "cell"), Option.none, (.cell Option.none), #[]⟩), (162, ⟨(.type "cell"), Option.none, (.cell (Option.some (.str ⟨#[10]⟩ (t0 + 1)))), #[]⟩), (161, cD), (160, ⟨(.type "cell"), Option.none, (.cell (Option.some (.ref 158))), #[]⟩)]) rb (by decide) (by kernel_rfl) (by kernel_rfl) ?_; intro h5 t5 r5
    exact k _ _ _ _ 1 (by decide) r5
  · rw [e]
    refine goS ra _ [] xb zb (by kernel_rfl) ?_; intro _ rb
    refine toL 0 (n := 16) (hs := [1,1,1,1,1,9,9]) (T := restT (lawC (PP w b1 b2) 3)) (c := lawC (PP w b1 b2) 0) (dp := 351) (q := 11) (idx := [11,12]) (idn := [1,2,3,4,5,6,7,8,9,10]) (Lf := fun F => [(130, tab), (158, oList xs ep)]) (Nf := fun F => [(171, o1), (159, oFr [⟨hd, .str ⟨#[100,101,97,108]⟩ kd, (.int (D : Int) td)⟩] 1), (167, ⟨(.type "cell"), Option.none, (.cell Option.none), #[]⟩), (166, ⟨(.type "cell"), Option.none, (.cell Option.none), #[]⟩), (165, ⟨(.type "cell"), Option.none, (.cell Option.none), #[]⟩), (164, ⟨(.type "cell"), Option.none, (.cell Option.none), #[]⟩), (163, ⟨(.type "cell"), Option.none, (.cell Option.none), #[]⟩), (162, ⟨(.type "cell"), Option.none, (.cell (Option.some (.str ⟨#[13,10]⟩ (t0 + 2)))), #[]⟩), (161, cD), (160, ⟨(.type "cell"), Option.none, (.cell (Option.some (.ref 158))), #[]⟩)]) rb (by decide) (by kernel_rfl) (by kernel_rfl) ?_; intro h5 t5 r5
    exact k _ _ _ _ 2 (by decide) r5)

theorem st3 {tab o1 cD cE : Obj} {xs : List Value} {ep : Nat} {D : Nat} {hd : Int} {kd td : Tok}
    (r : OkL w b1 b2 A R hB 3 ((171, o1) :: lawL tab [⟨hd, .str sDeal kd, .int (D : Int) td⟩] 1 oCell0 oCell0 oCell0 oCell0 oCell0 cE cD xs ep) h N t0)
    (k : ∀ h' N' t' ts (s : Nat), s < 8 → OkL w b1 b2 A R hB 4 ((171, o1) :: lawL tab [⟨hd, .str sDeal kd, .int (D : Int) td⟩] 1 oCell0 oCell0 oCell0 oCell0 (oCell (.int (s : Int) ts)) cE cD xs ep) h' N' t' →
      GoL w b1 b2 A R 4 ((171, o1) :: lawL tab [⟨hd, .str sDeal kd, .int (D : Int) td⟩] 1 oCell0 oCell0 oCell0 oCell0 (oCell (.int (s : Int) ts)) cE cD xs ep) ⟨h', gs, dr, t', os⟩) :
    GoL w b1 b2 A R 3 ((171, o1) :: lawL tab [⟨hd, .str sDeal kd, .int (D : Int) td⟩] 1 oCell0 oCell0 oCell0 oCell0 oCell0 cE cD xs ep) ⟨h, gs, dr, t0, os⟩ := by
  revert b1
  refine @bothB _ ?_ ?_ <;> set_option tactic.hygienic false in intros
  all_goals (
  refine cutS 450 0 (n := 11) (hs := [2]) (c := (.call (.builtin "int.__mod__") ⟨[(.int ((↑D : Int).fdiv 3) (t0 + 1)), (.int 8 (t0 + 2))], []⟩)) (idx := []) (Lf := fun F => []) r (by decide) (by kernel_rfl) ?_; intro ha ta ra Ta Ga oa za
  have e3 : (D : Int).fdiv 3 = ((D / 3 : Nat) : Int) := by
    rw [Int.fdiv_eq_ediv_of_nonneg _ (by decide)]
    exact (Int.natCast_ediv D 3).symm
  rw [e3]
  refine lf_mod (a := D / 3) (b := 8) (by decide) za ?_
  intro hb ub tb xb zb
  have hs : D / 3 % 8 < 8 := Nat.mod_lt _ (by decide)
  generalize D / 3 % 8 = s at hs
  refine goS ra _ [] xb zb (by kernel_rfl) ?_; intro _ rb
  refine toL 0 (n := 5) (hs := [7,7]) (T := restT (lawC (PP w b1 b2) 4)) (c := lawC (PP w b1 b2) 0) (dp := 351) (q := 10) (idx := [10,11]) (idn := [0,1,2,3,4,5,6,7,8,9]) (Lf := fun F => [(130, tab), (158, oList xs ep)]) (Nf := fun F => [(171, o1), (159, oFr [⟨hd, .str ⟨#[100,101,97,108]⟩ kd, (.int (D : Int) td)⟩] 1), (167, ⟨(.type "cell"), Option.none, (.cell Option.none), #[]⟩), (166, ⟨(.type "cell"), Option.none, (.cell Option.none), #[]⟩), (165, ⟨(.type "cell"), Option.none, (.cell Option.none), #[]⟩), (164, ⟨(.type "cell"), Option.none, (.cell Option.none), #[]⟩), (163, ⟨(.type "cell"), Option.none, (.cell (Option.some (.int (s : Int) ub))), #[]⟩), (162, cE), (161, cD), (160, ⟨(.type "cell"), Option.none, (.cell (Option.some (.ref 158))), #[]⟩)]) rb (by decide) (by kernel_rfl) (by kernel_rfl) ?_; intro h5 t5 r5
  exact k _ _ _ _ s hs r5)
end
end Mine
end
section
open PySem PySem.W PyProof.Rows PySem.W.X
namespace Mine
section
variable {prog : Program} {w : World} {A : Around} {R : Result → Shared → Prop} {h : Heap} {gs : Array GenState} {dr : Drawn} {t0 N : Nat} {os : OsState}
theorem small_pow {i : Nat} (hi : i < 1000) : (i : Int) < 2 ^ 63 := by
  have e : (2 : Int) ^ 63 = 9223372036854775808 := by decide
  rw [e]; omega
theorem meets_getitem (l : Addr) (items : Array Value) (n : Nat) (i : Int) (u : Tok) (j : Nat) (y : Value) (hf : ¬ (!Builtin.List.listFitsIndex i) = true) (hj : i = Int.ofNat j) (h1 : items[j]? = some y) :
    Meets (Builtin.«list.__getitem__» ⟨[.ref l, .int i u], []⟩)
      (fun _ R s => s.heap.get? l = some { cls := .type "list", dict := none, data := .seq items n, slots := #[] } ∧ R (.ok (.ret y)) s) :=
  .of_wp fun prog w A R s h => by
    obtain ⟨hp, g, d, tk, os⟩ := s; obtain ⟨hl, h⟩ := h
    have f1 := AutoSeq1.idx_int
    have f2 := AutoSeq1.sub_tuple_tuple; have f3 := AutoSeq1.sub_list_list; have f4 := AutoSeq1.sub_tuple_list; have f5 := AutoSeq1.sub_list_tuple
    wp_walk using AutoSeq1.wpAny_loadPart' hl
    cases i with
    | negSucc q => cases hj
    | ofNat q =>
      have : q = j := by injection hj
      subst this
      dsimp only
      rw [if_neg hf]
      refine wpAny_pure ?_
      dsimp only
      wp_walk using AutoSeq1.wpAny_loadPart' hl
      rw [h1]
      exact wpAny_pure ⟨_, rfl, h⟩
theorem lf_getitem {l : Addr} {xs : List Value} {ep i : Nat} {t : Tok} {x : Value} (hl : h.get? l = some (oList xs ep)) (hx : xs[i]? = some x) (hi : i < 1000) (hN : h.objs.size = N)
    (k : ∀ h' tk, Af h [] [] h' → h'.objs.size = N → R (.ok (.ret x)) ⟨h', gs, dr, tk, os⟩) :
    codeAny (model prog w) A (.call (.builtin "list.__getitem__") ⟨[.ref l, .int (i : Int) t], []⟩) R ⟨h, gs, dr, t0, os⟩ := by
  have fit := fitsIndex_of (Int.natCast_nonneg i) (small_pow hi)
  have fit' : ¬ (!Builtin.List.listFitsIndex (i : Int)) = true := by rw [fit]; decide
  clear hi fit
  have hx' : xs.toArray[i]? = some x := by simpa using hx
  have hj : (i : Int) = Int.ofNat i := rfl
  generalize (i : Int) = ii at fit' hj ⊢
  have g := meets_getitem l xs.toArray ep ii t i x fit' hj hx'
  exact cut_meets F.slot_list_getitem ⟨_, hl, rfl⟩ F.entry_list_getitem (F.args_list_getitem_2 _ _) g ⟨hl, k h _ (af_refl h) hN⟩
theorem lf_pop0 {l : Addr} {xs : List Value} {ep : Nat} {t : Tok} {x : Value} (hl : h.get? l = some (oList (x :: xs) ep)) (hz : xs.length ≤ 1000) (hN : h.objs.size = N)
    (k : ∀ h' tk, Af h [(l, oList xs (ep + 1))] [] h' → h'.objs.size = N → R (.ok (.ret x)) ⟨h', gs, dr, tk, os⟩) :
    codeAny (model prog w) A (.call (.builtin "list.pop") ⟨[.ref l, .int 0 t], []⟩) R ⟨h, gs, dr, t0, os⟩ := by
  have hs1 : (x :: xs).toArray.size ≤ sizeLine := Nat.le_trans (show (x :: xs).toArray.size ≤ 1001 by simpa using hz) (by decide)
  have hk : seqIndex? 0 (x :: xs).toArray.size = some 0 := by unfold seqIndex?; simp
  refine cut_meets F.slot_list_pop ⟨_, hl, rfl⟩ F.entry_list_pop (F.args_list_pop_2 _ _) (PySem.MeetsSeq.list_pop_at l (x :: xs).toArray ep 0 t 0 x (by decide) hk (by simp) hs1) ⟨hl, ?_⟩
  refine k _ _ ?_ ((Heap.SameBut.update ..).1.trans hN)
  have y := af_upd (g := Obj.mapSeq fun xs => xs.eraseIdxIfInBounds 0) hl rfl
  have e : Obj.mapSeq (fun xs => xs.eraseIdxIfInBounds 0) (oList (x :: xs) ep) = oList xs (ep + 1) := by
    have e1 : (x :: xs).toArray.eraseIdxIfInBounds 0 = xs.toArray := by
      rw [List.eraseIdxIfInBounds_toArray]; rfl
    simp only [Obj.mapSeq, oList, e1]
    simp
  rw [e] at y
  exact y
end
end Mine
end
section
open PySem PySem.W PyProof.Rows PySem.W.X
namespace Mine
section
variable {w : World} {b1 b2 : Bool} {A : Around} {R : Result → Shared → Prop} {hB h : Heap} {gs : Array GenState} {dr : Drawn} {t0 N : Nat} {os : OsState}
noncomputable abbrev eCells (P : Params) : Expr := lawE P 4 []
noncomputable abbrev oRit (i left : Nat) : Obj := ⟨.type "range_iterator", none, .fields #[.int (i : Int) 0, .int (left : Int) 0, .int 1 0], #[]⟩
/-- two names of a comprehension: both, one or none bound -/
noncomputable def oX2 (n1 n2 : Str) : Option (Int × Tok × Value × Option (Int × Tok × Value)) → Obj
  | none => oD [] 0
  | some (h1, k1, v1, none) => oD [⟨h1, .str n1 k1, v1⟩] 1
  | some (h1, k1, v1, some (h2, k2, v2)) => oD [⟨h1, .str n1 k1, v1⟩, ⟨h2, .str n2 k2, v2⟩] 2
noncomputable abbrev cellsL (it2 acc loc dl : Addr) (c m : Nat) (zs : List Value) (ep : Nat) (hk : Int) (kk : Tok) (kn : Nat) (tk : Tok) (cc : Option (Int × Tok × Value)) (ds : List Value) (ez : Nat) : List (Addr × Obj) :=
  [(it2, oRit c m), (acc, oList zs ep), (loc, oX2 sK sColumn (some (hk, kk, .int (kn : Int) tk, cc))), (161, oCell (.ref dl)), (dl, oList ds ez)]
noncomputable abbrev cCells (P : Params) (dep : Nat) (it acc loc : Addr) : Code := .compLoop (eCells P) dep (.ref it) (.ref acc) (envL P (eCells P) loc [(sDrawn, 161)] 159)
noncomputable def cellB (d c : Nat) : Bool := Builtin.bitAnd ((d / 2 ^ c : Nat) : Int) 1 == 1
theorem cells_turn {it2 acc loc dl : Addr} {c m : Nat} {zs : List Value} {ep : Nat} {hk : Int} {kk : Tok} {kn : Nat} {tk : Tok} {cc : Option (Int × Tok × Value)} {ds : List Value} {ez : Nat} {d : Nat} {td : Tok} (hA : Okk A 500) (T : Tp (kP w b1 b2) h)
    (G : Giv (kP w b1 b2) h (cellsL it2 acc loc dl c (m + 1) zs ep hk kk kn tk cc ds ez)) (hd : ds[kn]? = some (.int (d : Int) td)) (hn : kn < 1000) (hz : zs.length ≤ 1000)
    (k : ∀ h' t' cc', Af h (cellsL it2 acc loc dl (c + 1) m (zs ++ [.bool (cellB d c)]) (ep + 1) hk kk kn tk (some cc') ds ez) [] h' → h'.objs.size = h.objs.size → Tp (kP w b1 b2) h' → Giv (kP w b1 b2) h' (cellsL it2 acc loc dl (c + 1) m (zs ++ [.bool (cellB d c)]) (ep + 1) hk kk kn tk (some cc') ds ez) →
      CA w b1 b2 A (cCells (PP w b1 b2) 1 it2 acc loc) R ⟨h', gs, dr, t', os⟩) :
    CA w b1 b2 A (cCells (PP w b1 b2) 1 it2 acc loc) R ⟨h, gs, dr, t0, os⟩ := by
  revert b1
  refine @bothB _ ?_ ?_ <;> set_option tactic.hygienic false in intros
  all_goals (
  refine goC hA T G (by kernel_rfl) ?_; intro _ _ r
  obtain _ | ⟨u1, u2, u3⟩ := cc
  · refine cutS 550 0 (n := 29) (hs := [1,1,1,1,1,1,1,1,1,3,3,4,3,5,5,5]) (c := (.call (.builtin "list.__getitem__") ⟨[(.ref dl), (.int (kn : Int) tk)], []⟩)) (idx := [4]) (Lf := fun F => [(dl, oList ds ez)]) r (by decide) (by kernel_rfl) ?_; intro h1 t1 r1 T1 G1 o1 z1
    refine lf_getitem (G1.nw _ (.head _)) hd hn z1 ?_
    intro h2 t2 x2 z2
    refine goS r1 _ [] x2 z2 (by kernel_rfl) ?_; intro _ r2
    refine cutS 550 0 (n := 3) (hs := [3]) (c := (.call (.builtin "int.__rshift__") ⟨[(.int (d : Int) td), (.int (c : Int) t0)], []⟩)) (idx := []) (Lf := fun F => []) r2 (by decide) (by kernel_rfl) ?_; intro h3 t3 r3 T3 G3 o3 z3
    refine lf_rshift (a := d) (c := c) z3 ?_
    intro h4 u4 t4 x4 z4
    refine goS r3 _ [] x4 z4 (by kernel_rfl) ?_; intro _ r4
    refine cutS 550 0 (n := 12) (hs := []) (c := (.call (.builtin "list.append") ⟨[(.ref acc), (.bool ((fun x1 x2 => x1 == x2) (Builtin.bitAnd (↑(d / 2 ^ c) : Int) 1) 1))], []⟩)) (idx := [1]) (Lf := fun F => [(acc, oList zs ep)]) r4 (by decide) (by kernel_rfl) ?_; intro h5 t5 r5 T5 G5 o5 z5
    refine lf_append (G5.nw _ (.head _)) hz z5 ?_
    intro h6 x6 z6
    refine goS r5 _ [1] x6 z6 (by kernel_rfl) ?_; intro _ r6
    refine agS 0 (n := 0) (hs := []) (c := (cCells (PP w b1 b2) 1 it2 acc loc)) (q := 0) (idx := [0,1,2,3,4]) (idn := []) (Lf := fun F => [(it2, ⟨(.type "range_iterator"), Option.none, (.fields #[(.int ((c + 1) : Int) 0), (.int ((↑(m + 1) : Int) - 1) 0), (.int 1 0)]), #[]⟩), (acc, oList (zs ++ [Value.bool ((fun x1 x2 => x1 == x2) (Builtin.bitAnd (↑(d / 2 ^ c) : Int) 1) 1)]) (ep + 1)), (loc, oD [⟨hk, .str ⟨#[107]⟩ kk, (.int (kn : Int) tk)⟩, ⟨hOf F 2 1, .str ⟨#[99,111,108,117,109,110]⟩ (kOf F 2 1), (.int (c : Int) t0)⟩] 2), (161, ⟨(.type "cell"), Option.none, (.cell (Option.some (.ref dl))), #[]⟩), (dl, oList ds ez)]) (Nf := fun F => []) r6 (by decide) (by kernel_rfl) ?_; intro h7 t7 x7 z7 T7 G7
    rw [show ((↑(m + 1) : Int) - 1) = (m : Int) by omega] at x7 G7
    exact k h7 t7 (_, _, _) x7 z7 T7 G7
  · refine cutS 550 0 (n := 29) (hs := [1,1,1,1,1,1,1,1,1,3,3,4,3,5,5,5]) (c := (.call (.builtin "list.__getitem__") ⟨[(.ref dl), (.int (kn : Int) tk)], []⟩)) (idx := [4]) (Lf := fun F => [(dl, oList ds ez)]) r (by decide) (by kernel_rfl) ?_; intro h1 t1 r1 T1 G1 o1 z1
    refine lf_getitem (G1.nw _ (.head _)) hd hn z1 ?_
    intro h2 t2 x2 z2
    refine goS r1 _ [] x2 z2 (by kernel_rfl) ?_; intro _ r2
    refine cutS 550 0 (n := 3) (hs := [3]) (c := (.call (.builtin "int.__rshift__") ⟨[(.int (d : Int) td), (.int (c : Int) t0)], []⟩)) (idx := []) (Lf := fun F => []) r2 (by decide) (by kernel_rfl) ?_; intro h3 t3 r3 T3 G3 o3 z3
    refine lf_rshift (a := d) (c := c) z3 ?_
    intro h4 u4 t4 x4 z4
    refine goS r3 _ [] x4 z4 (by kernel_rfl) ?_; intro _ r4
    refine cutS 550 0 (n := 12) (hs := []) (c := (.call (.builtin "list.append") ⟨[(.ref acc), (.bool ((fun x1 x2 => x1 == x2) (Builtin.bitAnd (↑(d / 2 ^ c) : Int) 1) 1))], []⟩)) (idx := [1]) (Lf := fun F => [(acc, oList zs ep)]) r4 (by decide) (by kernel_rfl) ?_; intro h5 t5 r5 T5 G5 o5 z5
    refine lf_append (G5.nw _ (.head _)) hz z5 ?_
    intro h6 x6 z6
    refine goS r5 _ [1] x6 z6 (by kernel_rfl) ?_; intro _ r6
    refine agS 0 (n := 0) (hs := []) (c := (cCells (PP w b1 b2) 1 it2 acc loc)) (q := 0) (idx := [0,1,2,3,4]) (idn := []) (Lf := fun F => [(it2, ⟨(.type "range_iterator"), Option.none, (.fields #[(.int ((c + 1) : Int) 0), (.int ((↑(m + 1) : Int) - 1) 0), (.int 1 0)]), #[]⟩), (acc, oList (zs ++ [Value.bool ((fun x1 x2 => x1 == x2) (Builtin.bitAnd (↑(d / 2 ^ c) : Int) 1) 1)]) (ep + 1)), (loc, oD [⟨hk, .str ⟨#[107]⟩ kk, (.int (kn : Int) tk)⟩, ⟨u1, .str ⟨#[99,111,108,117,109,110]⟩ u2, (.int (c : Int) t0)⟩] 2), (161, ⟨(.type "cell"), Option.none, (.cell (Option.some (.ref dl))), #[]⟩), (dl, oList ds ez)]) (Nf := fun F => []) r6 (by decide) (by kernel_rfl) ?_; intro h7 t7 x7 z7 T7 G7
    rw [show ((↑(m + 1) : Int) - 1) = (m : Int) by omega] at x7 G7
    exact k h7 t7 (_, _, _) x7 z7 T7 G7)

theorem cells_inner {it2 acc loc dl : Addr} {zs : List Value} {ep : Nat} {hk : Int} {kk : Tok} {kn : Nat} {tk : Tok} {cc : Option (Int × Tok × Value)} {ds : List Value} {ez : Nat} {d : Nat} {td : Tok} (hA : Okk A 500) (T : Tp (kP w b1 b2) h)
    (G : Giv (kP w b1 b2) h (cellsL it2 acc loc dl 0 4 zs ep hk kk kn tk cc ds ez)) (hd : ds[kn]? = some (.int (d : Int) td)) (hn : kn < 1000) (hz : zs.length ≤ 900)
    (k : ∀ h' t' cc' o2 ep', Af h [(it2, o2), (acc, oList (zs ++ [.bool (cellB d 0)] ++ [.bool (cellB d 1)] ++ [.bool (cellB d 2)] ++ [.bool (cellB d 3)]) ep'), (loc, oX2 sK sColumn (some (hk, kk, .int (kn : Int) tk, some cc'))), (161, oCell (.ref dl)), (dl, oList ds ez)] [] h' → h'.objs.size = h.objs.size + 2 → R (.ok .next) ⟨h', gs, dr, t', os⟩) :
    CA w b1 b2 A (cCells (PP w b1 b2) 1 it2 acc loc) R ⟨h, gs, dr, t0, os⟩ := by
  refine cells_turn hA T G hd hn (by omega) fun h1 t1 c1 x1 z1 T1 G1 => ?_
  refine cells_turn hA T1 G1 hd hn (by simp only [List.length_append, List.length_cons, List.length_nil]; omega) fun h2 t2 c2 x2 z2 T2 G2 => ?_
  refine cells_turn hA T2 G2 hd hn (by simp only [List.length_append, List.length_cons, List.length_nil]; omega) fun h3 t3 c3 x3 z3 T3 G3 => ?_
  refine cells_turn hA T3 G3 hd hn (by simp only [List.length_append, List.length_cons, List.length_nil]; omega) fun h4 t4 c4 x4 z4 T4 G4 => ?_
  obtain ⟨u1, u2, u3⟩ := c4
  have x := ((x1.trans x2 rfl).trans x3 rfl).trans x4 rfl
  have z : h4.objs.size = h.objs.size := z4.trans (z3.trans (z2.trans z1))
  revert b1
  refine @bothB _ ?_ ?_ <;> set_option tactic.hygienic false in intros
  all_goals (
  refine goC hA T4 G4 (by kernel_rfl) ?_; intro _ _ r
  rw [z] at r
  refine endS 2 (n := 14) (hs := [1,1,1,1,1,1]) (fl := .next) (q := 2) (idx := [2,3,4,5,6]) (idn := []) (Lf := fun F => [(it2, ⟨(.type "range_iterator"), Option.none, (.fields #[(.int 4 0), (.int 0 0), (.int 1 0)]), #[]⟩), (acc, oList (zs ++ [Value.bool (cellB d 0)] ++ [Value.bool (cellB d (0 + 1))] ++ [Value.bool (cellB d (0 + 1 + 1))] ++ [Value.bool (cellB d (0 + 1 + 1 + 1))]) (ep + 4)), (loc, oD [⟨hk, .str ⟨#[107]⟩ kk, (.int (kn : Int) tk)⟩, ⟨u1, .str ⟨#[99,111,108,117,109,110]⟩ u2, u3⟩] 2), (161, ⟨(.type "cell"), Option.none, (.cell (Option.some (.ref dl))), #[]⟩), (dl, oList ds ez)]) (Nf := fun F => []) r (by decide) (by kernel_rfl) ?_; intro h5 t5 x5 z5
  exact k h5 t5 (u1, u2, u3) _ _ (x.trans x5 rfl) z5)
theorem cells_start {it2 acc loc dl : Addr} {zs : List Value} {ep : Nat} {hk : Int} {kk : Tok} {kn : Nat} {tk : Tok} {cc : Option (Int × Tok × Value)} {ds : List Value} {ez : Nat} (hA : Okk A 500) (T : Tp (kP w b1 b2) h)
    (G : Giv (kP w b1 b2) h (cellsL it2 acc loc dl 0 4 zs ep hk kk kn tk cc ds ez))
    (k : ∀ h' t', Af h (cellsL it2 acc loc dl 0 4 zs ep hk kk kn tk cc ds ez) [] h' → h'.objs.size = h.objs.size → Tp (kP w b1 b2) h' → Giv (kP w b1 b2) h' (cellsL it2 acc loc dl 0 4 zs ep hk kk kn tk cc ds ez) → CA w b1 b2 A (cCells (PP w b1 b2) 1 it2 acc loc) R ⟨h', gs, dr, t', os⟩) :
    CA w b1 b2 A (.compStart (eCells (PP w b1 b2)) 1 (.ref it2) (.ref acc) (envL (PP w b1 b2) (eCells (PP w b1 b2)) loc [(sDrawn, 161)] 159)) R ⟨h, gs, dr, t0, os⟩ := by
  revert b1
  refine @bothB _ ?_ ?_ <;> set_option tactic.hygienic false in intros
  all_goals (
  refine goC hA T G (by kernel_rfl) ?_; intro _ _ r
  cases b2 with
  | true =>
    refine agS 0 (n := 1) (hs := []) (c := (cCells (PP w b1 true) 1 it2 acc loc)) (q := 0) (idx := [0,1,2,3,4]) (idn := []) (Lf := fun F => [(it2, ⟨(.type "range_iterator"), Option.none, (.fields #[(.int 0 0), (.int 4 0), (.int 1 0)]), #[]⟩), (acc, oList zs ep), (loc, (oX2 sK sColumn (some (hk, kk, Value.int (↑kn : Int) tk, cc)))), (161, ⟨(.type "cell"), Option.none, (.cell (Option.some (.ref dl))), #[]⟩), (dl, oList ds ez)]) (Nf := fun F => []) r (by decide) (by kernel_rfl) ?_; intro h7 t7 x7 z7 T7 G7
    exact k _ _ x7 z7 T7 G7
  | false =>
    refine agS 0 (n := 11) (hs := [1,1,1,1]) (c := (cCells (PP w b1 false) 1 it2 acc loc)) (q := 0) (idx := [0,1,2,3,4]) (idn := []) (Lf := fun F => [(it2, ⟨(.type "range_iterator"), Option.none, (.fields #[(.int 0 0), (.int 4 0), (.int 1 0)]), #[]⟩), (acc, oList zs ep), (loc, (oX2 sK sColumn (some (hk, kk, Value.int (↑kn : Int) tk, cc)))), (161, ⟨(.type "cell"), Option.none, (.cell (Option.some (.ref dl))), #[]⟩), (dl, oList ds ez)]) (Nf := fun F => []) r (by decide) (by kernel_rfl) ?_; intro h7 t7 x7 z7 T7 G7
    exact k _ _ x7 z7 T7 G7)
noncomputable abbrev cellsO (it acc loc dl : Addr) (i m : Nat) (zs : List Value) (ep : Nat) (ox : Option (Int × Tok × Value × Option (Int × Tok × Value))) (ds : List Value) (ez : Nat) : List (Addr × Obj) :=
  [(it, oRit i m), (acc, oList zs ep), (loc, oX2 sK sColumn ox), (161, oCell (.ref dl)), (dl, oList ds ez)]
theorem cells_outer {it acc loc dl : Addr} {i m : Nat} {zs : List Value} {ep : Nat} {ox : Option (Int × Tok × Value × Option (Int × Tok × Value))} {ds : List Value} {ez : Nat} {d : Nat} {td : Tok} (hA : Okk A 450) (T : Tp (kP w b1 b2) h)
    (G : Giv (kP w b1 b2) h (cellsO it acc loc dl i (m + 1) zs ep ox ds ez)) (hd : ds[i]? = some (.int (d : Int) td)) (hn : i < 1000) (hz : zs.length ≤ 900)
    (k : ∀ h' t' ox' ep', Af h (cellsO it acc loc dl (i + 1) m (zs ++ [.bool (cellB d 0)] ++ [.bool (cellB d 1)] ++ [.bool (cellB d 2)] ++ [.bool (cellB d 3)]) ep' (some ox') ds ez) [] h' → h'.objs.size = h.objs.size + 4 → Tp (kP w b1 b2) h' → Giv (kP w b1 b2) h' (cellsO it acc loc dl (i + 1) m (zs ++ [.bool (cellB d 0)] ++ [.bool (cellB d 1)] ++ [.bool (cellB d 2)] ++ [.bool (cellB d 3)]) ep' (some ox') ds ez) →
      CA w b1 b2 A (cCells (PP w b1 b2) 0 it acc loc) R ⟨h', gs, dr, t', os⟩) :
    CA w b1 b2 A (cCells (PP w b1 b2) 0 it acc loc) R ⟨h, gs, dr, t0, os⟩ := by
  revert b1
  refine @bothB _ ?_ ?_ <;> set_option tactic.hygienic false in intros
  all_goals (
  refine goC hA T G (by kernel_rfl) ?_; intro _ _ r
  obtain _ | ⟨u1, u2, u3, _ | ⟨u4, u5, u6⟩⟩ := ox
  · refine cutS 500 2 (n := 57) (hs := [1,1,1,1,1,1,1,1,1,3,3,0,0,1,1,1,1,1,1,1,1,1,1,1]) (c := (.compStart (eCells (PP w b1 b2)) 1 (.ref (h.objs.size + 1)) (.ref acc) (envL (PP w b1 b2) (eCells (PP w b1 b2)) loc [(sDrawn, 161)] 159))) (idx := [0,3,4,5,6]) (Lf := fun F => [((h.objs.size + 1), ⟨(.type "range_iterator"), Option.none, (.fields #[(.int 0 0), (.int 4 0), (.int 1 0)]), #[]⟩), (acc, oList zs ep), (loc, oD [⟨hOf F 4 0, .str ⟨#[107]⟩ (kOf F 4 0), (.int (i : Int) t0)⟩] 1), (161, ⟨(.type "cell"), Option.none, (.cell (Option.some (.ref dl))), #[]⟩), (dl, oList ds ez)]) r (by decide) (by kernel_rfl) ?_; intro h1 t1 r1 T1 G1 o1 z1
    refine cells_start (cc := none) o1 T1 G1 fun h2 t2 x2 z2 T2 G2 => ?_
    refine cells_inner o1 T2 G2 hd hn hz fun h3 t3 cc o3 ep3 x3 z3 => ?_
    obtain ⟨v1, v2, v3⟩ := cc
    have x4 := x2.trans x3 rfl
    have z4 : h3.objs.size = h.objs.size + 4 := by rw [z3, z2, z1]
    refine goS r1 _ [0,3,4,5,6] x4 z4 (by kernel_rfl) ?_; intro _ r4
    refine agS 0 (n := 0) (hs := []) (c := (cCells (PP w b1 b2) 0 it acc loc)) (q := 2) (idx := [2,3,4,5,6]) (idn := []) (Lf := fun F => [(it, ⟨(.type "range_iterator"), Option.none, (.fields #[(.int ((i + 1) : Int) 0), (.int ((↑(m + 1) : Int) - 1) 0), (.int 1 0)]), #[]⟩), (acc, oList (zs ++ [Value.bool (cellB d 0)] ++ [Value.bool (cellB d 1)] ++ [Value.bool (cellB d 2)] ++ [Value.bool (cellB d 3)]) ep3), (loc, oD [⟨(hOf (rn (bS w true true 450 h.objs.size t0) 57 [1,1,1,1,1,1,1,1,1,3,3,0,0,1,1,1,1,1,1,1,1,1,1,1] (startF (cCells (PP w true true) 0 it acc loc) 450 (cellsO it acc loc dl i (m + 1) zs ep none ds ez))) 4 0), .str ⟨#[107]⟩ (t0 + 1), (.int (i : Int) t0)⟩, ⟨v1, .str ⟨#[99,111,108,117,109,110]⟩ v2, v3⟩] 2), (161, ⟨(.type "cell"), Option.none, (.cell (Option.some (.ref dl))), #[]⟩), (dl, oList ds ez)]) (Nf := fun F => []) r4 (by decide) (by kernel_rfl) ?_; intro h7 t7 x7 z7 T7 G7
    rw [show ((↑(m + 1) : Int) - 1) = (m : Int) by omega] at x7 G7
    exact k h7 t7 (_, _, _, some (_, _, _)) ep3 x7 z7 T7 G7
  · refine cutS 500 2 (n := 57) (hs := [1,1,1,1,1,1,1,1,1,3,3,0,0,1,1,1,1,1,1,1,1,1,1,1]) (c := (.compStart (eCells (PP w b1 b2)) 1 (.ref (h.objs.size + 1)) (.ref acc) (envL (PP w b1 b2) (eCells (PP w b1 b2)) loc [(sDrawn, 161)] 159))) (idx := [0,3,4,5,6]) (Lf := fun F => [((h.objs.size + 1), ⟨(.type "range_iterator"), Option.none, (.fields #[(.int 0 0), (.int 4 0), (.int 1 0)]), #[]⟩), (acc, oList zs ep), (loc, oD [⟨u1, .str ⟨#[107]⟩ u2, (.int (i : Int) t0)⟩] 1), (161, ⟨(.type "cell"), Option.none, (.cell (Option.some (.ref dl))), #[]⟩), (dl, oList ds ez)]) r (by decide) (by kernel_rfl) ?_; intro h1 t1 r1 T1 G1 o1 z1
    refine cells_start (cc := none) o1 T1 G1 fun h2 t2 x2 z2 T2 G2 => ?_
    refine cells_inner o1 T2 G2 hd hn hz fun h3 t3 cc o3 ep3 x3 z3 => ?_
    obtain ⟨v1, v2, v3⟩ := cc
    have x4 := x2.trans x3 rfl
    have z4 : h3.objs.size = h.objs.size + 4 := by rw [z3, z2, z1]
    refine goS r1 _ [0,3,4,5,6] x4 z4 (by kernel_rfl) ?_; intro _ r4
    refine agS 0 (n := 0) (hs := []) (c := (cCells (PP w b1 b2) 0 it acc loc)) (q := 2) (idx := [2,3,4,5,6]) (idn := []) (Lf := fun F => [(it, ⟨(.type "range_iterator"), Option.none, (.fields #[(.int ((i + 1) : Int) 0), (.int ((↑(m + 1) : Int) - 1) 0), (.int 1 0)]), #[]⟩), (acc, oList (zs ++ [Value.bool (cellB d 0)] ++ [Value.bool (cellB d 1)] ++ [Value.bool (cellB d 2)] ++ [Value.bool (cellB d 3)]) ep3), (loc, oD [⟨u1, .str ⟨#[107]⟩ u2, (.int (i : Int) t0)⟩, ⟨v1, .str ⟨#[99,111,108,117,109,110]⟩ v2, v3⟩] 2), (161, ⟨(.type "cell"), Option.none, (.cell (Option.some (.ref dl))), #[]⟩), (dl, oList ds ez)]) (Nf := fun F => []) r4 (by decide) (by kernel_rfl) ?_; intro h7 t7 x7 z7 T7 G7
    rw [show ((↑(m + 1) : Int) - 1) = (m : Int) by omega] at x7 G7
    exact k h7 t7 (_, _, _, some (_, _, _)) ep3 x7 z7 T7 G7
  · refine cutS 500 2 (n := 57) (hs := [1,1,1,1,1,1,1,1,1,3,3,0,0,1,1,1,1,1,1,1,1,1,1,1]) (c := (.compStart (eCells (PP w b1 b2)) 1 (.ref (h.objs.size + 1)) (.ref acc) (envL (PP w b1 b2) (eCells (PP w b1 b2)) loc [(sDrawn, 161)] 159))) (idx := [0,3,4,5,6]) (Lf := fun F => [((h.objs.size + 1), ⟨(.type "range_iterator"), Option.none, (.fields #[(.int 0 0), (.int 4 0), (.int 1 0)]), #[]⟩), (acc, oList zs ep), (loc, oD [⟨u1, .str ⟨#[107]⟩ u2, (.int (i : Int) t0)⟩, ⟨u4, .str ⟨#[99,111,108,117,109,110]⟩ u5, u6⟩] 2), (161, ⟨(.type "cell"), Option.none, (.cell (Option.some (.ref dl))), #[]⟩), (dl, oList ds ez)]) r (by decide) (by kernel_rfl) ?_; intro h1 t1 r1 T1 G1 o1 z1
    refine cells_start (cc := some (u4, u5, u6)) o1 T1 G1 fun h2 t2 x2 z2 T2 G2 => ?_
    refine cells_inner o1 T2 G2 hd hn hz fun h3 t3 cc o3 ep3 x3 z3 => ?_
    obtain ⟨v1, v2, v3⟩ := cc
    have x4 := x2.trans x3 rfl
    have z4 : h3.objs.size = h.objs.size + 4 := by rw [z3, z2, z1]
    refine goS r1 _ [0,3,4,5,6] x4 z4 (by kernel_rfl) ?_; intro _ r4
    refine agS 0 (n := 0) (hs := []) (c := (cCells (PP w b1 b2) 0 it acc loc)) (q := 2) (idx := [2,3,4,5,6]) (idn := []) (Lf := fun F => [(it, ⟨(.type "range_iterator"), Option.none, (.fields #[(.int ((i + 1) : Int) 0), (.int ((↑(m + 1) : Int) - 1) 0), (.int 1 0)]), #[]⟩), (acc, oList (zs ++ [Value.bool (cellB d 0)] ++ [Value.bool (cellB d 1)] ++ [Value.bool (cellB d 2)] ++ [Value.bool (cellB d 3)]) ep3), (loc, oD [⟨u1, .str ⟨#[107]⟩ u2, (.int (i : Int) t0)⟩, ⟨v1, .str ⟨#[99,111,108,117,109,110]⟩ v2, v3⟩] 2), (161, ⟨(.type "cell"), Option.none, (.cell (Option.some (.ref dl))), #[]⟩), (dl, oList ds ez)]) (Nf := fun F => []) r4 (by decide) (by kernel_rfl) ?_; intro h7 t7 x7 z7 T7 G7
    rw [show ((↑(m + 1) : Int) - 1) = (m : Int) by omega] at x7 G7
    exact k h7 t7 (_, _, _, some (_, _, _)) ep3 x7 z7 T7 G7)

end
end Mine
end
section
open PySem PySem.W PyProof.Rows PySem.W.X
namespace Mine
section
variable {w : World} {b1 b2 : Bool} {A : Around} {R : Result → Shared → Prop} {hB h : Heap} {gs : Array GenState} {dr : Drawn} {t0 N : Nat} {os : OsState}
theorem cells_all {it acc loc dl : Addr} {ez : Nat} {d0 d1 d2 d3 : Nat} {k0 k1 k2 k3 : Tok} (hA : Okk A 450) (T : Tp (kP w b1 b2) h)
    (G : Giv (kP w b1 b2) h (cellsO it acc loc dl 0 4 [] 0 none [.int (d0 : Nat) k0, .int (d1 : Nat) k1, .int (d2 : Nat) k2, .int (d3 : Nat) k3] ez)) (hN : h.objs.size = N)
    (k : ∀ h' t' ox' oi ep' (bs : List Bool), bs.length = 16 → Af h [(it, oi), (acc, oList (bs.map Value.bool) ep'), (loc, oX2 sK sColumn (some ox')), (161, oCell (.ref dl)), (dl, oList [.int (d0 : Nat) k0, .int (d1 : Nat) k1, .int (d2 : Nat) k2, .int (d3 : Nat) k3] ez)] [] h' → h'.objs.size = N + 18 → R (.ok .next) ⟨h', gs, dr, t', os⟩) :
    CA w b1 b2 A (cCells (PP w b1 b2) 0 it acc loc) R ⟨h, gs, dr, t0, os⟩ := by
  refine cells_outer hA T G rfl (by decide) (by decide) fun h1 t1 c1 e1 x1 z1 T1 G1 => ?_
  refine cells_outer hA T1 G1 rfl (by decide) (by simp) fun h2 t2 c2 e2 x2 z2 T2 G2 => ?_
  refine cells_outer hA T2 G2 rfl (by decide) (by simp) fun h3 t3 c3 e3 x3 z3 T3 G3 => ?_
  refine cells_outer hA T3 G3 rfl (by decide) (by simp) fun h4 t4 c4 e4 x4 z4 T4 G4 => ?_
  have x := ((x1.trans x2 rfl).trans x3 rfl).trans x4 rfl
  have z : h4.objs.size = N + 16 := by omega
  revert b1
  refine @bothB _ ?_ ?_ <;> set_option tactic.hygienic false in intros
  all_goals (
  refine goC hA T4 G4 (by kernel_rfl) ?_; intro _ _ r
  rw [z] at r
  obtain ⟨u1, u2, u3, _ | ⟨u4, u5, u6⟩⟩ := c4
  · refine endS 2 (n := 14) (hs := [1,1,1,1,1,1]) (fl := .next) (q := 2) (idx := [2,3,4,5,6]) (idn := []) (Lf := fun F => [(it, ⟨(.type "range_iterator"), Option.none, (.fields #[(.int 4 0), (.int 0 0), (.int 1 0)]), #[]⟩), (acc, oList [(.bool (cellB d0 0)), (.bool (cellB d0 1)), (.bool (cellB d0 2)), (.bool (cellB d0 3)), (.bool (cellB d1 0)), (.bool (cellB d1 1)), (.bool (cellB d1 2)), (.bool (cellB d1 3)), (.bool (cellB d2 0)), (.bool (cellB d2 1)), (.bool (cellB d2 2)), (.bool (cellB d2 3)), (.bool (cellB d3 0)), (.bool (cellB d3 1)), (.bool (cellB d3 2)), (.bool (cellB d3 3))] e4), (loc, oD [⟨u1, .str ⟨#[107]⟩ u2, u3⟩] 1), (161, ⟨(.type "cell"), Option.none, (.cell (Option.some (.ref dl))), #[]⟩), (dl, oList [(.int (d0 : Int) k0), (.int (d1 : Int) k1), (.int (d2 : Int) k2), (.int (d3 : Int) k3)] ez)]) (Nf := fun F => []) r (by decide) (by kernel_rfl) ?_; intro h5 t5 x5 z5
    exact k h5 t5 (u1, u2, u3, none) _ e4 [cellB d0 0, cellB d0 1, cellB d0 2, cellB d0 3, cellB d1 0, cellB d1 1, cellB d1 2, cellB d1 3, cellB d2 0, cellB d2 1, cellB d2 2, cellB d2 3, cellB d3 0, cellB d3 1, cellB d3 2, cellB d3 3] rfl (x.trans x5 rfl) z5
  · refine endS 2 (n := 14) (hs := [1,1,1,1,1,1]) (fl := .next) (q := 2) (idx := [2,3,4,5,6]) (idn := []) (Lf := fun F => [(it, ⟨(.type "range_iterator"), Option.none, (.fields #[(.int 4 0), (.int 0 0), (.int 1 0)]), #[]⟩), (acc, oList [(.bool (cellB d0 0)), (.bool (cellB d0 1)), (.bool (cellB d0 2)), (.bool (cellB d0 3)), (.bool (cellB d1 0)), (.bool (cellB d1 1)), (.bool (cellB d1 2)), (.bool (cellB d1 3)), (.bool (cellB d2 0)), (.bool (cellB d2 1)), (.bool (cellB d2 2)), (.bool (cellB d2 3)), (.bool (cellB d3 0)), (.bool (cellB d3 1)), (.bool (cellB d3 2)), (.bool (cellB d3 3))] e4), (loc, oD [⟨u1, .str ⟨#[107]⟩ u2, u3⟩, ⟨u4, .str ⟨#[99,111,108,117,109,110]⟩ u5, u6⟩] 2), (161, ⟨(.type "cell"), Option.none, (.cell (Option.some (.ref dl))), #[]⟩), (dl, oList [(.int (d0 : Int) k0), (.int (d1 : Int) k1), (.int (d2 : Int) k2), (.int (d3 : Int) k3)] ez)]) (Nf := fun F => []) r (by decide) (by kernel_rfl) ?_; intro h5 t5 x5 z5
    exact k h5 t5 (u1, u2, u3, some (u4, u5, u6)) _ e4 [cellB d0 0, cellB d0 1, cellB d0 2, cellB d0 3, cellB d1 0, cellB d1 1, cellB d1 2, cellB d1 3, cellB d2 0, cellB d2 1, cellB d2 2, cellB d2 3, cellB d3 0, cellB d3 1, cellB d3 2, cellB d3 3] rfl (x.trans x5 rfl) z5)
theorem st4 {tab cS cE : Obj} {xs : List Value} {ep : Nat} {D : Value} {hd : Int} {kd : Tok} {ez : Nat} {d0 d1 d2 d3 : Nat} {k0 k1 k2 k3 : Tok}
    (r : OkL w b1 b2 A R hB 4 ((171, oList [.int (d0 : Nat) k0, .int (d1 : Nat) k1, .int (d2 : Nat) k2, .int (d3 : Nat) k3] ez) :: lawL tab [⟨hd, .str sDeal kd, D⟩] 1 oCell0 oCell0 oCell0 oCell0 cS cE (oCell (.ref 171)) xs ep) h N t0)
    (k : ∀ h' N' t' cl (bs : List Bool) epc hc kc, bs.length = 16 → OkL w b1 b2 A R hB 5 ((cl, oList (bs.map Value.bool) epc) :: lawL tab [⟨hd, .str sDeal kd, D⟩, ⟨hc, .str sCells kc, .ref cl⟩] 2 oCell0 oCell0 oCell0 oCell0 cS cE (oCell (.ref 171)) xs ep) h' N' t' →
      GoL w b1 b2 A R 5 ((cl, oList (bs.map Value.bool) epc) :: lawL tab [⟨hd, .str sDeal kd, D⟩, ⟨hc, .str sCells kc, .ref cl⟩] 2 oCell0 oCell0 oCell0 oCell0 cS cE (oCell (.ref 171)) xs ep) ⟨h', gs, dr, t', os⟩) :
    GoL w b1 b2 A R 4 ((171, oList [.int (d0 : Nat) k0, .int (d1 : Nat) k1, .int (d2 : Nat) k2, .int (d3 : Nat) k3] ez) :: lawL tab [⟨hd, .str sDeal kd, D⟩] 1 oCell0 oCell0 oCell0 oCell0 cS cE (oCell (.ref 171)) xs ep) ⟨h, gs, dr, t0, os⟩ := by
  revert b1
  refine @bothB _ ?_ ?_ <;> set_option tactic.hygienic false in intros
  all_goals (
  refine cutS 450 4 (n := 40) (hs := [0,0,1,1,1,1,1,1,1,1,1,1,1]) (c := (.compStart (eCells (PP w b1 b2)) 0 (.ref (N + 1)) (.ref (N + 2)) (envL (PP w b1 b2) (eCells (PP w b1 b2)) (N + 3) ([(sDrawn, 161)]) (159)))) (idx := [2,1,0,12,4]) (Lf := fun F => [((N + 1), ⟨(.type "range_iterator"), Option.none, (.fields #[(.int 0 0), (.int 4 0), (.int 1 0)]), #[]⟩), ((N + 2), oList [] 0), ((N + 3), oD [] 0), (161, ⟨(.type "cell"), Option.none, (.cell (Option.some (.ref 171))), #[]⟩), (171, oList [(.int (d0 : Int) k0), (.int (d1 : Int) k1), (.int (d2 : Int) k2), (.int (d3 : Int) k3)] ez)]) r (by decide) (by kernel_rfl) ?_; intro h1 t1 r1 T1 G1 o1 z1
  refine comp_start (by kernel_rfl) (.range ⟨_, G1.nw _ (.head _), rfl⟩) ?_
  refine cells_all o1 T1 G1 z1 ?_
  intro h2 t2 ox oi ep2 bs hbs x2 z2
  refine goS r1 _ [2,1,0,12,4] x2 z2 (by kernel_rfl) ?_; intro _ r2
  obtain ⟨u1, u2, u3, _ | ⟨u4, u5, u6⟩⟩ := ox
  · refine toL 0 (n := 14) (hs := [6,6,1,1,1,1]) (T := restT (lawC (PP w b1 b2) 5)) (c := lawC (PP w b1 b2) 0) (dp := 351) (q := 14) (idx := [14,15]) (idn := [1,5,6,7,8,9,10,11,12,13]) (Lf := fun F => [(130, tab), (158, oList xs ep)]) (Nf := fun F => [((N + 2), oList (List.map Value.bool bs) ep2), (159, oFr [⟨hd, .str ⟨#[100,101,97,108]⟩ kd, D⟩, ⟨hOf F 5 1, .str ⟨#[99,101,108,108,115]⟩ (kOf F 5 1), (.ref (N + 2))⟩] 2), (167, ⟨(.type "cell"), Option.none, (.cell Option.none), #[]⟩), (166, ⟨(.type "cell"), Option.none, (.cell Option.none), #[]⟩), (165, ⟨(.type "cell"), Option.none, (.cell Option.none), #[]⟩), (164, ⟨(.type "cell"), Option.none, (.cell Option.none), #[]⟩), (163, cS), (162, cE), (161, ⟨(.type "cell"), Option.none, (.cell (Option.some (.ref 171))), #[]⟩), (160, ⟨(.type "cell"), Option.none, (.cell (Option.some (.ref 158))), #[]⟩)]) r2 (by decide) (by kernel_rfl) (by kernel_rfl) ?_; intro h5 t5 r5
    exact k _ _ _ _ bs _ _ _ hbs r5
  · refine toL 0 (n := 18) (hs := [6,6,1,1,1,1,1,1]) (T := restT (lawC (PP w b1 b2) 5)) (c := lawC (PP w b1 b2) 0) (dp := 351) (q := 14) (idx := [14,15]) (idn := [1,5,6,7,8,9,10,11,12,13]) (Lf := fun F => [(130, tab), (158, oList xs ep)]) (Nf := fun F => [((N + 2), oList (List.map Value.bool bs) ep2), (159, oFr [⟨hd, .str ⟨#[100,101,97,108]⟩ kd, D⟩, ⟨hOf F 5 1, .str ⟨#[99,101,108,108,115]⟩ (kOf F 5 1), (.ref (N + 2))⟩] 2), (167, ⟨(.type "cell"), Option.none, (.cell Option.none), #[]⟩), (166, ⟨(.type "cell"), Option.none, (.cell Option.none), #[]⟩), (165, ⟨(.type "cell"), Option.none, (.cell Option.none), #[]⟩), (164, ⟨(.type "cell"), Option.none, (.cell Option.none), #[]⟩), (163, cS), (162, cE), (161, ⟨(.type "cell"), Option.none, (.cell (Option.some (.ref 171))), #[]⟩), (160, ⟨(.type "cell"), Option.none, (.cell (Option.some (.ref 158))), #[]⟩)]) r2 (by decide) (by kernel_rfl) (by kernel_rfl) ?_; intro h5 t5 r5
    exact k _ _ _ _ bs _ _ _ hbs r5)
end
end Mine
end
section
open PySem PySem.W PyProof.Rows PySem.W.X
open PySem.Builtin.Re
namespace Mine
noncomputable def ch (b : Bool) : Nat := match b with | true => 46 | false => 97
noncomputable def rowsA (e : List Nat) (bs : List Bool) : Array Nat := (bs.flatMap fun b => ch b :: e).toArray
noncomputable def strip {α : Type} (K : Nat → Option Obj) : Nat → Sem α → Option α
  | n + 1, .rule _ k => strip K n (k ())
  | n + 1, .load a _ k => match K a with
    | some o => strip K n (k o)
    | none => none
  | _, .pure a => some a
  | _, _ => none
noncomputable def codeArr (P : Params) (a : Nat) : Array Nat := match Kt P a with
  | some ⟨_, _, .seq xs _, _⟩ => xs.map fun v => (reRawOf v).toNat
  | _ => #[]
noncomputable def tgt (P : Params) (pat c : Addr) (s : Value) (x : Array Nat) : ReTarget := ⟨.ref pat, s, codeArr P c, x, 0, 0, 0, x.size⟩
noncomputable def nf (P : Params) (pat c : Addr) (s : Value) (x : Array Nat) (p : Nat) : Option (Option (Nat × Nat)) :=
  (strip (fun _ => none) 60 (Fast.tw1458614293007215572 (tgt P pat c s x) p false)).map fun o => o.map fun m => (m.start, m.handed)
noncomputable def subC (pat : Addr) (X : Str) (tX : Tok) (rep : Str) (tr : Tok) (n p : Nat) (l : Addr) : Code :=
  .builtin "re.Pattern.sub.loop" ⟨[.ref pat, .str X tX, .str rep tr, .int 0 0, .int 0 0, .int n 0, .int p 0, .int p 0, .bool false, .ref l, .bool false], []⟩
theorem strip_wp {α : Type} {prog : Program} {w : World} {A : Around} {E : Value → Shared → Prop} {s : Shared} {Q : α → Shared → Prop} {K : Nat → Option Obj} (T : ∀ a o, K a = some o → s.heap.get? a = some o) :
    ∀ (n : Nat) (t : Sem α) (a : α), strip K n t = some a → Q a s → wpAny (model prog w) A t Q E s := by
  intro n
  induction n with
  | zero =>
    intro t a h q
    cases t with
    | pure b => exact wpAny_pure ((Option.some.inj h) ▸ q)
    | _ => exact nomatch h
  | succ n ih =>
    intro t a h q
    cases t with
    | pure b => exact wpAny_pure ((Option.some.inj h) ▸ q)
    | rule tg k => exact x_rule (ih (k ()) a h q)
    | load c p k =>
      cases z : K c with
      | none => simp only [strip, z] at h; cases h
      | some o =>
        simp only [strip, z] at h
        exact x_load (T c o z) (ih (k o) a h q)
    | _ => exact nomatch h
theorem wp_push {M : Model} {A : Around} {E : Value → Shared → Prop} {Q : Unit → Shared → Prop} {h : Heap} {gs : Array GenState} {dr : Drawn} {t : Nat} {os : OsState} {l : Addr} {q : List Value} {ep : Nat} {v : Value}
    (ho : h.get? l = some ⟨.type "list", none, .seq q.toArray ep, #[]⟩) (hq : q.length ≤ 1000)
    (k : ∀ h' ep', Heap.SameBut l h h' → h'.get? l = some ⟨.type "list", none, .seq (q ++ [v]).toArray ep', #[]⟩ → Q () ⟨h', gs, dr, t, os⟩) :
    wpAny M A (updateSeq l fun x => x.push v) Q E ⟨h, gs, dr, t, os⟩ := by
  refine wpAny_updateSeq ho rfl (k _ (if (q.toArray.push v).size == q.toArray.size then ep else ep + 1) (Heap.SameBut.update ..) ?_) ?_ ?_
  · have e : (q ++ [v]).toArray = q.toArray.push v := by simp
    rw [e]
    exact Heap.get?_update_self _ ho rfl
  · show q.toArray.size ≤ sizeLine
    have : sizeLine = 16777216 := rfl
    simp; omega
  · have : sizeLine = 16777216 := rfl
    simp; omega
theorem entry_sub_loop : entryFor table "re.Pattern.sub.loop" = some Builtin.«re.Pattern.sub.loop» := entryFor_of_tree (by kernel_rfl)
theorem Aft.of_same {h h' : Heap} {l : Addr} {o : Obj} (s : Heap.SameBut l h h') (e : h'.get? l = some o) : Aft h [(l, o)] h' :=
  ⟨Nat.le_of_eq s.1.symm, fun p hp => (by
    rcases List.mem_singleton.mp hp with rfl
    exact e), fun b ob eb z => (s.2 b fun x => z (l, o) (.head _) x.symm).trans eb⟩
theorem same_trans {h h₁ h' : Heap} {l : Addr} (x : Heap.SameBut l h h₁) (y : Heap.SameBut l h₁ h') : Heap.SameBut l h h' := x.trans y
section
variable {w : World} {b1 b2 : Bool} {A : Around} {R : Result → Shared → Prop} {h : Heap} {gs : Array GenState} {dr : Drawn} {t0 : Nat} {os : OsState} {pat c l : Addr} {X rep : Str} {tX tr : Tok} {n p a b : Nat} {q : List Value} {ep : Nat}
theorem subloop_some (T : Tp (Kt (Pf w.params b1 b2)) h)
    (hW : strip (Kt (Pf w.params b1 b2)) 40 (Fast.tw11345365114577263350 (.ref pat) (.str X tX)) = some (tgt (Pf w.params b1 b2) pat c (.str X tX) X.cps))
    (hnf : nf (Pf w.params b1 b2) pat c (.str X tX) X.cps p = some (some (a, b))) (hab : (b == a) = false) (hX : X.length ≤ 1000)
    (hl : h.get? l = some ⟨.type "list", none, .seq q.toArray ep, #[]⟩) (hq : q.length ≤ 900)
    (k : ∀ h' t' tok ep', Aft h [(l, ⟨.type "list", none, .seq (q ++ ((if p < a then [Value.str ⟨X.cps.extract p a⟩ tok] else []) ++ [Value.str rep tr])).toArray ep', #[]⟩)] h' →
      codeAny (model PySem.Challenge.pw_re0026_01 (Wf w b1 b2)) A (subC pat X tX rep tr (n + 1) b l) R ⟨h', gs, dr, t', os⟩) :
    codeAny (model PySem.Challenge.pw_re0026_01 (Wf w b1 b2)) A (subC pat X tX rep tr n p l) R ⟨h, gs, dr, t0, os⟩ := by
  refine codeAny_builtin entry_sub_loop ?_
  unfold Builtin.«re.Pattern.sub.loop»
  dsimp only
  rw [← Fast.te11345365114577263350] at hW
  refine wpAny_bind (strip_wp T.K 40 _ _ hW ?_)
  rw [if_pos (by rfl)]
  refine wpAny_bind (strip_wp (K := fun _ => none) (fun _ _ e => nomatch e) 5 _ () rfl ?_)
  rw [if_neg (by simp)]
  unfold nf at hnf
  obtain ⟨om, e1, e2⟩ := Option.map_eq_some_iff.mp hnf
  cases om with
  | none => cases e2
  | some m =>
    have e2' : m.start = a ∧ m.handed = b := by simpa using e2
    obtain ⟨ea, eb⟩ := e2'
    rw [← Fast.te1458614293007215572] at e1
    refine wpAny_bind (strip_wp (K := fun _ => none) (fun _ _ e => nomatch e) 60 _ _ e1 ?_)
    have hq' : (Code.builtin "re.Pattern.sub.loop" ⟨[Value.ref pat, Value.str X tX, Value.str rep tr, rawInt 0, rawInt 0, rawInt ((n : Int) + 1), rawInt m.handed, rawInt m.handed, Value.bool (m.handed == m.start), Value.ref l, Value.bool false], []⟩) = subC pat X tX rep tr (n + 1) b l := by
      rw [ea, eb, hab]; rfl
    have hquiet : (subC pat X tX rep tr (n + 1) b l).quiet = true := Code.quiet_builtin _ (by decide +kernel)
    dsimp only
    rw [ea]
    have tp : ((p : Int)).toNat = p := rfl
    by_cases hp : p < a
    · rw [if_pos (by rw [tp]; exact hp)]
      have lenx : (⟨X.cps.extract p a⟩ : Str).length ≤ sizeLine := by
        show (X.cps.extract p a).size ≤ sizeLine
        have : sizeLine = 16777216 := rfl
        have : X.cps.size ≤ 1000 := hX
        simp; omega
      refine wpAny_bind ?_
      show wpAny _ _ (mkStr ⟨X.cps.extract p a⟩) _ _ _
      refine wpAny_mkStr ?_ lenx
      refine wpAny_bind (wp_push hl (by omega) fun h₁ ep₁ s₁ g₁ => ?_)
      rw [if_pos (by rfl)]
      refine wpAny_bind (wpAny_pure ?_)
      rw [if_pos (by rfl)]
      refine wpAny_bind (wp_push g₁ (by simp; omega) fun h₂ ep₂ s₂ g₂ => ?_)
      refine wpAny_pure ?_
      rw [← ea, hq']
      refine ⟨hquiet, k h₂ _ t0 ep₂ ?_⟩
      rw [if_pos hp]
      have := Aft.of_same (s₁.trans s₂) g₂
      rw [List.append_assoc] at this
      exact this
    · rw [if_neg (by rw [tp]; exact hp)]
      rw [if_pos (by rfl)]
      refine wpAny_bind (wpAny_pure ?_)
      rw [if_pos (by rfl)]
      refine wpAny_bind (wp_push hl (by omega) fun h₂ ep₂ s₂ g₂ => ?_)
      refine wpAny_pure ?_
      rw [← ea, hq']
      refine ⟨hquiet, k h₂ _ t0 ep₂ ?_⟩
      rw [if_neg hp]
      exact Aft.of_same s₂ g₂
end
end Mine
end
section
open PySem PySem.W PyProof.Rows PySem.W.X
open PySem.Builtin.Re PySem.Builtin.Str PySem.Builtin
namespace Mine
theorem fold_len : ∀ (l : List Str) (n : Nat), (l.foldl (fun (a : Nat) (x : Str) => a + x.length + (⟨#[]⟩ : Str).length) n) = n + (l.map (·.length)).sum
  | [], n => rfl
  | x :: l, n => by
    rw [List.foldl_cons, fold_len l]
    have : (⟨#[]⟩ : Str).length = 0 := rfl
    rw [this]
    simp only [List.map_cons, List.sum_cons]
    omega
theorem not_long {q : List (Str × Tok)} (hb : (q.map (·.1.length)).sum ≤ 1000000) : tooLong ((q.map (·.1)).toArray.foldl (· + ·.length + (⟨#[]⟩ : Str).length) 0) = false := by
  have e : (q.map (·.1)).toArray.foldl (· + ·.length + (⟨#[]⟩ : Str).length) 0 = 0 + ((q.map (·.1)).map (·.length)).sum := by
    rw [← fold_len]
    simp
  rw [e, List.map_map]
  have : ((fun x : Str => x.length) ∘ fun x : Str × Tok => x.1) = fun x => x.1.length := rfl
  unfold tooLong
  have h2 : sizeLine = 16777216 := rfl
  apply decide_eq_false
  rw [h2]
  have : (q.map ((fun x : Str => x.length) ∘ fun x : Str × Tok => x.1)).sum = (q.map (·.1.length)).sum := rfl
  omega
theorem glued_one (s x : Str) : glued s [x] = x := by
  rw [StrLaws.glued_eq_join]; rfl
/-- texts joined by nothing -/
theorem wp_join {prog : Program} {w : World} {A : Around} {Q E : Value → Shared → Prop} {h : Heap} {gs : Array GenState} {dr : Drawn} {t t0 : Nat} {os : OsState} {l : Addr} {q : List (Str × Tok)} {ep : Nat}
    (hl : h.get? l = some ⟨.type "list", none, .seq (strValues q).toArray ep, #[]⟩) (hb : (q.map (·.1.length)).sum ≤ 1000000)
    (k : ∀ tok t', Q (.str (glued ⟨#[]⟩ (q.map (·.1))) tok) ⟨h, gs, dr, t', os⟩) :
    wpAny (model prog w) A (call (.builtin "str.join") [.str ⟨#[]⟩ t, .ref l]) Q E ⟨h, gs, dr, t0, os⟩ := by
  refine call_meets F.slot_str_join (typeIs_str _ _ _) F.entry_str_join (F.args_str_join_2 _ _) (meets_str_join_list ⟨#[]⟩ t l q (not_long hb)) ⟨⟨_, hl, rfl, _, rfl⟩, ?_⟩
  have big : (glued ⟨#[]⟩ (q.map (·.1))).length ≤ sizeLine := by
    rw [size_glued, List.map_map]
    have h2 : sizeLine = 16777216 := rfl
    have h3 : (⟨#[]⟩ : Str).length = 0 := rfl
    have : (q.map ((fun x : Str => x.length) ∘ fun x : Str × Tok => x.1)).sum = (q.map (·.1.length)).sum := rfl
    rw [h3, Nat.mul_zero]
    omega
  match q, k, big with
  | [], k, big => exact ⟨big, k _ _⟩
  | [p], k, big =>
    have := k p.2 t0
    rw [List.map_cons, List.map_nil, glued_one] at this
    exact this
  | p :: r :: q, k, big => exact ⟨big, k _ _⟩
section
variable {w : World} {b1 b2 : Bool} {A : Around} {R : Result → Shared → Prop} {h : Heap} {gs : Array GenState} {dr : Drawn} {t0 : Nat} {os : OsState} {pat c l : Addr} {X rep : Str} {tX tr : Tok} {n p a b : Nat} {q : List (Str × Tok)} {ep : Nat}
theorem subloop_none (T : Tp (Kt (Pf w.params b1 b2)) h)
    (hW : strip (Kt (Pf w.params b1 b2)) 40 (Fast.tw11345365114577263350 (.ref pat) (.str X tX)) = some (tgt (Pf w.params b1 b2) pat c (.str X tX) X.cps))
    (hnf : nf (Pf w.params b1 b2) pat c (.str X tX) X.cps p = some none) (hX : X.length ≤ 1000)
    (hl : h.get? l = some ⟨.type "list", none, .seq (strValues q).toArray ep, #[]⟩) (hq : q.length ≤ 900)
    (hne : ¬ p < X.cps.size → q ≠ []) (hsum : ¬ p < X.cps.size → (q.map (·.1.length)).sum ≤ 1000000)
    (hsum' : p < X.cps.size → ((q ++ [((⟨X.cps.extract p X.cps.size⟩ : Str), t0)]).map (·.1.length)).sum ≤ 1000000)
    (k : ∀ h' t' tok {o : Obj}, Aft h [(l, o)] h' → R (.ok (.ret (.str (glued ⟨#[]⟩ (q.map (·.1) ++ if p < X.cps.size then [⟨X.cps.extract p X.cps.size⟩] else [])) tok))) ⟨h', gs, dr, t', os⟩) :
    codeAny (model PySem.Challenge.pw_re0026_01 (Wf w b1 b2)) A (subC pat X tX rep tr n p l) R ⟨h, gs, dr, t0, os⟩ := by
  refine codeAny_builtin entry_sub_loop ?_
  unfold Builtin.«re.Pattern.sub.loop»
  dsimp only
  rw [← Fast.te11345365114577263350] at hW
  refine wpAny_bind (strip_wp T.K 40 _ _ hW ?_)
  rw [if_pos (by rfl)]
  refine wpAny_bind (strip_wp (K := fun _ => none) (fun _ _ e => nomatch e) 5 _ () rfl ?_)
  rw [if_neg (by simp)]
  unfold nf at hnf
  obtain ⟨om, e1, e2⟩ := Option.map_eq_some_iff.mp hnf
  cases om with
  | some m => cases e2
  | none =>
    rw [← Fast.te1458614293007215572] at e1
    refine wpAny_bind (strip_wp (K := fun _ => none) (fun _ _ e => nomatch e) 60 _ _ e1 ?_)
    dsimp only
    by_cases hp : p < X.cps.size
    · rw [if_pos (by exact hp)]
      have lenx : (⟨X.cps.extract p X.cps.size⟩ : Str).length ≤ sizeLine := by
        show (X.cps.extract p X.cps.size).size ≤ sizeLine
        have : sizeLine = 16777216 := rfl
        have : X.cps.size ≤ 1000 := hX
        simp; omega
      refine wpAny_bind ?_
      show wpAny _ _ (mkStr ⟨X.cps.extract p X.cps.size⟩) _ _ _
      refine wpAny_mkStr ?_ lenx
      refine wpAny_bind (wp_push hl (by simp [strValues]; omega) fun h₁ ep₁ s₁ g₁ => ?_)
      have g₁' : h₁.get? l = some ⟨.type "list", none, .seq (strValues (q ++ [(⟨X.cps.extract p X.cps.size⟩, t0)])).toArray ep₁, #[]⟩ := by
        rw [g₁]; simp [strValues]
      refine wpAny_bind ?_
      show wpAny _ _ (mkStr ⟨X.cps.extract 0 0⟩) _ _ _
      have e0 : (⟨X.cps.extract 0 0⟩ : Str) = ⟨#[]⟩ := by simp
      rw [e0]
      refine wpAny_mkStr ?_ (by decide)
      unfold seqItems?
      refine wpAny_bind (wpAny_bind (wpAny_load g₁' ?_))
      refine wpAny_pure ?_
      rw [if_neg (by simp [strValues])]
      refine wpAny_bind ?_
      show wpAny _ _ (call (.builtin "str.join") _) _ _ _
      refine wp_join g₁' (hsum' hp) fun tok t' => ?_
      rw [if_neg (by decide)]
      refine wpAny_pure ?_
      have := k h₁ t' tok (Aft.of_same s₁ g₁')
      rw [if_pos hp] at this
      rw [List.map_append]
      exact this
    · rw [if_neg (by exact hp)]
      refine wpAny_bind ?_
      show wpAny _ _ (mkStr ⟨X.cps.extract 0 0⟩) _ _ _
      have e0 : (⟨X.cps.extract 0 0⟩ : Str) = ⟨#[]⟩ := by simp
      rw [e0]
      refine wpAny_mkStr ?_ (by decide)
      unfold seqItems?
      refine wpAny_bind (wpAny_bind (wpAny_load hl ?_))
      refine wpAny_pure ?_
      have hne' := hne hp
      rw [if_neg (by simpa [strValues] using hne')]
      refine wpAny_bind ?_
      show wpAny _ _ (call (.builtin "str.join") _) _ _ _
      refine wp_join hl (hsum hp) fun tok t' => ?_
      rw [if_neg (by decide)]
      refine wpAny_pure ?_
      have := k h t' tok (Aft.of_same (Heap.SameBut.refl ..) hl)
      rw [if_neg hp, List.append_nil] at this
      exact this
end
end Mine
end
section
open PySem PySem.W PyProof.Rows PySem.W.X
open PySem.Builtin.Re PySem.Builtin.Str PySem.Builtin
namespace Mine
noncomputable def flat (l : List (Str × Tok)) : List Nat := l.flatMap fun p => p.1.cps.toList
theorem flat_append (a b : List (Str × Tok)) : flat (a ++ b) = flat a ++ flat b := by simp [flat]
theorem glue_fold : ∀ (rest : List Str) (acc : Array Nat), rest.foldl (fun acc (p : Str) => acc ++ (⟨#[]⟩ : Str).cps ++ p.cps) acc = (acc.toList ++ rest.flatMap (·.cps.toList)).toArray
  | [], acc => by simp
  | x :: r, acc => by
    rw [List.foldl_cons, glue_fold r]
    simp
theorem glue_nil (l : List Str) : glued ⟨#[]⟩ l = ⟨(l.flatMap (·.cps.toList)).toArray⟩ := by
  cases l with
  | nil => rfl
  | cons x r =>
    show (⟨r.foldl (fun acc (p : Str) => acc ++ (⟨#[]⟩ : Str).cps ++ p.cps) x.cps⟩ : Str) = _
    rw [glue_fold]; rfl
theorem glue_flat (q : List (Str × Tok)) : glued ⟨#[]⟩ (q.map (·.1)) = ⟨(flat q).toArray⟩ := by
  rw [glue_nil]
  simp [flat, List.flatMap_map]
theorem flat_len : ∀ q : List (Str × Tok), (q.map (·.1.length)).sum = (flat q).length
  | [] => rfl
  | p :: q => by
    simp only [List.map_cons, List.sum_cons, flat_len q, flat, List.flatMap_cons, List.length_append]
    rfl
theorem Aft.trans1 {h h₁ h₂ : Heap} {l : Addr} {o₁ o₂ : Obj} (x : Aft h [(l, o₁)] h₁) (y : Aft h₁ [(l, o₂)] h₂) : Aft h [(l, o₂)] h₂ :=
  ⟨Nat.le_trans x.le y.le, y.nw, fun b o e z => y.keep b o (x.keep b o e fun p hp => (by rcases List.mem_singleton.mp hp with rfl; exact z (l, o₂) (.head _))) z⟩
theorem Tp.aft {K : Nat → Option Obj} {h h' : Heap} {L : List (Addr × Obj)} (T : Tp K h) (x : Aft h L h') (h2 : (K cStatics).isSome = true) (hl : ∀ p ∈ L, K p.1 = none) : Tp K h' := by
  have keep : ∀ a o, K a = some o → h'.get? a = some o := fun a o e => x.keep a o (T.K a o e) fun p hp q => by have := hl p hp; rw [q, e] at this; cases this
  refine ⟨keep, ?_⟩
  obtain ⟨o, e⟩ := Option.isSome_iff_exists.mp h2
  obtain ⟨mc, ⟨o', es, ep, ho, r⟩, hn⟩ := T.lim
  have q := T.K _ _ e
  rw [ho] at q
  have q := Option.some.inj q
  subst q
  exact ⟨mc, ⟨_, es, ep, keep _ _ e, r⟩, hn⟩
theorem rows_size (e : List Nat) : ∀ bs : List Bool, (rowsA e bs).size = bs.length * (e.length + 1)
  | [] => by simp [rowsA]
  | b :: bs => by
    have := rows_size e bs
    simp only [rowsA, List.size_toArray, List.flatMap_cons, List.length_append, List.length_cons] at this ⊢
    rw [this, Nat.add_mul]; omega
theorem rows_extract (e : List Nat) : ∀ (bs : List Bool) (j : Nat), j < bs.length → ((bs.flatMap fun b => ch b :: e).drop (j * (e.length + 1))).take 1 = [ch (bs.getD j false)]
  | [], j, h => by simp at h
  | b :: bs, 0, h => by simp
  | b :: bs, j + 1, h => by
    have ih := rows_extract e bs j (by simpa using h)
    have el : (ch b :: e).length = e.length + 1 := rfl
    rw [List.flatMap_cons, Nat.add_mul, Nat.one_mul, Nat.add_comm, ← List.drop_drop, List.drop_append_of_le_length (by rw [el]; exact Nat.le_refl _)]
    rw [show List.drop (e.length + 1) (ch b :: e) = [] from by simp, List.nil_append, ih]
    simp
theorem len3 : ∀ bs : List Bool, (bs.flatMap fun b => [ch b, 13, 10]).length = bs.length * 3
  | [] => rfl
  | b :: bs => by rw [List.flatMap_cons, List.length_append, len3 bs, List.length_cons (as := bs)]; simp only [List.length_cons, List.length_nil]; omega
section
variable {w : World} {b1 b2 : Bool} {A : Around} {R : Result → Shared → Prop} {gs : Array GenState} {dr : Drawn} {os : OsState} {l : Addr} {tX tr : Tok} {e : List Nat} {bs : List Bool}
theorem sub2_loop (hbs : bs.length = 16) (he : e.length ≤ 2) (he1 : 1 ≤ e.length) (hK : Kt (Pf w.params b1 b2) l = none)
    (hW : strip (Kt (Pf w.params b1 b2)) 40 (Fast.tw11345365114577263350 (.ref 121) (.str ⟨rowsA e bs⟩ tX)) = some (tgt (Pf w.params b1 b2) 121 120 (.str ⟨rowsA e bs⟩ tX) (rowsA e bs)))
    (NF : ∀ j < 16, nf (Pf w.params b1 b2) 121 120 (.str ⟨rowsA e bs⟩ tX) (rowsA e bs) (j * (e.length + 1)) = some (some (j * (e.length + 1) + 1, (j + 1) * (e.length + 1))))
    (NE : nf (Pf w.params b1 b2) 121 120 (.str ⟨rowsA e bs⟩ tX) (rowsA e bs) (16 * (e.length + 1)) = some none) :
    ∀ (k j : Nat), j + k = 16 → ∀ (h : Heap) (t0 : Nat) (q : List (Str × Tok)) (ep : Nat), Tp (Kt (Pf w.params b1 b2)) h → h.get? l = some ⟨.type "list", none, .seq (strValues q).toArray ep, #[]⟩ →
      q.length = 2 * j → flat q = (bs.take j).flatMap (fun b => [ch b, 13, 10]) →
      (∀ h' t' tok {o : Obj}, Aft h [(l, o)] h' → R (.ok (.ret (.str ⟨(bs.flatMap fun b => [ch b, 13, 10]).toArray⟩ tok))) ⟨h', gs, dr, t', os⟩) →
      codeAny (model PySem.Challenge.pw_re0026_01 (Wf w b1 b2)) A (subC 121 ⟨rowsA e bs⟩ tX ⟨#[13,10]⟩ tr j (j * (e.length + 1)) l) R ⟨h, gs, dr, t0, os⟩ := by
  have hsz := rows_size e bs
  rw [hbs] at hsz
  have hX : (⟨rowsA e bs⟩ : Str).length ≤ 1000 := by
    show (rowsA e bs).size ≤ 1000
    rw [hsz]
    have := Nat.mul_le_mul_left 16 (Nat.succ_le_succ he)
    omega
  intro k
  induction k with
  | zero =>
    intro j hj h t0 q ep T hl hq hf kk
    have j16 : j = 16 := by omega
    subst j16
    have hnp : ¬ 16 * (e.length + 1) < (rowsA e bs).size := by rw [hsz]; exact Nat.lt_irrefl _
    refine subloop_none T hW NE hX hl (by omega) (fun _ z => by rw [z] at hq; simp at hq) (fun _ => ?_) (fun z => absurd z hnp) fun h' t' tok o x => ?_
    · rw [flat_len, hf, List.take_of_length_le (by omega)]
      have : (bs.flatMap fun b => [ch b, 13, 10]).length = 48 := by
        rw [len3, hbs]
      omega
    · rw [if_neg hnp, List.append_nil, glue_flat, hf, List.take_of_length_le (by omega)]
      exact kk h' t' tok x
  | succ k ih =>
    intro j hj h t0 q ep T hl hq hf kk
    have jl : j < 16 := by omega
    refine subloop_some T hW (NF j jl) ?_ hX (q := strValues q) hl (by simp [strValues]; omega) fun h' t' tok ep' x => ?_
    · have : (j + 1) * (e.length + 1) = j * (e.length + 1) + (e.length + 1) := by rw [Nat.add_mul]; omega
      rw [this]
      exact beq_eq_false_iff_ne.mpr (by omega)
    · have lt : j * (e.length + 1) < j * (e.length + 1) + 1 := Nat.lt_succ_self _
      rw [if_pos lt] at x
      have ex : (rowsA e bs).extract (j * (e.length + 1)) (j * (e.length + 1) + 1) = #[ch (bs.getD j false)] := by
        apply Array.ext'
        rw [Array.toList_extract]
        have := rows_extract e bs j (by omega)
        simpa [rowsA] using this
      rw [ex] at x
      have sv : strValues q ++ ([Value.str ⟨#[ch (bs.getD j false)]⟩ tok] ++ [Value.str ⟨#[13,10]⟩ tr]) = strValues (q ++ [(⟨#[ch (bs.getD j false)]⟩, tok), (⟨#[13,10]⟩, tr)]) := by simp [strValues]
      rw [sv] at x
      refine ih (j + 1) (by omega) h' t' _ ep' (T.aft x (kt_two _) (fun p hp => by rcases List.mem_singleton.mp hp with rfl; exact hK)) (x.nw _ (.head _)) (by simp [hq]; omega) ?_ fun h'' t'' tok' o x' => kk h'' t'' tok' (x.trans1 x')
      rw [flat_append, hf]
      have : bs.take (j + 1) = bs.take j ++ [bs.getD j false] := by
        rw [List.take_add_one]
        congr 1
        rw [List.getD_eq_getElem?_getD]
        have := List.getElem?_eq_getElem (l := bs) (i := j) (by omega)
        rw [this]; rfl
      rw [this, List.flatMap_append]
      simp [flat]
end
end Mine
end
section
open PySem PySem.W PyProof.Rows PySem.W.X
open PySem.Builtin.Re
namespace Mine
/-- the first dot from row i on -/
noncomputable def nextDot (bs : List Bool) (i : Nat) : Option Nat := (List.range 16).find? fun j => Nat.ble i j && bs.getD j false
theorem cd115 (P : Params) : codeArr P 115 = #[14,4,0,1,1,6,1,16,46,1] := by kernel_rfl
theorem nf2_r_0 (P : Params) (s : Value) (b0 b1 b2 b3 b4 b5 b6 b7 b8 b9 b10 b11 b12 b13 b14 b15 : Bool) : nf P 121 120 s (rowsA [13] [b0, b1, b2, b3, b4, b5, b6, b7, b8, b9, b10, b11, b12, b13, b14, b15]) 0 = some (some (1, 2)) := by cases b0 <;> cases b1 <;> kernel_rfl
theorem nf2_r_1 (P : Params) (s : Value) (b0 b1 b2 b3 b4 b5 b6 b7 b8 b9 b10 b11 b12 b13 b14 b15 : Bool) : nf P 121 120 s (rowsA [13] [b0, b1, b2, b3, b4, b5, b6, b7, b8, b9, b10, b11, b12, b13, b14, b15]) 2 = some (some (3, 4)) := by cases b1 <;> cases b2 <;> kernel_rfl
theorem nf2_r_2 (P : Params) (s : Value) (b0 b1 b2 b3 b4 b5 b6 b7 b8 b9 b10 b11 b12 b13 b14 b15 : Bool) : nf P 121 120 s (rowsA [13] [b0, b1, b2, b3, b4, b5, b6, b7, b8, b9, b10, b11, b12, b13, b14, b15]) 4 = some (some (5, 6)) := by cases b2 <;> cases b3 <;> kernel_rfl
theorem nf2_r_3 (P : Params) (s : Value) (b0 b1 b2 b3 b4 b5 b6 b7 b8 b9 b10 b11 b12 b13 b14 b15 : Bool) : nf P 121 120 s (rowsA [13] [b0, b1, b2, b3, b4, b5, b6, b7, b8, b9, b10, b11, b12, b13, b14, b15]) 6 = some (some (7, 8)) := by cases b3 <;> cases b4 <;> kernel_rfl
theorem nf2_r_4 (P : Params) (s : Value) (b0 b1 b2 b3 b4 b5 b6 b7 b8 b9 b10 b11 b12 b13 b14 b15 : Bool) : nf P 121 120 s (rowsA [13] [b0, b1, b2, b3, b4, b5, b6, b7, b8, b9, b10, b11, b12, b13, b14, b15]) 8 = some (some (9, 10)) := by cases b4 <;> cases b5 <;> kernel_rfl
theorem nf2_r_5 (P : Params) (s : Value) (b0 b1 b2 b3 b4 b5 b6 b7 b8 b9 b10 b11 b12 b13 b14 b15 : Bool) : nf P 121 120 s (rowsA [13] [b0, b1, b2, b3, b4, b5, b6, b7, b8, b9, b10, b11, b12, b13, b14, b15]) 10 = some (some (11, 12)) := by cases b5 <;> cases b6 <;> kernel_rfl
theorem nf2_r_6 (P : Params) (s : Value) (b0 b1 b2 b3 b4 b5 b6 b7 b8 b9 b10 b11 b12 b13 b14 b15 : Bool) : nf P 121 120 s (rowsA [13] [b0, b1, b2, b3, b4, b5, b6, b7, b8, b9, b10, b11, b12, b13, b14, b15]) 12 = some (some (13, 14)) := by cases b6 <;> cases b7 <;> kernel_rfl
theorem nf2_r_7 (P : Params) (s : Value) (b0 b1 b2 b3 b4 b5 b6 b7 b8 b9 b10 b11 b12 b13 b14 b15 : Bool) : nf P 121 120 s (rowsA [13] [b0, b1, b2, b3, b4, b5, b6, b7, b8, b9, b10, b11, b12, b13, b14, b15]) 14 = some (some (15, 16)) := by cases b7 <;> cases b8 <;> kernel_rfl
theorem nf2_r_8 (P : Params) (s : Value) (b0 b1 b2 b3 b4 b5 b6 b7 b8 b9 b10 b11 b12 b13 b14 b15 : Bool) : nf P 121 120 s (rowsA [13] [b0, b1, b2, b3, b4, b5, b6, b7, b8, b9, b10, b11, b12, b13, b14, b15]) 16 = some (some (17, 18)) := by cases b8 <;> cases b9 <;> kernel_rfl
theorem nf2_r_9 (P : Params) (s : Value) (b0 b1 b2 b3 b4 b5 b6 b7 b8 b9 b10 b11 b12 b13 b14 b15 : Bool) : nf P 121 120 s (rowsA [13] [b0, b1, b2, b3, b4, b5, b6, b7, b8, b9, b10, b11, b12, b13, b14, b15]) 18 = some (some (19, 20)) := by cases b9 <;> cases b10 <;> kernel_rfl
theorem nf2_r_10 (P : Params) (s : Value) (b0 b1 b2 b3 b4 b5 b6 b7 b8 b9 b10 b11 b12 b13 b14 b15 : Bool) : nf P 121 120 s (rowsA [13] [b0, b1, b2, b3, b4, b5, b6, b7, b8, b9, b10, b11, b12, b13, b14, b15]) 20 = some (some (21, 22)) := by cases b10 <;> cases b11 <;> kernel_rfl
theorem nf2_r_11 (P : Params) (s : Value) (b0 b1 b2 b3 b4 b5 b6 b7 b8 b9 b10 b11 b12 b13 b14 b15 : Bool) : nf P 121 120 s (rowsA [13] [b0, b1, b2, b3, b4, b5, b6, b7, b8, b9, b10, b11, b12, b13, b14, b15]) 22 = some (some (23, 24)) := by cases b11 <;> cases b12 <;> kernel_rfl
theorem nf2_r_12 (P : Params) (s : Value) (b0 b1 b2 b3 b4 b5 b6 b7 b8 b9 b10 b11 b12 b13 b14 b15 : Bool) : nf P 121 120 s (rowsA [13] [b0, b1, b2, b3, b4, b5, b6, b7, b8, b9, b10, b11, b12, b13, b14, b15]) 24 = some (some (25, 26)) := by cases b12 <;> cases b13 <;> kernel_rfl
theorem nf2_r_13 (P : Params) (s : Value) (b0 b1 b2 b3 b4 b5 b6 b7 b8 b9 b10 b11 b12 b13 b14 b15 : Bool) : nf P 121 120 s (rowsA [13] [b0, b1, b2, b3, b4, b5, b6, b7, b8, b9, b10, b11, b12, b13, b14, b15]) 26 = some (some (27, 28)) := by cases b13 <;> cases b14 <;> kernel_rfl
theorem nf2_r_14 (P : Params) (s : Value) (b0 b1 b2 b3 b4 b5 b6 b7 b8 b9 b10 b11 b12 b13 b14 b15 : Bool) : nf P 121 120 s (rowsA [13] [b0, b1, b2, b3, b4, b5, b6, b7, b8, b9, b10, b11, b12, b13, b14, b15]) 28 = some (some (29, 30)) := by cases b14 <;> cases b15 <;> kernel_rfl
theorem nf2_r_15 (P : Params) (s : Value) (b0 b1 b2 b3 b4 b5 b6 b7 b8 b9 b10 b11 b12 b13 b14 b15 : Bool) : nf P 121 120 s (rowsA [13] [b0, b1, b2, b3, b4, b5, b6, b7, b8, b9, b10, b11, b12, b13, b14, b15]) 30 = some (some (31, 32)) := by cases b15 <;> kernel_rfl
theorem nf2_r_end (P : Params) (s : Value) (b0 b1 b2 b3 b4 b5 b6 b7 b8 b9 b10 b11 b12 b13 b14 b15 : Bool) : nf P 121 120 s (rowsA [13] [b0, b1, b2, b3, b4, b5, b6, b7, b8, b9, b10, b11, b12, b13, b14, b15]) 32 = some none := by kernel_rfl
theorem nf2_n_0 (P : Params) (s : Value) (b0 b1 b2 b3 b4 b5 b6 b7 b8 b9 b10 b11 b12 b13 b14 b15 : Bool) : nf P 121 120 s (rowsA [10] [b0, b1, b2, b3, b4, b5, b6, b7, b8, b9, b10, b11, b12, b13, b14, b15]) 0 = some (some (1, 2)) := by cases b0 <;> kernel_rfl
theorem nf2_n_1 (P : Params) (s : Value) (b0 b1 b2 b3 b4 b5 b6 b7 b8 b9 b10 b11 b12 b13 b14 b15 : Bool) : nf P 121 120 s (rowsA [10] [b0, b1, b2, b3, b4, b5, b6, b7, b8, b9, b10, b11, b12, b13, b14, b15]) 2 = some (some (3, 4)) := by cases b1 <;> kernel_rfl
theorem nf2_n_2 (P : Params) (s : Value) (b0 b1 b2 b3 b4 b5 b6 b7 b8 b9 b10 b11 b12 b13 b14 b15 : Bool) : nf P 121 120 s (rowsA [10] [b0, b1, b2, b3, b4, b5, b6, b7, b8, b9, b10, b11, b12, b13, b14, b15]) 4 = some (some (5, 6)) := by cases b2 <;> kernel_rfl
theorem nf2_n_3 (P : Params) (s : Value) (b0 b1 b2 b3 b4 b5 b6 b7 b8 b9 b10 b11 b12 b13 b14 b15 : Bool) : nf P 121 120 s (rowsA [10] [b0, b1, b2, b3, b4, b5, b6, b7, b8, b9, b10, b11, b12, b13, b14, b15]) 6 = some (some (7, 8)) := by cases b3 <;> kernel_rfl
theorem nf2_n_4 (P : Params) (s : Value) (b0 b1 b2 b3 b4 b5 b6 b7 b8 b9 b10 b11 b12 b13 b14 b15 : Bool) : nf P 121 120 s (rowsA [10] [b0, b1, b2, b3, b4, b5, b6, b7, b8, b9, b10, b11, b12, b13, b14, b15]) 8 = some (some (9, 10)) := by cases b4 <;> kernel_rfl
theorem nf2_n_5 (P : Params) (s : Value) (b0 b1 b2 b3 b4 b5 b6 b7 b8 b9 b10 b11 b12 b13 b14 b15 : Bool) : nf P 121 120 s (rowsA [10] [b0, b1, b2, b3, b4, b5, b6, b7, b8, b9, b10, b11, b12, b13, b14, b15]) 10 = some (some (11, 12)) := by cases b5 <;> kernel_rfl
theorem nf2_n_6 (P : Params) (s : Value) (b0 b1 b2 b3 b4 b5 b6 b7 b8 b9 b10 b11 b12 b13 b14 b15 : Bool) : nf P 121 120 s (rowsA [10] [b0, b1, b2, b3, b4, b5, b6, b7, b8, b9, b10, b11, b12, b13, b14, b15]) 12 = some (some (13, 14)) := by cases b6 <;> kernel_rfl
theorem nf2_n_7 (P : Params) (s : Value) (b0 b1 b2 b3 b4 b5 b6 b7 b8 b9 b10 b11 b12 b13 b14 b15 : Bool) : nf P 121 120 s (rowsA [10] [b0, b1, b2, b3, b4, b5, b6, b7, b8, b9, b10, b11, b12, b13, b14, b15]) 14 = some (some (15, 16)) := by cases b7 <;> kernel_rfl
theorem nf2_n_8 (P : Params) (s : Value) (b0 b1 b2 b3 b4 b5 b6 b7 b8 b9 b10 b11 b12 b13 b14 b15 : Bool) : nf P 121 120 s (rowsA [10] [b0, b1, b2, b3, b4, b5, b6, b7, b8, b9, b10, b11, b12, b13, b14, b15]) 16 = some (some (17, 18)) := by cases b8 <;> kernel_rfl
theorem nf2_n_9 (P : Params) (s : Value) (b0 b1 b2 b3 b4 b5 b6 b7 b8 b9 b10 b11 b12 b13 b14 b15 : Bool) : nf P 121 120 s (rowsA [10] [b0, b1, b2, b3, b4, b5, b6, b7, b8, b9, b10, b11, b12, b13, b14, b15]) 18 = some (some (19, 20)) := by cases b9 <;> kernel_rfl
theorem nf2_n_10 (P : Params) (s : Value) (b0 b1 b2 b3 b4 b5 b6 b7 b8 b9 b10 b11 b12 b13 b14 b15 : Bool) : nf P 121 120 s (rowsA [10] [b0, b1, b2, b3, b4, b5, b6, b7, b8, b9, b10, b11, b12, b13, b14, b15]) 20 = some (some (21, 22)) := by cases b10 <;> kernel_rfl
theorem nf2_n_11 (P : Params) (s : Value) (b0 b1 b2 b3 b4 b5 b6 b7 b8 b9 b10 b11 b12 b13 b14 b15 : Bool) : nf P 121 120 s (rowsA [10] [b0, b1, b2, b3, b4, b5, b6, b7, b8, b9, b10, b11, b12, b13, b14, b15]) 22 = some (some (23, 24)) := by cases b11 <;> kernel_rfl
theorem nf2_n_12 (P : Params) (s : Value) (b0 b1 b2 b3 b4 b5 b6 b7 b8 b9 b10 b11 b12 b13 b14 b15 : Bool) : nf P 121 120 s (rowsA [10] [b0, b1, b2, b3, b4, b5, b6, b7, b8, b9, b10, b11, b12, b13, b14, b15]) 24 = some (some (25, 26)) := by cases b12 <;> kernel_rfl
theorem nf2_n_13 (P : Params) (s : Value) (b0 b1 b2 b3 b4 b5 b6 b7 b8 b9 b10 b11 b12 b13 b14 b15 : Bool) : nf P 121 120 s (rowsA [10] [b0, b1, b2, b3, b4, b5, b6, b7, b8, b9, b10, b11, b12, b13, b14, b15]) 26 = some (some (27, 28)) := by cases b13 <;> kernel_rfl
theorem nf2_n_14 (P : Params) (s : Value) (b0 b1 b2 b3 b4 b5 b6 b7 b8 b9 b10 b11 b12 b13 b14 b15 : Bool) : nf P 121 120 s (rowsA [10] [b0, b1, b2, b3, b4, b5, b6, b7, b8, b9, b10, b11, b12, b13, b14, b15]) 28 = some (some (29, 30)) := by cases b14 <;> kernel_rfl
theorem nf2_n_15 (P : Params) (s : Value) (b0 b1 b2 b3 b4 b5 b6 b7 b8 b9 b10 b11 b12 b13 b14 b15 : Bool) : nf P 121 120 s (rowsA [10] [b0, b1, b2, b3, b4, b5, b6, b7, b8, b9, b10, b11, b12, b13, b14, b15]) 30 = some (some (31, 32)) := by cases b15 <;> kernel_rfl
theorem nf2_n_end (P : Params) (s : Value) (b0 b1 b2 b3 b4 b5 b6 b7 b8 b9 b10 b11 b12 b13 b14 b15 : Bool) : nf P 121 120 s (rowsA [10] [b0, b1, b2, b3, b4, b5, b6, b7, b8, b9, b10, b11, b12, b13, b14, b15]) 32 = some none := by kernel_rfl
theorem nf2_rn_0 (P : Params) (s : Value) (b0 b1 b2 b3 b4 b5 b6 b7 b8 b9 b10 b11 b12 b13 b14 b15 : Bool) : nf P 121 120 s (rowsA [13,10] [b0, b1, b2, b3, b4, b5, b6, b7, b8, b9, b10, b11, b12, b13, b14, b15]) 0 = some (some (1, 3)) := by cases b0 <;> kernel_rfl
theorem nf2_rn_1 (P : Params) (s : Value) (b0 b1 b2 b3 b4 b5 b6 b7 b8 b9 b10 b11 b12 b13 b14 b15 : Bool) : nf P 121 120 s (rowsA [13,10] [b0, b1, b2, b3, b4, b5, b6, b7, b8, b9, b10, b11, b12, b13, b14, b15]) 3 = some (some (4, 6)) := by cases b1 <;> kernel_rfl
theorem nf2_rn_2 (P : Params) (s : Value) (b0 b1 b2 b3 b4 b5 b6 b7 b8 b9 b10 b11 b12 b13 b14 b15 : Bool) : nf P 121 120 s (rowsA [13,10] [b0, b1, b2, b3, b4, b5, b6, b7, b8, b9, b10, b11, b12, b13, b14, b15]) 6 = some (some (7, 9)) := by cases b2 <;> kernel_rfl
theorem nf2_rn_3 (P : Params) (s : Value) (b0 b1 b2 b3 b4 b5 b6 b7 b8 b9 b10 b11 b12 b13 b14 b15 : Bool) : nf P 121 120 s (rowsA [13,10] [b0, b1, b2, b3, b4, b5, b6, b7, b8, b9, b10, b11, b12, b13, b14, b15]) 9 = some (some (10, 12)) := by cases b3 <;> kernel_rfl
theorem nf2_rn_4 (P : Params) (s : Value) (b0 b1 b2 b3 b4 b5 b6 b7 b8 b9 b10 b11 b12 b13 b14 b15 : Bool) : nf P 121 120 s (rowsA [13,10] [b0, b1, b2, b3, b4, b5, b6, b7, b8, b9, b10, b11, b12, b13, b14, b15]) 12 = some (some (13, 15)) := by cases b4 <;> kernel_rfl
theorem nf2_rn_5 (P : Params) (s : Value) (b0 b1 b2 b3 b4 b5 b6 b7 b8 b9 b10 b11 b12 b13 b14 b15 : Bool) : nf P 121 120 s (rowsA [13,10] [b0, b1, b2, b3, b4, b5, b6, b7, b8, b9, b10, b11, b12, b13, b14, b15]) 15 = some (some (16, 18)) := by cases b5 <;> kernel_rfl
theorem nf2_rn_6 (P : Params) (s : Value) (b0 b1 b2 b3 b4 b5 b6 b7 b8 b9 b10 b11 b12 b13 b14 b15 : Bool) : nf P 121 120 s (rowsA [13,10] [b0, b1, b2, b3, b4, b5, b6, b7, b8, b9, b10, b11, b12, b13, b14, b15]) 18 = some (some (19, 21)) := by cases b6 <;> kernel_rfl
theorem nf2_rn_7 (P : Params) (s : Value) (b0 b1 b2 b3 b4 b5 b6 b7 b8 b9 b10 b11 b12 b13 b14 b15 : Bool) : nf P 121 120 s (rowsA [13,10] [b0, b1, b2, b3, b4, b5, b6, b7, b8, b9, b10, b11, b12, b13, b14, b15]) 21 = some (some (22, 24)) := by cases b7 <;> kernel_rfl
theorem nf2_rn_8 (P : Params) (s : Value) (b0 b1 b2 b3 b4 b5 b6 b7 b8 b9 b10 b11 b12 b13 b14 b15 : Bool) : nf P 121 120 s (rowsA [13,10] [b0, b1, b2, b3, b4, b5, b6, b7, b8, b9, b10, b11, b12, b13, b14, b15]) 24 = some (some (25, 27)) := by cases b8 <;> kernel_rfl
theorem nf2_rn_9 (P : Params) (s : Value) (b0 b1 b2 b3 b4 b5 b6 b7 b8 b9 b10 b11 b12 b13 b14 b15 : Bool) : nf P 121 120 s (rowsA [13,10] [b0, b1, b2, b3, b4, b5, b6, b7, b8, b9, b10, b11, b12, b13, b14, b15]) 27 = some (some (28, 30)) := by cases b9 <;> kernel_rfl
theorem nf2_rn_10 (P : Params) (s : Value) (b0 b1 b2 b3 b4 b5 b6 b7 b8 b9 b10 b11 b12 b13 b14 b15 : Bool) : nf P 121 120 s (rowsA [13,10] [b0, b1, b2, b3, b4, b5, b6, b7, b8, b9, b10, b11, b12, b13, b14, b15]) 30 = some (some (31, 33)) := by cases b10 <;> kernel_rfl
theorem nf2_rn_11 (P : Params) (s : Value) (b0 b1 b2 b3 b4 b5 b6 b7 b8 b9 b10 b11 b12 b13 b14 b15 : Bool) : nf P 121 120 s (rowsA [13,10] [b0, b1, b2, b3, b4, b5, b6, b7, b8, b9, b10, b11, b12, b13, b14, b15]) 33 = some (some (34, 36)) := by cases b11 <;> kernel_rfl
theorem nf2_rn_12 (P : Params) (s : Value) (b0 b1 b2 b3 b4 b5 b6 b7 b8 b9 b10 b11 b12 b13 b14 b15 : Bool) : nf P 121 120 s (rowsA [13,10] [b0, b1, b2, b3, b4, b5, b6, b7, b8, b9, b10, b11, b12, b13, b14, b15]) 36 = some (some (37, 39)) := by cases b12 <;> kernel_rfl
theorem nf2_rn_13 (P : Params) (s : Value) (b0 b1 b2 b3 b4 b5 b6 b7 b8 b9 b10 b11 b12 b13 b14 b15 : Bool) : nf P 121 120 s (rowsA [13,10] [b0, b1, b2, b3, b4, b5, b6, b7, b8, b9, b10, b11, b12, b13, b14, b15]) 39 = some (some (40, 42)) := by cases b13 <;> kernel_rfl
theorem nf2_rn_14 (P : Params) (s : Value) (b0 b1 b2 b3 b4 b5 b6 b7 b8 b9 b10 b11 b12 b13 b14 b15 : Bool) : nf P 121 120 s (rowsA [13,10] [b0, b1, b2, b3, b4, b5, b6, b7, b8, b9, b10, b11, b12, b13, b14, b15]) 42 = some (some (43, 45)) := by cases b14 <;> kernel_rfl
theorem nf2_rn_15 (P : Params) (s : Value) (b0 b1 b2 b3 b4 b5 b6 b7 b8 b9 b10 b11 b12 b13 b14 b15 : Bool) : nf P 121 120 s (rowsA [13,10] [b0, b1, b2, b3, b4, b5, b6, b7, b8, b9, b10, b11, b12, b13, b14, b15]) 45 = some (some (46, 48)) := by cases b15 <;> kernel_rfl
theorem nf2_rn_end (P : Params) (s : Value) (b0 b1 b2 b3 b4 b5 b6 b7 b8 b9 b10 b11 b12 b13 b14 b15 : Bool) : nf P 121 120 s (rowsA [13,10] [b0, b1, b2, b3, b4, b5, b6, b7, b8, b9, b10, b11, b12, b13, b14, b15]) 48 = some none := by kernel_rfl
/-- the search machine at the start of a place -/
noncomputable def cdD : Array Nat := #[14,4,0,1,1,6,1,16,46,1]
noncomputable def m0 (X : Array Nat) (p : Nat) : Sre.M := Sre.forSearch cdD X 0 p X.size false
noncomputable def st (X : Array Nat) (L p : Nat) (u : Bool) (g : Sre.Seen) : Sre.M := { code := cdD, text := X, lim := L, start := p, lastStart := L, pc := 5, pos := p, handed := p, outermost := u, marks := #[], frames := [{ wait := .nextStart, pc := 5, pos := p, outermost := u }], weight := 1, seen := g }
noncomputable def adA (g : Sre.Seen) : Sre.Seen := (g.add 6).add 44
noncomputable def adL (g : Sre.Seen) : Sre.Seen := g.add 16
noncomputable def adS (g : Sre.Seen) : Sre.Seen := g.add 1
/-- the end: found, or not -/
noncomputable def mt (X : Array Nat) (L p : Nat) (u : Bool) (g : Sre.Seen) : Sre.M := { code := cdD, text := X, lim := L, start := p, lastStart := L, pc := 5, pos := p, handed := p + 1, outermost := u, marks := #[], weight := 0, answer := some true, seen := g }
noncomputable def mn (X : Array Nat) (L p : Nat) (u : Bool) (g : Sre.Seen) : Sre.M := { code := cdD, text := X, lim := L, start := p, lastStart := L, pc := 5, pos := p, handed := p, outermost := u, marks := #[], weight := 0, answer := some false, seen := g }
section
variable {X : Array Nat} {L p : Nat} {u : Bool} {g : Sre.Seen}
theorem st_at : (st X L p u g).step = if (p == 0 || X.getD (p - 1) 0 == 10) then { st X L p u (adA g) with pc := 7 } else { st X L p u (adA g) with answer := some false } := by kernel_rfl
theorem st_no : ({ st X L p u g with answer := some false } : Sre.M).step = if p < L then st X L (p + 1) false g else mn X L p u g := by kernel_rfl
theorem st_no7 : ({ st X L p u g with answer := some false, pc := 7 } : Sre.M).step = if p < L then st X L (p + 1) false g else mn X L p u g := by kernel_rfl
theorem st_lit : ({ st X L p u g with pc := 7 } : Sre.M).step = if p ≥ L then { st X L p u (adL g) with pc := 7, answer := some false } else match Sre.accepts cdD 7 (X.getD p 0) (adL g) with
    | .error why => ({ st X L p u (adL g) with pc := 7 } : Sre.M).stick why
    | .ok (false, q) => { st X L p u q with pc := 7, answer := some false }
    | .ok (true, q) => { st X L p u q with pc := 7 + Sre.itemWidth cdD 7, pos := p + 1 } := by kernel_rfl
theorem acc_lit {c : Nat} : Sre.accepts cdD 7 c g = .ok (c == 46, g) := by kernel_rfl
theorem st_suc : ({ st X L p u g with pc := 9, pos := p + 1 } : Sre.M).step = { st X L p u (adS g) with pc := 9, pos := p + 1, handed := p + 1, answer := some true } := by cases u <;> kernel_rfl
theorem st_yes : ({ st X L p u g with pc := 9, pos := p + 1, handed := p + 1, answer := some true } : Sre.M).step = mt X L p u g := by kernel_rfl
theorem mt_end : (mt X L p u g).step = { mt X L p u g with outcome := some .matched } := by kernel_rfl
theorem mn_end : (mn X L p u g).step = { mn X L p u g with outcome := some .failed } := by kernel_rfl
end
theorem run_done {m : Sre.M} (h : m.outcome.isSome = true) : ∀ n, m.runFor n = m
  | 0 => rfl
  | n + 1 => by unfold Sre.M.runFor; rw [if_pos h]
theorem run_add (b : Nat) : ∀ (a : Nat) (m : Sre.M), m.runFor (a + b) = (m.runFor a).runFor b
  | 0, m => by rw [Nat.zero_add]; rfl
  | a + 1, m => by
    rw [Nat.succ_add]
    by_cases h : m.outcome.isSome = true
    · rw [run_done h, run_done h, run_done h]
    · have e : ∀ n, m.runFor (n + 1) = m.step.runFor n := fun n => by
        show (if m.outcome.isSome then m else m.step.runFor n) = _
        rw [if_neg h]
      rw [e, e]
      exact run_add b a m.step
theorem strip_more {α : Type} {K : Nat → Option Obj} {a : α} (k : Nat) : ∀ (n : Nat) (t : Sem α), strip K n t = some a → strip K (n + k) t = some a := by
  intro n
  induction n with
  | zero =>
    intro t h
    cases t with
    | pure b => cases k with
      | zero => exact h
      | succ k => exact h
    | _ => exact nomatch h
  | succ n ih =>
    intro t h
    rw [Nat.succ_add]
    cases t with
    | pure b => exact h
    | rule tg g => exact ih _ h
    | load c p g =>
      cases z : K c with
      | none => simp only [strip, z] at h; cases h
      | some ob =>
        simp only [strip, z] at h ⊢
        exact ih _ h
    | _ => exact nomatch h
theorem drive_strip {β : Type} {K : Nat → Option Obj} {g : Sre.M → Sem β} {r : β} {f : Nat} {m' : Sre.M} (hs : m'.outcome.isSome = true) (hg : strip K f (g m') = some r) :
    ∀ (k T n : Nat) (m : Sre.M), k < T → n ≤ 4 * (k + 1) → m.runFor n = m' → strip K (f + k) (Sem.bind (reDrive T m) g) = some r := by
  intro k
  induction k with
  | zero =>
    intro T n m hT hn hm
    obtain ⟨T, rfl⟩ : ∃ S, T = S + 1 := ⟨T - 1, by omega⟩
    have e : m.runFor 4 = m' := by
      rw [show 4 = n + (4 - n) by omega, run_add, hm, run_done hs]
    show strip K (f + 0) (Sem.bind (if (m.runFor 4).outcome.isSome then pure (m.runFor 4) else _) g) = some r
    rw [e, if_pos hs]
    exact hg
  | succ k ih =>
    intro T n m hT hn hm
    obtain ⟨T, rfl⟩ : ∃ S, T = S + 1 := ⟨T - 1, by omega⟩
    show strip K (f + (k + 1)) (Sem.bind (if (m.runFor 4).outcome.isSome then pure (m.runFor 4) else Sem.rule _ fun u => reDrive T (m.runFor 4)) g) = some r
    by_cases h : (m.runFor 4).outcome.isSome = true
    · have e : m.runFor 4 = m' := by
        by_cases hl : n ≤ 4
        · rw [show 4 = n + (4 - n) by omega, run_add, hm, run_done hs]
        · rw [← hm, show n = 4 + (n - 4) by omega, run_add, run_done h]
      rw [if_pos h, e]
      exact strip_more _ f (g m') hg
    · rw [if_neg h]
      by_cases hl : n ≤ 4
      · have e : m.runFor 4 = m' := by
          rw [show 4 = n + (4 - n) by omega, run_add, hm, run_done hs]
        rw [e] at h
        exact absurd hs h
      · refine ih T (n - 4) (m.runFor 4) (by omega) (by omega) ?_
        rw [← run_add, show 4 + (n - 4) = n by omega, hm]
/-- what is said behind the machine's end -/
noncomputable def tailD (m : Sre.M) : Sem (Option Sre.M) := do
  for i in List.range Sre.names.size do
    if m.seen.has i then rule (Sre.names.getD i "")
  match m.outcome with
  | some .matched => pure (some m)
  | some .failed => pure none
  | some (.stuck why) => unsupported s!"_sre:{why}"
  | none => unsupported "internal:sre:no-outcome"
theorem nf_run {P : Params} {s : Value} {X : Array Nat} {p n : Nat} {m' : Sre.M} {r : Option (Nat × Nat)} (hm : (m0 X p).runFor n = m') (hn : n ≤ 120) (hs : m'.outcome.isSome = true)
    (hg : (strip (fun _ => none) 30 (tailD m')).map (fun o => o.map fun m : Sre.M => (m.start, m.handed)) = some r) : nf P 116 115 s X p = some r := by
  obtain ⟨a, ha, har⟩ := Option.map_eq_some_iff.mp hg
  unfold nf tgt
  rw [cd115, ← Fast.te1458614293007215572]
  have q := strip_more 1 _ _ (drive_strip hs ha 29 (2 ^ 64) n (m0 X p) (by decide) (by omega) hm)
  show (strip (fun _ => none) 60 (Sem.bind (reDrive (2 ^ 64) (m0 X p)) tailD)).map _ = some r
  rw [q]
  exact congrArg some har
section
variable {X : Array Nat} {L p : Nat} {u : Bool} {g : Sre.Seen}
theorem run_s {m : Sre.M} (h : m.outcome = none) (n : Nat) : m.runFor (n + 1) = m.step.runFor n := by
  show (if m.outcome.isSome then m else m.step.runFor n) = _
  rw [h]; rfl
/-- no row's head here -/
theorem run_no (hp : p < L) (h : (p == 0 || X.getD (p - 1) 0 == 10) = false) : (st X L p u g).runFor 2 = st X L (p + 1) false (adA g) := by
  rw [run_s rfl, st_at, h, if_neg (by simp), run_s rfl, st_no, if_pos hp]; rfl
/-- a row's head, no dot -/
theorem run_f (hp : p < L) (h : (p == 0 || X.getD (p - 1) 0 == 10) = true) (hx : (X.getD p 0 == 46) = false) : (st X L p u g).runFor 3 = st X L (p + 1) false (adL (adA g)) := by
  rw [run_s rfl, st_at, h, if_pos rfl, run_s rfl, st_lit, if_neg (by omega), acc_lit, hx]
  dsimp only
  rw [run_s rfl, st_no7, if_pos hp]; rfl
/-- a row's head with a dot -/
theorem run_t (hp : p < L) (h : (p == 0 || X.getD (p - 1) 0 == 10) = true) (hx : (X.getD p 0 == 46) = true) : (st X L p u g).runFor 5 = { mt X L p u (adS (adL (adA g))) with outcome := some .matched } := by
  rw [run_s rfl, st_at, h, if_pos rfl, run_s rfl, st_lit, if_neg (by omega), acc_lit, hx]
  dsimp only
  rw [run_s rfl, show 7 + Sre.itemWidth cdD 7 = 9 from rfl, st_suc, run_s rfl, st_yes, run_s rfl, mt_end]; rfl
/-- the text's end -/
theorem run_e (h : (L == 0 || X.getD (L - 1) 0 == 10) = true) : (st X L L u g).runFor 4 = { mn X L L u (adL (adA g)) with outcome := some .failed } := by
  rw [run_s rfl, st_at, h, if_pos rfl, run_s rfl, st_lit, if_pos (Nat.le_refl _), run_s rfl, st_no7, if_neg (by omega), run_s rfl, mn_end]; rfl
theorem m0_st (hp : p + 1 ≤ X.size) : m0 X p = st X X.size p true ((⟨0, 0⟩ : Sre.Seen).add 14) := by
  show (if p > X.size || X.size - p < 1 then _ else _) = _
  rw [if_neg (by simp; omega)]; rfl
end
theorem rows_at : ∀ (bs : List Bool) (i : Nat), i < bs.length → (rowsA [13,10] bs).getD (3 * i) 0 = ch (bs.getD i false) ∧ (rowsA [13,10] bs).getD (3 * i + 1) 0 = 13 ∧ (rowsA [13,10] bs).getD (3 * i + 2) 0 = 10 := by
  have key : ∀ (bs : List Bool) (i : Nat), i < bs.length → (bs.flatMap fun b => ch b :: [13,10]).getD (3 * i) 0 = ch (bs.getD i false) ∧ (bs.flatMap fun b => ch b :: [13,10]).getD (3 * i + 1) 0 = 13 ∧ (bs.flatMap fun b => ch b :: [13,10]).getD (3 * i + 2) 0 = 10 := by
    intro bs
    induction bs with
    | nil => intro i hi; exact absurd hi (Nat.not_lt_zero _)
    | cons b bs ih =>
      intro i hi
      cases i with
      | zero => exact ⟨rfl, rfl, rfl⟩
      | succ i => exact ih i (Nat.lt_of_succ_lt_succ hi)
  intro bs i hi
  unfold rowsA
  simp only [Array.getD_eq_getD_getElem?, List.getElem?_toArray, ← List.getD_eq_getElem?_getD]
  exact key bs i hi
theorem rows3_size : ∀ bs : List Bool, (rowsA [13,10] bs).size = 3 * bs.length := by
  intro bs
  unfold rowsA
  rw [List.size_toArray]
  induction bs with
  | nil => rfl
  | cons b bs ih =>
    rw [List.flatMap_cons, List.length_append, ih]
    show 3 + 3 * bs.length = 3 * (bs.length + 1)
    omega
theorem next_f {bs : List Bool} {i : Nat} (h : bs.getD i false = false) : nextDot bs i = nextDot bs (i + 1) := by
  unfold nextDot
  congr 1
  funext j
  by_cases e : j = i
  · subst e; rw [h, Bool.and_false, Bool.and_false]
  · congr 1
    rw [Bool.eq_iff_iff, Nat.ble_eq, Nat.ble_eq]
    omega
theorem next_t {bs : List Bool} {i : Nat} (hi : i < 16) (h : bs.getD i false = true) : nextDot bs i = some i := by
  unfold nextDot
  rw [List.find?_range_eq_some]
  refine ⟨by rw [h, Bool.and_true, Nat.ble_eq]; exact Nat.le_refl _, List.mem_range.mpr hi, fun j hj => ?_⟩
  rw [show Nat.ble i j = false by rw [← Bool.not_eq_true, Nat.ble_eq]; omega]; rfl
theorem next_e {bs : List Bool} : nextDot bs 16 = none := by
  unfold nextDot
  rw [List.find?_eq_none]
  intro j hj
  have := List.mem_range.mp hj
  rw [show Nat.ble 16 j = false by rw [← Bool.not_eq_true, Nat.ble_eq]; omega]; simp
theorem hd_ok {bs : List Bool} {i : Nat} (hi : i ≤ bs.length) : (3 * i == 0 || (rowsA [13,10] bs).getD (3 * i - 1) 0 == 10) = true := by
  cases i with
  | zero => rfl
  | succ i =>
    rw [show 3 * (i + 1) - 1 = 3 * i + 2 by omega, (rows_at bs i hi).2.2]
    simp
/-- the search from a row's head on -/
theorem srch {bs : List Bool} (hb : bs.length = 16) : ∀ k i, i + k = 16 → ∀ u g, adL (adA g) = ⟨81984, 2⟩ → ∃ n m', (st (rowsA [13,10] bs) 48 (3 * i) u g).runFor n = m' ∧ n ≤ 7 * k + 5 ∧
    match nextDot bs i with
    | some j => ∃ u', m' = { mt (rowsA [13,10] bs) 48 (3 * j) u' ⟨81986, 2⟩ with outcome := some .matched }
    | none => ∃ u', m' = { mn (rowsA [13,10] bs) 48 48 u' ⟨81984, 2⟩ with outcome := some .failed } := by
  intro k
  induction k with
  | zero =>
    intro i hi u g hg
    obtain rfl : i = 16 := hi
    have e := run_e (X := rowsA [13,10] bs) (L := 48) (u := u) (g := g) (hd_ok (bs := bs) (i := 16) (by omega))
    rw [hg] at e
    refine ⟨4, _, e, by omega, ?_⟩
    rw [next_e]
    exact ⟨u, rfl⟩
  | succ k ih =>
    intro i hi u g hg
    have ra := rows_at bs i (by omega)
    have hd := hd_ok (bs := bs) (i := i) (by omega)
    cases hbi : bs.getD i false with
    | true =>
      have hx : ((rowsA [13,10] bs).getD (3 * i) 0 == 46) = true := by rw [ra.1, hbi]; rfl
      have e := run_t (L := 48) (u := u) (g := g) (by omega) hd hx
      rw [hg, show adS ⟨81984, 2⟩ = ⟨81986, 2⟩ from rfl] at e
      refine ⟨5, _, e, by omega, ?_⟩
      rw [next_t (by omega) hbi]
      exact ⟨u, rfl⟩
    | false =>
      have hx : ((rowsA [13,10] bs).getD (3 * i) 0 == 46) = false := by rw [ra.1, hbi]; rfl
      have e1 := run_f (L := 48) (u := u) (g := g) (by omega) hd hx
      rw [hg] at e1
      have e2 := run_no (X := rowsA [13,10] bs) (L := 48) (p := 3 * i + 1) (u := false) (g := ⟨81984, 2⟩) (by omega) (by rw [show 3 * i + 1 - 1 = 3 * i by omega, ra.1, hbi]; simp [ch])
      have e3 := run_no (X := rowsA [13,10] bs) (L := 48) (p := 3 * i + 1 + 1) (u := false) (g := adA ⟨81984, 2⟩) (by omega) (by rw [show 3 * i + 1 + 1 - 1 = 3 * i + 1 by omega, ra.2.1]; simp)
      obtain ⟨n, m', e4, hn, hf⟩ := ih (i + 1) (by omega) false (adA (adA ⟨81984, 2⟩)) rfl
      refine ⟨3 + (2 + (2 + n)), m', ?_, by omega, ?_⟩
      · rw [run_add, e1, run_add, e2, run_add, e3]
        exact e4
      · rw [next_f hbi]
        exact hf
theorem tail_t {X : Array Nat} {L p : Nat} {u : Bool} : (strip (fun _ => none) 30 (tailD { mt X L p u ⟨81986, 2⟩ with outcome := some .matched })).map (fun o => o.map fun m : Sre.M => (m.start, m.handed)) = some (some (p, p + 1)) := by kernel_rfl
theorem tail_n {X : Array Nat} {L p : Nat} {u : Bool} : (strip (fun _ => none) 30 (tailD { mn X L p u ⟨81984, 2⟩ with outcome := some .failed })).map (fun o => o.map fun m : Sre.M => (m.start, m.handed)) = some none := by kernel_rfl
theorem nf1_of {P : Params} {s : Value} {bs : List Bool} {p n i : Nat} {u : Bool} {g : Sre.Seen} (hb : bs.length = 16) (hi : i ≤ 16) (hg : adL (adA g) = ⟨81984, 2⟩)
    (h0 : (m0 (rowsA [13,10] bs) p).runFor n = st (rowsA [13,10] bs) 48 (3 * i) u g) (hn : n + 7 * (16 - i) ≤ 115) : nf P 116 115 s (rowsA [13,10] bs) p = some ((nextDot bs i).map fun j => (3 * j, 3 * j + 1)) := by
  obtain ⟨n', m', e, hl, hf⟩ := srch hb (16 - i) i (by omega) u g hg
  have q : (m0 (rowsA [13,10] bs) p).runFor (n + n') = m' := by rw [run_add, h0, e]
  cases hd : nextDot bs i with
  | some j =>
    rw [hd] at hf
    obtain ⟨u', rfl⟩ := hf
    exact nf_run q (by omega) rfl tail_t
  | none =>
    rw [hd] at hf
    obtain ⟨u', rfl⟩ := hf
    exact nf_run q (by omega) rfl tail_n
/-- from the text's start -/
theorem nf1_start {P : Params} {s : Value} {bs : List Bool} (hb : bs.length = 16) : nf P 116 115 s (rowsA [13,10] bs) 0 = some ((nextDot bs 0).map fun j => (3 * j, 3 * j + 1)) := by
  have hs := rows3_size bs
  rw [hb] at hs
  have e := m0_st (X := rowsA [13,10] bs) (p := 0) (by rw [hs]; omega)
  rw [hs] at e
  exact nf1_of hb (i := 0) (by omega) (g := (⟨0, 0⟩ : Sre.Seen).add 14) rfl (n := 0) e (by omega)
/-- from behind a row's dot -/
theorem nf1_next {P : Params} {s : Value} {bs : List Bool} {i : Nat} (hb : bs.length = 16) (hi : i < 16) (hx : bs.getD i false = true) : nf P 116 115 s (rowsA [13,10] bs) (3 * i + 1) = some ((nextDot bs (i + 1)).map fun j => (3 * j, 3 * j + 1)) := by
  have hs := rows3_size bs
  rw [hb] at hs
  have ra := rows_at bs i (by omega)
  have e := m0_st (X := rowsA [13,10] bs) (p := 3 * i + 1) (by rw [hs]; omega)
  rw [hs] at e
  have e2 := run_no (X := rowsA [13,10] bs) (L := 48) (p := 3 * i + 1) (u := true) (g := (⟨0, 0⟩ : Sre.Seen).add 14) (by omega) (by rw [show 3 * i + 1 - 1 = 3 * i by omega, ra.1, hx]; simp [ch])
  have e3 := run_no (X := rowsA [13,10] bs) (L := 48) (p := 3 * i + 1 + 1) (u := false) (g := adA ((⟨0, 0⟩ : Sre.Seen).add 14)) (by omega) (by rw [show 3 * i + 1 + 1 - 1 = 3 * i + 1 by omega, ra.2.1]; simp)
  refine nf1_of hb (i := i + 1) (by omega) (u := false) (g := adA (adA ((⟨0, 0⟩ : Sre.Seen).add 14))) rfl (n := 2 + 2) ?_ (by omega)
  rw [run_add, e, e2, e3]
  rfl
end Mine
end
section
open PySem PySem.W PyProof.Rows PySem.W.X
open PySem.Builtin.Re PySem.Builtin.Str PySem.Builtin
namespace Mine
noncomputable def oc (b : Bool) : List Nat := match b with | true => [46,46] | false => [97]
noncomputable def outR (b : Bool) : List Nat := oc b ++ [13,10]
noncomputable abbrev rl (bs : List Bool) : List Nat := bs.flatMap fun b => [ch b, 13, 10]
theorem nextDot_some {bs : List Bool} {i j : Nat} (h : nextDot bs i = some j) : i ≤ j ∧ j < 16 ∧ bs.getD j false = true ∧ ∀ k, i ≤ k → k < j → bs.getD k false = false := by
  unfold nextDot at h
  rw [List.find?_range_eq_some] at h
  obtain ⟨h1, h2, h3⟩ := h
  obtain ⟨a, b⟩ := Bool.and_eq_true_iff.mp h1
  refine ⟨Nat.le_of_ble_eq_true a, List.mem_range.mp h2, b, fun k hk hkj => ?_⟩
  have := h3 k hkj
  have hb : Nat.ble i k = true := Nat.ble_eq_true_of_le hk
  rw [hb, Bool.true_and] at this
  simpa using this
theorem nextDot_none {bs : List Bool} {i : Nat} (h : nextDot bs i = none) : ∀ k, i ≤ k → k < 16 → bs.getD k false = false := by
  unfold nextDot at h
  rw [List.find?_range_eq_none] at h
  intro k hk hl
  have := h k hl
  have hb : Nat.ble i k = true := Nat.ble_eq_true_of_le hk
  rw [hb, Bool.true_and] at this
  simpa using this
theorem rl_take : ∀ (bs : List Bool) (n : Nat), (rl bs).take (3 * n) = rl (bs.take n)
  | [], n => by simp
  | b :: bs, 0 => by simp
  | b :: bs, n + 1 => by
    have ih := rl_take bs n
    show List.take (3 * (n + 1)) ([ch b, 13, 10] ++ rl bs) = [ch b, 13, 10] ++ rl (bs.take n)
    rw [List.take_append, List.take_of_length_le (by simp; omega), ← ih]
    congr 2
theorem rl_drop : ∀ (bs : List Bool) (n : Nat), n < bs.length → (rl bs).drop (3 * n + 1) = [13,10] ++ rl (bs.drop (n + 1))
  | [], n, h => by simp at h
  | b :: bs, 0, h => by simp [rl]
  | b :: bs, n + 1, h => by
    have ih := rl_drop bs n (by simpa using h)
    show List.drop (3 * (n + 1) + 1) ([ch b, 13, 10] ++ rl bs) = [13,10] ++ rl (bs.drop (n + 1))
    rw [← ih, show 3 * (n + 1) + 1 = 3 + (3 * n + 1) from by omega, ← List.drop_drop]
    rfl
theorem rl_false : ∀ (bs : List Bool), (∀ k < bs.length, bs.getD k false = false) → rl bs = bs.flatMap outR
  | [], _ => rfl
  | b :: bs, h => by
    have hb : b = false := by have := h 0 (by simp); simpa using this
    subst hb
    have ih := rl_false bs fun k hk => by have := h (k + 1) (by simpa using hk); simpa using this
    show [97,13,10] ++ rl bs = [97,13,10] ++ bs.flatMap outR
    rw [ih]
/-- the place from which the next dot is sought, behind row i - 1 -/
noncomputable def pos1 (i : Nat) : Nat := match i with | 0 => 0 | i + 1 => 3 * i + 1
noncomputable def got1 (bs : List Bool) (i : Nat) : List Nat := match i with | 0 => [] | i + 1 => (bs.take i).flatMap outR ++ [46,46]
theorem slice1 {bs : List Bool} (hbs : bs.length = 16) {i j : Nat} (hij : i ≤ j) (hj : j ≤ 16) (hi : i = 0 ∨ bs.getD (i - 1) false = true) (hf : ∀ k, i ≤ k → k < j → bs.getD k false = false) :
    got1 bs i ++ ((rl bs).drop (pos1 i)).take (3 * j - pos1 i) = (bs.take j).flatMap outR := by
  have mid : rl ((bs.drop i).take (j - i)) = ((bs.drop i).take (j - i)).flatMap outR := by
    apply rl_false
    intro k hk
    simp at hk
    have := hf (i + k) (by omega) (by omega)
    rw [List.getD_eq_getElem?_getD] at this ⊢
    rw [List.getElem?_take, if_pos (by omega), List.getElem?_drop]
    exact this
  have tj : bs.take j = bs.take i ++ (bs.drop i).take (j - i) := by
    rw [← List.take_append_drop i (bs.take j), List.take_take, Nat.min_eq_left hij, List.drop_take]
  rw [tj, List.flatMap_append, ← mid]
  cases i with
  | zero =>
    show [] ++ ((rl bs).drop 0).take (3 * j - 0) = _
    simp only [List.nil_append, List.drop_zero, Nat.sub_zero, List.take_zero, List.flatMap_nil]
    exact rl_take bs j
  | succ i =>
    have hb : bs.getD i false = true := by rcases hi with h | h; cases h; simpa using h
    show ((bs.take i).flatMap outR ++ [46,46]) ++ ((rl bs).drop (3 * i + 1)).take (3 * j - (3 * i + 1)) = _
    rw [rl_drop bs i (by omega)]
    have t2 : List.take (2 + 3 * (j - (i + 1))) [13,10] = [13,10] := List.take_of_length_le (by simp only [List.length_cons, List.length_nil]; omega)
    have t3 : 2 + 3 * (j - (i + 1)) - [13,10].length = 3 * (j - (i + 1)) := by simp only [List.length_cons, List.length_nil]; omega
    rw [show 3 * j - (3 * i + 1) = 2 + 3 * (j - (i + 1)) from by omega, List.take_append, t2, t3, rl_take]
    have ti : bs.take (i + 1) = bs.take i ++ [true] := by
      rw [List.take_add_one]
      congr 1
      rw [List.getD_eq_getElem?_getD] at hb
      have := List.getElem?_eq_getElem (l := bs) (i := i) (by omega)
      rw [this] at hb ⊢
      simp at hb
      rw [hb]; rfl
    rw [ti, List.flatMap_append]
    simp [outR, oc]
theorem outR_len : ∀ bs : List Bool, (bs.flatMap outR).length ≤ bs.length * 4
  | [] => by simp
  | b :: bs => by
    have := outR_len bs
    rw [List.flatMap_cons, List.length_append, List.length_cons]
    have : (outR b).length ≤ 4 := by cases b <;> decide
    omega
section
variable {w : World} {b1 b2 : Bool} {A : Around} {R : Result → Shared → Prop} {gs : Array GenState} {dr : Drawn} {os : OsState} {l : Addr} {tX tr : Tok} {bs : List Bool}
theorem sub1_loop (hbs : bs.length = 16) (hK : Kt (Pf w.params b1 b2) l = none)
    (hW : strip (Kt (Pf w.params b1 b2)) 40 (Fast.tw11345365114577263350 (.ref 116) (.str ⟨rowsA [13,10] bs⟩ tX)) = some (tgt (Pf w.params b1 b2) 116 115 (.str ⟨rowsA [13,10] bs⟩ tX) (rowsA [13,10] bs)))
    (NF : ∀ i ≤ 16, (i = 0 ∨ bs.getD (i - 1) false = true) → nf (Pf w.params b1 b2) 116 115 (.str ⟨rowsA [13,10] bs⟩ tX) (rowsA [13,10] bs) (pos1 i) = some ((nextDot bs i).map fun j => (3 * j, 3 * j + 1))) :
    ∀ (m i : Nat), i + m = 16 → (i = 0 ∨ bs.getD (i - 1) false = true) → ∀ (h : Heap) (t0 n : Nat) (q : List (Str × Tok)) (ep : Nat), Tp (Kt (Pf w.params b1 b2)) h → h.get? l = some ⟨.type "list", none, .seq (strValues q).toArray ep, #[]⟩ →
      q.length ≤ 2 * i → flat q = got1 bs i →
      (∀ h' t' tok {o : Obj}, Aft h [(l, o)] h' → R (.ok (.ret (.str ⟨(bs.flatMap outR).toArray⟩ tok))) ⟨h', gs, dr, t', os⟩) →
      codeAny (model PySem.Challenge.pw_re0026_01 (Wf w b1 b2)) A (subC 116 ⟨rowsA [13,10] bs⟩ tX ⟨#[46,46]⟩ tr n (pos1 i) l) R ⟨h, gs, dr, t0, os⟩ := by
  have hsz := rows_size [13,10] bs
  rw [hbs] at hsz
  have hsz : (rowsA [13,10] bs).size = 48 := hsz
  have hX : (⟨rowsA [13,10] bs⟩ : Str).length ≤ 1000 := by
    show (rowsA [13,10] bs).size ≤ 1000
    omega
  have hTL : (rowsA [13,10] bs).toList = rl bs := rfl
  intro m
  induction m using Nat.strongRecOn with
  | ind m ih =>
    intro i him hi h t0 n q ep T hl hq hf kk
    have ile : i ≤ 16 := by omega
    have nfi := NF i ile hi
    have pl : pos1 i ≤ 46 := by cases i with | zero => simp [pos1] | succ i => simp [pos1]; omega
    cases hd : nextDot bs i with
    | none =>
      rw [hd] at nfi
      have hpl : pos1 i < (rowsA [13,10] bs).size := by omega
      have all := nextDot_none hd
      have sl := slice1 hbs ile (Nat.le_refl 16) hi fun k a b => all k a b
      have exl : ((rowsA [13,10] bs).extract (pos1 i) (rowsA [13,10] bs).size).toList = ((rl bs).drop (pos1 i)).take (3 * 16 - pos1 i) := by
        rw [Array.toList_extract, hTL, hsz]
      have res : ∀ t, flat (q ++ [((⟨(rowsA [13,10] bs).extract (pos1 i) (rowsA [13,10] bs).size⟩ : Str), t)]) = bs.flatMap outR := fun t => by
        rw [flat_append, hf]
        have : flat [((⟨(rowsA [13,10] bs).extract (pos1 i) (rowsA [13,10] bs).size⟩ : Str), t)] = ((rowsA [13,10] bs).extract (pos1 i) (rowsA [13,10] bs).size).toList := by simp [flat]
        rw [this, exl, sl, List.take_of_length_le (by omega)]
      refine subloop_none T hW nfi hX hl (by omega) (fun z => absurd hpl z) (fun z => absurd hpl z) (fun _ => ?_) fun h' t' tok o x => ?_
      · rw [flat_len, res]
        have := outR_len bs
        omega
      · rw [if_pos (by exact hpl)]
        have e : q.map (·.1) ++ [(⟨(rowsA [13,10] bs).extract (pos1 i) (rowsA [13,10] bs).size⟩ : Str)] = (q ++ [((⟨(rowsA [13,10] bs).extract (pos1 i) (rowsA [13,10] bs).size⟩ : Str), (0 : Tok))]).map (fun p => p.1) := by simp
        show R (.ok (.ret (.str (glued ⟨#[]⟩ (q.map (·.1) ++ [(⟨(rowsA [13,10] bs).extract (pos1 i) (rowsA [13,10] bs).size⟩ : Str)])) tok))) _
        rw [e, glue_flat, res]
        exact kk h' t' tok x
    | some j =>
      rw [hd] at nfi
      obtain ⟨hij, hj, hbj, hbt⟩ := nextDot_some hd
      have sl := slice1 hbs hij (by omega) hi hbt
      refine subloop_some T hW nfi (beq_eq_false_iff_ne.mpr (by omega)) hX (q := strValues q) hl (by simp [strValues]; omega) fun h' t' tok ep' x => ?_
      have exl : ((rowsA [13,10] bs).extract (pos1 i) (3 * j)).toList = ((rl bs).drop (pos1 i)).take (3 * j - pos1 i) := by
        rw [Array.toList_extract, hTL]
      have step : ∀ (q' : List (Str × Tok)), flat q' = (bs.take j).flatMap outR → q'.length ≤ q.length + 1 →
          h'.get? l = some ⟨.type "list", none, .seq (strValues (q' ++ [((⟨#[46,46]⟩ : Str), tr)])).toArray ep', #[]⟩ → Aft h [(l, ⟨.type "list", none, .seq (strValues (q' ++ [((⟨#[46,46]⟩ : Str), tr)])).toArray ep', #[]⟩)] h' →
          codeAny (model PySem.Challenge.pw_re0026_01 (Wf w b1 b2)) A (subC 116 ⟨rowsA [13,10] bs⟩ tX ⟨#[46,46]⟩ tr (n + 1) (3 * j + 1) l) R ⟨h', gs, dr, t', os⟩ := fun q' hf' hl' g x => by
        refine ih (16 - (j + 1)) (by omega) (j + 1) (by omega) (.inr (by simpa using hbj)) h' t' (n + 1) _ ep' (T.aft x (kt_two _) (fun p hp => by rcases List.mem_singleton.mp hp with rfl; exact hK)) g (by simp; omega) ?_ fun h'' t'' tok' o x' => kk h'' t'' tok' (x.trans1 x')
        rw [flat_append, hf']
        rfl
      by_cases hp : pos1 i < 3 * j
      · rw [if_pos (by exact hp)] at x
        have sv : strValues q ++ ([Value.str ⟨(rowsA [13,10] bs).extract (pos1 i) (3 * j)⟩ tok] ++ [Value.str ⟨#[46,46]⟩ tr]) = strValues ((q ++ [((⟨(rowsA [13,10] bs).extract (pos1 i) (3 * j)⟩ : Str), tok)]) ++ [((⟨#[46,46]⟩ : Str), tr)]) := by simp [strValues]
        have x : Aft h [(l, ⟨.type "list", none, .seq (strValues q ++ ([Value.str ⟨(rowsA [13,10] bs).extract (pos1 i) (3 * j)⟩ tok] ++ [Value.str ⟨#[46,46]⟩ tr])).toArray ep', #[]⟩)] h' := x
        rw [sv] at x
        refine step _ ?_ (by simp) (x.nw _ (.head _)) x
        rw [flat_append, hf]
        have : flat [((⟨(rowsA [13,10] bs).extract (pos1 i) (3 * j)⟩ : Str), tok)] = ((rowsA [13,10] bs).extract (pos1 i) (3 * j)).toList := by simp [flat]
        rw [this, exl, sl]
      · rw [if_neg (by exact hp)] at x
        have sv : strValues q ++ ([] ++ [Value.str ⟨#[46,46]⟩ tr]) = strValues (q ++ [((⟨#[46,46]⟩ : Str), tr)]) := by simp [strValues]
        rw [sv] at x
        refine step q ?_ (by omega) (x.nw _ (.head _)) x
        rw [show 3 * j - pos1 i = 0 from by omega, List.take_zero, List.append_nil] at sl
        rw [hf, sl]
end
end Mine
end
section
open PySem PySem.W PyProof.Rows PySem.W.X
open PySem.Builtin.Re PySem.Builtin.Str PySem.Builtin
namespace Mine
theorem hW121 (P : Params) (X : Str) (tX : Tok) : strip (Kt P) 40 (Fast.tw11345365114577263350 (.ref 121) (.str X tX)) = some (tgt P 121 120 (.str X tX) X.cps) := by kernel_rfl
theorem hW116 (P : Params) (X : Str) (tX : Tok) : strip (Kt P) 40 (Fast.tw11345365114577263350 (.ref 116) (.str X tX)) = some (tgt P 116 115 (.str X tX) X.cps) := by kernel_rfl
section
variable {w : World} {b1' b2' : Bool} {A : Around} {R : Result → Shared → Prop} {h : Heap} {gs : Array GenState} {dr : Drawn} {t0 : Nat} {os : OsState} {tX tr : Tok} {e : List Nat} {bs : List Bool}
theorem quiet_sub (pat : Addr) (X : Str) (tX : Tok) (rep : Str) (tr : Tok) (n p : Nat) (l : Addr) : (subC pat X tX rep tr n p l).quiet = true := Code.quiet_builtin _ (by decide +kernel)
theorem aft_new {B : Bs} {h h₁ h' : Heap} {m : Nat} {news : List (Addr × Obj)} {l : Addr} {o : Obj} (R : Rep B h [] h₁ m news) (hl : h.objs.size ≤ l) (x : Aft h₁ [(l, o)] h') : Aft h [] h' :=
  ⟨Nat.le_trans R.le x.le, fun _ hp => (nomatch hp), fun b ob e _ => x.keep b ob (R.keep b ob e fun p hp ep => by
    have := R.old p hp (by rw [ep]; exact Heap.lt_size e)
    cases this) fun p hp ep => by
    rcases List.mem_singleton.mp hp with rfl
    have lt : l < h.objs.size := by
      have := Heap.lt_size e
      rw [← ep] at this
      exact this
    exact absurd lt (Nat.not_lt.mpr hl)⟩
theorem kt_new {P : Params} {h : Heap} (T : Tp (Kt P) h) : Kt P h.objs.size = none := by
  cases q : Kt P h.objs.size with
  | none => rfl
  | some o => exact absurd (Heap.lt_size (T.K _ _ q)) (Nat.lt_irrefl _)
theorem sub2_call (hbs : bs.length = 16) (he : e.length ≤ 2) (he1 : 1 ≤ e.length) (hA : Okk A 750) (T : Tp (Kt (Pf w.params b1' b2')) h)
    (NF : ∀ j < 16, nf (Pf w.params b1' b2') 121 120 (.str ⟨rowsA e bs⟩ tX) (rowsA e bs) (j * (e.length + 1)) = some (some (j * (e.length + 1) + 1, (j + 1) * (e.length + 1))))
    (NE : nf (Pf w.params b1' b2') 121 120 (.str ⟨rowsA e bs⟩ tX) (rowsA e bs) (16 * (e.length + 1)) = some none)
    (k : ∀ h' t' tok, Aft h [] h' → R (.ok (.ret (.str ⟨rowsA [13,10] bs⟩ tok))) ⟨h', gs, dr, t', os⟩) :
    codeAny (model PySem.Challenge.pw_re0026_01 (Wf w b1' b2')) A (.call (.builtin "re.Pattern.sub") ⟨[.ref 121, .str ⟨#[13,10]⟩ tr, .str ⟨rowsA e bs⟩ tX], []⟩) R ⟨h, gs, dr, t0, os⟩ := by
  refine code_run (d := 750) (news := []) hA (by kernel_rfl) ?_
  have D0 : Gd ⟨⟨PySem.Challenge.pw_re0026_01, Pf w.params b1' b2'⟩, Kt (Pf w.params b1' b2'), true, 750, h.objs.size, t0⟩ h PySem.Challenge.pw_re0026_01 (Wf w b1' b2') := gd_of (w := Wf w b1' b2') T (kt_two _)
  refine run_end (B := ⟨⟨PySem.Challenge.pw_re0026_01, Pf w.params b1' b2'⟩, Kt (Pf w.params b1' b2'), true, 750, h.objs.size, t0⟩) (n := 5) (hs := [0,0,0]) (fin := .again (subC 121 ⟨rowsA e bs⟩ tX ⟨#[13,10]⟩ tr 0 0 h.objs.size)) (idx := [0])
    (L := [(h.objs.size, ⟨.type "list", none, .seq #[] 0, #[]⟩)]) D0 (bse_code hA rfl) (giv_start (L := []) ⟨fun _ hp => (nomatch hp), List.nodup_nil, fun _ hp => (nomatch hp)⟩) (dep_start hA) (by kernel_rfl) ?_
  intro h' t' Rl hL et
  refine ⟨Rl.lim D0, quiet_sub .., ?_⟩
  have := sub2_loop (R := R) (A := A) (gs := gs) (dr := dr) (os := os) (tr := tr) hbs he he1 (kt_new T) (hW121 _ _ tX) NF NE 16 0 rfl h' t' [] 0 (Rl.tp D0) (hL _ (.head _)) rfl rfl fun h'' t'' tok o x => k h'' t'' tok (aft_new Rl (Nat.le_refl _) x)
  rw [Nat.zero_mul] at this
  exact this
theorem sub1_call (hbs : bs.length = 16) (hA : Okk A 750) (T : Tp (Kt (Pf w.params b1' b2')) h)
    (NF : ∀ i ≤ 16, (i = 0 ∨ bs.getD (i - 1) false = true) → nf (Pf w.params b1' b2') 116 115 (.str ⟨rowsA [13,10] bs⟩ tX) (rowsA [13,10] bs) (pos1 i) = some ((nextDot bs i).map fun j => (3 * j, 3 * j + 1)))
    (k : ∀ h' t' tok, Aft h [] h' → R (.ok (.ret (.str ⟨(bs.flatMap outR).toArray⟩ tok))) ⟨h', gs, dr, t', os⟩) :
    codeAny (model PySem.Challenge.pw_re0026_01 (Wf w b1' b2')) A (.call (.builtin "re.Pattern.sub") ⟨[.ref 116, .str ⟨#[46,46]⟩ tr, .str ⟨rowsA [13,10] bs⟩ tX], []⟩) R ⟨h, gs, dr, t0, os⟩ := by
  refine code_run (d := 750) (news := []) hA (by kernel_rfl) ?_
  have D0 : Gd ⟨⟨PySem.Challenge.pw_re0026_01, Pf w.params b1' b2'⟩, Kt (Pf w.params b1' b2'), true, 750, h.objs.size, t0⟩ h PySem.Challenge.pw_re0026_01 (Wf w b1' b2') := gd_of (w := Wf w b1' b2') T (kt_two _)
  refine run_end (B := ⟨⟨PySem.Challenge.pw_re0026_01, Pf w.params b1' b2'⟩, Kt (Pf w.params b1' b2'), true, 750, h.objs.size, t0⟩) (n := 5) (hs := [0,0,0]) (fin := .again (subC 116 ⟨rowsA [13,10] bs⟩ tX ⟨#[46,46]⟩ tr 0 0 h.objs.size)) (idx := [0])
    (L := [(h.objs.size, ⟨.type "list", none, .seq #[] 0, #[]⟩)]) D0 (bse_code hA rfl) (giv_start (L := []) ⟨fun _ hp => (nomatch hp), List.nodup_nil, fun _ hp => (nomatch hp)⟩) (dep_start hA) (by kernel_rfl) ?_
  intro h' t' Rl hL et
  refine ⟨Rl.lim D0, quiet_sub .., ?_⟩
  exact sub1_loop (R := R) (A := A) (gs := gs) (dr := dr) (os := os) (tr := tr) hbs (kt_new T) (hW116 _ _ tX) NF 16 0 rfl (.inl rfl) h' t' 0 [] 0 (Rl.tp D0) (hL _ (.head _)) (Nat.le_refl _) rfl fun h'' t'' tok o x => k h'' t'' tok (aft_new Rl (Nat.le_refl _) x)
end
end Mine
end
section
open PySem PySem.W PyProof.Rows PySem.W.X
open PySem.Builtin.Re PySem.Builtin.Str PySem.Builtin
namespace Mine
section
variable {w : World} {b1 b2 : Bool} {A : Around} {R : Result → Shared → Prop} {h : Heap} {gs : Array GenState} {dr : Drawn} {t0 : Nat} {os : OsState} {tX : Tok} {e : List Nat} {bs : List Bool}
/-- quotedata over the rows of a board -/
theorem quote_call (hbs : bs.length = 16) (he : e.length ≤ 2) (he1 : 1 ≤ e.length) (hA : Okk A 650) (T : Tp (Kt (Pf w.params b1 b2)) h)
    (NF2 : ∀ s, ∀ j < 16, nf (Pf w.params b1 b2) 121 120 s (rowsA e bs) (j * (e.length + 1)) = some (some (j * (e.length + 1) + 1, (j + 1) * (e.length + 1))))
    (NE : ∀ s, nf (Pf w.params b1 b2) 121 120 s (rowsA e bs) (16 * (e.length + 1)) = some none)
    (NF1 : ∀ s, ∀ i ≤ 16, (i = 0 ∨ bs.getD (i - 1) false = true) → nf (Pf w.params b1 b2) 116 115 s (rowsA [13,10] bs) (pos1 i) = some ((nextDot bs i).map fun j => (3 * j, 3 * j + 1)))
    (k : ∀ h' t' tok, Aft h [] h' → R (.ok (.ret (.str ⟨(bs.flatMap outR).toArray⟩ tok))) ⟨h', gs, dr, t', os⟩) :
    codeAny (model PySem.Challenge.pw_re0026_01 (Wf w b1 b2)) A (.call (.ref 128) ⟨[.str ⟨rowsA e bs⟩ tX], []⟩) R ⟨h, gs, dr, t0, os⟩ := by
  refine code_run (d := 650) (news := []) hA (by kernel_rfl) ?_
  have D0 : Gd ⟨⟨PySem.Challenge.pw_re0026_01, Pf w.params b1 b2⟩, Kt (Pf w.params b1 b2), true, 650, h.objs.size, t0⟩ h PySem.Challenge.pw_re0026_01 (Wf w b1 b2) := gd_of (w := Wf w b1 b2) T (kt_two _)
  have E0 : Bse PySem.Challenge.pw_re0026_01 (Wf w b1 b2) A (gC PySem.Challenge.pw_re0026_01 (Wf w b1 b2) A R) (eC R) ⟨⟨PySem.Challenge.pw_re0026_01, Pf w.params b1 b2⟩, Kt (Pf w.params b1 b2), true, 650, h.objs.size, t0⟩ := bse_code hA rfl
  let B0 : Bs := ⟨⟨PySem.Challenge.pw_re0026_01, Pf w.params b1 b2⟩, Kt (Pf w.params b1 b2), true, 650, h.objs.size, t0⟩
  let f0 : Cf := ⟨.call (.ref 128) ⟨[.str ⟨rowsA e bs⟩ tX], []⟩, [], den (.call (.ref 128) ⟨[.str ⟨rowsA e bs⟩ tX], []⟩), 650 + wgt (.call (.ref 128) ⟨[.str ⟨rowsA e bs⟩ tX], []⟩), 0, 0, []⟩
  refine run_cut (B := B0) (f := f0) (n := 32) (hs := [0,0,1,1,0,0,0,0,0,0,0,0,0,0,0,1]) (c := .call (.builtin "re.Pattern.sub") ⟨[.ref 121, .str ⟨#[13,10]⟩ 483, .str ⟨rowsA e bs⟩ tX], []⟩) 750 D0 E0
    (giv_start (L := []) ⟨fun _ hp => (nomatch hp), List.nodup_nil, fun _ hp => (nomatch hp)⟩) (dep_start hA) (by cases b1 <;> kernel_rfl) ?_
  intro h1 R1 d1 o1
  refine sub2_call hbs he he1 o1 (R1.tp D0) (NF2 _) (NE _) ?_
  intro h1' t1 k1 x1
  refine mn_nx (news := (rn B0 32 [0,0,1,1,0,0,0,0,0,0,0,0,0,0,0,1] f0).news) ?_
  have R1' := R1.call (t' := t1) [] x1 rfl
  let B1 : Bs := ⟨B0.S, B0.K, B0.ag, B0.d0, h1'.objs.size, t1⟩
  let f1 : Cf := nx (rn B0 32 [0,0,1,1,0,0,0,0,0,0,0,0,0,0,0,1] f0) (.ok (.ret (.str ⟨rowsA [13,10] bs⟩ k1))) (rn B0 32 [0,0,1,1,0,0,0,0,0,0,0,0,0,0,0,1] f0).news
  refine run_cut (B := B1) (f := f1) (n := 2) (hs := []) (c := .call (.builtin "re.Pattern.sub") ⟨[.ref 116, .str ⟨#[46,46]⟩ (t0 + 1), .str ⟨rowsA [13,10] bs⟩ k1], []⟩) 750 (gd_re D0) (bse_re E0)
    R1' (dep_nx d1) (by cases b1 <;> kernel_rfl) ?_
  intro h2 R2 d2 o2
  refine sub1_call hbs o2 (R2.tp (gd_re D0)) (NF1 _) ?_
  intro h2' t2 k2 x2
  refine mn_nx (news := (rn B1 2 [] f1).news) ?_
  let B2 : Bs := ⟨B1.S, B1.K, B1.ag, B1.d0, h2'.objs.size, t2⟩
  let f2 : Cf := nx (rn B1 2 [] f1) (.ok (.ret (.str ⟨(bs.flatMap outR).toArray⟩ k2))) (rn B1 2 [] f1).news
  refine run_end (B := B2) (f := f2) (n := 1) (hs := []) (fin := .done (.ret (.str ⟨(bs.flatMap outR).toArray⟩ k2))) (idx := []) (L := []) (gd_re (gd_re D0)) (bse_re (bse_re E0))
    (R2.call (t' := t2) [] x2 rfl) (dep_nx d2) (by cases b1 <;> kernel_rfl) ?_
  intro h' t' Rl hL et
  exact ⟨Rl.lim (gd_re D0), k h' t' _ (Rl.aft hL (fun _ ha => (nomatch ha)))⟩
end
end Mine
end
section
open PySem PySem.W PyProof.Rows PySem.W.X
namespace Mine
section
variable {w : World} {b1 b2 : Bool} {A : Around} {R : Result → Shared → Prop} {hB h : Heap} {gs : Array GenState} {dr : Drawn} {t0 N : Nat} {os : OsState}
noncomputable abbrev eRows (P : Params) : Expr := lawE P 5 [1,1,1]
noncomputable def rowStr (e : List Nat) (b : Bool) : Str := ⟨(ch b :: e).toArray⟩
/-- the rows so far -/
noncomputable def RowsOf (e : List Nat) (bs : List Bool) (zs : List Value) (i : Nat) : Prop := ∃ q : List (Str × Tok), zs = strValues q ∧ q.map (·.1) = (bs.take i).map (rowStr e)
theorem RowsOf.succ {e : List Nat} {bs : List Bool} {zs : List Value} {i : Nat} (x : RowsOf e bs zs i) {b : Bool} (hb : bs[i]? = some b) (t : Tok) : RowsOf e bs (zs ++ [.str (rowStr e b) t]) (i + 1) := by
  obtain ⟨q, e1, e2⟩ := x
  refine ⟨q ++ [(rowStr e b, t)], ?_, ?_⟩
  · rw [e1]; simp [strValues]
  · rw [List.map_append, e2, List.take_add_one, hb, List.map_append]; rfl
theorem RowsOf.len {e : List Nat} {bs : List Bool} {zs : List Value} {i : Nat} (x : RowsOf e bs zs i) : zs.length ≤ bs.length := by
  obtain ⟨q, e1, e2⟩ := x
  have := congrArg List.length e2
  simp only [List.length_map] at this
  rw [e1]
  simp only [strValues, List.length_map, this]
  rw [List.length_take]; omega
noncomputable abbrev rowsL (it acc loc cl : Addr) (i : Nat) (zs : List Value) (ep : Nat) (ox : Option (Int × Tok × Value)) (E : Str) (te : Tok) (bs : List Bool) (epc : Nat) : List (Addr × Obj) :=
  [(it, oLit cl i), (acc, oList zs ep), (loc, oX sCell ox), (162, oCell (.str E te)), (cl, oList (bs.map Value.bool) epc)]
noncomputable abbrev cRows (P : Params) (it acc loc : Addr) : Code := cComp P (eRows P) it acc loc [(sEnd, 162)] 159

theorem rows0_turn {it acc loc cl : Addr} {te : Tok} {bs : List Bool} {epc i : Nat} {zs : List Value} {ep : Nat} {ox : Option (Int × Tok × Value)} {b : Bool} (hA : Okk A 450) (T : Tp (kP w b1 b2) h) (G : Giv (kP w b1 b2) h (rowsL it acc loc cl i zs ep ox (endStr 0) te bs epc))
    (hx : (bs.map Value.bool)[i]? = some (.bool b)) (hz : zs.length ≤ 1000)
    (k : ∀ h' t' tk ox', Af h (rowsL it acc loc cl (i + 1) (zs ++ [.str (rowStr [13] b) tk]) (ep + 1) (some ox') (endStr 0) te bs epc) [] h' → h'.objs.size = h.objs.size → Tp (kP w b1 b2) h' → Giv (kP w b1 b2) h' (rowsL it acc loc cl (i + 1) (zs ++ [.str (rowStr [13] b) tk]) (ep + 1) (some ox') (endStr 0) te bs epc) →
      CA w b1 b2 A (cRows (PP w b1 b2) it acc loc) R ⟨h', gs, dr, t', os⟩) :
    CA w b1 b2 A (cRows (PP w b1 b2) it acc loc) R ⟨h, gs, dr, t0, os⟩ := by
  revert b1
  refine @bothB _ ?_ ?_ <;> set_option tactic.hygienic false in intros
  all_goals (
  refine goC hA T G (by kernel_rfl) ?_; intro _ _ r
  refine cutS 550 0 (n := 2) (hs := [1]) (c := (.call (.builtin "list_iterator.__next__") ⟨[(.ref it)], []⟩)) (idx := [0,4]) (Lf := fun F => [(it, oLit cl i), (cl, oList (List.map Value.bool bs) epc)]) r (by decide) (by kernel_rfl) ?_; intro h1 t1 r1 T1 G1 o1 z1
  refine lf_next (G1.nw _ (.head _)) (G1.nw _ (.tail _ (.head _))) hx z1 ?_
  intro h2 x2 z2
  refine goS r1 _ [0] x2 z2 (by kernel_rfl) ?_; intro _ r2
  obtain _ | ⟨u1, u2, u3⟩ := ox
  · cases b with
    | true =>
      refine cutS 550 0 (n := 19) (hs := [3,3,3,4]) (c := (.call (.builtin "list.append") ⟨[(.ref acc), (.str ⟨#[46,13]⟩ (t1 + 2))], []⟩)) (idx := [1]) (Lf := fun F => [(acc, oList zs ep)]) r2 (by decide) (by kernel_rfl) ?_; intro h3 t3 r3 T3 G3 o3 z3
      refine lf_append (G3.nw _ (.head _)) hz z3 ?_
      intro h4 x4 z4
      refine goS r3 _ [1] x4 z4 (by kernel_rfl) ?_; intro _ r4
      refine agS 0 (n := 0) (hs := []) (c := (cRows (PP w b1 b2) it acc loc)) (q := 0) (idx := [0,1,2,3,4]) (idn := []) (Lf := fun F => [(it, oLit cl (i + 1)), (acc, oList (zs ++ [Value.str { cps := #[46,13] } (t1 + 2)]) (ep + 1)), (loc, oD [⟨hOf F 2 0, .str ⟨#[99,101,108,108]⟩ (kOf F 2 0), (.bool Bool.true)⟩] 1), (162, ⟨(.type "cell"), Option.none, (.cell (Option.some (.str ⟨#[13]⟩ te))), #[]⟩), (cl, oList (List.map Value.bool bs) epc)]) (Nf := fun F => []) r4 (by decide) (by kernel_rfl) ?_; intro h5 t5 x5 z5 T5 G5
      exact k h5 t5 _ (_, _, _) x5 z5 T5 G5
    | false =>
      refine cutS 550 0 (n := 19) (hs := [3,3,3,4]) (c := (.call (.builtin "list.append") ⟨[(.ref acc), (.str ⟨#[97,13]⟩ (t1 + 2))], []⟩)) (idx := [1]) (Lf := fun F => [(acc, oList zs ep)]) r2 (by decide) (by kernel_rfl) ?_; intro h3 t3 r3 T3 G3 o3 z3
      refine lf_append (G3.nw _ (.head _)) hz z3 ?_
      intro h4 x4 z4
      refine goS r3 _ [1] x4 z4 (by kernel_rfl) ?_; intro _ r4
      refine agS 0 (n := 0) (hs := []) (c := (cRows (PP w b1 b2) it acc loc)) (q := 0) (idx := [0,1,2,3,4]) (idn := []) (Lf := fun F => [(it, oLit cl (i + 1)), (acc, oList (zs ++ [Value.str { cps := #[97,13] } (t1 + 2)]) (ep + 1)), (loc, oD [⟨hOf F 2 0, .str ⟨#[99,101,108,108]⟩ (kOf F 2 0), (.bool Bool.false)⟩] 1), (162, ⟨(.type "cell"), Option.none, (.cell (Option.some (.str ⟨#[13]⟩ te))), #[]⟩), (cl, oList (List.map Value.bool bs) epc)]) (Nf := fun F => []) r4 (by decide) (by kernel_rfl) ?_; intro h5 t5 x5 z5 T5 G5
      exact k h5 t5 _ (_, _, _) x5 z5 T5 G5
  · cases b with
    | true =>
      refine cutS 550 0 (n := 19) (hs := [3,3,3,4]) (c := (.call (.builtin "list.append") ⟨[(.ref acc), (.str ⟨#[46,13]⟩ (t1 + 2))], []⟩)) (idx := [1]) (Lf := fun F => [(acc, oList zs ep)]) r2 (by decide) (by kernel_rfl) ?_; intro h3 t3 r3 T3 G3 o3 z3
      refine lf_append (G3.nw _ (.head _)) hz z3 ?_
      intro h4 x4 z4
      refine goS r3 _ [1] x4 z4 (by kernel_rfl) ?_; intro _ r4
      refine agS 0 (n := 0) (hs := []) (c := (cRows (PP w b1 b2) it acc loc)) (q := 0) (idx := [0,1,2,3,4]) (idn := []) (Lf := fun F => [(it, oLit cl (i + 1)), (acc, oList (zs ++ [Value.str { cps := #[46,13] } (t1 + 2)]) (ep + 1)), (loc, oD [⟨u1, .str ⟨#[99,101,108,108]⟩ u2, (.bool Bool.true)⟩] 1), (162, ⟨(.type "cell"), Option.none, (.cell (Option.some (.str ⟨#[13]⟩ te))), #[]⟩), (cl, oList (List.map Value.bool bs) epc)]) (Nf := fun F => []) r4 (by decide) (by kernel_rfl) ?_; intro h5 t5 x5 z5 T5 G5
      exact k h5 t5 _ (_, _, _) x5 z5 T5 G5
    | false =>
      refine cutS 550 0 (n := 19) (hs := [3,3,3,4]) (c := (.call (.builtin "list.append") ⟨[(.ref acc), (.str ⟨#[97,13]⟩ (t1 + 2))], []⟩)) (idx := [1]) (Lf := fun F => [(acc, oList zs ep)]) r2 (by decide) (by kernel_rfl) ?_; intro h3 t3 r3 T3 G3 o3 z3
      refine lf_append (G3.nw _ (.head _)) hz z3 ?_
      intro h4 x4 z4
      refine goS r3 _ [1] x4 z4 (by kernel_rfl) ?_; intro _ r4
      refine agS 0 (n := 0) (hs := []) (c := (cRows (PP w b1 b2) it acc loc)) (q := 0) (idx := [0,1,2,3,4]) (idn := []) (Lf := fun F => [(it, oLit cl (i + 1)), (acc, oList (zs ++ [Value.str { cps := #[97,13] } (t1 + 2)]) (ep + 1)), (loc, oD [⟨u1, .str ⟨#[99,101,108,108]⟩ u2, (.bool Bool.false)⟩] 1), (162, ⟨(.type "cell"), Option.none, (.cell (Option.some (.str ⟨#[13]⟩ te))), #[]⟩), (cl, oList (List.map Value.bool bs) epc)]) (Nf := fun F => []) r4 (by decide) (by kernel_rfl) ?_; intro h5 t5 x5 z5 T5 G5
      exact k h5 t5 _ (_, _, _) x5 z5 T5 G5)
theorem rows0_loop {it acc loc cl : Addr} {te : Tok} {bs : List Bool} {epc : Nat} (hA : Okk A 450) (hl : bs.length ≤ 1000) :
    ∀ (k i : Nat) (zs : List Value) (ep : Nat) (ox : Option (Int × Tok × Value)) (h : Heap) (t0 : Nat), bs.length - i = k → i ≤ bs.length → RowsOf [13] bs zs i → Tp (kP w b1 b2) h → Giv (kP w b1 b2) h (rowsL it acc loc cl i zs ep ox (endStr 0) te bs epc) →
    (∀ h' t' zs' ep' ox', RowsOf [13] bs zs' bs.length → Af h [(it, oLitX bs.length), (acc, oList zs' ep'), (loc, oX sCell ox'), (162, oCell (.str (endStr 0) te)), (cl, oList (bs.map Value.bool) epc)] [] h' → h'.objs.size = h.objs.size + 2 → R (.ok .next) ⟨h', gs, dr, t', os⟩) →
    CA w b1 b2 A (cRows (PP w b1 b2) it acc loc) R ⟨h, gs, dr, t0, os⟩ := by
  intro k
  induction k with
  | zero =>
    intro i zs ep ox h t0 hk hi hm T G kk
    have : i = bs.length := by omega
    subst this
    revert b1
    refine @bothB _ ?_ ?_ <;> set_option tactic.hygienic false in intros
    all_goals (
    refine goC hA T G (by kernel_rfl) ?_; intro _ _ r
    refine cutS 550 0 (n := 2) (hs := [1]) (c := (.call (.builtin "list_iterator.__next__") ⟨[(.ref it)], []⟩)) (idx := [0,4]) (Lf := fun F => [(it, oLit cl (bs.length)), (cl, oList (List.map Value.bool bs) epc)]) r (by decide) (by kernel_rfl) ?_; intro h1 t1 r1 T1 G1 o1 z1
    refine lf_next_end o1.hd (G1.nw _ (.head _)) (G1.nw _ (.tail _ (.head _))) (List.getElem?_eq_none (by simp)) z1 ?_
    intro h2 x2 z2
    refine goS r1 _ [0] x2 z2 (by kernel_rfl) ?_; intro _ r2
    refine endS 0 (n := 1) (hs := [1]) (fl := .next) (q := 2) (idx := [2,3,4,5,6]) (idn := []) (Lf := fun F => [(it, oLitX (bs.length)), (acc, oList zs ep), (loc, (oX sCell ox)), (162, ⟨(.type "cell"), Option.none, (.cell (Option.some (.str ⟨#[13]⟩ te))), #[]⟩), (cl, oList (List.map Value.bool bs) epc)]) (Nf := fun F => []) r2 (by decide) (by kernel_rfl) ?_; intro h3 t3 x3 z3
    exact kk _ _ zs ep ox hm x3 z3)
  | succ k ih =>
    intro i zs ep ox h t0 hk hi hm T G kk
    have hlt : i < bs.length := by omega
    have hx : (bs.map Value.bool)[i]? = some (.bool bs[i]) := by simp [hlt]
    have hlen := hm.len
    refine rows0_turn hA T G hx (by omega) fun h' t' tk ox' x z T' G' => ?_
    refine ih (i + 1) _ _ _ h' t' (by omega) hlt (hm.succ (List.getElem?_eq_getElem hlt) tk) T' G' fun h2 t2 zs2 ep2 ox2 m2 x2 z2 => ?_
    exact kk h2 t2 zs2 ep2 ox2 m2 (x.trans x2 rfl) (z2.trans (by rw [z]))

theorem rows1_turn {it acc loc cl : Addr} {te : Tok} {bs : List Bool} {epc i : Nat} {zs : List Value} {ep : Nat} {ox : Option (Int × Tok × Value)} {b : Bool} (hA : Okk A 450) (T : Tp (kP w b1 b2) h) (G : Giv (kP w b1 b2) h (rowsL it acc loc cl i zs ep ox (endStr 1) te bs epc))
    (hx : (bs.map Value.bool)[i]? = some (.bool b)) (hz : zs.length ≤ 1000)
    (k : ∀ h' t' tk ox', Af h (rowsL it acc loc cl (i + 1) (zs ++ [.str (rowStr [10] b) tk]) (ep + 1) (some ox') (endStr 1) te bs epc) [] h' → h'.objs.size = h.objs.size → Tp (kP w b1 b2) h' → Giv (kP w b1 b2) h' (rowsL it acc loc cl (i + 1) (zs ++ [.str (rowStr [10] b) tk]) (ep + 1) (some ox') (endStr 1) te bs epc) →
      CA w b1 b2 A (cRows (PP w b1 b2) it acc loc) R ⟨h', gs, dr, t', os⟩) :
    CA w b1 b2 A (cRows (PP w b1 b2) it acc loc) R ⟨h, gs, dr, t0, os⟩ := by
  revert b1
  refine @bothB _ ?_ ?_ <;> set_option tactic.hygienic false in intros
  all_goals (
  refine goC hA T G (by kernel_rfl) ?_; intro _ _ r
  refine cutS 550 0 (n := 2) (hs := [1]) (c := (.call (.builtin "list_iterator.__next__") ⟨[(.ref it)], []⟩)) (idx := [0,4]) (Lf := fun F => [(it, oLit cl i), (cl, oList (List.map Value.bool bs) epc)]) r (by decide) (by kernel_rfl) ?_; intro h1 t1 r1 T1 G1 o1 z1
  refine lf_next (G1.nw _ (.head _)) (G1.nw _ (.tail _ (.head _))) hx z1 ?_
  intro h2 x2 z2
  refine goS r1 _ [0] x2 z2 (by kernel_rfl) ?_; intro _ r2
  obtain _ | ⟨u1, u2, u3⟩ := ox
  · cases b with
    | true =>
      refine cutS 550 0 (n := 19) (hs := [3,3,3,4]) (c := (.call (.builtin "list.append") ⟨[(.ref acc), (.str ⟨#[46,10]⟩ (t1 + 2))], []⟩)) (idx := [1]) (Lf := fun F => [(acc, oList zs ep)]) r2 (by decide) (by kernel_rfl) ?_; intro h3 t3 r3 T3 G3 o3 z3
      refine lf_append (G3.nw _ (.head _)) hz z3 ?_
      intro h4 x4 z4
      refine goS r3 _ [1] x4 z4 (by kernel_rfl) ?_; intro _ r4
      refine agS 0 (n := 0) (hs := []) (c := (cRows (PP w b1 b2) it acc loc)) (q := 0) (idx := [0,1,2,3,4]) (idn := []) (Lf := fun F => [(it, oLit cl (i + 1)), (acc, oList (zs ++ [Value.str { cps := #[46,10] } (t1 + 2)]) (ep + 1)), (loc, oD [⟨hOf F 2 0, .str ⟨#[99,101,108,108]⟩ (kOf F 2 0), (.bool Bool.true)⟩] 1), (162, ⟨(.type "cell"), Option.none, (.cell (Option.some (.str ⟨#[10]⟩ te))), #[]⟩), (cl, oList (List.map Value.bool bs) epc)]) (Nf := fun F => []) r4 (by decide) (by kernel_rfl) ?_; intro h5 t5 x5 z5 T5 G5
      exact k h5 t5 _ (_, _, _) x5 z5 T5 G5
    | false =>
      refine cutS 550 0 (n := 19) (hs := [3,3,3,4]) (c := (.call (.builtin "list.append") ⟨[(.ref acc), (.str ⟨#[97,10]⟩ (t1 + 2))], []⟩)) (idx := [1]) (Lf := fun F => [(acc, oList zs ep)]) r2 (by decide) (by kernel_rfl) ?_; intro h3 t3 r3 T3 G3 o3 z3
      refine lf_append (G3.nw _ (.head _)) hz z3 ?_
      intro h4 x4 z4
      refine goS r3 _ [1] x4 z4 (by kernel_rfl) ?_; intro _ r4
      refine agS 0 (n := 0) (hs := []) (c := (cRows (PP w b1 b2) it acc loc)) (q := 0) (idx := [0,1,2,3,4]) (idn := []) (Lf := fun F => [(it, oLit cl (i + 1)), (acc, oList (zs ++ [Value.str { cps := #[97,10] } (t1 + 2)]) (ep + 1)), (loc, oD [⟨hOf F 2 0, .str ⟨#[99,101,108,108]⟩ (kOf F 2 0), (.bool Bool.false)⟩] 1), (162, ⟨(.type "cell"), Option.none, (.cell (Option.some (.str ⟨#[10]⟩ te))), #[]⟩), (cl, oList (List.map Value.bool bs) epc)]) (Nf := fun F => []) r4 (by decide) (by kernel_rfl) ?_; intro h5 t5 x5 z5 T5 G5
      exact k h5 t5 _ (_, _, _) x5 z5 T5 G5
  · cases b with
    | true =>
      refine cutS 550 0 (n := 19) (hs := [3,3,3,4]) (c := (.call (.builtin "list.append") ⟨[(.ref acc), (.str ⟨#[46,10]⟩ (t1 + 2))], []⟩)) (idx := [1]) (Lf := fun F => [(acc, oList zs ep)]) r2 (by decide) (by kernel_rfl) ?_; intro h3 t3 r3 T3 G3 o3 z3
      refine lf_append (G3.nw _ (.head _)) hz z3 ?_
      intro h4 x4 z4
      refine goS r3 _ [1] x4 z4 (by kernel_rfl) ?_; intro _ r4
      refine agS 0 (n := 0) (hs := []) (c := (cRows (PP w b1 b2) it acc loc)) (q := 0) (idx := [0,1,2,3,4]) (idn := []) (Lf := fun F => [(it, oLit cl (i + 1)), (acc, oList (zs ++ [Value.str { cps := #[46,10] } (t1 + 2)]) (ep + 1)), (loc, oD [⟨u1, .str ⟨#[99,101,108,108]⟩ u2, (.bool Bool.true)⟩] 1), (162, ⟨(.type "cell"), Option.none, (.cell (Option.some (.str ⟨#[10]⟩ te))), #[]⟩), (cl, oList (List.map Value.bool bs) epc)]) (Nf := fun F => []) r4 (by decide) (by kernel_rfl) ?_; intro h5 t5 x5 z5 T5 G5
      exact k h5 t5 _ (_, _, _) x5 z5 T5 G5
    | false =>
      refine cutS 550 0 (n := 19) (hs := [3,3,3,4]) (c := (.call (.builtin "list.append") ⟨[(.ref acc), (.str ⟨#[97,10]⟩ (t1 + 2))], []⟩)) (idx := [1]) (Lf := fun F => [(acc, oList zs ep)]) r2 (by decide) (by kernel_rfl) ?_; intro h3 t3 r3 T3 G3 o3 z3
      refine lf_append (G3.nw _ (.head _)) hz z3 ?_
      intro h4 x4 z4
      refine goS r3 _ [1] x4 z4 (by kernel_rfl) ?_; intro _ r4
      refine agS 0 (n := 0) (hs := []) (c := (cRows (PP w b1 b2) it acc loc)) (q := 0) (idx := [0,1,2,3,4]) (idn := []) (Lf := fun F => [(it, oLit cl (i + 1)), (acc, oList (zs ++ [Value.str { cps := #[97,10] } (t1 + 2)]) (ep + 1)), (loc, oD [⟨u1, .str ⟨#[99,101,108,108]⟩ u2, (.bool Bool.false)⟩] 1), (162, ⟨(.type "cell"), Option.none, (.cell (Option.some (.str ⟨#[10]⟩ te))), #[]⟩), (cl, oList (List.map Value.bool bs) epc)]) (Nf := fun F => []) r4 (by decide) (by kernel_rfl) ?_; intro h5 t5 x5 z5 T5 G5
      exact k h5 t5 _ (_, _, _) x5 z5 T5 G5)
theorem rows1_loop {it acc loc cl : Addr} {te : Tok} {bs : List Bool} {epc : Nat} (hA : Okk A 450) (hl : bs.length ≤ 1000) :
    ∀ (k i : Nat) (zs : List Value) (ep : Nat) (ox : Option (Int × Tok × Value)) (h : Heap) (t0 : Nat), bs.length - i = k → i ≤ bs.length → RowsOf [10] bs zs i → Tp (kP w b1 b2) h → Giv (kP w b1 b2) h (rowsL it acc loc cl i zs ep ox (endStr 1) te bs epc) →
    (∀ h' t' zs' ep' ox', RowsOf [10] bs zs' bs.length → Af h [(it, oLitX bs.length), (acc, oList zs' ep'), (loc, oX sCell ox'), (162, oCell (.str (endStr 1) te)), (cl, oList (bs.map Value.bool) epc)] [] h' → h'.objs.size = h.objs.size + 2 → R (.ok .next) ⟨h', gs, dr, t', os⟩) →
    CA w b1 b2 A (cRows (PP w b1 b2) it acc loc) R ⟨h, gs, dr, t0, os⟩ := by
  intro k
  induction k with
  | zero =>
    intro i zs ep ox h t0 hk hi hm T G kk
    have : i = bs.length := by omega
    subst this
    revert b1
    refine @bothB _ ?_ ?_ <;> set_option tactic.hygienic false in intros
    all_goals (
    refine goC hA T G (by kernel_rfl) ?_; intro _ _ r
    refine cutS 550 0 (n := 2) (hs := [1]) (c := (.call (.builtin "list_iterator.__next__") ⟨[(.ref it)], []⟩)) (idx := [0,4]) (Lf := fun F => [(it, oLit cl (bs.length)), (cl, oList (List.map Value.bool bs) epc)]) r (by decide) (by kernel_rfl) ?_; intro h1 t1 r1 T1 G1 o1 z1
    refine lf_next_end o1.hd (G1.nw _ (.head _)) (G1.nw _ (.tail _ (.head _))) (List.getElem?_eq_none (by simp)) z1 ?_
    intro h2 x2 z2
    refine goS r1 _ [0] x2 z2 (by kernel_rfl) ?_; intro _ r2
    refine endS 0 (n := 1) (hs := [1]) (fl := .next) (q := 2) (idx := [2,3,4,5,6]) (idn := []) (Lf := fun F => [(it, oLitX (bs.length)), (acc, oList zs ep), (loc, (oX sCell ox)), (162, ⟨(.type "cell"), Option.none, (.cell (Option.some (.str ⟨#[10]⟩ te))), #[]⟩), (cl, oList (List.map Value.bool bs) epc)]) (Nf := fun F => []) r2 (by decide) (by kernel_rfl) ?_; intro h3 t3 x3 z3
    exact kk _ _ zs ep ox hm x3 z3)
  | succ k ih =>
    intro i zs ep ox h t0 hk hi hm T G kk
    have hlt : i < bs.length := by omega
    have hx : (bs.map Value.bool)[i]? = some (.bool bs[i]) := by simp [hlt]
    have hlen := hm.len
    refine rows1_turn hA T G hx (by omega) fun h' t' tk ox' x z T' G' => ?_
    refine ih (i + 1) _ _ _ h' t' (by omega) hlt (hm.succ (List.getElem?_eq_getElem hlt) tk) T' G' fun h2 t2 zs2 ep2 ox2 m2 x2 z2 => ?_
    exact kk h2 t2 zs2 ep2 ox2 m2 (x.trans x2 rfl) (z2.trans (by rw [z]))

theorem rows2_turn {it acc loc cl : Addr} {te : Tok} {bs : List Bool} {epc i : Nat} {zs : List Value} {ep : Nat} {ox : Option (Int × Tok × Value)} {b : Bool} (hA : Okk A 450) (T : Tp (kP w b1 b2) h) (G : Giv (kP w b1 b2) h (rowsL it acc loc cl i zs ep ox (endStr 2) te bs epc))
    (hx : (bs.map Value.bool)[i]? = some (.bool b)) (hz : zs.length ≤ 1000)
    (k : ∀ h' t' tk ox', Af h (rowsL it acc loc cl (i + 1) (zs ++ [.str (rowStr [13,10] b) tk]) (ep + 1) (some ox') (endStr 2) te bs epc) [] h' → h'.objs.size = h.objs.size → Tp (kP w b1 b2) h' → Giv (kP w b1 b2) h' (rowsL it acc loc cl (i + 1) (zs ++ [.str (rowStr [13,10] b) tk]) (ep + 1) (some ox') (endStr 2) te bs epc) →
      CA w b1 b2 A (cRows (PP w b1 b2) it acc loc) R ⟨h', gs, dr, t', os⟩) :
    CA w b1 b2 A (cRows (PP w b1 b2) it acc loc) R ⟨h, gs, dr, t0, os⟩ := by
  revert b1
  refine @bothB _ ?_ ?_ <;> set_option tactic.hygienic false in intros
  all_goals (
  refine goC hA T G (by kernel_rfl) ?_; intro _ _ r
  refine cutS 550 0 (n := 2) (hs := [1]) (c := (.call (.builtin "list_iterator.__next__") ⟨[(.ref it)], []⟩)) (idx := [0,4]) (Lf := fun F => [(it, oLit cl i), (cl, oList (List.map Value.bool bs) epc)]) r (by decide) (by kernel_rfl) ?_; intro h1 t1 r1 T1 G1 o1 z1
  refine lf_next (G1.nw _ (.head _)) (G1.nw _ (.tail _ (.head _))) hx z1 ?_
  intro h2 x2 z2
  refine goS r1 _ [0] x2 z2 (by kernel_rfl) ?_; intro _ r2
  obtain _ | ⟨u1, u2, u3⟩ := ox
  · cases b with
    | true =>
      refine cutS 550 0 (n := 19) (hs := [3,3,3,4]) (c := (.call (.builtin "list.append") ⟨[(.ref acc), (.str ⟨#[46,13,10]⟩ (t1 + 2))], []⟩)) (idx := [1]) (Lf := fun F => [(acc, oList zs ep)]) r2 (by decide) (by kernel_rfl) ?_; intro h3 t3 r3 T3 G3 o3 z3
      refine lf_append (G3.nw _ (.head _)) hz z3 ?_
      intro h4 x4 z4
      refine goS r3 _ [1] x4 z4 (by kernel_rfl) ?_; intro _ r4
      refine agS 0 (n := 0) (hs := []) (c := (cRows (PP w b1 b2) it acc loc)) (q := 0) (idx := [0,1,2,3,4]) (idn := []) (Lf := fun F => [(it, oLit cl (i + 1)), (acc, oList (zs ++ [Value.str { cps := #[46,13,10] } (t1 + 2)]) (ep + 1)), (loc, oD [⟨hOf F 2 0, .str ⟨#[99,101,108,108]⟩ (kOf F 2 0), (.bool Bool.true)⟩] 1), (162, ⟨(.type "cell"), Option.none, (.cell (Option.some (.str ⟨#[13,10]⟩ te))), #[]⟩), (cl, oList (List.map Value.bool bs) epc)]) (Nf := fun F => []) r4 (by decide) (by kernel_rfl) ?_; intro h5 t5 x5 z5 T5 G5
      exact k h5 t5 _ (_, _, _) x5 z5 T5 G5
    | false =>
      refine cutS 550 0 (n := 19) (hs := [3,3,3,4]) (c := (.call (.builtin "list.append") ⟨[(.ref acc), (.str ⟨#[97,13,10]⟩ (t1 + 2))], []⟩)) (idx := [1]) (Lf := fun F => [(acc, oList zs ep)]) r2 (by decide) (by kernel_rfl) ?_; intro h3 t3 r3 T3 G3 o3 z3
      refine lf_append (G3.nw _ (.head _)) hz z3 ?_
      intro h4 x4 z4
      refine goS r3 _ [1] x4 z4 (by kernel_rfl) ?_; intro _ r4
      refine agS 0 (n := 0) (hs := []) (c := (cRows (PP w b1 b2) it acc loc)) (q := 0) (idx := [0,1,2,3,4]) (idn := []) (Lf := fun F => [(it, oLit cl (i + 1)), (acc, oList (zs ++ [Value.str { cps := #[97,13,10] } (t1 + 2)]) (ep + 1)), (loc, oD [⟨hOf F 2 0, .str ⟨#[99,101,108,108]⟩ (kOf F 2 0), (.bool Bool.false)⟩] 1), (162, ⟨(.type "cell"), Option.none, (.cell (Option.some (.str ⟨#[13,10]⟩ te))), #[]⟩), (cl, oList (List.map Value.bool bs) epc)]) (Nf := fun F => []) r4 (by decide) (by kernel_rfl) ?_; intro h5 t5 x5 z5 T5 G5
      exact k h5 t5 _ (_, _, _) x5 z5 T5 G5
  · cases b with
    | true =>
      refine cutS 550 0 (n := 19) (hs := [3,3,3,4]) (c := (.call (.builtin "list.append") ⟨[(.ref acc), (.str ⟨#[46,13,10]⟩ (t1 + 2))], []⟩)) (idx := [1]) (Lf := fun F => [(acc, oList zs ep)]) r2 (by decide) (by kernel_rfl) ?_; intro h3 t3 r3 T3 G3 o3 z3
      refine lf_append (G3.nw _ (.head _)) hz z3 ?_
      intro h4 x4 z4
      refine goS r3 _ [1] x4 z4 (by kernel_rfl) ?_; intro _ r4
      refine agS 0 (n := 0) (hs := []) (c := (cRows (PP w b1 b2) it acc loc)) (q := 0) (idx := [0,1,2,3,4]) (idn := []) (Lf := fun F => [(it, oLit cl (i + 1)), (acc, oList (zs ++ [Value.str { cps := #[46,13,10] } (t1 + 2)]) (ep + 1)), (loc, oD [⟨u1, .str ⟨#[99,101,108,108]⟩ u2, (.bool Bool.true)⟩] 1), (162, ⟨(.type "cell"), Option.none, (.cell (Option.some (.str ⟨#[13,10]⟩ te))), #[]⟩), (cl, oList (List.map Value.bool bs) epc)]) (Nf := fun F => []) r4 (by decide) (by kernel_rfl) ?_; intro h5 t5 x5 z5 T5 G5
      exact k h5 t5 _ (_, _, _) x5 z5 T5 G5
    | false =>
      refine cutS 550 0 (n := 19) (hs := [3,3,3,4]) (c := (.call (.builtin "list.append") ⟨[(.ref acc), (.str ⟨#[97,13,10]⟩ (t1 + 2))], []⟩)) (idx := [1]) (Lf := fun F => [(acc, oList zs ep)]) r2 (by decide) (by kernel_rfl) ?_; intro h3 t3 r3 T3 G3 o3 z3
      refine lf_append (G3.nw _ (.head _)) hz z3 ?_
      intro h4 x4 z4
      refine goS r3 _ [1] x4 z4 (by kernel_rfl) ?_; intro _ r4
      refine agS 0 (n := 0) (hs := []) (c := (cRows (PP w b1 b2) it acc loc)) (q := 0) (idx := [0,1,2,3,4]) (idn := []) (Lf := fun F => [(it, oLit cl (i + 1)), (acc, oList (zs ++ [Value.str { cps := #[97,13,10] } (t1 + 2)]) (ep + 1)), (loc, oD [⟨u1, .str ⟨#[99,101,108,108]⟩ u2, (.bool Bool.false)⟩] 1), (162, ⟨(.type "cell"), Option.none, (.cell (Option.some (.str ⟨#[13,10]⟩ te))), #[]⟩), (cl, oList (List.map Value.bool bs) epc)]) (Nf := fun F => []) r4 (by decide) (by kernel_rfl) ?_; intro h5 t5 x5 z5 T5 G5
      exact k h5 t5 _ (_, _, _) x5 z5 T5 G5)
theorem rows2_loop {it acc loc cl : Addr} {te : Tok} {bs : List Bool} {epc : Nat} (hA : Okk A 450) (hl : bs.length ≤ 1000) :
    ∀ (k i : Nat) (zs : List Value) (ep : Nat) (ox : Option (Int × Tok × Value)) (h : Heap) (t0 : Nat), bs.length - i = k → i ≤ bs.length → RowsOf [13,10] bs zs i → Tp (kP w b1 b2) h → Giv (kP w b1 b2) h (rowsL it acc loc cl i zs ep ox (endStr 2) te bs epc) →
    (∀ h' t' zs' ep' ox', RowsOf [13,10] bs zs' bs.length → Af h [(it, oLitX bs.length), (acc, oList zs' ep'), (loc, oX sCell ox'), (162, oCell (.str (endStr 2) te)), (cl, oList (bs.map Value.bool) epc)] [] h' → h'.objs.size = h.objs.size + 2 → R (.ok .next) ⟨h', gs, dr, t', os⟩) →
    CA w b1 b2 A (cRows (PP w b1 b2) it acc loc) R ⟨h, gs, dr, t0, os⟩ := by
  intro k
  induction k with
  | zero =>
    intro i zs ep ox h t0 hk hi hm T G kk
    have : i = bs.length := by omega
    subst this
    revert b1
    refine @bothB _ ?_ ?_ <;> set_option tactic.hygienic false in intros
    all_goals (
    refine goC hA T G (by kernel_rfl) ?_; intro _ _ r
    refine cutS 550 0 (n := 2) (hs := [1]) (c := (.call (.builtin "list_iterator.__next__") ⟨[(.ref it)], []⟩)) (idx := [0,4]) (Lf := fun F => [(it, oLit cl (bs.length)), (cl, oList (List.map Value.bool bs) epc)]) r (by decide) (by kernel_rfl) ?_; intro h1 t1 r1 T1 G1 o1 z1
    refine lf_next_end o1.hd (G1.nw _ (.head _)) (G1.nw _ (.tail _ (.head _))) (List.getElem?_eq_none (by simp)) z1 ?_
    intro h2 x2 z2
    refine goS r1 _ [0] x2 z2 (by kernel_rfl) ?_; intro _ r2
    refine endS 0 (n := 1) (hs := [1]) (fl := .next) (q := 2) (idx := [2,3,4,5,6]) (idn := []) (Lf := fun F => [(it, oLitX (bs.length)), (acc, oList zs ep), (loc, (oX sCell ox)), (162, ⟨(.type "cell"), Option.none, (.cell (Option.some (.str ⟨#[13,10]⟩ te))), #[]⟩), (cl, oList (List.map Value.bool bs) epc)]) (Nf := fun F => []) r2 (by decide) (by kernel_rfl) ?_; intro h3 t3 x3 z3
    exact kk _ _ zs ep ox hm x3 z3)
  | succ k ih =>
    intro i zs ep ox h t0 hk hi hm T G kk
    have hlt : i < bs.length := by omega
    have hx : (bs.map Value.bool)[i]? = some (.bool bs[i]) := by simp [hlt]
    have hlen := hm.len
    refine rows2_turn hA T G hx (by omega) fun h' t' tk ox' x z T' G' => ?_
    refine ih (i + 1) _ _ _ h' t' (by omega) hlt (hm.succ (List.getElem?_eq_getElem hlt) tk) T' G' fun h2 t2 zs2 ep2 ox2 m2 x2 z2 => ?_
    exact kk h2 t2 zs2 ep2 ox2 m2 (x.trans x2 rfl) (z2.trans (by rw [z]))

end
end Mine
end
section
open PySem PySem.W PyProof.Rows PySem.W.X
namespace Mine
section
variable {w : World} {b1 b2 : Bool} {A : Around} {R : Result → Shared → Prop} {hB h : Heap} {gs : Array GenState} {dr : Drawn} {t0 N : Nat} {os : OsState}
/-- the table of made codes: at first, and behind the first lexer -/
noncomputable abbrev tab0 : Obj := ⟨.none, none, .fields #[], #[]⟩
noncomputable abbrev tab1 (cd cx : Addr) : Obj := ⟨.none, none, .fields #[.int 81 0, .int 4 0, .ref cd, .int 85 0, .int 13 0, .ref cx], #[]⟩
noncomputable def objOf (F : Cf) (j : Nat) : Obj := match nth F.news j with
  | some (_, o) => o
  | none => default
noncomputable def fldsOf (o : Obj) : List Value := match o.data with
  | .fields vs => vs.toList
  | _ => []
noncomputable def fdOf (o : Obj) : FuncData := match o.data with
  | .func fd => fd
  | _ => default
noncomputable def valNo : List Value → Nat → Value
  | [], _ => .none
  | v :: _, 0 => v
  | _ :: l, n + 1 => valNo l n
noncomputable def dropV : List Value → Nat → List Value
  | l, 0 => l
  | [], _ => []
  | _ :: l, n + 1 => dropV l n
noncomputable def tokOf : Value → Tok
  | .str _ t => t
  | .int _ t => t
  | _ => 0
noncomputable def refOf : Value → Addr
  | .ref a => a
  | _ => 0
noncomputable def tokE (F : Cf) (j k : Nat) : Tok := tokOf (entNo (dEnts F j) k).val
noncomputable def cellTok (o : Obj) : Tok := match o.data with
  | .cell (some v) => tokOf v
  | _ => 0
/-- the lexer's own letters, read off the ledger: dx, fs, fd, fr, cd, ct at these places -/
noncomputable def lxOf (F : Cf) (dx fs fd fr cd ct : Nat) : Lx :=
  { hl := hOf F dx 0, hi := hOf F dx 1, hw := hOf F dx 2, hp := hOf F dx 3, hr := hOf F fd 0, kl := kOf F dx 0, ki := kOf F dx 1, kw := kOf F dx 2, kp := kOf F dx 3, kr := kOf F fd 0,
    tw := tokE F dx 2, tX := cellTok (objOf F ct), tq := tokOf (valNo (fldsOf (objOf F cd)) 1), FD := fdOf (objOf F fs), c0 := valNo (fldsOf (objOf F cd)) 0, cr := dropV (fldsOf (objOf F cd)) 2,
    ctup := refOf (fdOf (objOf F fr)).closureTuple, pm := (fdOf (objOf F fr)).pyModule }
theorem lex_new1 {X : Str} {tX : Tok} (hA : Okk A 450) (T : Tp (kP w b1 b2) h) (G : Giv (kP w b1 b2) h [(130, tab0)])
    (k : ∀ h' t' x dx pb fs fd fr cd ct ca la cx (o : Lx) tp tl ocx, Af h [(130, tab1 cd cx)] (lexL (PP w b1 b2) x dx pb fs fd fr cd ct ca la o X 0 1 tp tl [] 0 ++ [(cx, ocx)]) h' → h'.objs.size = h.objs.size + 24 → R (.ok (.ret (.ref x))) ⟨h', gs, dr, t', os⟩) :
    CA w b1 b2 A (.call (.ref 135) ⟨[.str X tX], []⟩) R ⟨h, gs, dr, t0, os⟩ := by
  revert b1
  refine @bothB _ ?_ ?_ <;> set_option tactic.hygienic false in intros
  all_goals (
  refine goC hA T G (by kernel_rfl) ?_; intro _ _ r
  refine endS 24 (n := 285) (hs := [0,0,2,2,2,2,0,6,12,12,12,0,0,0,12,12,0,13,19,19,19,0,0,0,19,19,19,19,1,1,1,1,1,2,1,1,1,0,20,0,0,0,0,0,0,0,0,0,0,0,0,0,0,0,0,0,0,0,0,0,0,0,0,0,0,0,0,0,1,0,1,0,0,0,0,0,0,1,1,1,1,1,2,0,0,0,2,0,2,0,2,0,0,0,2,0,3,3,3,1,1,2,0,0,0,2,0,2,0,2,0,0,0,2,0,3,3,3,1,2,0,0,0,2,0,2,0,2,0,0,0,2,0,3,3,3,2,3,0,0,0,3,0,3,0,3,0,0,0,3,0,4,4,4]) (fl := .ret (.ref (h.objs.size + 21))) (q := 24) (idx := [24]) (idn := [2,3,0,5,4,12,13,22,21,20,6]) (Lf := fun F => [(130, tab1 (h.objs.size + 10) (h.objs.size + 17))])
    (Nf := fun F => lexL (PP w b1 b2) (h.objs.size + 21) (h.objs.size + 20) (h.objs.size + 23) (h.objs.size + 18) (h.objs.size + 19) (h.objs.size + 11) (h.objs.size + 10) (h.objs.size + 1) (h.objs.size + 2) (h.objs.size + 3) (lxOf F 3 5 4 12 13 22) X 0 1 t0 (tokE F 3 0) [] 0 ++ [(h.objs.size + 17, objOf F 6)]) r (by decide) (by kernel_rfl) ?_
  intro h1 t1 x1 z1
  exact k _ _ _ _ _ _ _ _ _ _ _ _ _ _ _ _ _ x1 z1)
end
end Mine
end
section
open PySem PySem.W PyProof.Rows PySem.W.X
open PySem.Builtin.Re PySem.Builtin.Str PySem.Builtin
namespace Mine
noncomputable def endL : Nat → List Nat
  | 0 => [13]
  | 1 => [10]
  | _ => [13,10]
theorem len16 {bs : List Bool} (h : bs.length = 16) : ∃ c0 c1 c2 c3 c4 c5 c6 c7 c8 c9 c10 c11 c12 c13 c14 c15, bs = [c0, c1, c2, c3, c4, c5, c6, c7, c8, c9, c10, c11, c12, c13, c14, c15] := by
  rcases bs with _ | ⟨c0, bs⟩; · simp at h
  rcases bs with _ | ⟨c1, bs⟩; · simp at h
  rcases bs with _ | ⟨c2, bs⟩; · simp at h
  rcases bs with _ | ⟨c3, bs⟩; · simp at h
  rcases bs with _ | ⟨c4, bs⟩; · simp at h
  rcases bs with _ | ⟨c5, bs⟩; · simp at h
  rcases bs with _ | ⟨c6, bs⟩; · simp at h
  rcases bs with _ | ⟨c7, bs⟩; · simp at h
  rcases bs with _ | ⟨c8, bs⟩; · simp at h
  rcases bs with _ | ⟨c9, bs⟩; · simp at h
  rcases bs with _ | ⟨c10, bs⟩; · simp at h
  rcases bs with _ | ⟨c11, bs⟩; · simp at h
  rcases bs with _ | ⟨c12, bs⟩; · simp at h
  rcases bs with _ | ⟨c13, bs⟩; · simp at h
  rcases bs with _ | ⟨c14, bs⟩; · simp at h
  rcases bs with _ | ⟨c15, bs⟩; · simp at h
  rcases bs with _ | ⟨c16, bs⟩
  · exact ⟨c0, c1, c2, c3, c4, c5, c6, c7, c8, c9, c10, c11, c12, c13, c14, c15, rfl⟩
  · simp at h
theorem NF2_0 (P : Params) {bs : List Bool} (h : bs.length = 16) : ∀ s, ∀ j < 16, nf P 121 120 s (rowsA [13] bs) (j * ([13].length + 1)) = some (some (j * ([13].length + 1) + 1, (j + 1) * ([13].length + 1))) := by
  obtain ⟨c0, c1, c2, c3, c4, c5, c6, c7, c8, c9, c10, c11, c12, c13, c14, c15, rfl⟩ := len16 h
  intro s j hj
  match j, hj with
  | 0, _ => exact nf2_r_0 P s c0 c1 c2 c3 c4 c5 c6 c7 c8 c9 c10 c11 c12 c13 c14 c15
  | 1, _ => exact nf2_r_1 P s c0 c1 c2 c3 c4 c5 c6 c7 c8 c9 c10 c11 c12 c13 c14 c15
  | 2, _ => exact nf2_r_2 P s c0 c1 c2 c3 c4 c5 c6 c7 c8 c9 c10 c11 c12 c13 c14 c15
  | 3, _ => exact nf2_r_3 P s c0 c1 c2 c3 c4 c5 c6 c7 c8 c9 c10 c11 c12 c13 c14 c15
  | 4, _ => exact nf2_r_4 P s c0 c1 c2 c3 c4 c5 c6 c7 c8 c9 c10 c11 c12 c13 c14 c15
  | 5, _ => exact nf2_r_5 P s c0 c1 c2 c3 c4 c5 c6 c7 c8 c9 c10 c11 c12 c13 c14 c15
  | 6, _ => exact nf2_r_6 P s c0 c1 c2 c3 c4 c5 c6 c7 c8 c9 c10 c11 c12 c13 c14 c15
  | 7, _ => exact nf2_r_7 P s c0 c1 c2 c3 c4 c5 c6 c7 c8 c9 c10 c11 c12 c13 c14 c15
  | 8, _ => exact nf2_r_8 P s c0 c1 c2 c3 c4 c5 c6 c7 c8 c9 c10 c11 c12 c13 c14 c15
  | 9, _ => exact nf2_r_9 P s c0 c1 c2 c3 c4 c5 c6 c7 c8 c9 c10 c11 c12 c13 c14 c15
  | 10, _ => exact nf2_r_10 P s c0 c1 c2 c3 c4 c5 c6 c7 c8 c9 c10 c11 c12 c13 c14 c15
  | 11, _ => exact nf2_r_11 P s c0 c1 c2 c3 c4 c5 c6 c7 c8 c9 c10 c11 c12 c13 c14 c15
  | 12, _ => exact nf2_r_12 P s c0 c1 c2 c3 c4 c5 c6 c7 c8 c9 c10 c11 c12 c13 c14 c15
  | 13, _ => exact nf2_r_13 P s c0 c1 c2 c3 c4 c5 c6 c7 c8 c9 c10 c11 c12 c13 c14 c15
  | 14, _ => exact nf2_r_14 P s c0 c1 c2 c3 c4 c5 c6 c7 c8 c9 c10 c11 c12 c13 c14 c15
  | 15, _ => exact nf2_r_15 P s c0 c1 c2 c3 c4 c5 c6 c7 c8 c9 c10 c11 c12 c13 c14 c15
  | n + 16, hj => omega
theorem NE_0 (P : Params) {bs : List Bool} (h : bs.length = 16) : ∀ s, nf P 121 120 s (rowsA [13] bs) (16 * ([13].length + 1)) = some none := by
  obtain ⟨c0, c1, c2, c3, c4, c5, c6, c7, c8, c9, c10, c11, c12, c13, c14, c15, rfl⟩ := len16 h
  intro s
  exact nf2_r_end P s c0 c1 c2 c3 c4 c5 c6 c7 c8 c9 c10 c11 c12 c13 c14 c15
theorem NF2_1 (P : Params) {bs : List Bool} (h : bs.length = 16) : ∀ s, ∀ j < 16, nf P 121 120 s (rowsA [10] bs) (j * ([10].length + 1)) = some (some (j * ([10].length + 1) + 1, (j + 1) * ([10].length + 1))) := by
  obtain ⟨c0, c1, c2, c3, c4, c5, c6, c7, c8, c9, c10, c11, c12, c13, c14, c15, rfl⟩ := len16 h
  intro s j hj
  match j, hj with
  | 0, _ => exact nf2_n_0 P s c0 c1 c2 c3 c4 c5 c6 c7 c8 c9 c10 c11 c12 c13 c14 c15
  | 1, _ => exact nf2_n_1 P s c0 c1 c2 c3 c4 c5 c6 c7 c8 c9 c10 c11 c12 c13 c14 c15
  | 2, _ => exact nf2_n_2 P s c0 c1 c2 c3 c4 c5 c6 c7 c8 c9 c10 c11 c12 c13 c14 c15
  | 3, _ => exact nf2_n_3 P s c0 c1 c2 c3 c4 c5 c6 c7 c8 c9 c10 c11 c12 c13 c14 c15
  | 4, _ => exact nf2_n_4 P s c0 c1 c2 c3 c4 c5 c6 c7 c8 c9 c10 c11 c12 c13 c14 c15
  | 5, _ => exact nf2_n_5 P s c0 c1 c2 c3 c4 c5 c6 c7 c8 c9 c10 c11 c12 c13 c14 c15
  | 6, _ => exact nf2_n_6 P s c0 c1 c2 c3 c4 c5 c6 c7 c8 c9 c10 c11 c12 c13 c14 c15
  | 7, _ => exact nf2_n_7 P s c0 c1 c2 c3 c4 c5 c6 c7 c8 c9 c10 c11 c12 c13 c14 c15
  | 8, _ => exact nf2_n_8 P s c0 c1 c2 c3 c4 c5 c6 c7 c8 c9 c10 c11 c12 c13 c14 c15
  | 9, _ => exact nf2_n_9 P s c0 c1 c2 c3 c4 c5 c6 c7 c8 c9 c10 c11 c12 c13 c14 c15
  | 10, _ => exact nf2_n_10 P s c0 c1 c2 c3 c4 c5 c6 c7 c8 c9 c10 c11 c12 c13 c14 c15
  | 11, _ => exact nf2_n_11 P s c0 c1 c2 c3 c4 c5 c6 c7 c8 c9 c10 c11 c12 c13 c14 c15
  | 12, _ => exact nf2_n_12 P s c0 c1 c2 c3 c4 c5 c6 c7 c8 c9 c10 c11 c12 c13 c14 c15
  | 13, _ => exact nf2_n_13 P s c0 c1 c2 c3 c4 c5 c6 c7 c8 c9 c10 c11 c12 c13 c14 c15
  | 14, _ => exact nf2_n_14 P s c0 c1 c2 c3 c4 c5 c6 c7 c8 c9 c10 c11 c12 c13 c14 c15
  | 15, _ => exact nf2_n_15 P s c0 c1 c2 c3 c4 c5 c6 c7 c8 c9 c10 c11 c12 c13 c14 c15
  | n + 16, hj => omega
theorem NE_1 (P : Params) {bs : List Bool} (h : bs.length = 16) : ∀ s, nf P 121 120 s (rowsA [10] bs) (16 * ([10].length + 1)) = some none := by
  obtain ⟨c0, c1, c2, c3, c4, c5, c6, c7, c8, c9, c10, c11, c12, c13, c14, c15, rfl⟩ := len16 h
  intro s
  exact nf2_n_end P s c0 c1 c2 c3 c4 c5 c6 c7 c8 c9 c10 c11 c12 c13 c14 c15
theorem NF2_2 (P : Params) {bs : List Bool} (h : bs.length = 16) : ∀ s, ∀ j < 16, nf P 121 120 s (rowsA [13,10] bs) (j * ([13,10].length + 1)) = some (some (j * ([13,10].length + 1) + 1, (j + 1) * ([13,10].length + 1))) := by
  obtain ⟨c0, c1, c2, c3, c4, c5, c6, c7, c8, c9, c10, c11, c12, c13, c14, c15, rfl⟩ := len16 h
  intro s j hj
  match j, hj with
  | 0, _ => exact nf2_rn_0 P s c0 c1 c2 c3 c4 c5 c6 c7 c8 c9 c10 c11 c12 c13 c14 c15
  | 1, _ => exact nf2_rn_1 P s c0 c1 c2 c3 c4 c5 c6 c7 c8 c9 c10 c11 c12 c13 c14 c15
  | 2, _ => exact nf2_rn_2 P s c0 c1 c2 c3 c4 c5 c6 c7 c8 c9 c10 c11 c12 c13 c14 c15
  | 3, _ => exact nf2_rn_3 P s c0 c1 c2 c3 c4 c5 c6 c7 c8 c9 c10 c11 c12 c13 c14 c15
  | 4, _ => exact nf2_rn_4 P s c0 c1 c2 c3 c4 c5 c6 c7 c8 c9 c10 c11 c12 c13 c14 c15
  | 5, _ => exact nf2_rn_5 P s c0 c1 c2 c3 c4 c5 c6 c7 c8 c9 c10 c11 c12 c13 c14 c15
  | 6, _ => exact nf2_rn_6 P s c0 c1 c2 c3 c4 c5 c6 c7 c8 c9 c10 c11 c12 c13 c14 c15
  | 7, _ => exact nf2_rn_7 P s c0 c1 c2 c3 c4 c5 c6 c7 c8 c9 c10 c11 c12 c13 c14 c15
  | 8, _ => exact nf2_rn_8 P s c0 c1 c2 c3 c4 c5 c6 c7 c8 c9 c10 c11 c12 c13 c14 c15
  | 9, _ => exact nf2_rn_9 P s c0 c1 c2 c3 c4 c5 c6 c7 c8 c9 c10 c11 c12 c13 c14 c15
  | 10, _ => exact nf2_rn_10 P s c0 c1 c2 c3 c4 c5 c6 c7 c8 c9 c10 c11 c12 c13 c14 c15
  | 11, _ => exact nf2_rn_11 P s c0 c1 c2 c3 c4 c5 c6 c7 c8 c9 c10 c11 c12 c13 c14 c15
  | 12, _ => exact nf2_rn_12 P s c0 c1 c2 c3 c4 c5 c6 c7 c8 c9 c10 c11 c12 c13 c14 c15
  | 13, _ => exact nf2_rn_13 P s c0 c1 c2 c3 c4 c5 c6 c7 c8 c9 c10 c11 c12 c13 c14 c15
  | 14, _ => exact nf2_rn_14 P s c0 c1 c2 c3 c4 c5 c6 c7 c8 c9 c10 c11 c12 c13 c14 c15
  | 15, _ => exact nf2_rn_15 P s c0 c1 c2 c3 c4 c5 c6 c7 c8 c9 c10 c11 c12 c13 c14 c15
  | n + 16, hj => omega
theorem NE_2 (P : Params) {bs : List Bool} (h : bs.length = 16) : ∀ s, nf P 121 120 s (rowsA [13,10] bs) (16 * ([13,10].length + 1)) = some none := by
  obtain ⟨c0, c1, c2, c3, c4, c5, c6, c7, c8, c9, c10, c11, c12, c13, c14, c15, rfl⟩ := len16 h
  intro s
  exact nf2_rn_end P s c0 c1 c2 c3 c4 c5 c6 c7 c8 c9 c10 c11 c12 c13 c14 c15
theorem NFD (P : Params) {bs : List Bool} (h : bs.length = 16) : ∀ s, ∀ i ≤ 16, (i = 0 ∨ bs.getD (i - 1) false = true) → nf P 116 115 s (rowsA [13,10] bs) (pos1 i) = some ((nextDot bs i).map fun j => (3 * j, 3 * j + 1)) := by
  intro s i hi hx
  match i, hi, hx with
  | 0, _, _ => exact nf1_start h
  | i + 1, hi, hx => exact nf1_next h (by omega) (hx.resolve_left (by omega))
section
variable {w : World} {b1 b2 : Bool} {A : Around} {R : Result → Shared → Prop} {h : Heap} {gs : Array GenState} {dr : Drawn} {t0 N : Nat} {os : OsState} {tX : Tok} {bs : List Bool}
theorem quote_all {e : Nat} (hbs : bs.length = 16) (hA : Okk A 650) (T : Tp (kP w b1 b2) h)
    (k : ∀ h' t' tok, Af h [] [] h' → R (.ok (.ret (.str ⟨(bs.flatMap outR).toArray⟩ tok))) ⟨h', gs, dr, t', os⟩) :
    CA w b1 b2 A (.call (.ref 128) ⟨[.str ⟨rowsA (endL e) bs⟩ tX], []⟩) R ⟨h, gs, dr, t0, os⟩ := by
  have k' : ∀ h' t' tok, Aft h [] h' → R (.ok (.ret (.str ⟨(bs.flatMap outR).toArray⟩ tok))) ⟨h', gs, dr, t', os⟩ := fun h' t' tok x => k h' t' tok (af_of x)
  match e with
  | 0 => exact quote_call (e := [13]) hbs (by decide) (by decide) hA T (NF2_0 _ hbs) (NE_0 _ hbs) (NFD _ hbs) k'
  | 1 => exact quote_call (e := [10]) hbs (by decide) (by decide) hA T (NF2_1 _ hbs) (NE_1 _ hbs) (NFD _ hbs) k'
  | n + 2 => exact quote_call (e := [13,10]) hbs (by decide) (by decide) hA T (NF2_2 _ hbs) (NE_2 _ hbs) (NFD _ hbs) k'
theorem lf_join0 {l : Addr} {q : List (Str × Tok)} {ep : Nat} {t : Tok} (hl : h.get? l = some (oList (strValues q) ep)) (hb : (q.map (·.1.length)).sum ≤ 1000000) (hN : h.objs.size = N)
    (k : ∀ h' tok tk, Af h [] [] h' → h'.objs.size = N → R (.ok (.ret (.str (glued ⟨#[]⟩ (q.map (·.1))) tok))) ⟨h', gs, dr, tk, os⟩) :
    CA w b1 b2 A (.call (.builtin "str.join") ⟨[.str ⟨#[]⟩ t, .ref l], []⟩) R ⟨h, gs, dr, t0, os⟩ := by
  refine cut_meets F.slot_str_join (typeIs_str _ _ _) F.entry_str_join (F.args_str_join_2 _ _) (meets_str_join_list ⟨#[]⟩ t l q (not_long hb)) ⟨⟨_, hl, rfl, _, rfl⟩, ?_⟩
  have big : (glued ⟨#[]⟩ (q.map (·.1))).length ≤ sizeLine := by
    rw [size_glued, List.map_map]
    have h2 : sizeLine = 16777216 := rfl
    have h3 : (⟨#[]⟩ : Str).length = 0 := rfl
    have : (q.map ((fun x : Str => x.length) ∘ fun x : Str × Tok => x.1)).sum = (q.map (·.1.length)).sum := rfl
    rw [h3, Nat.mul_zero]
    omega
  match q, k, big with
  | [], k, big => exact ⟨big, k h _ _ (af_refl h) hN⟩
  | [p], k, big =>
    have := k h p.2 t0 (af_refl h) hN
    rw [List.map_cons, List.map_nil, glued_one] at this
    exact this
  | p :: r :: q, k, big => exact ⟨big, k h _ _ (af_refl h) hN⟩
theorem rows_glued {e : List Nat} {q : List (Str × Tok)} (hq : q.map (·.1) = bs.map (rowStr e)) : glued ⟨#[]⟩ (q.map (·.1)) = ⟨rowsA e bs⟩ := by
  rw [hq, glue_nil]
  unfold rowsA
  congr 2
  rw [List.flatMap_map]
  rfl
theorem rows_sum {e : List Nat} {q : List (Str × Tok)} (he : e.length ≤ 2) (hbs : bs.length = 16) (hq : q.map (·.1) = bs.map (rowStr e)) : (q.map (·.1.length)).sum ≤ 1000000 := by
  have e1 : q.map (·.1.length) = (q.map (·.1)).map (·.length) := by rw [List.map_map]; rfl
  rw [e1, hq, List.map_map]
  have e2 : ∀ l : List Bool, (l.map ((fun x : Str => x.length) ∘ rowStr e)).sum ≤ 3 * l.length := by
    intro l
    induction l with
    | nil => simp
    | cons b l ih =>
      rw [List.map_cons, List.sum_cons, List.length_cons]
      have : ((fun x : Str => x.length) ∘ rowStr e) b = e.length + 1 := by show (ch b :: e).toArray.size = _; simp
      omega
  have := e2 bs
  omega
end
end Mine
end
section
open PySem PySem.W PyProof.Rows PySem.W.X
namespace Mine
section
variable {w : World} {b1 b2 : Bool} {A : Around} {R : Result → Shared → Prop} {hB h : Heap} {gs : Array GenState} {dr : Drawn} {t0 N : Nat} {os : OsState}
theorem rows_all {it acc loc cl : Addr} {te : Tok} {bs : List Bool} {epc e : Nat} (hA : Okk A 450) (hl : bs.length ≤ 1000) (T : Tp (kP w b1 b2) h) (G : Giv (kP w b1 b2) h (rowsL it acc loc cl 0 [] 0 none (endStr e) te bs epc)) (hN : h.objs.size = N)
    (kk : ∀ h' t' q ep' ox', q.map (·.1) = bs.map (rowStr (endL e)) → Af h [(it, oLitX bs.length), (acc, oList (strValues q) ep'), (loc, oX sCell ox'), (162, oCell (.str (endStr e) te)), (cl, oList (bs.map Value.bool) epc)] [] h' → h'.objs.size = N + 2 → R (.ok .next) ⟨h', gs, dr, t', os⟩) :
    CA w b1 b2 A (cRows (PP w b1 b2) it acc loc) R ⟨h, gs, dr, t0, os⟩ := by
  subst hN
  have start : ∀ e, RowsOf e bs [] 0 := fun e => ⟨[], rfl, by simp⟩
  match e, G, kk with
  | 0, G, kk =>
    refine rows0_loop hA hl bs.length 0 [] 0 none h t0 rfl (Nat.zero_le _) (start _) T G fun h' t' zs' ep' ox' m x z => ?_
    obtain ⟨q, rfl, e2⟩ := m
    exact kk h' t' q ep' ox' (by rw [e2, List.take_length]; rfl) x z
  | 1, G, kk =>
    refine rows1_loop hA hl bs.length 0 [] 0 none h t0 rfl (Nat.zero_le _) (start _) T G fun h' t' zs' ep' ox' m x z => ?_
    obtain ⟨q, rfl, e2⟩ := m
    exact kk h' t' q ep' ox' (by rw [e2, List.take_length]; rfl) x z
  | n + 2, G, kk =>
    refine rows2_loop hA hl bs.length 0 [] 0 none h t0 rfl (Nat.zero_le _) (start _) T G fun h' t' zs' ep' ox' m x z => ?_
    obtain ⟨q, rfl, e2⟩ := m
    exact kk h' t' q ep' ox' (by rw [e2, List.take_length]; rfl) x z
/-- the mail's words, quoted -/
noncomputable def mailStr (bs : List Bool) : Str := ⟨(bs.flatMap outR).toArray⟩
theorem endL_len : ∀ e, (endL e).length ≤ 2
  | 0 => by decide
  | 1 => by decide
  | _ + 2 => Nat.le_refl 2
theorem st5 {cS : Obj} {xs : List Value} {ep : Nat} {D : Value} {hd hc : Int} {kd kc te : Tok} {cl : Addr} {bs : List Bool} {epc e : Nat} (hbs : bs.length = 16) (he : e < 3)
    (r : OkL w b1 b2 A R hB 5 ((cl, oList (bs.map Value.bool) epc) :: lawL tab0 [⟨hd, .str sDeal kd, D⟩, ⟨hc, .str sCells kc, .ref cl⟩] 2 oCell0 oCell0 oCell0 oCell0 cS (oCell (.str (endStr e) te)) (oCell (.ref 171)) xs ep) h N t0)
    (k : ∀ h' N' t' x dx pb fs fd fr cd ct ca la cx (o : Lx) tp tl ocx, OkL w b1 b2 A R hB 6 (lexL (PP w b1 b2) x dx pb fs fd fr cd ct ca la o (mailStr bs) 0 1 tp tl [] 0 ++ [(cx, ocx)] ++ (cl, oList (bs.map Value.bool) epc) :: lawL (tab1 cd cx) [⟨hd, .str sDeal kd, D⟩, ⟨hc, .str sCells kc, .ref cl⟩] 2 oCell0 oCell0 oCell0 (oCell (.ref x)) cS (oCell (.str (endStr e) te)) (oCell (.ref 171)) xs ep) h' N' t' →
      GoL w b1 b2 A R 6 (lexL (PP w b1 b2) x dx pb fs fd fr cd ct ca la o (mailStr bs) 0 1 tp tl [] 0 ++ [(cx, ocx)] ++ (cl, oList (bs.map Value.bool) epc) :: lawL (tab1 cd cx) [⟨hd, .str sDeal kd, D⟩, ⟨hc, .str sCells kc, .ref cl⟩] 2 oCell0 oCell0 oCell0 (oCell (.ref x)) cS (oCell (.str (endStr e) te)) (oCell (.ref 171)) xs ep) ⟨h', gs, dr, t', os⟩) :
    GoL w b1 b2 A R 5 ((cl, oList (bs.map Value.bool) epc) :: lawL tab0 [⟨hd, .str sDeal kd, D⟩, ⟨hc, .str sCells kc, .ref cl⟩] 2 oCell0 oCell0 oCell0 oCell0 cS (oCell (.str (endStr e) te)) (oCell (.ref 171)) xs ep) ⟨h, gs, dr, t0, os⟩ := by
  revert b1
  refine @bothB _ ?_ ?_ <;> set_option tactic.hygienic false in intros
  all_goals (
  refine cutS 450 3 (n := 22) (hs := [0,0,2,1,1,1,1]) (c := (.compStart (eRows (PP w b1 b2)) 0 (.ref N) (.ref (N + 1)) (envL (PP w b1 b2) (eRows (PP w b1 b2)) (N + 2) ([(sEnd, 162)]) (159)))) (idx := [2,1,0,10,3]) (Lf := fun F => [(N, oLit cl 0), ((N + 1), oList [] 0), ((N + 2), oD [] 0), (162, ⟨(.type "cell"), Option.none, (.cell (Option.some (.str (endStr e) te))), #[]⟩), (cl, oList (List.map Value.bool bs) epc)]) r (by decide) (by kernel_rfl) ?_; intro h1 t1 r1 T1 G1 o1 z1
  refine comp_start (by kernel_rfl) (.list ⟨_, G1.nw _ (.head _), rfl⟩) ?_
  refine rows_all o1 (by omega) T1 G1 z1 ?_
  intro h2 t2 q ep2 ox hq x2 z2
  have hel := endL_len e
  refine goS r1 _ [2,1,0,10,3] x2 z2 (by kernel_rfl) ?_; intro _ r2
  obtain _ | ⟨u1, u2, u3⟩ := ox
  · refine cutS 650 0 (n := 2) (hs := [1]) (c := (.call (.builtin "str.join") ⟨[(.str ⟨#[]⟩ t0), (.ref (N + 1))], []⟩)) (idx := [1]) (Lf := fun F => [((N + 1), oList (strValues q) ep2)]) r2 (by decide) (by kernel_rfl) ?_; intro h3 t3 r3 T3 G3 o3 z3
    refine lf_join0 (G3.nw _ (.head _)) (rows_sum hel hbs hq) z3 ?_
    rw [rows_glued hq]
    intro h4 k4 t4 x4 z4
    refine goS r3 _ [] x4 z4 (by kernel_rfl) ?_; intro _ r4
    refine cutS 650 0 (n := 3) (hs := [0]) (c := (.call (.ref 128) ⟨[.str ⟨rowsA (endL e) bs⟩ k4], []⟩)) (idx := []) (Lf := fun F => []) r4 (by decide) (by kernel_rfl) ?_; intro h5 t5 r5 T5 G5 o5 z5
    refine quote_all hbs o5 T5 fun h6 t6 k6 x6 => ?_
    have z6 : h6.objs.size = h6.objs.size := rfl
    refine goS r5 _ [] x6 z6 (by kernel_rfl) ?_; intro _ r6
    refine cutS 450 0 (n := 3) (hs := [0]) (c := (.call (.ref 135) ⟨[.str (mailStr bs) k6], []⟩)) (idx := [13]) (Lf := fun F => [(130, ⟨.none, Option.none, (.fields #[]), #[]⟩)]) r6 (by decide) (by kernel_rfl) ?_; intro h7 t7 r7 T7 G7 o7 z7
    refine lex_new1 o7 T7 G7 fun h8 t8 x dx pb fs fd fr cd ct ca la cx o tp tl ocx x8 z8 => ?_
    refine goS r7 _ [13] x8 z8 (by kernel_rfl) ?_; intro _ r8
    refine toL 0 (n := 6) (hs := [20,20]) (T := restT (lawC (PP w b1 b2) 6)) (c := lawC (PP w b1 b2) 0) (dp := 351) (q := 24) (idx := [24,25]) (idn := [0,1,2,3,4,5,6,7,8,9,10,14,15,16,17,18,19,20,21,22,23]) (Lf := fun F => ([(130, tab1 cd cx), (158, oList xs ep)])) (Nf := fun F => (lexL (PP w b1 b2) x dx pb fs fd fr cd ct ca la o (mailStr bs) 0 1 tp tl [] 0 ++ [(cx, ocx)] ++ (cl, oList (bs.map Value.bool) epc) :: [(159, oFr [⟨hd, .str sDeal kd, D⟩, ⟨hc, .str sCells kc, .ref cl⟩] 2), (167, oCell0), (166, oCell0), (165, oCell0), (164, oCell (.ref x)), (163, cS), (162, oCell (.str (endStr e) te)), (161, oCell (.ref 171)), (160, oCell (.ref 158))])) r8 (by decide) (by kernel_rfl) (by kernel_rfl) ?_; intro h9 t9 r9
    exact k _ _ _ x dx pb fs fd fr cd ct ca la cx o tp tl ocx r9
  · refine cutS 650 0 (n := 6) (hs := [1,1,1]) (c := (.call (.builtin "str.join") ⟨[(.str ⟨#[]⟩ t0), (.ref (N + 1))], []⟩)) (idx := [1]) (Lf := fun F => [((N + 1), oList (strValues q) ep2)]) r2 (by decide) (by kernel_rfl) ?_; intro h3 t3 r3 T3 G3 o3 z3
    refine lf_join0 (G3.nw _ (.head _)) (rows_sum hel hbs hq) z3 ?_
    rw [rows_glued hq]
    intro h4 k4 t4 x4 z4
    refine goS r3 _ [] x4 z4 (by kernel_rfl) ?_; intro _ r4
    refine cutS 650 0 (n := 3) (hs := [0]) (c := (.call (.ref 128) ⟨[.str ⟨rowsA (endL e) bs⟩ k4], []⟩)) (idx := []) (Lf := fun F => []) r4 (by decide) (by kernel_rfl) ?_; intro h5 t5 r5 T5 G5 o5 z5
    refine quote_all hbs o5 T5 fun h6 t6 k6 x6 => ?_
    have z6 : h6.objs.size = h6.objs.size := rfl
    refine goS r5 _ [] x6 z6 (by kernel_rfl) ?_; intro _ r6
    refine cutS 450 0 (n := 3) (hs := [0]) (c := (.call (.ref 135) ⟨[.str (mailStr bs) k6], []⟩)) (idx := [13]) (Lf := fun F => [(130, ⟨.none, Option.none, (.fields #[]), #[]⟩)]) r6 (by decide) (by kernel_rfl) ?_; intro h7 t7 r7 T7 G7 o7 z7
    refine lex_new1 o7 T7 G7 fun h8 t8 x dx pb fs fd fr cd ct ca la cx o tp tl ocx x8 z8 => ?_
    refine goS r7 _ [13] x8 z8 (by kernel_rfl) ?_; intro _ r8
    refine toL 0 (n := 6) (hs := [20,20]) (T := restT (lawC (PP w b1 b2) 6)) (c := lawC (PP w b1 b2) 0) (dp := 351) (q := 24) (idx := [24,25]) (idn := [0,1,2,3,4,5,6,7,8,9,10,14,15,16,17,18,19,20,21,22,23]) (Lf := fun F => ([(130, tab1 cd cx), (158, oList xs ep)])) (Nf := fun F => (lexL (PP w b1 b2) x dx pb fs fd fr cd ct ca la o (mailStr bs) 0 1 tp tl [] 0 ++ [(cx, ocx)] ++ (cl, oList (bs.map Value.bool) epc) :: [(159, oFr [⟨hd, .str sDeal kd, D⟩, ⟨hc, .str sCells kc, .ref cl⟩] 2), (167, oCell0), (166, oCell0), (165, oCell0), (164, oCell (.ref x)), (163, cS), (162, oCell (.str (endStr e) te)), (161, oCell (.ref 171)), (160, oCell (.ref 158))])) r8 (by decide) (by kernel_rfl) (by kernel_rfl) ?_; intro h9 t9 r9
    exact k _ _ _ x dx pb fs fd fr cd ct ca la cx o tp tl ocx r9)
end
end Mine
end
section
open PySem PySem.W PyProof.Rows PySem.W.X
namespace Mine
theorem bothT {P : Bool → Prop} (hf : let b1 := false; P b1) (ht : let b1 := true; P b1) : ∀ b1, P b1 := fun b1 => match b1 with | false => hf | true => ht
theorem tok_dot0 {w : World} {b1 b2 : Bool} {A : Around} {R : Result → Shared → Prop} {h : Heap} {gs : Array GenState} {dr : Drawn} {t0 : Nat} {os : OsState} {x dx pb fs fd fr cd ct ca la : Addr} {o : Lx} {X : Str} {p : Nat} {ln : Int} {tp tl : Tok}
    (hA : Okk A 650) (T : Tp (Kt (Pf w.params b1 b2)) h) (G : Giv (Kt (Pf w.params b1 b2)) h (lexL (Pf w.params b1 b2) x dx pb fs fd fr cd ct ca la o X p ln tp tl [] 0))
    (c0 : X.cps[p + 0]? = some 46) (c1 : X.cps[p + 1]? = some 46) (c2 : X.cps[p + 2]? = some 13)
    (k : ∀ h' t' tok tp' tl', Aft h (lexL (Pf w.params b1 b2) x dx pb fs fd fr cd ct ca la o X ((p + 3 : Nat) : Int) ln tp' tl' [] 0) h' → R (.ok (.ret (.str ⟨#[46,46]⟩ tok))) ⟨h', gs, dr, t', os⟩) :
    codeAny (model PySem.Challenge.pw_re0026_01 (Wf w b1 b2)) A (.call (.ref 97) ⟨[.ref x], []⟩) R ⟨h, gs, dr, t0, os⟩ := by
  revert b1
  refine @bothT _ ?_ ?_ <;> set_option tactic.hygienic false in intros
  all_goals (
  refine code_run (d := 650) (news := lexL (Pf w.params b1 b2) x dx pb fs fd fr cd ct ca la o X p ln tp tl [] 0) hA (by kernel_rfl) ?_
  have D0 : Gd ⟨⟨PySem.Challenge.pw_re0026_01, Pf w.params b1 b2⟩, Kt (Pf w.params b1 b2), true, 650, h.objs.size, t0⟩ h PySem.Challenge.pw_re0026_01 (Wf w b1 b2) := gd_of (w := Wf w b1 b2) T (kt_two _)
  have E0 : Bse PySem.Challenge.pw_re0026_01 (Wf w b1 b2) A (gC PySem.Challenge.pw_re0026_01 (Wf w b1 b2) A R) (eC R) ⟨⟨PySem.Challenge.pw_re0026_01, Pf w.params b1 b2⟩, Kt (Pf w.params b1 b2), true, 650, h.objs.size, t0⟩ := bse_code hA rfl
  let B0 : Bs := ⟨⟨PySem.Challenge.pw_re0026_01, Pf w.params b1 b2⟩, Kt (Pf w.params b1 b2), true, 650, h.objs.size, t0⟩
  let f0 : Cf := ⟨.call (.ref 97) ⟨[.ref x], []⟩, [], den (.call (.ref 97) ⟨[.ref x], []⟩), 650 + wgt (.call (.ref 97) ⟨[.ref x], []⟩), 0, 0, lexL (Pf w.params b1 b2) x dx pb fs fd fr cd ct ca la o X p ln tp tl [] 0⟩
  refine run_cut (B := B0) (f := f0) (n := 221) (hs := [0,0,1,1,1,2,0,0,0,2,0,0,0,2,2,0,3,4,4,4,4,4,1,1,0,0,1,2,0,0,0,2,0,0,0,0,0,0,2,2,0,3,0,0,0,0,1,3,3,3,1,1,1,1,1,1,1,1,2,0,2,2,0,0,1,1,1,5,0,0,0,5,0,0,0,5,5,0,6,8,8,8,8,8,8,8,8,9,10,10,11,1,1,13,14,15,15,15,15,15,14,15,15,15,15,15,1]) (c := .call (.builtin "str.__getitem__") ⟨[.str X o.tX, .ref (h.objs.size + 5)], []⟩) 950 D0 E0 (giv_start G) (dep_start hA) (by kernel_rfl) ?_
  intro h1 R1 d1 _
  have z0 : slOf (nth (rn B0 221 [0,0,1,1,1,2,0,0,0,2,0,0,0,2,2,0,3,4,4,4,4,4,1,1,0,0,1,2,0,0,0,2,0,0,0,0,0,0,2,2,0,3,0,0,0,0,1,3,3,3,1,1,1,1,1,1,1,1,2,0,2,2,0,0,1,1,1,5,0,0,0,5,0,0,0,5,5,0,6,8,8,8,8,8,8,8,8,9,10,10,11,1,1,13,14,15,15,15,15,15,14,15,15,15,15,15,1] f0).news 0) = some (h.objs.size + 5, ((p + 0 : Nat) : Int), ((p + 0 : Nat) : Int) + 1) := by kernel_rfl
  obtain ⟨u0, v0, z0⟩ := slOf_spec z0
  refine cut_getitem (R1.nw _ (nth_mem z0)) (Nat.le_of_lt (lt_of_some c0)) ?_
  intro k1 t1
  rw [show chr X (p + 0) = ⟨#[46]⟩ from chr_some c0]
  refine mn_nx (news := (rn B0 221 [0,0,1,1,1,2,0,0,0,2,0,0,0,2,2,0,3,4,4,4,4,4,1,1,0,0,1,2,0,0,0,2,0,0,0,0,0,0,2,2,0,3,0,0,0,0,1,3,3,3,1,1,1,1,1,1,1,1,2,0,2,2,0,0,1,1,1,5,0,0,0,5,0,0,0,5,5,0,6,8,8,8,8,8,8,8,8,9,10,10,11,1,1,13,14,15,15,15,15,15,14,15,15,15,15,15,1] f0).news) ?_
  let B1 : Bs := ⟨B0.S, B0.K, B0.ag, B0.d0, h1.objs.size, t1⟩
  let f1 : Cf := nx (rn B0 221 [0,0,1,1,1,2,0,0,0,2,0,0,0,2,2,0,3,4,4,4,4,4,1,1,0,0,1,2,0,0,0,2,0,0,0,0,0,0,2,2,0,3,0,0,0,0,1,3,3,3,1,1,1,1,1,1,1,1,2,0,2,2,0,0,1,1,1,5,0,0,0,5,0,0,0,5,5,0,6,8,8,8,8,8,8,8,8,9,10,10,11,1,1,13,14,15,15,15,15,15,14,15,15,15,15,15,1] f0) (.ok (.ret (.str ⟨#[46]⟩ k1))) (rn B0 221 [0,0,1,1,1,2,0,0,0,2,0,0,0,2,2,0,3,4,4,4,4,4,1,1,0,0,1,2,0,0,0,2,0,0,0,0,0,0,2,2,0,3,0,0,0,0,1,3,3,3,1,1,1,1,1,1,1,1,2,0,2,2,0,0,1,1,1,5,0,0,0,5,0,0,0,5,5,0,6,8,8,8,8,8,8,8,8,9,10,10,11,1,1,13,14,15,15,15,15,15,14,15,15,15,15,15,1] f0).news
  refine run_cut (B := B1) (f := f1) (n := 273) (hs := [2,2,15,16,16,16,16,16,0,0,2,15,16,16,16,16,16,16,2,3,3,3,3,4,4,6,6,6,6,7,0,0,0,7,0,0,0,7,7,0,8,6,6,6,6,6,6,6,4,4,4,4,4,4,4,4,5,0,5,5,0,0,1,1,1,8,0,0,0,8,0,0,0,8,8,0,9,11,11,11,11,11,11,11,11,12,13,13,14,1,1,16,17,18,18,18,18,18,17,18,18,18,18,18,1]) (c := .call (.builtin "str.__getitem__") ⟨[.str X o.tX, .ref (h1.objs.size + 2)], []⟩) 950 (gd_re D0) (bse_re E0) (R1.call [] (aft_refl h1) rfl) (dep_nx d1) (by kernel_rfl) ?_
  intro h2 R2 d2 _
  have z1 : slOf (nth (rn B1 273 [2,2,15,16,16,16,16,16,0,0,2,15,16,16,16,16,16,16,2,3,3,3,3,4,4,6,6,6,6,7,0,0,0,7,0,0,0,7,7,0,8,6,6,6,6,6,6,6,4,4,4,4,4,4,4,4,5,0,5,5,0,0,1,1,1,8,0,0,0,8,0,0,0,8,8,0,9,11,11,11,11,11,11,11,11,12,13,13,14,1,1,16,17,18,18,18,18,18,17,18,18,18,18,18,1] f1).news 0) = some (h1.objs.size + 2, ((p + 1 : Nat) : Int), ((p + 1 : Nat) : Int) + 1) := by kernel_rfl
  obtain ⟨u1, v1, z1⟩ := slOf_spec z1
  refine cut_getitem (R2.nw _ (nth_mem z1)) (Nat.le_of_lt (lt_of_some c1)) ?_
  intro k2 t2
  rw [show chr X (p + 1) = ⟨#[46]⟩ from chr_some c1]
  refine mn_nx (news := (rn B1 273 [2,2,15,16,16,16,16,16,0,0,2,15,16,16,16,16,16,16,2,3,3,3,3,4,4,6,6,6,6,7,0,0,0,7,0,0,0,7,7,0,8,6,6,6,6,6,6,6,4,4,4,4,4,4,4,4,5,0,5,5,0,0,1,1,1,8,0,0,0,8,0,0,0,8,8,0,9,11,11,11,11,11,11,11,11,12,13,13,14,1,1,16,17,18,18,18,18,18,17,18,18,18,18,18,1] f1).news) ?_
  let B2 : Bs := ⟨B1.S, B1.K, B1.ag, B1.d0, h2.objs.size, t2⟩
  let f2 : Cf := nx (rn B1 273 [2,2,15,16,16,16,16,16,0,0,2,15,16,16,16,16,16,16,2,3,3,3,3,4,4,6,6,6,6,7,0,0,0,7,0,0,0,7,7,0,8,6,6,6,6,6,6,6,4,4,4,4,4,4,4,4,5,0,5,5,0,0,1,1,1,8,0,0,0,8,0,0,0,8,8,0,9,11,11,11,11,11,11,11,11,12,13,13,14,1,1,16,17,18,18,18,18,18,17,18,18,18,18,18,1] f1) (.ok (.ret (.str ⟨#[46]⟩ k2))) (rn B1 273 [2,2,15,16,16,16,16,16,0,0,2,15,16,16,16,16,16,16,2,3,3,3,3,4,4,6,6,6,6,7,0,0,0,7,0,0,0,7,7,0,8,6,6,6,6,6,6,6,4,4,4,4,4,4,4,4,5,0,5,5,0,0,1,1,1,8,0,0,0,8,0,0,0,8,8,0,9,11,11,11,11,11,11,11,11,12,13,13,14,1,1,16,17,18,18,18,18,18,17,18,18,18,18,18,1] f1).news
  refine run_cut (B := B2) (f := f2) (n := 252) (hs := [2,2,18,19,19,19,19,19,0,0,2,18,19,19,19,19,19,19,2,3,3,3,3,7,7,9,9,9,9,10,0,0,0,10,0,0,0,10,10,0,11,9,9,9,9,9,7,7,7,7,8,0,8,8,0,0,1,1,1,11,0,0,0,11,0,0,0,11,11,0,12,14,14,14,14,14,14,14,14,15,16,16,17,1,1,19,20,21,21,21,21,21,20,21,21,21,21,21,1]) (c := .call (.builtin "str.__getitem__") ⟨[.str X o.tX, .ref (h2.objs.size + 2)], []⟩) 950 (gd_re (gd_re D0)) (bse_re (bse_re E0)) (R2.call [] (aft_refl h2) rfl) (dep_nx d2) (by kernel_rfl) ?_
  intro h3 R3 d3 _
  have z2 : slOf (nth (rn B2 252 [2,2,18,19,19,19,19,19,0,0,2,18,19,19,19,19,19,19,2,3,3,3,3,7,7,9,9,9,9,10,0,0,0,10,0,0,0,10,10,0,11,9,9,9,9,9,7,7,7,7,8,0,8,8,0,0,1,1,1,11,0,0,0,11,0,0,0,11,11,0,12,14,14,14,14,14,14,14,14,15,16,16,17,1,1,19,20,21,21,21,21,21,20,21,21,21,21,21,1] f2).news 0) = some (h2.objs.size + 2, ((p + 2 : Nat) : Int), ((p + 2 : Nat) : Int) + 1) := by kernel_rfl
  obtain ⟨u2, v2, z2⟩ := slOf_spec z2
  refine cut_getitem (R3.nw _ (nth_mem z2)) (Nat.le_of_lt (lt_of_some c2)) ?_
  intro k3 t3
  rw [show chr X (p + 2) = ⟨#[13]⟩ from chr_some c2]
  refine mn_nx (news := (rn B2 252 [2,2,18,19,19,19,19,19,0,0,2,18,19,19,19,19,19,19,2,3,3,3,3,7,7,9,9,9,9,10,0,0,0,10,0,0,0,10,10,0,11,9,9,9,9,9,7,7,7,7,8,0,8,8,0,0,1,1,1,11,0,0,0,11,0,0,0,11,11,0,12,14,14,14,14,14,14,14,14,15,16,16,17,1,1,19,20,21,21,21,21,21,20,21,21,21,21,21,1] f2).news) ?_
  let B3 : Bs := ⟨B2.S, B2.K, B2.ag, B2.d0, h3.objs.size, t3⟩
  let f3 : Cf := nx (rn B2 252 [2,2,18,19,19,19,19,19,0,0,2,18,19,19,19,19,19,19,2,3,3,3,3,7,7,9,9,9,9,10,0,0,0,10,0,0,0,10,10,0,11,9,9,9,9,9,7,7,7,7,8,0,8,8,0,0,1,1,1,11,0,0,0,11,0,0,0,11,11,0,12,14,14,14,14,14,14,14,14,15,16,16,17,1,1,19,20,21,21,21,21,21,20,21,21,21,21,21,1] f2) (.ok (.ret (.str ⟨#[13]⟩ k3))) (rn B2 252 [2,2,18,19,19,19,19,19,0,0,2,18,19,19,19,19,19,19,2,3,3,3,3,7,7,9,9,9,9,10,0,0,0,10,0,0,0,10,10,0,11,9,9,9,9,9,7,7,7,7,8,0,8,8,0,0,1,1,1,11,0,0,0,11,0,0,0,11,11,0,12,14,14,14,14,14,14,14,14,15,16,16,17,1,1,19,20,21,21,21,21,21,20,21,21,21,21,21,1] f2).news
  refine run_end (B := B3) (f := f3) (n := 124) (hs := [2,2,21,22,22,22,22,22,0,0,2,21,22,22,22,22,22,22,2,3,3,3,3,10,10,12,12,12,12,13,0,0,0,13,0,0,0,13,13,0,14,12]) (fin := .done (.ret (.str ⟨#[46,46]⟩ (t2 + 11)))) (idx := [12,13,14,15,16,17,18,19,20,21]) (L := lexL (Pf w.params b1 b2) x dx pb fs fd fr cd ct ca la o X ((p + 3 : Nat) : Int) ln (t3 + 4) tl [] 0) (gd_re (gd_re (gd_re D0))) (bse_re (bse_re (bse_re E0))) (R3.call [] (aft_refl h3) rfl) (dep_nx d3) (by kernel_rfl) ?_
  intro h' t' Rl hL et
  exact ⟨Rl.lim (gd_re D0), k h' t' _ _ _ (Rl.aft hL (keys_of rfl))⟩)
theorem tok_a0 {w : World} {b1 b2 : Bool} {A : Around} {R : Result → Shared → Prop} {h : Heap} {gs : Array GenState} {dr : Drawn} {t0 : Nat} {os : OsState} {x dx pb fs fd fr cd ct ca la : Addr} {o : Lx} {X : Str} {p : Nat} {ln : Int} {tp tl : Tok}
    (hA : Okk A 650) (T : Tp (Kt (Pf w.params b1 b2)) h) (G : Giv (Kt (Pf w.params b1 b2)) h (lexL (Pf w.params b1 b2) x dx pb fs fd fr cd ct ca la o X p ln tp tl [] 0))
    (c0 : X.cps[p + 0]? = some 97) (c1 : X.cps[p + 1]? = some 13)
    (k : ∀ h' t' tok tp' tl', Aft h (lexL (Pf w.params b1 b2) x dx pb fs fd fr cd ct ca la o X ((p + 2 : Nat) : Int) ln tp' tl' [] 0) h' → R (.ok (.ret (.str ⟨#[97]⟩ tok))) ⟨h', gs, dr, t', os⟩) :
    codeAny (model PySem.Challenge.pw_re0026_01 (Wf w b1 b2)) A (.call (.ref 97) ⟨[.ref x], []⟩) R ⟨h, gs, dr, t0, os⟩ := by
  revert b1
  refine @bothT _ ?_ ?_ <;> set_option tactic.hygienic false in intros
  all_goals (
  refine code_run (d := 650) (news := lexL (Pf w.params b1 b2) x dx pb fs fd fr cd ct ca la o X p ln tp tl [] 0) hA (by kernel_rfl) ?_
  have D0 : Gd ⟨⟨PySem.Challenge.pw_re0026_01, Pf w.params b1 b2⟩, Kt (Pf w.params b1 b2), true, 650, h.objs.size, t0⟩ h PySem.Challenge.pw_re0026_01 (Wf w b1 b2) := gd_of (w := Wf w b1 b2) T (kt_two _)
  have E0 : Bse PySem.Challenge.pw_re0026_01 (Wf w b1 b2) A (gC PySem.Challenge.pw_re0026_01 (Wf w b1 b2) A R) (eC R) ⟨⟨PySem.Challenge.pw_re0026_01, Pf w.params b1 b2⟩, Kt (Pf w.params b1 b2), true, 650, h.objs.size, t0⟩ := bse_code hA rfl
  let B0 : Bs := ⟨⟨PySem.Challenge.pw_re0026_01, Pf w.params b1 b2⟩, Kt (Pf w.params b1 b2), true, 650, h.objs.size, t0⟩
  let f0 : Cf := ⟨.call (.ref 97) ⟨[.ref x], []⟩, [], den (.call (.ref 97) ⟨[.ref x], []⟩), 650 + wgt (.call (.ref 97) ⟨[.ref x], []⟩), 0, 0, lexL (Pf w.params b1 b2) x dx pb fs fd fr cd ct ca la o X p ln tp tl [] 0⟩
  refine run_cut (B := B0) (f := f0) (n := 221) (hs := [0,0,1,1,1,2,0,0,0,2,0,0,0,2,2,0,3,4,4,4,4,4,1,1,0,0,1,2,0,0,0,2,0,0,0,0,0,0,2,2,0,3,0,0,0,0,1,3,3,3,1,1,1,1,1,1,1,1,2,0,2,2,0,0,1,1,1,5,0,0,0,5,0,0,0,5,5,0,6,8,8,8,8,8,8,8,8,9,10,10,11,1,1,13,14,15,15,15,15,15,14,15,15,15,15,15,1]) (c := .call (.builtin "str.__getitem__") ⟨[.str X o.tX, .ref (h.objs.size + 5)], []⟩) 950 D0 E0 (giv_start G) (dep_start hA) (by kernel_rfl) ?_
  intro h1 R1 d1 _
  have z0 : slOf (nth (rn B0 221 [0,0,1,1,1,2,0,0,0,2,0,0,0,2,2,0,3,4,4,4,4,4,1,1,0,0,1,2,0,0,0,2,0,0,0,0,0,0,2,2,0,3,0,0,0,0,1,3,3,3,1,1,1,1,1,1,1,1,2,0,2,2,0,0,1,1,1,5,0,0,0,5,0,0,0,5,5,0,6,8,8,8,8,8,8,8,8,9,10,10,11,1,1,13,14,15,15,15,15,15,14,15,15,15,15,15,1] f0).news 0) = some (h.objs.size + 5, ((p + 0 : Nat) : Int), ((p + 0 : Nat) : Int) + 1) := by kernel_rfl
  obtain ⟨u0, v0, z0⟩ := slOf_spec z0
  refine cut_getitem (R1.nw _ (nth_mem z0)) (Nat.le_of_lt (lt_of_some c0)) ?_
  intro k1 t1
  rw [show chr X (p + 0) = ⟨#[97]⟩ from chr_some c0]
  refine mn_nx (news := (rn B0 221 [0,0,1,1,1,2,0,0,0,2,0,0,0,2,2,0,3,4,4,4,4,4,1,1,0,0,1,2,0,0,0,2,0,0,0,0,0,0,2,2,0,3,0,0,0,0,1,3,3,3,1,1,1,1,1,1,1,1,2,0,2,2,0,0,1,1,1,5,0,0,0,5,0,0,0,5,5,0,6,8,8,8,8,8,8,8,8,9,10,10,11,1,1,13,14,15,15,15,15,15,14,15,15,15,15,15,1] f0).news) ?_
  let B1 : Bs := ⟨B0.S, B0.K, B0.ag, B0.d0, h1.objs.size, t1⟩
  let f1 : Cf := nx (rn B0 221 [0,0,1,1,1,2,0,0,0,2,0,0,0,2,2,0,3,4,4,4,4,4,1,1,0,0,1,2,0,0,0,2,0,0,0,0,0,0,2,2,0,3,0,0,0,0,1,3,3,3,1,1,1,1,1,1,1,1,2,0,2,2,0,0,1,1,1,5,0,0,0,5,0,0,0,5,5,0,6,8,8,8,8,8,8,8,8,9,10,10,11,1,1,13,14,15,15,15,15,15,14,15,15,15,15,15,1] f0) (.ok (.ret (.str ⟨#[97]⟩ k1))) (rn B0 221 [0,0,1,1,1,2,0,0,0,2,0,0,0,2,2,0,3,4,4,4,4,4,1,1,0,0,1,2,0,0,0,2,0,0,0,0,0,0,2,2,0,3,0,0,0,0,1,3,3,3,1,1,1,1,1,1,1,1,2,0,2,2,0,0,1,1,1,5,0,0,0,5,0,0,0,5,5,0,6,8,8,8,8,8,8,8,8,9,10,10,11,1,1,13,14,15,15,15,15,15,14,15,15,15,15,15,1] f0).news
  refine run_cut (B := B1) (f := f1) (n := 273) (hs := [2,2,15,16,16,16,16,16,0,0,2,15,16,16,16,16,16,16,2,3,3,3,3,4,4,6,6,6,6,7,0,0,0,7,0,0,0,7,7,0,8,6,6,6,6,6,6,6,4,4,4,4,4,4,4,4,5,0,5,5,0,0,1,1,1,8,0,0,0,8,0,0,0,8,8,0,9,11,11,11,11,11,11,11,11,12,13,13,14,1,1,16,17,18,18,18,18,18,17,18,18,18,18,18,1]) (c := .call (.builtin "str.__getitem__") ⟨[.str X o.tX, .ref (h1.objs.size + 2)], []⟩) 950 (gd_re D0) (bse_re E0) (R1.call [] (aft_refl h1) rfl) (dep_nx d1) (by kernel_rfl) ?_
  intro h2 R2 d2 _
  have z1 : slOf (nth (rn B1 273 [2,2,15,16,16,16,16,16,0,0,2,15,16,16,16,16,16,16,2,3,3,3,3,4,4,6,6,6,6,7,0,0,0,7,0,0,0,7,7,0,8,6,6,6,6,6,6,6,4,4,4,4,4,4,4,4,5,0,5,5,0,0,1,1,1,8,0,0,0,8,0,0,0,8,8,0,9,11,11,11,11,11,11,11,11,12,13,13,14,1,1,16,17,18,18,18,18,18,17,18,18,18,18,18,1] f1).news 0) = some (h1.objs.size + 2, ((p + 1 : Nat) : Int), ((p + 1 : Nat) : Int) + 1) := by kernel_rfl
  obtain ⟨u1, v1, z1⟩ := slOf_spec z1
  refine cut_getitem (R2.nw _ (nth_mem z1)) (Nat.le_of_lt (lt_of_some c1)) ?_
  intro k2 t2
  rw [show chr X (p + 1) = ⟨#[13]⟩ from chr_some c1]
  refine mn_nx (news := (rn B1 273 [2,2,15,16,16,16,16,16,0,0,2,15,16,16,16,16,16,16,2,3,3,3,3,4,4,6,6,6,6,7,0,0,0,7,0,0,0,7,7,0,8,6,6,6,6,6,6,6,4,4,4,4,4,4,4,4,5,0,5,5,0,0,1,1,1,8,0,0,0,8,0,0,0,8,8,0,9,11,11,11,11,11,11,11,11,12,13,13,14,1,1,16,17,18,18,18,18,18,17,18,18,18,18,18,1] f1).news) ?_
  let B2 : Bs := ⟨B1.S, B1.K, B1.ag, B1.d0, h2.objs.size, t2⟩
  let f2 : Cf := nx (rn B1 273 [2,2,15,16,16,16,16,16,0,0,2,15,16,16,16,16,16,16,2,3,3,3,3,4,4,6,6,6,6,7,0,0,0,7,0,0,0,7,7,0,8,6,6,6,6,6,6,6,4,4,4,4,4,4,4,4,5,0,5,5,0,0,1,1,1,8,0,0,0,8,0,0,0,8,8,0,9,11,11,11,11,11,11,11,11,12,13,13,14,1,1,16,17,18,18,18,18,18,17,18,18,18,18,18,1] f1) (.ok (.ret (.str ⟨#[13]⟩ k2))) (rn B1 273 [2,2,15,16,16,16,16,16,0,0,2,15,16,16,16,16,16,16,2,3,3,3,3,4,4,6,6,6,6,7,0,0,0,7,0,0,0,7,7,0,8,6,6,6,6,6,6,6,4,4,4,4,4,4,4,4,5,0,5,5,0,0,1,1,1,8,0,0,0,8,0,0,0,8,8,0,9,11,11,11,11,11,11,11,11,12,13,13,14,1,1,16,17,18,18,18,18,18,17,18,18,18,18,18,1] f1).news
  refine run_end (B := B2) (f := f2) (n := 124) (hs := [2,2,18,19,19,19,19,19,0,0,2,18,19,19,19,19,19,19,2,3,3,3,3,7,7,9,9,9,9,10,0,0,0,10,0,0,0,10,10,0,11,9]) (fin := .done (.ret (.str ⟨#[97]⟩ k1))) (idx := [9,10,11,12,13,14,15,16,17,18]) (L := lexL (Pf w.params b1 b2) x dx pb fs fd fr cd ct ca la o X ((p + 2 : Nat) : Int) ln (t2 + 4) tl [] 0) (gd_re (gd_re D0)) (bse_re (bse_re E0)) (R2.call [] (aft_refl h2) rfl) (dep_nx d2) (by kernel_rfl) ?_
  intro h' t' Rl hL et
  exact ⟨Rl.lim (gd_re D0), k h' t' _ _ _ (Rl.aft hL (keys_of rfl))⟩)
theorem tok_dot {w : World} {b1 b2 : Bool} {A : Around} {R : Result → Shared → Prop} {h : Heap} {gs : Array GenState} {dr : Drawn} {t0 : Nat} {os : OsState} {x dx pb fs fd fr cd ct ca la : Addr} {o : Lx} {X : Str} {p : Nat} {ln : Int} {tp tl : Tok}
    (hA : Okk A 650) (T : Tp (Kt (Pf w.params b1 b2)) h) (G : Giv (Kt (Pf w.params b1 b2)) h (lexL (Pf w.params b1 b2) x dx pb fs fd fr cd ct ca la o X p ln tp tl [] 0))
    (c0 : X.cps[p + 0]? = some 10) (c1 : X.cps[p + 1]? = some 46) (c2 : X.cps[p + 2]? = some 46) (c3 : X.cps[p + 3]? = some 13)
    (k : ∀ h' t' tok tp' tl', Aft h (lexL (Pf w.params b1 b2) x dx pb fs fd fr cd ct ca la o X ((p + 4 : Nat) : Int) (ln + 1) tp' tl' [] 0) h' → R (.ok (.ret (.str ⟨#[46,46]⟩ tok))) ⟨h', gs, dr, t', os⟩) :
    codeAny (model PySem.Challenge.pw_re0026_01 (Wf w b1 b2)) A (.call (.ref 97) ⟨[.ref x], []⟩) R ⟨h, gs, dr, t0, os⟩ := by
  revert b1
  refine @bothT _ ?_ ?_ <;> set_option tactic.hygienic false in intros
  all_goals (
  refine code_run (d := 650) (news := lexL (Pf w.params b1 b2) x dx pb fs fd fr cd ct ca la o X p ln tp tl [] 0) hA (by kernel_rfl) ?_
  have D0 : Gd ⟨⟨PySem.Challenge.pw_re0026_01, Pf w.params b1 b2⟩, Kt (Pf w.params b1 b2), true, 650, h.objs.size, t0⟩ h PySem.Challenge.pw_re0026_01 (Wf w b1 b2) := gd_of (w := Wf w b1 b2) T (kt_two _)
  have E0 : Bse PySem.Challenge.pw_re0026_01 (Wf w b1 b2) A (gC PySem.Challenge.pw_re0026_01 (Wf w b1 b2) A R) (eC R) ⟨⟨PySem.Challenge.pw_re0026_01, Pf w.params b1 b2⟩, Kt (Pf w.params b1 b2), true, 650, h.objs.size, t0⟩ := bse_code hA rfl
  let B0 : Bs := ⟨⟨PySem.Challenge.pw_re0026_01, Pf w.params b1 b2⟩, Kt (Pf w.params b1 b2), true, 650, h.objs.size, t0⟩
  let f0 : Cf := ⟨.call (.ref 97) ⟨[.ref x], []⟩, [], den (.call (.ref 97) ⟨[.ref x], []⟩), 650 + wgt (.call (.ref 97) ⟨[.ref x], []⟩), 0, 0, lexL (Pf w.params b1 b2) x dx pb fs fd fr cd ct ca la o X p ln tp tl [] 0⟩
  refine run_cut (B := B0) (f := f0) (n := 221) (hs := [0,0,1,1,1,2,0,0,0,2,0,0,0,2,2,0,3,4,4,4,4,4,1,1,0,0,1,2,0,0,0,2,0,0,0,0,0,0,2,2,0,3,0,0,0,0,1,3,3,3,1,1,1,1,1,1,1,1,2,0,2,2,0,0,1,1,1,5,0,0,0,5,0,0,0,5,5,0,6,8,8,8,8,8,8,8,8,9,10,10,11,1,1,13,14,15,15,15,15,15,14,15,15,15,15,15,1]) (c := .call (.builtin "str.__getitem__") ⟨[.str X o.tX, .ref (h.objs.size + 5)], []⟩) 950 D0 E0 (giv_start G) (dep_start hA) (by kernel_rfl) ?_
  intro h1 R1 d1 _
  have z0 : slOf (nth (rn B0 221 [0,0,1,1,1,2,0,0,0,2,0,0,0,2,2,0,3,4,4,4,4,4,1,1,0,0,1,2,0,0,0,2,0,0,0,0,0,0,2,2,0,3,0,0,0,0,1,3,3,3,1,1,1,1,1,1,1,1,2,0,2,2,0,0,1,1,1,5,0,0,0,5,0,0,0,5,5,0,6,8,8,8,8,8,8,8,8,9,10,10,11,1,1,13,14,15,15,15,15,15,14,15,15,15,15,15,1] f0).news 0) = some (h.objs.size + 5, ((p + 0 : Nat) : Int), ((p + 0 : Nat) : Int) + 1) := by kernel_rfl
  obtain ⟨u0, v0, z0⟩ := slOf_spec z0
  refine cut_getitem (R1.nw _ (nth_mem z0)) (Nat.le_of_lt (lt_of_some c0)) ?_
  intro k1 t1
  rw [show chr X (p + 0) = ⟨#[10]⟩ from chr_some c0]
  refine mn_nx (news := (rn B0 221 [0,0,1,1,1,2,0,0,0,2,0,0,0,2,2,0,3,4,4,4,4,4,1,1,0,0,1,2,0,0,0,2,0,0,0,0,0,0,2,2,0,3,0,0,0,0,1,3,3,3,1,1,1,1,1,1,1,1,2,0,2,2,0,0,1,1,1,5,0,0,0,5,0,0,0,5,5,0,6,8,8,8,8,8,8,8,8,9,10,10,11,1,1,13,14,15,15,15,15,15,14,15,15,15,15,15,1] f0).news) ?_
  let B1 : Bs := ⟨B0.S, B0.K, B0.ag, B0.d0, h1.objs.size, t1⟩
  let f1 : Cf := nx (rn B0 221 [0,0,1,1,1,2,0,0,0,2,0,0,0,2,2,0,3,4,4,4,4,4,1,1,0,0,1,2,0,0,0,2,0,0,0,0,0,0,2,2,0,3,0,0,0,0,1,3,3,3,1,1,1,1,1,1,1,1,2,0,2,2,0,0,1,1,1,5,0,0,0,5,0,0,0,5,5,0,6,8,8,8,8,8,8,8,8,9,10,10,11,1,1,13,14,15,15,15,15,15,14,15,15,15,15,15,1] f0) (.ok (.ret (.str ⟨#[10]⟩ k1))) (rn B0 221 [0,0,1,1,1,2,0,0,0,2,0,0,0,2,2,0,3,4,4,4,4,4,1,1,0,0,1,2,0,0,0,2,0,0,0,0,0,0,2,2,0,3,0,0,0,0,1,3,3,3,1,1,1,1,1,1,1,1,2,0,2,2,0,0,1,1,1,5,0,0,0,5,0,0,0,5,5,0,6,8,8,8,8,8,8,8,8,9,10,10,11,1,1,13,14,15,15,15,15,15,14,15,15,15,15,15,1] f0).news
  refine run_cut (B := B1) (f := f1) (n := 277) (hs := [2,2,15,16,16,16,16,16,0,0,2,15,16,16,16,16,16,16,2,3,3,3,3,7,0,0,0,7,0,0,0,7,7,0,8,7,0,0,0,7,0,7,0,7,0,0,0,7,0,8,8,8,3,4,4,6,6,6,6,7,0,0,0,7,0,0,0,7,7,0,8,4,4,4,4,5,0,5,5,0,0,1,1,1,8,0,0,0,8,0,0,0,8,8,0,9,11,11,11,11,11,11,11,11,12,13,13,14,1,1,16,17,18,18,18,18,18,17,18,18,18,18,18,1]) (c := .call (.builtin "str.__getitem__") ⟨[.str X o.tX, .ref (h1.objs.size + 2)], []⟩) 950 (gd_re D0) (bse_re E0) (R1.call [] (aft_refl h1) rfl) (dep_nx d1) (by kernel_rfl) ?_
  intro h2 R2 d2 _
  have z1 : slOf (nth (rn B1 277 [2,2,15,16,16,16,16,16,0,0,2,15,16,16,16,16,16,16,2,3,3,3,3,7,0,0,0,7,0,0,0,7,7,0,8,7,0,0,0,7,0,7,0,7,0,0,0,7,0,8,8,8,3,4,4,6,6,6,6,7,0,0,0,7,0,0,0,7,7,0,8,4,4,4,4,5,0,5,5,0,0,1,1,1,8,0,0,0,8,0,0,0,8,8,0,9,11,11,11,11,11,11,11,11,12,13,13,14,1,1,16,17,18,18,18,18,18,17,18,18,18,18,18,1] f1).news 0) = some (h1.objs.size + 2, ((p + 1 : Nat) : Int), ((p + 1 : Nat) : Int) + 1) := by kernel_rfl
  obtain ⟨u1, v1, z1⟩ := slOf_spec z1
  refine cut_getitem (R2.nw _ (nth_mem z1)) (Nat.le_of_lt (lt_of_some c1)) ?_
  intro k2 t2
  rw [show chr X (p + 1) = ⟨#[46]⟩ from chr_some c1]
  refine mn_nx (news := (rn B1 277 [2,2,15,16,16,16,16,16,0,0,2,15,16,16,16,16,16,16,2,3,3,3,3,7,0,0,0,7,0,0,0,7,7,0,8,7,0,0,0,7,0,7,0,7,0,0,0,7,0,8,8,8,3,4,4,6,6,6,6,7,0,0,0,7,0,0,0,7,7,0,8,4,4,4,4,5,0,5,5,0,0,1,1,1,8,0,0,0,8,0,0,0,8,8,0,9,11,11,11,11,11,11,11,11,12,13,13,14,1,1,16,17,18,18,18,18,18,17,18,18,18,18,18,1] f1).news) ?_
  let B2 : Bs := ⟨B1.S, B1.K, B1.ag, B1.d0, h2.objs.size, t2⟩
  let f2 : Cf := nx (rn B1 277 [2,2,15,16,16,16,16,16,0,0,2,15,16,16,16,16,16,16,2,3,3,3,3,7,0,0,0,7,0,0,0,7,7,0,8,7,0,0,0,7,0,7,0,7,0,0,0,7,0,8,8,8,3,4,4,6,6,6,6,7,0,0,0,7,0,0,0,7,7,0,8,4,4,4,4,5,0,5,5,0,0,1,1,1,8,0,0,0,8,0,0,0,8,8,0,9,11,11,11,11,11,11,11,11,12,13,13,14,1,1,16,17,18,18,18,18,18,17,18,18,18,18,18,1] f1) (.ok (.ret (.str ⟨#[46]⟩ k2))) (rn B1 277 [2,2,15,16,16,16,16,16,0,0,2,15,16,16,16,16,16,16,2,3,3,3,3,7,0,0,0,7,0,0,0,7,7,0,8,7,0,0,0,7,0,7,0,7,0,0,0,7,0,8,8,8,3,4,4,6,6,6,6,7,0,0,0,7,0,0,0,7,7,0,8,4,4,4,4,5,0,5,5,0,0,1,1,1,8,0,0,0,8,0,0,0,8,8,0,9,11,11,11,11,11,11,11,11,12,13,13,14,1,1,16,17,18,18,18,18,18,17,18,18,18,18,18,1] f1).news
  refine run_cut (B := B2) (f := f2) (n := 273) (hs := [2,2,18,19,19,19,19,19,0,0,2,18,19,19,19,19,19,19,2,3,3,3,3,7,7,9,9,9,9,10,0,0,0,10,0,0,0,10,10,0,11,9,9,9,9,9,9,9,7,7,7,7,7,7,7,7,8,0,8,8,0,0,1,1,1,11,0,0,0,11,0,0,0,11,11,0,12,14,14,14,14,14,14,14,14,15,16,16,17,1,1,19,20,21,21,21,21,21,20,21,21,21,21,21,1]) (c := .call (.builtin "str.__getitem__") ⟨[.str X o.tX, .ref (h2.objs.size + 2)], []⟩) 950 (gd_re (gd_re D0)) (bse_re (bse_re E0)) (R2.call [] (aft_refl h2) rfl) (dep_nx d2) (by kernel_rfl) ?_
  intro h3 R3 d3 _
  have z2 : slOf (nth (rn B2 273 [2,2,18,19,19,19,19,19,0,0,2,18,19,19,19,19,19,19,2,3,3,3,3,7,7,9,9,9,9,10,0,0,0,10,0,0,0,10,10,0,11,9,9,9,9,9,9,9,7,7,7,7,7,7,7,7,8,0,8,8,0,0,1,1,1,11,0,0,0,11,0,0,0,11,11,0,12,14,14,14,14,14,14,14,14,15,16,16,17,1,1,19,20,21,21,21,21,21,20,21,21,21,21,21,1] f2).news 0) = some (h2.objs.size + 2, ((p + 2 : Nat) : Int), ((p + 2 : Nat) : Int) + 1) := by kernel_rfl
  obtain ⟨u2, v2, z2⟩ := slOf_spec z2
  refine cut_getitem (R3.nw _ (nth_mem z2)) (Nat.le_of_lt (lt_of_some c2)) ?_
  intro k3 t3
  rw [show chr X (p + 2) = ⟨#[46]⟩ from chr_some c2]
  refine mn_nx (news := (rn B2 273 [2,2,18,19,19,19,19,19,0,0,2,18,19,19,19,19,19,19,2,3,3,3,3,7,7,9,9,9,9,10,0,0,0,10,0,0,0,10,10,0,11,9,9,9,9,9,9,9,7,7,7,7,7,7,7,7,8,0,8,8,0,0,1,1,1,11,0,0,0,11,0,0,0,11,11,0,12,14,14,14,14,14,14,14,14,15,16,16,17,1,1,19,20,21,21,21,21,21,20,21,21,21,21,21,1] f2).news) ?_
  let B3 : Bs := ⟨B2.S, B2.K, B2.ag, B2.d0, h3.objs.size, t3⟩
  let f3 : Cf := nx (rn B2 273 [2,2,18,19,19,19,19,19,0,0,2,18,19,19,19,19,19,19,2,3,3,3,3,7,7,9,9,9,9,10,0,0,0,10,0,0,0,10,10,0,11,9,9,9,9,9,9,9,7,7,7,7,7,7,7,7,8,0,8,8,0,0,1,1,1,11,0,0,0,11,0,0,0,11,11,0,12,14,14,14,14,14,14,14,14,15,16,16,17,1,1,19,20,21,21,21,21,21,20,21,21,21,21,21,1] f2) (.ok (.ret (.str ⟨#[46]⟩ k3))) (rn B2 273 [2,2,18,19,19,19,19,19,0,0,2,18,19,19,19,19,19,19,2,3,3,3,3,7,7,9,9,9,9,10,0,0,0,10,0,0,0,10,10,0,11,9,9,9,9,9,9,9,7,7,7,7,7,7,7,7,8,0,8,8,0,0,1,1,1,11,0,0,0,11,0,0,0,11,11,0,12,14,14,14,14,14,14,14,14,15,16,16,17,1,1,19,20,21,21,21,21,21,20,21,21,21,21,21,1] f2).news
  refine run_cut (B := B3) (f := f3) (n := 252) (hs := [2,2,21,22,22,22,22,22,0,0,2,21,22,22,22,22,22,22,2,3,3,3,3,10,10,12,12,12,12,13,0,0,0,13,0,0,0,13,13,0,14,12,12,12,12,12,10,10,10,10,11,0,11,11,0,0,1,1,1,14,0,0,0,14,0,0,0,14,14,0,15,17,17,17,17,17,17,17,17,18,19,19,20,1,1,22,23,24,24,24,24,24,23,24,24,24,24,24,1]) (c := .call (.builtin "str.__getitem__") ⟨[.str X o.tX, .ref (h3.objs.size + 2)], []⟩) 950 (gd_re (gd_re (gd_re D0))) (bse_re (bse_re (bse_re E0))) (R3.call [] (aft_refl h3) rfl) (dep_nx d3) (by kernel_rfl) ?_
  intro h4 R4 d4 _
  have z3 : slOf (nth (rn B3 252 [2,2,21,22,22,22,22,22,0,0,2,21,22,22,22,22,22,22,2,3,3,3,3,10,10,12,12,12,12,13,0,0,0,13,0,0,0,13,13,0,14,12,12,12,12,12,10,10,10,10,11,0,11,11,0,0,1,1,1,14,0,0,0,14,0,0,0,14,14,0,15,17,17,17,17,17,17,17,17,18,19,19,20,1,1,22,23,24,24,24,24,24,23,24,24,24,24,24,1] f3).news 0) = some (h3.objs.size + 2, ((p + 3 : Nat) : Int), ((p + 3 : Nat) : Int) + 1) := by kernel_rfl
  obtain ⟨u3, v3, z3⟩ := slOf_spec z3
  refine cut_getitem (R4.nw _ (nth_mem z3)) (Nat.le_of_lt (lt_of_some c3)) ?_
  intro k4 t4
  rw [show chr X (p + 3) = ⟨#[13]⟩ from chr_some c3]
  refine mn_nx (news := (rn B3 252 [2,2,21,22,22,22,22,22,0,0,2,21,22,22,22,22,22,22,2,3,3,3,3,10,10,12,12,12,12,13,0,0,0,13,0,0,0,13,13,0,14,12,12,12,12,12,10,10,10,10,11,0,11,11,0,0,1,1,1,14,0,0,0,14,0,0,0,14,14,0,15,17,17,17,17,17,17,17,17,18,19,19,20,1,1,22,23,24,24,24,24,24,23,24,24,24,24,24,1] f3).news) ?_
  let B4 : Bs := ⟨B3.S, B3.K, B3.ag, B3.d0, h4.objs.size, t4⟩
  let f4 : Cf := nx (rn B3 252 [2,2,21,22,22,22,22,22,0,0,2,21,22,22,22,22,22,22,2,3,3,3,3,10,10,12,12,12,12,13,0,0,0,13,0,0,0,13,13,0,14,12,12,12,12,12,10,10,10,10,11,0,11,11,0,0,1,1,1,14,0,0,0,14,0,0,0,14,14,0,15,17,17,17,17,17,17,17,17,18,19,19,20,1,1,22,23,24,24,24,24,24,23,24,24,24,24,24,1] f3) (.ok (.ret (.str ⟨#[13]⟩ k4))) (rn B3 252 [2,2,21,22,22,22,22,22,0,0,2,21,22,22,22,22,22,22,2,3,3,3,3,10,10,12,12,12,12,13,0,0,0,13,0,0,0,13,13,0,14,12,12,12,12,12,10,10,10,10,11,0,11,11,0,0,1,1,1,14,0,0,0,14,0,0,0,14,14,0,15,17,17,17,17,17,17,17,17,18,19,19,20,1,1,22,23,24,24,24,24,24,23,24,24,24,24,24,1] f3).news
  refine run_end (B := B4) (f := f4) (n := 124) (hs := [2,2,24,25,25,25,25,25,0,0,2,24,25,25,25,25,25,25,2,3,3,3,3,13,13,15,15,15,15,16,0,0,0,16,0,0,0,16,16,0,17,15]) (fin := .done (.ret (.str ⟨#[46,46]⟩ (t3 + 11)))) (idx := [15,16,17,18,19,20,21,22,23,24]) (L := lexL (Pf w.params b1 b2) x dx pb fs fd fr cd ct ca la o X ((p + 4 : Nat) : Int) (ln + 1) (t4 + 4) (t1 + 10) [] 0) (gd_re (gd_re (gd_re (gd_re D0)))) (bse_re (bse_re (bse_re (bse_re E0)))) (R4.call [] (aft_refl h4) rfl) (dep_nx d4) (by kernel_rfl) ?_
  intro h' t' Rl hL et
  exact ⟨Rl.lim (gd_re D0), k h' t' _ _ _ (Rl.aft hL (keys_of rfl))⟩)
theorem tok_a {w : World} {b1 b2 : Bool} {A : Around} {R : Result → Shared → Prop} {h : Heap} {gs : Array GenState} {dr : Drawn} {t0 : Nat} {os : OsState} {x dx pb fs fd fr cd ct ca la : Addr} {o : Lx} {X : Str} {p : Nat} {ln : Int} {tp tl : Tok}
    (hA : Okk A 650) (T : Tp (Kt (Pf w.params b1 b2)) h) (G : Giv (Kt (Pf w.params b1 b2)) h (lexL (Pf w.params b1 b2) x dx pb fs fd fr cd ct ca la o X p ln tp tl [] 0))
    (c0 : X.cps[p + 0]? = some 10) (c1 : X.cps[p + 1]? = some 97) (c2 : X.cps[p + 2]? = some 13)
    (k : ∀ h' t' tok tp' tl', Aft h (lexL (Pf w.params b1 b2) x dx pb fs fd fr cd ct ca la o X ((p + 3 : Nat) : Int) (ln + 1) tp' tl' [] 0) h' → R (.ok (.ret (.str ⟨#[97]⟩ tok))) ⟨h', gs, dr, t', os⟩) :
    codeAny (model PySem.Challenge.pw_re0026_01 (Wf w b1 b2)) A (.call (.ref 97) ⟨[.ref x], []⟩) R ⟨h, gs, dr, t0, os⟩ := by
  revert b1
  refine @bothT _ ?_ ?_ <;> set_option tactic.hygienic false in intros
  all_goals (
  refine code_run (d := 650) (news := lexL (Pf w.params b1 b2) x dx pb fs fd fr cd ct ca la o X p ln tp tl [] 0) hA (by kernel_rfl) ?_
  have D0 : Gd ⟨⟨PySem.Challenge.pw_re0026_01, Pf w.params b1 b2⟩, Kt (Pf w.params b1 b2), true, 650, h.objs.size, t0⟩ h PySem.Challenge.pw_re0026_01 (Wf w b1 b2) := gd_of (w := Wf w b1 b2) T (kt_two _)
  have E0 : Bse PySem.Challenge.pw_re0026_01 (Wf w b1 b2) A (gC PySem.Challenge.pw_re0026_01 (Wf w b1 b2) A R) (eC R) ⟨⟨PySem.Challenge.pw_re0026_01, Pf w.params b1 b2⟩, Kt (Pf w.params b1 b2), true, 650, h.objs.size, t0⟩ := bse_code hA rfl
  let B0 : Bs := ⟨⟨PySem.Challenge.pw_re0026_01, Pf w.params b1 b2⟩, Kt (Pf w.params b1 b2), true, 650, h.objs.size, t0⟩
  let f0 : Cf := ⟨.call (.ref 97) ⟨[.ref x], []⟩, [], den (.call (.ref 97) ⟨[.ref x], []⟩), 650 + wgt (.call (.ref 97) ⟨[.ref x], []⟩), 0, 0, lexL (Pf w.params b1 b2) x dx pb fs fd fr cd ct ca la o X p ln tp tl [] 0⟩
  refine run_cut (B := B0) (f := f0) (n := 221) (hs := [0,0,1,1,1,2,0,0,0,2,0,0,0,2,2,0,3,4,4,4,4,4,1,1,0,0,1,2,0,0,0,2,0,0,0,0,0,0,2,2,0,3,0,0,0,0,1,3,3,3,1,1,1,1,1,1,1,1,2,0,2,2,0,0,1,1,1,5,0,0,0,5,0,0,0,5,5,0,6,8,8,8,8,8,8,8,8,9,10,10,11,1,1,13,14,15,15,15,15,15,14,15,15,15,15,15,1]) (c := .call (.builtin "str.__getitem__") ⟨[.str X o.tX, .ref (h.objs.size + 5)], []⟩) 950 D0 E0 (giv_start G) (dep_start hA) (by kernel_rfl) ?_
  intro h1 R1 d1 _
  have z0 : slOf (nth (rn B0 221 [0,0,1,1,1,2,0,0,0,2,0,0,0,2,2,0,3,4,4,4,4,4,1,1,0,0,1,2,0,0,0,2,0,0,0,0,0,0,2,2,0,3,0,0,0,0,1,3,3,3,1,1,1,1,1,1,1,1,2,0,2,2,0,0,1,1,1,5,0,0,0,5,0,0,0,5,5,0,6,8,8,8,8,8,8,8,8,9,10,10,11,1,1,13,14,15,15,15,15,15,14,15,15,15,15,15,1] f0).news 0) = some (h.objs.size + 5, ((p + 0 : Nat) : Int), ((p + 0 : Nat) : Int) + 1) := by kernel_rfl
  obtain ⟨u0, v0, z0⟩ := slOf_spec z0
  refine cut_getitem (R1.nw _ (nth_mem z0)) (Nat.le_of_lt (lt_of_some c0)) ?_
  intro k1 t1
  rw [show chr X (p + 0) = ⟨#[10]⟩ from chr_some c0]
  refine mn_nx (news := (rn B0 221 [0,0,1,1,1,2,0,0,0,2,0,0,0,2,2,0,3,4,4,4,4,4,1,1,0,0,1,2,0,0,0,2,0,0,0,0,0,0,2,2,0,3,0,0,0,0,1,3,3,3,1,1,1,1,1,1,1,1,2,0,2,2,0,0,1,1,1,5,0,0,0,5,0,0,0,5,5,0,6,8,8,8,8,8,8,8,8,9,10,10,11,1,1,13,14,15,15,15,15,15,14,15,15,15,15,15,1] f0).news) ?_
  let B1 : Bs := ⟨B0.S, B0.K, B0.ag, B0.d0, h1.objs.size, t1⟩
  let f1 : Cf := nx (rn B0 221 [0,0,1,1,1,2,0,0,0,2,0,0,0,2,2,0,3,4,4,4,4,4,1,1,0,0,1,2,0,0,0,2,0,0,0,0,0,0,2,2,0,3,0,0,0,0,1,3,3,3,1,1,1,1,1,1,1,1,2,0,2,2,0,0,1,1,1,5,0,0,0,5,0,0,0,5,5,0,6,8,8,8,8,8,8,8,8,9,10,10,11,1,1,13,14,15,15,15,15,15,14,15,15,15,15,15,1] f0) (.ok (.ret (.str ⟨#[10]⟩ k1))) (rn B0 221 [0,0,1,1,1,2,0,0,0,2,0,0,0,2,2,0,3,4,4,4,4,4,1,1,0,0,1,2,0,0,0,2,0,0,0,0,0,0,2,2,0,3,0,0,0,0,1,3,3,3,1,1,1,1,1,1,1,1,2,0,2,2,0,0,1,1,1,5,0,0,0,5,0,0,0,5,5,0,6,8,8,8,8,8,8,8,8,9,10,10,11,1,1,13,14,15,15,15,15,15,14,15,15,15,15,15,1] f0).news
  refine run_cut (B := B1) (f := f1) (n := 277) (hs := [2,2,15,16,16,16,16,16,0,0,2,15,16,16,16,16,16,16,2,3,3,3,3,7,0,0,0,7,0,0,0,7,7,0,8,7,0,0,0,7,0,7,0,7,0,0,0,7,0,8,8,8,3,4,4,6,6,6,6,7,0,0,0,7,0,0,0,7,7,0,8,4,4,4,4,5,0,5,5,0,0,1,1,1,8,0,0,0,8,0,0,0,8,8,0,9,11,11,11,11,11,11,11,11,12,13,13,14,1,1,16,17,18,18,18,18,18,17,18,18,18,18,18,1]) (c := .call (.builtin "str.__getitem__") ⟨[.str X o.tX, .ref (h1.objs.size + 2)], []⟩) 950 (gd_re D0) (bse_re E0) (R1.call [] (aft_refl h1) rfl) (dep_nx d1) (by kernel_rfl) ?_
  intro h2 R2 d2 _
  have z1 : slOf (nth (rn B1 277 [2,2,15,16,16,16,16,16,0,0,2,15,16,16,16,16,16,16,2,3,3,3,3,7,0,0,0,7,0,0,0,7,7,0,8,7,0,0,0,7,0,7,0,7,0,0,0,7,0,8,8,8,3,4,4,6,6,6,6,7,0,0,0,7,0,0,0,7,7,0,8,4,4,4,4,5,0,5,5,0,0,1,1,1,8,0,0,0,8,0,0,0,8,8,0,9,11,11,11,11,11,11,11,11,12,13,13,14,1,1,16,17,18,18,18,18,18,17,18,18,18,18,18,1] f1).news 0) = some (h1.objs.size + 2, ((p + 1 : Nat) : Int), ((p + 1 : Nat) : Int) + 1) := by kernel_rfl
  obtain ⟨u1, v1, z1⟩ := slOf_spec z1
  refine cut_getitem (R2.nw _ (nth_mem z1)) (Nat.le_of_lt (lt_of_some c1)) ?_
  intro k2 t2
  rw [show chr X (p + 1) = ⟨#[97]⟩ from chr_some c1]
  refine mn_nx (news := (rn B1 277 [2,2,15,16,16,16,16,16,0,0,2,15,16,16,16,16,16,16,2,3,3,3,3,7,0,0,0,7,0,0,0,7,7,0,8,7,0,0,0,7,0,7,0,7,0,0,0,7,0,8,8,8,3,4,4,6,6,6,6,7,0,0,0,7,0,0,0,7,7,0,8,4,4,4,4,5,0,5,5,0,0,1,1,1,8,0,0,0,8,0,0,0,8,8,0,9,11,11,11,11,11,11,11,11,12,13,13,14,1,1,16,17,18,18,18,18,18,17,18,18,18,18,18,1] f1).news) ?_
  let B2 : Bs := ⟨B1.S, B1.K, B1.ag, B1.d0, h2.objs.size, t2⟩
  let f2 : Cf := nx (rn B1 277 [2,2,15,16,16,16,16,16,0,0,2,15,16,16,16,16,16,16,2,3,3,3,3,7,0,0,0,7,0,0,0,7,7,0,8,7,0,0,0,7,0,7,0,7,0,0,0,7,0,8,8,8,3,4,4,6,6,6,6,7,0,0,0,7,0,0,0,7,7,0,8,4,4,4,4,5,0,5,5,0,0,1,1,1,8,0,0,0,8,0,0,0,8,8,0,9,11,11,11,11,11,11,11,11,12,13,13,14,1,1,16,17,18,18,18,18,18,17,18,18,18,18,18,1] f1) (.ok (.ret (.str ⟨#[97]⟩ k2))) (rn B1 277 [2,2,15,16,16,16,16,16,0,0,2,15,16,16,16,16,16,16,2,3,3,3,3,7,0,0,0,7,0,0,0,7,7,0,8,7,0,0,0,7,0,7,0,7,0,0,0,7,0,8,8,8,3,4,4,6,6,6,6,7,0,0,0,7,0,0,0,7,7,0,8,4,4,4,4,5,0,5,5,0,0,1,1,1,8,0,0,0,8,0,0,0,8,8,0,9,11,11,11,11,11,11,11,11,12,13,13,14,1,1,16,17,18,18,18,18,18,17,18,18,18,18,18,1] f1).news
  refine run_cut (B := B2) (f := f2) (n := 273) (hs := [2,2,18,19,19,19,19,19,0,0,2,18,19,19,19,19,19,19,2,3,3,3,3,7,7,9,9,9,9,10,0,0,0,10,0,0,0,10,10,0,11,9,9,9,9,9,9,9,7,7,7,7,7,7,7,7,8,0,8,8,0,0,1,1,1,11,0,0,0,11,0,0,0,11,11,0,12,14,14,14,14,14,14,14,14,15,16,16,17,1,1,19,20,21,21,21,21,21,20,21,21,21,21,21,1]) (c := .call (.builtin "str.__getitem__") ⟨[.str X o.tX, .ref (h2.objs.size + 2)], []⟩) 950 (gd_re (gd_re D0)) (bse_re (bse_re E0)) (R2.call [] (aft_refl h2) rfl) (dep_nx d2) (by kernel_rfl) ?_
  intro h3 R3 d3 _
  have z2 : slOf (nth (rn B2 273 [2,2,18,19,19,19,19,19,0,0,2,18,19,19,19,19,19,19,2,3,3,3,3,7,7,9,9,9,9,10,0,0,0,10,0,0,0,10,10,0,11,9,9,9,9,9,9,9,7,7,7,7,7,7,7,7,8,0,8,8,0,0,1,1,1,11,0,0,0,11,0,0,0,11,11,0,12,14,14,14,14,14,14,14,14,15,16,16,17,1,1,19,20,21,21,21,21,21,20,21,21,21,21,21,1] f2).news 0) = some (h2.objs.size + 2, ((p + 2 : Nat) : Int), ((p + 2 : Nat) : Int) + 1) := by kernel_rfl
  obtain ⟨u2, v2, z2⟩ := slOf_spec z2
  refine cut_getitem (R3.nw _ (nth_mem z2)) (Nat.le_of_lt (lt_of_some c2)) ?_
  intro k3 t3
  rw [show chr X (p + 2) = ⟨#[13]⟩ from chr_some c2]
  refine mn_nx (news := (rn B2 273 [2,2,18,19,19,19,19,19,0,0,2,18,19,19,19,19,19,19,2,3,3,3,3,7,7,9,9,9,9,10,0,0,0,10,0,0,0,10,10,0,11,9,9,9,9,9,9,9,7,7,7,7,7,7,7,7,8,0,8,8,0,0,1,1,1,11,0,0,0,11,0,0,0,11,11,0,12,14,14,14,14,14,14,14,14,15,16,16,17,1,1,19,20,21,21,21,21,21,20,21,21,21,21,21,1] f2).news) ?_
  let B3 : Bs := ⟨B2.S, B2.K, B2.ag, B2.d0, h3.objs.size, t3⟩
  let f3 : Cf := nx (rn B2 273 [2,2,18,19,19,19,19,19,0,0,2,18,19,19,19,19,19,19,2,3,3,3,3,7,7,9,9,9,9,10,0,0,0,10,0,0,0,10,10,0,11,9,9,9,9,9,9,9,7,7,7,7,7,7,7,7,8,0,8,8,0,0,1,1,1,11,0,0,0,11,0,0,0,11,11,0,12,14,14,14,14,14,14,14,14,15,16,16,17,1,1,19,20,21,21,21,21,21,20,21,21,21,21,21,1] f2) (.ok (.ret (.str ⟨#[13]⟩ k3))) (rn B2 273 [2,2,18,19,19,19,19,19,0,0,2,18,19,19,19,19,19,19,2,3,3,3,3,7,7,9,9,9,9,10,0,0,0,10,0,0,0,10,10,0,11,9,9,9,9,9,9,9,7,7,7,7,7,7,7,7,8,0,8,8,0,0,1,1,1,11,0,0,0,11,0,0,0,11,11,0,12,14,14,14,14,14,14,14,14,15,16,16,17,1,1,19,20,21,21,21,21,21,20,21,21,21,21,21,1] f2).news
  refine run_end (B := B3) (f := f3) (n := 124) (hs := [2,2,21,22,22,22,22,22,0,0,2,21,22,22,22,22,22,22,2,3,3,3,3,10,10,12,12,12,12,13,0,0,0,13,0,0,0,13,13,0,14,12]) (fin := .done (.ret (.str ⟨#[97]⟩ k2))) (idx := [12,13,14,15,16,17,18,19,20,21]) (L := lexL (Pf w.params b1 b2) x dx pb fs fd fr cd ct ca la o X ((p + 3 : Nat) : Int) (ln + 1) (t3 + 4) (t1 + 10) [] 0) (gd_re (gd_re (gd_re D0))) (bse_re (bse_re (bse_re E0))) (R3.call [] (aft_refl h3) rfl) (dep_nx d3) (by kernel_rfl) ?_
  intro h' t' Rl hL et
  exact ⟨Rl.lim (gd_re D0), k h' t' _ _ _ (Rl.aft hL (keys_of rfl))⟩)
theorem tok_end {w : World} {b1 b2 : Bool} {A : Around} {R : Result → Shared → Prop} {h : Heap} {gs : Array GenState} {dr : Drawn} {t0 : Nat} {os : OsState} {x dx pb fs fd fr cd ct ca la : Addr} {o : Lx} {X : Str} {p : Nat} {ln : Int} {tp tl : Tok}
    (hA : Okk A 650) (T : Tp (Kt (Pf w.params b1 b2)) h) (G : Giv (Kt (Pf w.params b1 b2)) h (lexL (Pf w.params b1 b2) x dx pb fs fd fr cd ct ca la o X p ln tp tl [] 0))
    (c0 : X.cps[p + 0]? = some 10) (c1 : X.length = p + 1)
    (k : ∀ h' t' tok tp' tl', Aft h (lexL (Pf w.params b1 b2) x dx pb fs fd fr cd ct ca la o X ((p + 1 : Nat) : Int) (ln + 1) tp' tl' [] 0) h' → R (.ok (.ret (.str ⟨#[]⟩ tok))) ⟨h', gs, dr, t', os⟩) :
    codeAny (model PySem.Challenge.pw_re0026_01 (Wf w b1 b2)) A (.call (.ref 97) ⟨[.ref x], []⟩) R ⟨h, gs, dr, t0, os⟩ := by
  revert b1
  refine @bothT _ ?_ ?_ <;> set_option tactic.hygienic false in intros
  all_goals (
  refine code_run (d := 650) (news := lexL (Pf w.params b1 b2) x dx pb fs fd fr cd ct ca la o X p ln tp tl [] 0) hA (by kernel_rfl) ?_
  have D0 : Gd ⟨⟨PySem.Challenge.pw_re0026_01, Pf w.params b1 b2⟩, Kt (Pf w.params b1 b2), true, 650, h.objs.size, t0⟩ h PySem.Challenge.pw_re0026_01 (Wf w b1 b2) := gd_of (w := Wf w b1 b2) T (kt_two _)
  have E0 : Bse PySem.Challenge.pw_re0026_01 (Wf w b1 b2) A (gC PySem.Challenge.pw_re0026_01 (Wf w b1 b2) A R) (eC R) ⟨⟨PySem.Challenge.pw_re0026_01, Pf w.params b1 b2⟩, Kt (Pf w.params b1 b2), true, 650, h.objs.size, t0⟩ := bse_code hA rfl
  let B0 : Bs := ⟨⟨PySem.Challenge.pw_re0026_01, Pf w.params b1 b2⟩, Kt (Pf w.params b1 b2), true, 650, h.objs.size, t0⟩
  let f0 : Cf := ⟨.call (.ref 97) ⟨[.ref x], []⟩, [], den (.call (.ref 97) ⟨[.ref x], []⟩), 650 + wgt (.call (.ref 97) ⟨[.ref x], []⟩), 0, 0, lexL (Pf w.params b1 b2) x dx pb fs fd fr cd ct ca la o X p ln tp tl [] 0⟩
  refine run_cut (B := B0) (f := f0) (n := 221) (hs := [0,0,1,1,1,2,0,0,0,2,0,0,0,2,2,0,3,4,4,4,4,4,1,1,0,0,1,2,0,0,0,2,0,0,0,0,0,0,2,2,0,3,0,0,0,0,1,3,3,3,1,1,1,1,1,1,1,1,2,0,2,2,0,0,1,1,1,5,0,0,0,5,0,0,0,5,5,0,6,8,8,8,8,8,8,8,8,9,10,10,11,1,1,13,14,15,15,15,15,15,14,15,15,15,15,15,1]) (c := .call (.builtin "str.__getitem__") ⟨[.str X o.tX, .ref (h.objs.size + 5)], []⟩) 950 D0 E0 (giv_start G) (dep_start hA) (by kernel_rfl) ?_
  intro h1 R1 d1 _
  have z0 : slOf (nth (rn B0 221 [0,0,1,1,1,2,0,0,0,2,0,0,0,2,2,0,3,4,4,4,4,4,1,1,0,0,1,2,0,0,0,2,0,0,0,0,0,0,2,2,0,3,0,0,0,0,1,3,3,3,1,1,1,1,1,1,1,1,2,0,2,2,0,0,1,1,1,5,0,0,0,5,0,0,0,5,5,0,6,8,8,8,8,8,8,8,8,9,10,10,11,1,1,13,14,15,15,15,15,15,14,15,15,15,15,15,1] f0).news 0) = some (h.objs.size + 5, ((p + 0 : Nat) : Int), ((p + 0 : Nat) : Int) + 1) := by kernel_rfl
  obtain ⟨u0, v0, z0⟩ := slOf_spec z0
  refine cut_getitem (R1.nw _ (nth_mem z0)) (Nat.le_of_lt (lt_of_some c0)) ?_
  intro k1 t1
  rw [show chr X (p + 0) = ⟨#[10]⟩ from chr_some c0]
  refine mn_nx (news := (rn B0 221 [0,0,1,1,1,2,0,0,0,2,0,0,0,2,2,0,3,4,4,4,4,4,1,1,0,0,1,2,0,0,0,2,0,0,0,0,0,0,2,2,0,3,0,0,0,0,1,3,3,3,1,1,1,1,1,1,1,1,2,0,2,2,0,0,1,1,1,5,0,0,0,5,0,0,0,5,5,0,6,8,8,8,8,8,8,8,8,9,10,10,11,1,1,13,14,15,15,15,15,15,14,15,15,15,15,15,1] f0).news) ?_
  let B1 : Bs := ⟨B0.S, B0.K, B0.ag, B0.d0, h1.objs.size, t1⟩
  let f1 : Cf := nx (rn B0 221 [0,0,1,1,1,2,0,0,0,2,0,0,0,2,2,0,3,4,4,4,4,4,1,1,0,0,1,2,0,0,0,2,0,0,0,0,0,0,2,2,0,3,0,0,0,0,1,3,3,3,1,1,1,1,1,1,1,1,2,0,2,2,0,0,1,1,1,5,0,0,0,5,0,0,0,5,5,0,6,8,8,8,8,8,8,8,8,9,10,10,11,1,1,13,14,15,15,15,15,15,14,15,15,15,15,15,1] f0) (.ok (.ret (.str ⟨#[10]⟩ k1))) (rn B0 221 [0,0,1,1,1,2,0,0,0,2,0,0,0,2,2,0,3,4,4,4,4,4,1,1,0,0,1,2,0,0,0,2,0,0,0,0,0,0,2,2,0,3,0,0,0,0,1,3,3,3,1,1,1,1,1,1,1,1,2,0,2,2,0,0,1,1,1,5,0,0,0,5,0,0,0,5,5,0,6,8,8,8,8,8,8,8,8,9,10,10,11,1,1,13,14,15,15,15,15,15,14,15,15,15,15,15,1] f0).news
  refine run_cut (B := B1) (f := f1) (n := 277) (hs := [2,2,15,16,16,16,16,16,0,0,2,15,16,16,16,16,16,16,2,3,3,3,3,7,0,0,0,7,0,0,0,7,7,0,8,7,0,0,0,7,0,7,0,7,0,0,0,7,0,8,8,8,3,4,4,6,6,6,6,7,0,0,0,7,0,0,0,7,7,0,8,4,4,4,4,5,0,5,5,0,0,1,1,1,8,0,0,0,8,0,0,0,8,8,0,9,11,11,11,11,11,11,11,11,12,13,13,14,1,1,16,17,18,18,18,18,18,17,18,18,18,18,18,1]) (c := .call (.builtin "str.__getitem__") ⟨[.str X o.tX, .ref (h1.objs.size + 2)], []⟩) 950 (gd_re D0) (bse_re E0) (R1.call [] (aft_refl h1) rfl) (dep_nx d1) (by kernel_rfl) ?_
  intro h2 R2 d2 _
  have z1 : slOf (nth (rn B1 277 [2,2,15,16,16,16,16,16,0,0,2,15,16,16,16,16,16,16,2,3,3,3,3,7,0,0,0,7,0,0,0,7,7,0,8,7,0,0,0,7,0,7,0,7,0,0,0,7,0,8,8,8,3,4,4,6,6,6,6,7,0,0,0,7,0,0,0,7,7,0,8,4,4,4,4,5,0,5,5,0,0,1,1,1,8,0,0,0,8,0,0,0,8,8,0,9,11,11,11,11,11,11,11,11,12,13,13,14,1,1,16,17,18,18,18,18,18,17,18,18,18,18,18,1] f1).news 0) = some (h1.objs.size + 2, ((p + 1 : Nat) : Int), ((p + 1 : Nat) : Int) + 1) := by kernel_rfl
  obtain ⟨u1, v1, z1⟩ := slOf_spec z1
  refine cut_getitem (R2.nw _ (nth_mem z1)) (by rw [c1]; exact Nat.le_refl _) ?_
  intro k2 t2
  rw [show chr X (p + 1) = ⟨#[]⟩ from chr_end c1]
  refine mn_nx (news := (rn B1 277 [2,2,15,16,16,16,16,16,0,0,2,15,16,16,16,16,16,16,2,3,3,3,3,7,0,0,0,7,0,0,0,7,7,0,8,7,0,0,0,7,0,7,0,7,0,0,0,7,0,8,8,8,3,4,4,6,6,6,6,7,0,0,0,7,0,0,0,7,7,0,8,4,4,4,4,5,0,5,5,0,0,1,1,1,8,0,0,0,8,0,0,0,8,8,0,9,11,11,11,11,11,11,11,11,12,13,13,14,1,1,16,17,18,18,18,18,18,17,18,18,18,18,18,1] f1).news) ?_
  let B2 : Bs := ⟨B1.S, B1.K, B1.ag, B1.d0, h2.objs.size, t2⟩
  let f2 : Cf := nx (rn B1 277 [2,2,15,16,16,16,16,16,0,0,2,15,16,16,16,16,16,16,2,3,3,3,3,7,0,0,0,7,0,0,0,7,7,0,8,7,0,0,0,7,0,7,0,7,0,0,0,7,0,8,8,8,3,4,4,6,6,6,6,7,0,0,0,7,0,0,0,7,7,0,8,4,4,4,4,5,0,5,5,0,0,1,1,1,8,0,0,0,8,0,0,0,8,8,0,9,11,11,11,11,11,11,11,11,12,13,13,14,1,1,16,17,18,18,18,18,18,17,18,18,18,18,18,1] f1) (.ok (.ret (.str ⟨#[]⟩ k2))) (rn B1 277 [2,2,15,16,16,16,16,16,0,0,2,15,16,16,16,16,16,16,2,3,3,3,3,7,0,0,0,7,0,0,0,7,7,0,8,7,0,0,0,7,0,7,0,7,0,0,0,7,0,8,8,8,3,4,4,6,6,6,6,7,0,0,0,7,0,0,0,7,7,0,8,4,4,4,4,5,0,5,5,0,0,1,1,1,8,0,0,0,8,0,0,0,8,8,0,9,11,11,11,11,11,11,11,11,12,13,13,14,1,1,16,17,18,18,18,18,18,17,18,18,18,18,18,1] f1).news
  refine run_at (B := B2) (f := f2) (n := 81) (hs := [2,2,18,19,19,19,19,19,0,0,2,18,19,19,19,19,19,19,2,3,3,3,3,7,7]) (T := ciT (.ref (h.objs.size + 2)) (t0 + 7) (Value.str ⟨#[]⟩ k2)) (gd_re (gd_re D0)) (bse_re (bse_re E0)) (R2.call [] (aft_refl h2) rfl) (dep_nx d2) (by kernel_rfl) ?_
  intro hq Rq dq
  refine ciT_sound ?_
  let B9 : Bs := ⟨B2.S, B2.K, B2.ag, B2.d0, hq.objs.size, B2.t₀ + (rn B2 81 [2,2,18,19,19,19,19,19,0,0,2,18,19,19,19,19,19,19,2,3,3,3,3,7,7] f2).i⟩
  let f9 : Cf := ⟨(rn B2 81 [2,2,18,19,19,19,19,19,0,0,2,18,19,19,19,19,19,19,2,3,3,3,3,7,7] f2).c, (rn B2 81 [2,2,18,19,19,19,19,19,0,0,2,18,19,19,19,19,19,19,2,3,3,3,3,7,7] f2).κ, ciK (.ref (h.objs.size + 2)), (rn B2 81 [2,2,18,19,19,19,19,19,0,0,2,18,19,19,19,19,19,19,2,3,3,3,3,7,7] f2).dep, 0, 0, (rn B2 81 [2,2,18,19,19,19,19,19,0,0,2,18,19,19,19,19,19,19,2,3,3,3,3,7,7] f2).news⟩
  show Mn _ _ _ _ _ f9 ⟨hq, gs, dr, B9.t₀ + f9.i, os⟩
  refine run_end (B := B9) (f := f9) (n := 20) (hs := [7,8,0,7,7,7,7,7,7,1,11]) (fin := .done (.ret (.str ⟨#[]⟩ (t0 + 4)))) (idx := [11,12,13,14,15,16,17,18,19,20]) (L := lexL (Pf w.params b1 b2) x dx pb fs fd fr cd ct ca la o X ((p + 1 : Nat) : Int) (ln + 1) (t2 + 4) (t1 + 10) [] 0) (gd_re (gd_re (gd_re D0))) (bse_re (bse_re (bse_re E0))) (Rq.call [] (aft_refl hq) rfl) dq (by kernel_rfl) ?_
  intro h' t' Rl hL et
  exact ⟨Rl.lim (gd_re D0), k h' t' _ _ _ (Rl.aft hL (keys_of rfl))⟩)
end Mine
end
section
open PySem PySem.W PyProof.Rows PySem.W.X
namespace Mine
/-! ## the mail's words -/
noncomputable def wpos (bs : List Bool) (i : Nat) : Nat := ((bs.take i).flatMap outR).length
theorem outR_size (b : Bool) : (outR b).length = (oc b).length + 2 := by unfold outR; simp
theorem wpos_succ {bs : List Bool} {i : Nat} {b : Bool} (hb : bs[i]? = some b) : wpos bs (i + 1) = wpos bs i + (outR b).length := by
  unfold wpos
  rw [List.take_add_one, hb, List.flatMap_append, List.length_append]
  simp
theorem mail_at {bs : List Bool} {i : Nat} {b : Bool} (hb : bs[i]? = some b) {k : Nat} (hk : k < (outR b).length) : (mailStr bs).cps[wpos bs i + k]? = (outR b)[k]? := by
  have hi : i < bs.length := (List.getElem?_eq_some_iff.mp hb).1
  have e : bs = bs.take i ++ b :: bs.drop (i + 1) := by
    have h1 := List.take_append_drop i bs
    have h2 : bs.drop i = b :: bs.drop (i + 1) := by
      rw [List.drop_eq_getElem_cons hi]
      rw [List.getElem?_eq_getElem hi] at hb
      injection hb with hb
      rw [hb]
    rw [h2] at h1
    exact h1.symm
  have e2 : bs.flatMap outR = (bs.take i).flatMap outR ++ (outR b ++ (bs.drop (i + 1)).flatMap outR) := by
    conv => lhs; rw [e]
    rw [List.flatMap_append, List.flatMap_cons]
  show ((bs.flatMap outR).toArray)[wpos bs i + k]? = _
  rw [List.getElem?_toArray, e2]
  unfold wpos
  rw [List.getElem?_append_right (Nat.le_add_right _ _), Nat.add_sub_cancel_left, List.getElem?_append_left hk]
theorem mail_len (bs : List Bool) : (mailStr bs).length = wpos bs bs.length := by
  unfold wpos
  rw [List.take_length]
  show (bs.flatMap outR).toArray.size = _
  simp
noncomputable def tokP (bs : List Bool) : Nat → Nat
  | 0 => 0
  | i + 1 => wpos bs (i + 1) - 1
noncomputable def tokLn : Nat → Int
  | 0 => 1
  | i + 1 => ((i + 1 : Nat) : Int)
noncomputable def tokStr (b : Bool) : Str := ⟨(oc b).toArray⟩
theorem wpos_ge {bs : List Bool} {i : Nat} (h : i < bs.length) : 3 ≤ wpos bs (i + 1) := by
  rw [wpos_succ (List.getElem?_eq_getElem h), outR_size]
  cases bs[i] <;> (unfold oc; simp <;> omega)
theorem mail_feed {bs : List Bool} {i : Nat} (h : i < bs.length) : (mailStr bs).cps[wpos bs (i + 1) - 1]? = some 10 := by
  have hb := List.getElem?_eq_getElem h
  have e := wpos_succ hb
  have l := outR_size bs[i]
  have q := mail_at hb (k := (outR bs[i]).length - 1) (by omega)
  have e2 : wpos bs (i + 1) - 1 = wpos bs i + ((outR bs[i]).length - 1) := by omega
  rw [e2, q]
  cases bs[i] <;> rfl
section
variable {w : World} {b1 b2 : Bool} {A : Around} {R : Result → Shared → Prop} {hB h : Heap} {gs : Array GenState} {dr : Drawn} {t0 N : Nat} {os : OsState}
theorem tok_row {x dx pb fs fd fr cd ct ca la : Addr} {o : Lx} {tp tl : Tok} {bs : List Bool} {i : Nat} {b : Bool} (hb : bs[i]? = some b)
    (hA : Okk A 650) (T : Tp (kP w b1 b2) h) (G : Giv (kP w b1 b2) h (lexL (PP w b1 b2) x dx pb fs fd fr cd ct ca la o (mailStr bs) (tokP bs i : Nat) (tokLn i) tp tl [] 0))
    (k : ∀ h' t' tok tp' tl', Aft h (lexL (PP w b1 b2) x dx pb fs fd fr cd ct ca la o (mailStr bs) (tokP bs (i + 1) : Nat) (tokLn (i + 1)) tp' tl' [] 0) h' → R (.ok (.ret (.str (tokStr b) tok))) ⟨h', gs, dr, t', os⟩) :
    CA w b1 b2 A (.call (.ref 97) ⟨[.ref x], []⟩) R ⟨h, gs, dr, t0, os⟩ := by
  have hi : i < bs.length := (List.getElem?_eq_some_iff.mp hb).1
  have ws := wpos_succ hb
  cases i with
  | zero =>
    have w0 : wpos bs 0 = 0 := rfl
    cases b with
    | true =>
      have l : (outR true).length = 4 := rfl
      refine tok_dot0 hA T G ?_ ?_ ?_ fun h' t' tok tp' tl' x => ?_
      · have := mail_at hb (k := 0) (by decide); rw [w0] at this; exact this
      · have := mail_at hb (k := 1) (by decide); rw [w0] at this; exact this
      · have := mail_at hb (k := 2) (by decide); rw [w0] at this; exact this
      · have e : tokP bs (0 + 1) = tokP bs 0 + 3 := by show wpos bs (0 + 1) - 1 = 0 + 3; rw [ws, l, w0]
        refine k h' t' tok tp' tl' ?_
        rw [e]; exact x
    | false =>
      have l : (outR false).length = 3 := rfl
      refine tok_a0 hA T G ?_ ?_ fun h' t' tok tp' tl' x => ?_
      · have := mail_at hb (k := 0) (by decide); rw [w0] at this; exact this
      · have := mail_at hb (k := 1) (by decide); rw [w0] at this; exact this
      · have e : tokP bs (0 + 1) = tokP bs 0 + 2 := by show wpos bs (0 + 1) - 1 = 0 + 2; rw [ws, l, w0]
        refine k h' t' tok tp' tl' ?_
        rw [e]; exact x
  | succ i =>
    have ge := wpos_ge (Nat.lt_of_succ_lt hi)
    have fd' := mail_feed (Nat.lt_of_succ_lt hi)
    have pe : tokP bs (i + 1) = wpos bs (i + 1) - 1 := rfl
    have pe2 : tokP bs (i + 1 + 1) = wpos bs (i + 1 + 1) - 1 := rfl
    have le : tokLn (i + 1 + 1) = tokLn (i + 1) + 1 := by show ((i + 1 + 1 : Nat) : Int) = ((i + 1 : Nat) : Int) + 1; omega
    cases b with
    | true =>
      have l : (outR true).length = 4 := rfl
      refine tok_dot hA T G ?_ ?_ ?_ ?_ fun h' t' tok tp' tl' x => ?_
      · rw [pe]; exact fd'
      · have := mail_at hb (k := 0) (by decide); rw [show tokP bs (i + 1) + 1 = wpos bs (i + 1) + 0 by omega]; exact this
      · have := mail_at hb (k := 1) (by decide); rw [show tokP bs (i + 1) + 2 = wpos bs (i + 1) + 1 by omega]; exact this
      · have := mail_at hb (k := 2) (by decide); rw [show tokP bs (i + 1) + 3 = wpos bs (i + 1) + 2 by omega]; exact this
      · refine k h' t' tok tp' tl' ?_
        rw [le, show tokP bs (i + 1 + 1) = tokP bs (i + 1) + 4 by omega]; exact x
    | false =>
      have l : (outR false).length = 3 := rfl
      refine tok_a hA T G ?_ ?_ ?_ fun h' t' tok tp' tl' x => ?_
      · rw [pe]; exact fd'
      · have := mail_at hb (k := 0) (by decide); rw [show tokP bs (i + 1) + 1 = wpos bs (i + 1) + 0 by omega]; exact this
      · have := mail_at hb (k := 1) (by decide); rw [show tokP bs (i + 1) + 2 = wpos bs (i + 1) + 1 by omega]; exact this
      · refine k h' t' tok tp' tl' ?_
        rw [le, show tokP bs (i + 1 + 1) = tokP bs (i + 1) + 3 by omega]; exact x
theorem tok_last {x dx pb fs fd fr cd ct ca la : Addr} {o : Lx} {tp tl : Tok} {bs : List Bool} (hbs : bs.length = 16)
    (hA : Okk A 650) (T : Tp (kP w b1 b2) h) (G : Giv (kP w b1 b2) h (lexL (PP w b1 b2) x dx pb fs fd fr cd ct ca la o (mailStr bs) (tokP bs 16 : Nat) (tokLn 16) tp tl [] 0))
    (k : ∀ h' t' tok tp' tl' p', Aft h (lexL (PP w b1 b2) x dx pb fs fd fr cd ct ca la o (mailStr bs) p' 17 tp' tl' [] 0) h' → R (.ok (.ret (.str ⟨#[]⟩ tok))) ⟨h', gs, dr, t', os⟩) :
    CA w b1 b2 A (.call (.ref 97) ⟨[.ref x], []⟩) R ⟨h, gs, dr, t0, os⟩ := by
  have ge := wpos_ge (bs := bs) (i := 15) (by omega)
  refine tok_end hA T G (mail_feed (i := 15) (by omega)) ?_ fun h' t' tok tp' tl' x => k h' t' tok tp' tl' _ x
  rw [mail_len, hbs]
  have ge : 3 ≤ wpos bs 16 := ge
  show wpos bs 16 = wpos bs 16 - 1 + 1
  omega
end
end Mine
end
section
open PySem PySem.W PyProof.Rows PySem.W.X
namespace Mine
section
variable {w : World} {b1 b2 : Bool} {A : Around} {R : Result → Shared → Prop} {hB h : Heap} {gs : Array GenState} {dr : Drawn} {t0 N : Nat} {os : OsState}
noncomputable abbrev eTold (P : Params) : Expr := lawE P 6 []
noncomputable abbrev toldL (w : World) (b1 b2 : Bool) (it acc loc x dx pb fs fd fr cd ct ca la : Addr) (o : Lx) (X : Str) (p ln : Int) (tp tl : Tok) (i m : Nat) (zs : List Value) (ep : Nat) (ox : Option (Int × Tok × Value)) : List (Addr × Obj) :=
  [(it, oRit i m), (acc, oList zs ep), (loc, oX sTurn ox), (164, oCell (.ref x))] ++ lexL (PP w b1 b2) x dx pb fs fd fr cd ct ca la o X p ln tp tl [] 0
noncomputable abbrev cTold (P : Params) (it acc loc : Addr) : Code := cComp P (eTold P) it acc loc [(sReader, 164)] 159
/-- what a call of get_token gives, from one place to the next -/
noncomputable def TokC (w : World) (b1 b2 : Bool) (x dx pb fs fd fr cd ct ca la : Addr) (o : Lx) (X : Str) (p ln p' ln' : Int) (S : Str) : Prop :=
  ∀ {A : Around} {R : Result → Shared → Prop} {h : Heap} {gs : Array GenState} {dr : Drawn} {t0 : Nat} {os : OsState} {tp tl : Tok}, Okk A 650 → Tp (kP w b1 b2) h → Giv (kP w b1 b2) h (lexL (PP w b1 b2) x dx pb fs fd fr cd ct ca la o X p ln tp tl [] 0) →
    (∀ h' t' tok tp' tl', Aft h (lexL (PP w b1 b2) x dx pb fs fd fr cd ct ca la o X p' ln' tp' tl' [] 0) h' → R (.ok (.ret (.str S tok))) ⟨h', gs, dr, t', os⟩) → CA w b1 b2 A (.call (.ref 97) ⟨[.ref x], []⟩) R ⟨h, gs, dr, t0, os⟩
theorem told_turn {it acc loc x dx pb fs fd fr cd ct ca la : Addr} {o : Lx} {X : Str} {p ln p' ln' : Int} {tp tl : Tok} {i m : Nat} {zs : List Value} {ep : Nat} {ox : Option (Int × Tok × Value)} {S : Str} (hA : Okk A 450) (T : Tp (kP w b1 b2) h)
    (G : Giv (kP w b1 b2) h (toldL w b1 b2 it acc loc x dx pb fs fd fr cd ct ca la o X p ln tp tl i (m + 1) zs ep ox)) (C : TokC w b1 b2 x dx pb fs fd fr cd ct ca la o X p ln p' ln' S) (hz : zs.length ≤ 1000)
    (k : ∀ h' t' tok tp' tl' ox', Af h (toldL w b1 b2 it acc loc x dx pb fs fd fr cd ct ca la o X p' ln' tp' tl' (i + 1) m (zs ++ [.str S tok]) (ep + 1) (some ox')) [] h' → Tp (kP w b1 b2) h' → Giv (kP w b1 b2) h' (toldL w b1 b2 it acc loc x dx pb fs fd fr cd ct ca la o X p' ln' tp' tl' (i + 1) m (zs ++ [.str S tok]) (ep + 1) (some ox')) →
      CA w b1 b2 A (cTold (PP w b1 b2) it acc loc) R ⟨h', gs, dr, t', os⟩) :
    CA w b1 b2 A (cTold (PP w b1 b2) it acc loc) R ⟨h, gs, dr, t0, os⟩ := by
  revert b1
  refine @bothB _ ?_ ?_ <;> set_option tactic.hygienic false in intros
  all_goals (
  refine goC hA T G (by kernel_rfl) ?_; intro _ _ r
  obtain _ | ⟨u1, u2, u3⟩ := ox
  · refine cutS 650 0 (n := 42) (hs := [1,1,1,1,1,1,1,1,1,3,3,4,5,0,0,0,5,0,0,0,5,0,0,0,0,5,6,0]) (c := ((.call (.ref 97) ⟨[.ref x], []⟩))) (idx := [4,5,6,7,8,9,10,11,12,13]) (Lf := fun F => (lexL (PP w b1 b2) x dx pb fs fd fr cd ct ca la o X p ln tp tl [] 0)) r (by decide) (by kernel_rfl) ?_; intro h1 t1 r1 T1 G1 o1 z1
    refine C o1 T1 G1 fun h2 t2 tok tp2 tl2 x2 => ?_
    have x2 := af_of x2
    have z2 : h2.objs.size = h2.objs.size := rfl
    refine goS r1 _ [4,5,6,7,8,9,10,11,12,13] x2 z2 (by kernel_rfl) ?_; intro _ r2
    refine cutS 550 0 (n := 1) (hs := []) (c := (.call (.builtin "list.append") ⟨[(.ref acc), (.str S tok)], []⟩)) (idx := [1]) (Lf := fun F => [(acc, oList zs ep)]) r2 (by decide) (by kernel_rfl) ?_; intro h3 t3 r3 T3 G3 o3 z3
    refine lf_append (G3.nw _ (.head _)) hz z3 ?_
    intro h4 x4 z4
    refine goS r3 _ [1] x4 z4 (by kernel_rfl) ?_; intro _ r4
    refine agS 0 (n := 0) (hs := []) (c := (cTold (PP w b1 b2) it acc loc)) (q := 0) (idx := [0,1,2,3,4,5,6,7,8,9,10,11,12,13]) (idn := []) (Lf := fun F => ([(it, ⟨.type "range_iterator", none, .fields #[.int ((i + 1 : Nat) : Int) 0, .int (((m + 1 : Nat) : Int) - 1) 0, .int 1 0], #[]⟩), (acc, oList (zs ++ [.str S tok]) (ep + 1)), (loc, oD [⟨hOf F 2 0, .str sTurn (kOf F 2 0), .int (i : Int) t0⟩] 1), (164, oCell (.ref x))] ++ lexL (PP w b1 b2) x dx pb fs fd fr cd ct ca la o X p' ln' tp2 tl2 [] 0)) (Nf := fun F => ([])) r4 (by decide) (by kernel_rfl) ?_; intro h5 t5 x5 z5 T5 G5
    rw [show (((m + 1 : Nat) : Int) - 1) = (m : Int) by omega] at x5 G5
    exact k h5 t5 tok tp2 tl2 (_, _, _) x5 T5 G5
  · refine cutS 650 0 (n := 42) (hs := [1,1,1,1,1,1,1,1,1,3,3,4,5,0,0,0,5,0,0,0,5,0,0,0,0,5,6,0]) (c := ((.call (.ref 97) ⟨[.ref x], []⟩))) (idx := [4,5,6,7,8,9,10,11,12,13]) (Lf := fun F => (lexL (PP w b1 b2) x dx pb fs fd fr cd ct ca la o X p ln tp tl [] 0)) r (by decide) (by kernel_rfl) ?_; intro h1 t1 r1 T1 G1 o1 z1
    refine C o1 T1 G1 fun h2 t2 tok tp2 tl2 x2 => ?_
    have x2 := af_of x2
    have z2 : h2.objs.size = h2.objs.size := rfl
    refine goS r1 _ [4,5,6,7,8,9,10,11,12,13] x2 z2 (by kernel_rfl) ?_; intro _ r2
    refine cutS 550 0 (n := 1) (hs := []) (c := (.call (.builtin "list.append") ⟨[(.ref acc), (.str S tok)], []⟩)) (idx := [1]) (Lf := fun F => [(acc, oList zs ep)]) r2 (by decide) (by kernel_rfl) ?_; intro h3 t3 r3 T3 G3 o3 z3
    refine lf_append (G3.nw _ (.head _)) hz z3 ?_
    intro h4 x4 z4
    refine goS r3 _ [1] x4 z4 (by kernel_rfl) ?_; intro _ r4
    refine agS 0 (n := 0) (hs := []) (c := (cTold (PP w b1 b2) it acc loc)) (q := 0) (idx := [0,1,2,3,4,5,6,7,8,9,10,11,12,13]) (idn := []) (Lf := fun F => ([(it, ⟨.type "range_iterator", none, .fields #[.int ((i + 1 : Nat) : Int) 0, .int (((m + 1 : Nat) : Int) - 1) 0, .int 1 0], #[]⟩), (acc, oList (zs ++ [.str S tok]) (ep + 1)), (loc, oD [⟨u1, .str sTurn u2, .int (i : Int) t0⟩] 1), (164, oCell (.ref x))] ++ lexL (PP w b1 b2) x dx pb fs fd fr cd ct ca la o X p' ln' tp2 tl2 [] 0)) (Nf := fun F => ([])) r4 (by decide) (by kernel_rfl) ?_; intro h5 t5 x5 z5 T5 G5
    rw [show (((m + 1 : Nat) : Int) - 1) = (m : Int) by omega] at x5 G5
    exact k h5 t5 tok tp2 tl2 (_, _, _) x5 T5 G5)
end
end Mine
end
section
open PySem PySem.W PyProof.Rows PySem.W.X
namespace Mine
section
variable {w : World} {b1 b2 : Bool} {A : Around} {R : Result → Shared → Prop} {hB h : Heap} {gs : Array GenState} {dr : Drawn} {t0 N : Nat} {os : OsState}
theorem told_loop {it acc loc x dx pb fs fd fr cd ct ca la : Addr} {o : Lx} {bs : List Bool} (hbs : bs.length = 16) (hA : Okk A 450)
    (kk : ∀ h' t' q ep' ox' oi tp' tl' p', q.map (·.1) = bs.map tokStr ++ [⟨#[]⟩] → Af h ([(it, oi), (acc, oList (strValues q) ep'), (loc, oX sTurn (some ox')), (164, oCell (.ref x))] ++ lexL (PP w b1 b2) x dx pb fs fd fr cd ct ca la o (mailStr bs) p' 17 tp' tl' [] 0) [] h' → R (.ok .next) ⟨h', gs, dr, t', os⟩) :
    ∀ (k i : Nat) (q : List (Str × Tok)) (ep : Nat) (ox : Option (Int × Tok × Value)) (tp tl : Tok) (h1 : Heap) (t0 : Nat), 16 - i = k → i ≤ 16 → q.map (·.1) = (bs.take i).map tokStr → Tp (kP w b1 b2) h1 → Giv (kP w b1 b2) h1 (toldL w b1 b2 it acc loc x dx pb fs fd fr cd ct ca la o (mailStr bs) (tokP bs i : Nat) (tokLn i) tp tl i (17 - i) (strValues q) ep ox) →
    (∀ h' L Nw, Af h1 L Nw h' → L.map (·.1) = (toldL w b1 b2 it acc loc x dx pb fs fd fr cd ct ca la o (mailStr bs) (tokP bs i : Nat) (tokLn i) tp tl i (17 - i) (strValues q) ep ox).map (·.1) → Af h L Nw h') →
    CA w b1 b2 A (cTold (PP w b1 b2) it acc loc) R ⟨h1, gs, dr, t0, os⟩ := by
  intro k
  induction k with
  | zero =>
    intro i q ep ox tp tl h1 t0 hk hi hq T G base
    have : i = 16 := by omega
    subst this
    have C : TokC w b1 b2 x dx pb fs fd fr cd ct ca la o (mailStr bs) (tokP bs 16 : Nat) (tokLn 16) (tokP bs 16 + 1 : Nat) 17 ⟨#[]⟩ := by
      intro A R h gs dr t0 os tp tl hA T G k
      have ge := wpos_ge (bs := bs) (i := 15) (by omega)
      refine tok_end hA T G (mail_feed (i := 15) (by omega)) ?_ fun h' t' tok tp' tl' x => k h' t' tok tp' tl' x
      rw [mail_len, hbs]
      have ge : 3 ≤ wpos bs 16 := ge
      show wpos bs 16 = wpos bs 16 - 1 + 1
      omega
    have hz : (strValues q).length ≤ 1000 := by
      have := congrArg List.length hq
      simp only [List.length_map, List.length_take] at this
      simp only [strValues, List.length_map]
      omega
    refine told_turn hA T G C hz fun h2 t2 tok tp2 tl2 ox2 x2 T2 G2 => ?_
    obtain ⟨u1, u2, u3⟩ := ox2
    revert b1
    refine @bothB _ ?_ ?_ <;> set_option tactic.hygienic false in intros
    all_goals (
    refine goC hA T2 G2 (by kernel_rfl) ?_; intro _ _ r
    refine endS 2 (n := 14) (hs := [1,1,1,1,1,1]) (fl := (.next)) (q := 2) (idx := [2,3,4,5,6,7,8,9,10,11,12,13,14,15]) (idn := []) (Lf := fun F => ([(it, objOf F 2), (acc, oList (strValues q ++ [.str ⟨#[]⟩ tok]) (ep + 1)), (loc, oX sTurn (some (u1, u2, u3))), (164, oCell (.ref x))] ++ lexL (PP w b1 b2) x dx pb fs fd fr cd ct ca la o (mailStr bs) (tokP bs 16 + 1 : Nat) 17 tp2 tl2 [] 0)) (Nf := fun F => ([])) r (by decide) (by kernel_rfl) ?_; intro h3 t3 x3 z3
    have e : strValues q ++ [.str ⟨#[]⟩ tok] = strValues (q ++ [((⟨#[]⟩ : Str), tok)]) := by simp [strValues]
    rw [e] at x3
    refine kk h3 t3 (q ++ [((⟨#[]⟩ : Str), tok)]) (ep + 1) (u1, u2, u3) _ tp2 tl2 _ ?_ (base _ _ _ (x2.trans x3 rfl) rfl)
    rw [List.map_append, hq, ← hbs, List.take_length]; rfl)
  | succ k ih =>
    intro i q ep ox tp tl h1 t0 hk hi hq T G base
    have hlt : i < bs.length := by omega
    have hb := List.getElem?_eq_getElem hlt
    have C : TokC w b1 b2 x dx pb fs fd fr cd ct ca la o (mailStr bs) (tokP bs i : Nat) (tokLn i) (tokP bs (i + 1) : Nat) (tokLn (i + 1)) (tokStr bs[i]) := by
      intro A R h gs dr t0 os tp tl hA T G k
      exact tok_row hb hA T G k
    have hz : (strValues q).length ≤ 1000 := by
      have := congrArg List.length hq
      simp only [List.length_map, List.length_take] at this
      simp only [strValues, List.length_map]
      omega
    have em : 17 - i = (16 - i) + 1 := by omega
    rw [em] at G
    refine told_turn hA T G C hz fun h2 t2 tok tp2 tl2 ox2 x2 T2 G2 => ?_
    have e : strValues q ++ [.str (tokStr bs[i]) tok] = strValues (q ++ [(tokStr bs[i], tok)]) := by simp [strValues]
    rw [e] at x2 G2
    have em2 : 16 - i = 17 - (i + 1) := by omega
    rw [em2] at x2 G2
    refine ih (i + 1) (q ++ [(tokStr bs[i], tok)]) _ _ tp2 tl2 h2 t2 (by omega) (by omega) ?_ T2 G2 fun h' L Nw y e' => ?_
    · rw [List.map_append, hq, List.take_add_one, hb, List.map_append]; rfl
    · exact base h' L Nw (x2.trans y e'.symm) e'
theorem st6 {cS cE cD ocx : Obj} {es : List DictEntry} {ee : Nat} {xs : List Value} {ep : Nat} {x dx pb fs fd fr cd ct ca la cx cl : Addr} {o : Lx} {tp tl : Tok} {bs : List Bool} {epc : Nat} (hbs : bs.length = 16)
    (r : OkL w b1 b2 A R hB 6 (lexL (PP w b1 b2) x dx pb fs fd fr cd ct ca la o (mailStr bs) 0 1 tp tl [] 0 ++ [(cx, ocx)] ++ (cl, oList (bs.map Value.bool) epc) :: lawL (tab1 cd cx) es ee oCell0 oCell0 oCell0 (oCell (.ref x)) cS cE cD xs ep) h N t0)
    (k : ∀ h' N' t' td q etd p' tp' tl', q.map (·.1) = bs.map tokStr ++ [⟨#[]⟩] → OkL w b1 b2 A R hB 7 ((td, oList (strValues q) etd) :: (lexL (PP w b1 b2) x dx pb fs fd fr cd ct ca la o (mailStr bs) p' 17 tp' tl' [] 0 ++ [(cx, ocx)] ++ (cl, oList (bs.map Value.bool) epc) :: lawL (tab1 cd cx) es ee oCell0 oCell0 (oCell (.ref td)) (oCell (.ref x)) cS cE cD xs ep)) h' N' t' →
      GoL w b1 b2 A R 7 ((td, oList (strValues q) etd) :: (lexL (PP w b1 b2) x dx pb fs fd fr cd ct ca la o (mailStr bs) p' 17 tp' tl' [] 0 ++ [(cx, ocx)] ++ (cl, oList (bs.map Value.bool) epc) :: lawL (tab1 cd cx) es ee oCell0 oCell0 (oCell (.ref td)) (oCell (.ref x)) cS cE cD xs ep)) ⟨h', gs, dr, t', os⟩) :
    GoL w b1 b2 A R 6 (lexL (PP w b1 b2) x dx pb fs fd fr cd ct ca la o (mailStr bs) 0 1 tp tl [] 0 ++ [(cx, ocx)] ++ (cl, oList (bs.map Value.bool) epc) :: lawL (tab1 cd cx) es ee oCell0 oCell0 oCell0 (oCell (.ref x)) cS cE cD xs ep) ⟨h, gs, dr, t0, os⟩ := by
  revert b1
  refine @bothB _ ?_ ?_ <;> set_option tactic.hygienic false in intros
  all_goals (
  refine cutS 450 4 (n := 39) (hs := [0,0,1,1,1,1,1,1,1,1,1,1,1]) (c := ((.compStart (eTold (PP w b1 b2)) 0 (.ref (N + 1)) (.ref (N + 2)) (envL (PP w b1 b2) (eTold (PP w b1 b2)) (N + 3) [(sReader, 164)] 159)))) (idx := [2,1,0,20,4,5,6,7,8,9,10,11,12,13]) (Lf := fun F => (toldL w b1 b2 (N + 1) (N + 2) (N + 3) x dx pb fs fd fr cd ct ca la o (mailStr bs) 0 1 tp tl 0 17 [] 0 none)) r (by decide) (by kernel_rfl) ?_; intro h1 t1 r1 T1 G1 o1 z1
  refine comp_start (by kernel_rfl) (.range ⟨_, G1.nw _ (.head _), rfl⟩) ?_
  refine told_loop hbs o1 ?_ 16 0 [] 0 none tp tl h1 _ rfl (by decide) rfl T1 G1 (fun h' L Nw y e => y)
  intro h2 t2 q ep2 ox oi tp2 tl2 p2 hq x2
  have z2 : h2.objs.size = h2.objs.size := rfl
  refine goS r1 _ [2,1,0,20,4,5,6,7,8,9,10,11,12,13] x2 z2 (by kernel_rfl) ?_; intro _ r2
  obtain ⟨u1, u2, u3⟩ := ox
  refine toL 0 (n := 10) (hs := [1,1,1,20,20]) (T := restT (lawC (PP w b1 b2) 7)) (c := lawC (PP w b1 b2) 0) (dp := 351) (q := 25) (idx := [25,26]) (idn := [1,4,5,6,7,8,9,10,11,12,13,14,15,16,17,18,19,20,21,22,23,24]) (Lf := fun F => ([(130, tab1 cd cx), (158, oList xs ep)])) (Nf := fun F => ((N + 2, oList (strValues q) ep2) :: (lexL (PP w b1 b2) x dx pb fs fd fr cd ct ca la o (mailStr bs) p2 17 tp2 tl2 [] 0 ++ [(cx, ocx)] ++ (cl, oList (bs.map Value.bool) epc) :: [(159, oFr es ee), (167, oCell0), (166, oCell0), (165, oCell (.ref (N + 2))), (164, oCell (.ref x)), (163, cS), (162, cE), (161, cD), (160, oCell (.ref 158))]))) r2 (by decide) (by kernel_rfl) (by kernel_rfl) ?_; intro h3 t3 r3
  exact k _ _ _ (N + 2) q ep2 p2 tp2 tl2 hq r3)
end
end Mine
end
section
open PySem PySem.W PyProof.Rows PySem.W.X PySem.SeqAt
namespace Mine
noncomputable def finT (f : Flow) : Sem PySem.Fin := match f with
  | .ret v => ret v
  | _ => ret .none
theorem restT_eq (b : List Stmt) (env : Env) : restT (.func b env) = Sem.bind ((execs b env).onRaise (leaving env)) finT := by
  have e : den (.func b env) = den0 (.func b env) := rfl
  have e2 : den (.func b env) = Sem.bind point fun _ => Sem.bind ((execs b env).onRaise (leaving env)) finT := by
    rw [e, den0_eq]
    rfl
  unfold restT
  rw [e2]
  rfl
section
variable {prog : Program} {w : World} {A : Around} {G : PySem.Fin → Shared → Prop} {E : Value → Shared → Prop} {s : Shared} {env : Env}
/-- a statement by the library's own rules; behind it the evaluator again -/
theorem stmtW {st : Stmt} {rest : List Stmt}
    (h : wpAny (model prog w) A (exec st env) (fun f s' => match f with | .next => wpAny (model prog w) A (restT (.func rest env)) G E s' | f => wpAny (model prog w) A (finT f) G E s') (fun e s' => wpAny (model prog w) A (leaving env e) (fun _ s'' => E e s'') E s') s) :
    wpAny (model prog w) A (restT (.func (st :: rest) env)) G E s := by
  rw [restT_eq]
  intro Γ p hΓ
  erw [Sem.wp_bind']
  rw [Sem.wp_onRaise, execs_cons]
  erw [Sem.wp_bind']
  refine Sem.wp_mono _ Γ _ (fun f p' s' h' => ?_) (fun e p' s' h' => h' Γ p' hΓ) _ _ (h Γ p hΓ)
  cases f with
  | next =>
    have q := (h' : wpAny _ _ (restT (.func rest env)) G E s') Γ p' hΓ
    rw [restT_eq] at q
    erw [Sem.wp_bind'] at q
    rw [Sem.wp_onRaise] at q
    exact q
  | ret v => exact h' Γ p' hΓ
  | brk => exact h' Γ p' hΓ
  | cont => exact h' Γ p' hΓ
noncomputable def evT (e : Expr) (env : Env) : Sem PySem.Fin := W.R.bindR (Fast.tw14044960220447912780 e env) fun v => Sem.pure (.done (.ret v))
theorem evT_eq (e : Expr) (env : Env) : evT e env = Sem.bind (eval e env) fun v => Sem.pure (.done (.ret v)) := by
  unfold evT
  rw [← W.R.bindR_eq, ← Fast.te14044960220447912780]
end
section
variable {w : World} {b1 b2 : Bool} {A : Around} {R : Result → Shared → Prop} {hB h : Heap} {gs : Array GenState} {dr : Drawn} {t0 N t d dp : Nat} {os : OsState} {ks : List Addr} {c : Code} {L : List (Addr × Obj)} {s : Shared}
structure Ld (w : World) (b1 b2 : Bool) (A : Around) (d : Nat) (hB : Heap) (ks : List Addr) (c : Code) (dp : Nat) (L : List (Addr × Obj)) (h : Heap) (N t : Nat) : Prop where
  D : Gd (bS w b1 b2 d N t) hB pw (Wf w b1 b2)
  hA : Okk A d
  R : Rep (bS w b1 b2 d N t) hB ks h 0 L
  dep : (A.under c).depth ≤ dp
theorem Ok.ld {T : Sem PySem.Fin} (r : Ok w b1 b2 A R d hB ks ⟨c, [], T, dp, 0, 0, L⟩ h N t) : Ld w b1 b2 A d hB ks c dp L h N t := ⟨r.D, ⟨r.E.hd, r.E.dep⟩, r.R, r.d.1⟩
theorem Ld.ok {T : Sem PySem.Fin} {R' : Result → Shared → Prop} (l : Ld w b1 b2 A d hB ks c dp L h N t) : Ok w b1 b2 A R' d hB ks ⟨c, [], T, dp, 0, 0, L⟩ h N t := ⟨l.D, bse_code l.hA rfl, l.R, l.dep, trivial⟩
theorem Ld.tp (l : Ld w b1 b2 A d hB ks c dp L h N t) : Tp (kP w b1 b2) h := l.R.tp l.D
/-- an expression by the evaluator -/
theorem evS {e : Expr} {env : Env} {Q E : Value → Shared → Prop} (h : MnS w b1 b2 A (wants Q E) ⟨c, [], evT e env, dp, 0, 0, L⟩ s) : wpAny (model pw (Wf w b1 b2)) (A.under c) (eval e env) Q E s := by
  have h : wpAny (model pw (Wf w b1 b2)) (A.under c) (evT e env) (gC pw (Wf w b1 b2) A (wants Q E)) (eC (wants Q E)) s := h
  rw [evT_eq] at h
  intro Γ p hΓ
  have q := h Γ p hΓ
  erw [Sem.wp_bind'] at q
  exact Sem.wp_mono _ Γ _ (fun v p' s' h' => h'.2) (fun e p' s' h' => h') _ _ q
theorem enS (mm : Nat) {n : Nat} {hs : List Nat} {f : Cf} {v : Value} {q : Nat} {idx idn : List Nat} {Lf Nf : Cf → List (Addr × Obj)} (r : Ok w b1 b2 A R d hB ks f h N t) (hi : (idn ++ idx).Nodup)
    (hk : (okk (bS w b1 b2 d N t) n hs f, e1 (bS w b1 b2 d N t) n hs f, (rn (bS w b1 b2 d N t) n hs f).t, picks (rn (bS w b1 b2 d N t) n hs f).news idx, picks (rn (bS w b1 b2 d N t) n hs f).news idn, idn.all (Nat.blt · q), ((rn (bS w b1 b2 d N t) n hs f).news.map (·.1)).drop q, (Lf (rn (bS w b1 b2 d N t) n hs f)).map (·.1), (rn (bS w b1 b2 d N t) n hs f).m)
      = (true, e2 (bS w b1 b2 d N t) n hs f, .pure (.done (.ret v)), (Lf (rn (bS w b1 b2 d N t) n hs f)).map some, (Nf (rn (bS w b1 b2 d N t) n hs f)).map some, true, ks, ks, mm))
    (hc : ((rn (bS w b1 b2 d N t) n hs f).c, (rn (bS w b1 b2 d N t) n hs f).κ, (rn (bS w b1 b2 d N t) n hs f).dep) = (c, [], dp))
    (k : ∀ h' t1, Ld w b1 b2 A d hB ks c dp (Nf (rn (bS w b1 b2 d N t) n hs f) ++ Lf (rn (bS w b1 b2 d N t) n hs f)) h' (N + mm) t1 → R (.ok (.ret v)) ⟨h', gs, dr, t1, os⟩) :
    MnS w b1 b2 A R f ⟨h, gs, dr, t + f.i, os⟩ := by
  refine toL mm r hi hk hc fun h' t1 r' => ?_
  exact wpAny_pure ⟨r'.R.lim r'.D, k h' t1 r'.ld⟩
theorem ne_lists {prog : Program} {w : World} {A : Around} {E Q : Value → Shared → Prop} {s : Shared} {l b : Addr} {xs ys : List Value} {n1 n2 : Nat} (hl : s.heap.get? l = some (oList xs n1)) (hb : s.heap.get? b = some (oList ys n2)) (hsz : xs.length = ys.length) (hu : A.units < cLine)
    (he : ∀ j (h1 : j < xs.toArray.size) (h2 : j < ys.toArray.size), EqAt A.in1 s xs.toArray[j] ys.toArray[j] true) (h : Q (.bool false) s) : wpAny (model prog w) A (compareOp .NotEq (.ref l) (.ref b)) Q E s := by
  have e : (!(List.range xs.toArray.size).all fun _ => true) = false := by simp
  refine richCompare_meets_room (op := .NotEq) ⟨_, hl, rfl⟩ ⟨_, hb, rfl⟩ F.slot_list_ne F.entry_list_ne (F.args_list_ne_2 _ _) (list_neAt l b xs.toArray ys.toArray n1 n2 none none #[] #[] (by simpa using hsz) fun _ => true) ⟨hl, hb, he, ?_⟩ hu
  rw [e]
  exact ⟨fun x => (nomatch x), h⟩
end
end Mine
namespace Mine
section
variable {w : World} {b1 b2 : Bool} {A : Around} {hB h : Heap} {gs : Array GenState} {dr : Drawn} {N t d dp : Nat} {os : OsState} {ks : List Addr} {c : Code} {L : List (Addr × Obj)}
theorem evL {e : Expr} {env : Env} {Q E : Value → Shared → Prop} (l : Ld w b1 b2 A d hB ks c dp L h N t)
    (k : Ok w b1 b2 A (wants Q E) d hB ks ⟨c, [], evT e env, dp, 0, 0, L⟩ h N t → MnS w b1 b2 A (wants Q E) ⟨c, [], evT e env, dp, 0, 0, L⟩ ⟨h, gs, dr, t, os⟩) :
    wpAny (model pw (Wf w b1 b2)) (A.under c) (eval e env) Q E ⟨h, gs, dr, t, os⟩ := evS (k l.ok)
theorem Ld.get (l : Ld w b1 b2 A d hB ks c dp L h N t) {i : Nat} {p : Addr × Obj} (e : nth L i = some p) : h.get? p.1 = some p.2 := l.R.nw p (nth_mem e)
end
end Mine
end
section
open PySem PySem.W PyProof.Rows PySem.W.X PySem.SeqAt
namespace Mine
section
variable {w : World} {b1 b2 : Bool} {A : Around} {R : Result → Shared → Prop} {hB h : Heap} {gs : Array GenState} {dr : Drawn} {t0 N : Nat} {os : OsState}
noncomputable abbrev eExp (P : Params) : Expr := lawE P 7 [0,1,0]
noncomputable abbrev expL (it acc loc cl : Addr) (i : Nat) (zs : List Value) (ep : Nat) (ox : Option (Int × Tok × Value)) (bs : List Bool) (epc : Nat) : List (Addr × Obj) :=
  [(it, oLit cl i), (acc, oList zs ep), (loc, oX sCell ox), (cl, oList (bs.map Value.bool) epc)]
noncomputable abbrev cExp (P : Params) (it acc loc : Addr) : Code := cComp P (eExp P) it acc loc [] 159
theorem exp_turn {it acc loc cl : Addr} {bs : List Bool} {epc i : Nat} {zs : List Value} {ep : Nat} {ox : Option (Int × Tok × Value)} {b : Bool} (hA : Okk A 450) (T : Tp (kP w b1 b2) h) (G : Giv (kP w b1 b2) h (expL it acc loc cl i zs ep ox bs epc))
    (hx : (bs.map Value.bool)[i]? = some (.bool b)) (hz : zs.length ≤ 1000)
    (k : ∀ h' t' tk ox', Af h (expL it acc loc cl (i + 1) (zs ++ [.str (tokStr b) tk]) (ep + 1) (some ox') bs epc) [] h' → h'.objs.size = h.objs.size → Tp (kP w b1 b2) h' → Giv (kP w b1 b2) h' (expL it acc loc cl (i + 1) (zs ++ [.str (tokStr b) tk]) (ep + 1) (some ox') bs epc) →
      CA w b1 b2 A (cExp (PP w b1 b2) it acc loc) R ⟨h', gs, dr, t', os⟩) :
    CA w b1 b2 A (cExp (PP w b1 b2) it acc loc) R ⟨h, gs, dr, t0, os⟩ := by
  revert b1
  refine @bothB _ ?_ ?_ <;> set_option tactic.hygienic false in intros
  all_goals (
  refine goC hA T G (by kernel_rfl) ?_; intro _ _ r
  refine cutS 550 0 (n := 2) (hs := [1]) (c := (.call (.builtin "list_iterator.__next__") ⟨[(.ref it)], []⟩)) (idx := [0,3]) (Lf := fun F => [(it, oLit cl i), (cl, oList (List.map Value.bool bs) epc)]) r (by decide) (by kernel_rfl) ?_; intro h1 t1 r1 T1 G1 o1 z1
  refine lf_next (G1.nw _ (.head _)) (G1.nw _ (.tail _ (.head _))) hx z1 ?_
  intro h2 x2 z2
  refine goS r1 _ [0] x2 z2 (by kernel_rfl) ?_; intro _ r2
  obtain _ | ⟨u1, u2, u3⟩ := ox
  · cases b with
    | true =>
      refine cutS 550 0 (n := 11) (hs := [3,3,3]) (c := (.call (.builtin "list.append") ⟨[(.ref acc), (.str ⟨#[46,46]⟩ (t1 + 1))], []⟩)) (idx := [1]) (Lf := fun F => [(acc, oList zs ep)]) r2 (by decide) (by kernel_rfl) ?_; intro h3 t3 r3 T3 G3 o3 z3
      refine lf_append (G3.nw _ (.head _)) hz z3 ?_
      intro h4 x4 z4
      refine goS r3 _ [1] x4 z4 (by kernel_rfl) ?_; intro _ r4
      refine agS 0 (n := 0) (hs := []) (c := (cExp (PP w b1 b2) it acc loc)) (q := 0) (idx := [0,1,2,3]) (idn := []) (Lf := fun F => [(it, oLit cl (i + 1)), (acc, oList (zs ++ [Value.str { cps := #[46,46] } (t1 + 1)]) (ep + 1)), (loc, oD [⟨hOf F 2 0, .str ⟨#[99,101,108,108]⟩ (kOf F 2 0), (.bool Bool.true)⟩] 1), (cl, oList (List.map Value.bool bs) epc)]) (Nf := fun F => []) r4 (by decide) (by kernel_rfl) ?_; intro h5 t5 x5 z5 T5 G5
      exact k h5 t5 _ (_, _, _) x5 z5 T5 G5
    | false =>
      refine cutS 550 0 (n := 11) (hs := [3,3,3]) (c := (.call (.builtin "list.append") ⟨[(.ref acc), (.str ⟨#[97]⟩ (t1 + 1))], []⟩)) (idx := [1]) (Lf := fun F => [(acc, oList zs ep)]) r2 (by decide) (by kernel_rfl) ?_; intro h3 t3 r3 T3 G3 o3 z3
      refine lf_append (G3.nw _ (.head _)) hz z3 ?_
      intro h4 x4 z4
      refine goS r3 _ [1] x4 z4 (by kernel_rfl) ?_; intro _ r4
      refine agS 0 (n := 0) (hs := []) (c := (cExp (PP w b1 b2) it acc loc)) (q := 0) (idx := [0,1,2,3]) (idn := []) (Lf := fun F => [(it, oLit cl (i + 1)), (acc, oList (zs ++ [Value.str { cps := #[97] } (t1 + 1)]) (ep + 1)), (loc, oD [⟨hOf F 2 0, .str ⟨#[99,101,108,108]⟩ (kOf F 2 0), (.bool Bool.false)⟩] 1), (cl, oList (List.map Value.bool bs) epc)]) (Nf := fun F => []) r4 (by decide) (by kernel_rfl) ?_; intro h5 t5 x5 z5 T5 G5
      exact k h5 t5 _ (_, _, _) x5 z5 T5 G5
  · cases b with
    | true =>
      refine cutS 550 0 (n := 11) (hs := [3,3,3]) (c := (.call (.builtin "list.append") ⟨[(.ref acc), (.str ⟨#[46,46]⟩ (t1 + 1))], []⟩)) (idx := [1]) (Lf := fun F => [(acc, oList zs ep)]) r2 (by decide) (by kernel_rfl) ?_; intro h3 t3 r3 T3 G3 o3 z3
      refine lf_append (G3.nw _ (.head _)) hz z3 ?_
      intro h4 x4 z4
      refine goS r3 _ [1] x4 z4 (by kernel_rfl) ?_; intro _ r4
      refine agS 0 (n := 0) (hs := []) (c := (cExp (PP w b1 b2) it acc loc)) (q := 0) (idx := [0,1,2,3]) (idn := []) (Lf := fun F => [(it, oLit cl (i + 1)), (acc, oList (zs ++ [Value.str { cps := #[46,46] } (t1 + 1)]) (ep + 1)), (loc, oD [⟨u1, .str ⟨#[99,101,108,108]⟩ u2, (.bool Bool.true)⟩] 1), (cl, oList (List.map Value.bool bs) epc)]) (Nf := fun F => []) r4 (by decide) (by kernel_rfl) ?_; intro h5 t5 x5 z5 T5 G5
      exact k h5 t5 _ (_, _, _) x5 z5 T5 G5
    | false =>
      refine cutS 550 0 (n := 11) (hs := [3,3,3]) (c := (.call (.builtin "list.append") ⟨[(.ref acc), (.str ⟨#[97]⟩ (t1 + 1))], []⟩)) (idx := [1]) (Lf := fun F => [(acc, oList zs ep)]) r2 (by decide) (by kernel_rfl) ?_; intro h3 t3 r3 T3 G3 o3 z3
      refine lf_append (G3.nw _ (.head _)) hz z3 ?_
      intro h4 x4 z4
      refine goS r3 _ [1] x4 z4 (by kernel_rfl) ?_; intro _ r4
      refine agS 0 (n := 0) (hs := []) (c := (cExp (PP w b1 b2) it acc loc)) (q := 0) (idx := [0,1,2,3]) (idn := []) (Lf := fun F => [(it, oLit cl (i + 1)), (acc, oList (zs ++ [Value.str { cps := #[97] } (t1 + 1)]) (ep + 1)), (loc, oD [⟨u1, .str ⟨#[99,101,108,108]⟩ u2, (.bool Bool.false)⟩] 1), (cl, oList (List.map Value.bool bs) epc)]) (Nf := fun F => []) r4 (by decide) (by kernel_rfl) ?_; intro h5 t5 x5 z5 T5 G5
      exact k h5 t5 _ (_, _, _) x5 z5 T5 G5)
theorem exp_loop {it acc loc cl : Addr} {bs : List Bool} {epc : Nat} (hA : Okk A 450) (hl : bs.length ≤ 1000) :
    ∀ (k i : Nat) (q : List (Str × Tok)) (ep : Nat) (ox : Option (Int × Tok × Value)) (h : Heap) (t0 : Nat), bs.length - i = k → i ≤ bs.length → q.map (·.1) = (bs.take i).map tokStr → Tp (kP w b1 b2) h → Giv (kP w b1 b2) h (expL it acc loc cl i (strValues q) ep ox bs epc) →
    (∀ h' t' q' ep' ox', q'.map (·.1) = bs.map tokStr → Af h [(it, oLitX bs.length), (acc, oList (strValues q') ep'), (loc, oX sCell ox'), (cl, oList (bs.map Value.bool) epc)] [] h' → h'.objs.size = h.objs.size + 2 → R (.ok .next) ⟨h', gs, dr, t', os⟩) →
    CA w b1 b2 A (cExp (PP w b1 b2) it acc loc) R ⟨h, gs, dr, t0, os⟩ := by
  intro k
  induction k with
  | zero =>
    intro i q ep ox h t0 hk hi hq T G kk
    have : i = bs.length := by omega
    subst this
    revert b1
    refine @bothB _ ?_ ?_ <;> set_option tactic.hygienic false in intros
    all_goals (
    refine goC hA T G (by kernel_rfl) ?_; intro _ _ r
    refine cutS 550 0 (n := 2) (hs := [1]) (c := (.call (.builtin "list_iterator.__next__") ⟨[(.ref it)], []⟩)) (idx := [0,3]) (Lf := fun F => [(it, oLit cl (bs.length)), (cl, oList (List.map Value.bool bs) epc)]) r (by decide) (by kernel_rfl) ?_; intro h1 t1 r1 T1 G1 o1 z1
    refine lf_next_end o1.hd (G1.nw _ (.head _)) (G1.nw _ (.tail _ (.head _))) (List.getElem?_eq_none (by simp)) z1 ?_
    intro h2 x2 z2
    refine goS r1 _ [0] x2 z2 (by kernel_rfl) ?_; intro _ r2
    refine endS 0 (n := 1) (hs := [1]) (fl := .next) (q := 2) (idx := [2,3,4,5]) (idn := []) (Lf := fun F => [(it, oLitX (bs.length)), (acc, oList (strValues q) ep), (loc, (oX sCell ox)), (cl, oList (List.map Value.bool bs) epc)]) (Nf := fun F => []) r2 (by decide) (by kernel_rfl) ?_; intro h3 t3 x3 z3
    exact kk _ _ q ep ox (by rw [hq, List.take_length]) x3 z3)
  | succ k ih =>
    intro i q ep ox h t0 hk hi hq T G kk
    have hlt : i < bs.length := by omega
    have hx : (bs.map Value.bool)[i]? = some (.bool bs[i]) := by simp [hlt]
    have hz : (strValues q).length ≤ 1000 := by
      have := congrArg List.length hq
      simp only [List.length_map, List.length_take] at this
      simp only [strValues, List.length_map]
      omega
    refine exp_turn hA T G hx hz fun h' t' tk ox' x z T' G' => ?_
    have e : strValues q ++ [.str (tokStr bs[i]) tk] = strValues (q ++ [(tokStr bs[i], tk)]) := by simp [strValues]
    rw [e] at x G'
    refine ih (i + 1) (q ++ [(tokStr bs[i], tk)]) _ _ h' t' (by omega) hlt ?_ T' G' fun h2 t2 q2 ep2 ox2 m2 x2 z2 => ?_
    · rw [List.map_append, hq, List.take_add_one, List.getElem?_eq_getElem hlt, List.map_append]; rfl
    · exact kk h2 t2 q2 ep2 ox2 m2 (x.trans x2 rfl) (z2.trans (by rw [z]))
theorem lf_listadd {l b : Addr} {xs ys : List Value} {n1 n2 : Nat} (hl : h.get? l = some (oList xs n1)) (hb : h.get? b = some (oList ys n2)) (hz : xs.length + ys.length ≤ 1000) (hN : h.objs.size = N)
    (k : ∀ h' tk, Af h [] [(N, oList (xs ++ ys) 0)] h' → h'.objs.size = N + 1 → R (.ok (.ret (.ref N))) ⟨h', gs, dr, tk, os⟩) :
    CA w b1 b2 A (.call (.builtin "list.__add__") ⟨[.ref l, .ref b], []⟩) R ⟨h, gs, dr, t0, os⟩ := by
  subst hN
  have hs : xs.toArray.size + ys.toArray.size ≤ sizeLine := Nat.le_trans (by simpa using hz) size_line
  refine cut_meets F.slot_list_add ⟨_, hl, rfl⟩ F.entry_list_add (F.args_list_add_2 _ _) (list_addW l b xs.toArray ys.toArray n1 n2 none none #[] #[] hs) ⟨hl, hb, ?_⟩
  have y := af_push (h := h) (o := oList (xs ++ ys) 0) rfl
  have e : xs.toArray ++ ys.toArray = (xs ++ ys).toArray := by simp
  rw [e]
  exact k _ _ y (Heap.size_push ..)
end
end Mine
end
section
open PySem PySem.W PyProof.Rows PySem.W.X PySem.SeqAt
namespace Mine
/-! ## an If's parts -/
noncomputable def ifBody : Stmt → List Stmt
  | .If _ b _ _ => b
  | _ => []
noncomputable def posOfS : Stmt → Pos
  | .If _ _ _ p => p
  | .Return _ p => p
  | .Assign _ _ p => p
  | _ => ⟨0, 0, 0, 0⟩
noncomputable def posOfE : Expr → Pos
  | .Compare _ _ _ p => p
  | .BoolOp _ _ p => p
  | _ => ⟨0, 0, 0, 0⟩
theorem strs_eq {A : Around} {s : Shared} {q1 q2 : List (Str × Tok)} (e : q1.map (·.1) = q2.map (·.1)) : ∀ j (h1 : j < (strValues q1).toArray.size) (h2 : j < (strValues q2).toArray.size), EqAt A s (strValues q1).toArray[j] (strValues q2).toArray[j] true := by
  intro j h1 h2
  have l1 : j < q1.length := by simpa [strValues] using h1
  have l2 : j < q2.length := by simpa [strValues] using h2
  have e1 : (strValues q1).toArray[j] = .str q1[j].1 q1[j].2 := by simp [strValues]
  have e2 : (strValues q2).toArray[j] = .str q2[j].1 q2[j].2 := by simp [strValues]
  have e3 : q1[j].1 = q2[j].1 := by
    have := congrArg (fun l => l[j]?) e
    simpa [l1, l2] using this
  rw [e1, e2, e3]
  have := EqAt.str_str (A := A) (s := s) q2[j].1 q1[j].2 q2[j].1 q2[j].2
  simpa using this
section
variable {w : World} {b1 b2 : Bool} {A : Around} {R : Result → Shared → Prop} {hB h : Heap} {gs : Array GenState} {dr : Drawn} {t0 N : Nat} {os : OsState}
noncomputable abbrev lw (P : Params) (n : Nat) : Stmt := stmtNo (bodyAt P 157) n
theorem law_next {n : Nat} {L : List (Addr × Obj)} {s : Shared} (e : dropS n (bodyAt (PP w b1 b2) 157) = lw (PP w b1 b2) n :: dropS (n + 1) (bodyAt (PP w b1 b2) 157))
    (h : wpAny (model pw (Wf w b1 b2)) (A.under (lawC (PP w b1 b2) 0)) (exec (lw (PP w b1 b2) n) (envLaw (PP w b1 b2)))
      (fun f s' => match f with
        | .next => wpAny (model pw (Wf w b1 b2)) (A.under (lawC (PP w b1 b2) 0)) (restT (lawC (PP w b1 b2) (n + 1))) (gC pw (Wf w b1 b2) A R) (eC R) s'
        | f => wpAny (model pw (Wf w b1 b2)) (A.under (lawC (PP w b1 b2) 0)) (finT f) (gC pw (Wf w b1 b2) A R) (eC R) s')
      (fun e s' => wpAny (model pw (Wf w b1 b2)) (A.under (lawC (PP w b1 b2) 0)) (leaving (envLaw (PP w b1 b2)) e) (fun _ s'' => eC R e s'') (eC R) s') s) :
    GoL w b1 b2 A R n L s := by
  show wpAny (model pw (Wf w b1 b2)) (A.under (lawC (PP w b1 b2) 0)) (restT (.func (dropS n (bodyAt (PP w b1 b2) 157)) (envLaw (PP w b1 b2)))) (gC pw (Wf w b1 b2) A R) (eC R) s
  rw [e]
  exact stmtW h
theorem st7 {cS cE cD ocx : Obj} {xs : List Value} {ep : Nat} {x dx pb fs fd fr cd ct ca la cx cl td : Addr} {o : Lx} {tp tl : Tok} {bs : List Bool} {epc etd : Nat} {p : Int} {q : List (Str × Tok)} {D : Value} {hd hc : Int} {kd kc : Tok}
    (hbs : bs.length = 16) (hq : q.map (·.1) = bs.map tokStr ++ [⟨#[]⟩]) (hu : A.units ≤ 9000)
    (r : OkL w b1 b2 A R hB 7 ((td, oList (strValues q) etd) :: (lexL (PP w b1 b2) x dx pb fs fd fr cd ct ca la o (mailStr bs) p 17 tp tl [] 0 ++ [(cx, ocx)] ++ (cl, oList (bs.map Value.bool) epc) :: lawL (tab1 cd cx) [⟨hd, .str sDeal kd, D⟩, ⟨hc, .str sCells kc, .ref cl⟩] 2 oCell0 oCell0 (oCell (.ref td)) (oCell (.ref x)) cS cE cD xs ep)) h N t0)
    (k : ∀ h' N' t', OkL w b1 b2 A R hB 8 ((td, oList (strValues q) etd) :: (cd, ⟨.type "code", none, .fields (o.c0 :: .str sQual o.tq :: o.cr).toArray, #[]⟩) :: (cx, ocx) :: lawL (tab1 cd cx) [⟨hd, .str sDeal kd, D⟩, ⟨hc, .str sCells kc, .ref cl⟩] 2 oCell0 oCell0 (oCell (.ref td)) (oCell (.ref x)) cS cE cD xs ep) h' N' t' → GoL w b1 b2 A R 8 ((td, oList (strValues q) etd) :: (cd, ⟨.type "code", none, .fields (o.c0 :: .str sQual o.tq :: o.cr).toArray, #[]⟩) :: (cx, ocx) :: lawL (tab1 cd cx) [⟨hd, .str sDeal kd, D⟩, ⟨hc, .str sCells kc, .ref cl⟩] 2 oCell0 oCell0 (oCell (.ref td)) (oCell (.ref x)) cS cE cD xs ep) ⟨h', gs, dr, t', os⟩) :
    GoL w b1 b2 A R 7 ((td, oList (strValues q) etd) :: (lexL (PP w b1 b2) x dx pb fs fd fr cd ct ca la o (mailStr bs) p 17 tp tl [] 0 ++ [(cx, ocx)] ++ (cl, oList (bs.map Value.bool) epc) :: lawL (tab1 cd cx) [⟨hd, .str sDeal kd, D⟩, ⟨hc, .str sCells kc, .ref cl⟩] 2 oCell0 oCell0 (oCell (.ref td)) (oCell (.ref x)) cS cE cD xs ep)) ⟨h, gs, dr, t0, os⟩ := by
  refine law_next (by kernel_rfl) ?_
  have e7 : lw (PP w b1 b2) 7 = .If (.BoolOp .Or [.Compare (lawE (PP w b1 b2) 7 [0,0]) [.NotEq] [lawE (PP w b1 b2) 7 [0,1]] (posOfE (lawE (PP w b1 b2) 7 [0])), .Compare (lawE (PP w b1 b2) 7 [1,0]) [.NotEq] [lawE (PP w b1 b2) 7 [1,1]] (posOfE (lawE (PP w b1 b2) 7 [1]))] (posOfE (lawE (PP w b1 b2) 7 []))) (ifBody (lw (PP w b1 b2) 7)) [] (posOfS (lw (PP w b1 b2) 7)) := by kernel_rfl
  rw [e7]
  have un : (A.under (lawC (PP w b1 b2) 0)).units = A.units + 3 := rfl
  refine wpAny_If (isTrue_or (wpAny_isTrue_Compare1 ?_ (by kernel_rfl)))
  refine evL r.ld fun r1 => ?_
  revert b1
  refine @bothB _ ?_ ?_ <;> set_option tactic.hygienic false in intros
  all_goals (
  refine enS 0 (n := 2) (hs := [17]) (v := (.ref td)) (c := (lawC (PP w b1 b2) 0)) (dp := 351) (q := 22) (idx := [22,23]) (idn := [0,1,2,3,4,5,6,7,8,9,10,11,12,13,14,15,16,17,18,19,20,21]) (Lf := fun F => ([(130, tab1 cd cx), (158, oList xs ep)])) (Nf := fun F => ((td, oList (strValues q) etd) :: (lexL (PP w b1 b2) x dx pb fs fd fr cd ct ca la o (mailStr bs) p 17 tp tl [] 0 ++ [(cx, ocx)] ++ (cl, oList (bs.map Value.bool) epc) :: [(159, oFr [⟨hd, .str sDeal kd, D⟩, ⟨hc, .str sCells kc, .ref cl⟩] 2), (167, oCell0), (166, oCell0), (165, oCell (.ref td)), (164, oCell (.ref x)), (163, cS), (162, cE), (161, cD), (160, oCell (.ref 158))]))) r1 (by decide) (by kernel_rfl) (by kernel_rfl) ?_; intro h1 t1 l1
  refine evL l1 fun r2 => ?_
  refine cutS 450 3 (n := 14) (hs := [14,13,13,13,1]) (c := (.compStart (eExp (PP w b1 b2)) 0 (.ref N) (.ref (N + 0 + 1)) (envL (PP w b1 b2) (eExp (PP w b1 b2)) (N + 0 + 2) ([]) (159)))) (idx := [2,1,0,15]) (Lf := fun F => [(N, oLit cl 0), ((N + 0 + 1), oList [] 0), ((N + 0 + 2), oD [] 0), (cl, oList (List.map Value.bool bs) epc)]) r2 (by decide) (by kernel_rfl) ?_; intro h2 t2 r3 T3 G3 o3 z3
  refine comp_start (by kernel_rfl) (.list ⟨_, G3.nw _ (.head _), rfl⟩) ?_
  refine exp_loop o3 (by omega) bs.length 0 [] 0 none _ _ rfl (Nat.zero_le _) (by simp) T3 G3 ?_
  intro h4 t4 q2 ep2 ox hq2 x4 z4
  rw [z3] at z4
  have hl2 : (strValues q2).length ≤ 900 := by
    have := congrArg List.length hq2
    simp only [List.length_map] at this
    simp only [strValues, List.length_map]
    omega
  refine goS r3 _ [2,1,0,15] x4 z4 (by kernel_rfl) ?_; intro _ r4
  obtain _ | ⟨u1, u2, u3⟩ := ox
  · refine cutS 450 1 (n := 9) (hs := [1,3,1,3]) (c := (.call (.builtin "list.__add__") ⟨[(.ref (N + 1)), (.ref (N + 0 + 3 + 2 + 0))], []⟩)) (idx := [2,0]) (Lf := fun F => [((N + 1), oList (strValues q2) ep2), ((N + 0 + 3 + 2 + 0), oList [(.str ⟨#[]⟩ t4)] 0)]) r4 (by decide) (by kernel_rfl) ?_; intro h5 t5 r5 T5 G5 o5 z5
    refine lf_listadd (G5.nw _ (.head _)) (G5.nw _ (.tail _ (.head _))) (by simp only [List.length_cons, List.length_nil]; omega) z5 ?_
    intro h6 t6 x6 z6
    refine goS r5 _ [] x6 z6 (by kernel_rfl) ?_; intro _ r6
    refine enS 0 (n := 1) (hs := []) (v := (.ref (N + 6))) (c := (lawC (PP w b1 b2) 0)) (dp := 351) (q := 27) (idx := [27,28]) (idn := [0,5,6,7,8,9,10,11,12,13,14,15,16,17,18,19,20,21,22,23,24,25,26]) (Lf := fun F => ([(130, tab1 cd cx), (158, oList xs ep)])) (Nf := fun F => ((N + 0 + 3 + 2 + 0 + 1 + 0, oList (strValues q2 ++ [.str ⟨#[]⟩ t4]) 0) :: (td, oList (strValues q) etd) :: (lexL (PP w b1 b2) x dx pb fs fd fr cd ct ca la o (mailStr bs) p 17 tp tl [] 0 ++ [(cx, ocx)] ++ (cl, oList (bs.map Value.bool) epc) :: [(159, oFr [⟨hd, .str sDeal kd, D⟩, ⟨hc, .str sCells kc, .ref cl⟩] 2), (167, oCell0), (166, oCell0), (165, oCell (.ref td)), (164, oCell (.ref x)), (163, cS), (162, cE), (161, cD), (160, oCell (.ref 158))]))) r6 (by decide) (by kernel_rfl) (by kernel_rfl) ?_; intro h7 t7 l7
    have eq2 : strValues q2 ++ [.str ⟨#[]⟩ t4] = strValues (q2 ++ [((⟨#[]⟩ : Str), t4)]) := by simp [strValues]
    rw [eq2] at l7
    have eqq : q.map (·.1) = (q2 ++ [((⟨#[]⟩ : Str), t4)]).map (·.1) := by rw [hq, List.map_append, hq2]; rfl
    refine ne_lists (l7.get (i := 1) rfl) (l7.get (i := 0) rfl) ?_ ?_ (strs_eq eqq) ?_
    · have := congrArg List.length eqq
      simpa [strValues] using this
    · have : cLine = 9900 := rfl
      rw [un]; omega
    refine wpAny_truthy_bool ?_
    try dsimp only
    rw [if_neg (by decide)]
    refine isTrue_or (wpAny_isTrue_Compare1 ?_ (by kernel_rfl))
    refine evL l7 fun r8 => ?_
    refine enS 0 (n := 19) (hs := [19,3,0,0,0,3,0,0,0,3,3,0,4]) (v := (.int 17 tl)) (c := (lawC (PP w b1 b2) 0)) (dp := 351) (q := 23) (idx := [23,24]) (idn := [1,8,12,14,15,16,17,18,19,20,21,22]) (Lf := fun F => ([(130, tab1 cd cx), (158, oList xs ep)])) (Nf := fun F => ((td, oList (strValues q) etd) :: (cd, ⟨.type "code", none, .fields (o.c0 :: .str sQual o.tq :: o.cr).toArray, #[]⟩) :: (cx, ocx) :: [(159, oFr [⟨hd, .str sDeal kd, D⟩, ⟨hc, .str sCells kc, .ref cl⟩] 2), (167, oCell0), (166, oCell0), (165, oCell (.ref td)), (164, oCell (.ref x)), (163, cS), (162, cE), (161, cD), (160, oCell (.ref 158))])) r8 (by decide) (by kernel_rfl) (by kernel_rfl) ?_; intro h8 t8 l8
    refine evL l8 fun r9 => ?_
    refine enS 0 (n := 1) (hs := []) (v := (.int 17 t8)) (c := (lawC (PP w b1 b2) 0)) (dp := 351) (q := 12) (idx := [12,13]) (idn := [0,1,2,3,4,5,6,7,8,9,10,11]) (Lf := fun F => ([(130, tab1 cd cx), (158, oList xs ep)])) (Nf := fun F => ((td, oList (strValues q) etd) :: (cd, ⟨.type "code", none, .fields (o.c0 :: .str sQual o.tq :: o.cr).toArray, #[]⟩) :: (cx, ocx) :: [(159, oFr [⟨hd, .str sDeal kd, D⟩, ⟨hc, .str sCells kc, .ref cl⟩] 2), (167, oCell0), (166, oCell0), (165, oCell (.ref td)), (164, oCell (.ref x)), (163, cS), (162, cE), (161, cD), (160, oCell (.ref 158))])) r9 (by decide) (by kernel_rfl) (by kernel_rfl) ?_; intro h9 t9 l9
    refine ne_int ?_
    refine wpAny_truthy_bool ?_
    try dsimp only
    rw [if_neg (by decide)]
    refine isTrue_or_nil ?_
    try dsimp only
    rw [if_neg (by decide)]
    refine wpAny_execs_nil ?_
    exact k _ _ _ l9.ok
  · refine cutS 450 1 (n := 13) (hs := [1,1,1,3,1,3]) (c := (.call (.builtin "list.__add__") ⟨[(.ref (N + 1)), (.ref (N + 0 + 3 + 2 + 0))], []⟩)) (idx := [2,0]) (Lf := fun F => [((N + 1), oList (strValues q2) ep2), ((N + 0 + 3 + 2 + 0), oList [(.str ⟨#[]⟩ t4)] 0)]) r4 (by decide) (by kernel_rfl) ?_; intro h5 t5 r5 T5 G5 o5 z5
    refine lf_listadd (G5.nw _ (.head _)) (G5.nw _ (.tail _ (.head _))) (by simp only [List.length_cons, List.length_nil]; omega) z5 ?_
    intro h6 t6 x6 z6
    refine goS r5 _ [] x6 z6 (by kernel_rfl) ?_; intro _ r6
    refine enS 0 (n := 1) (hs := []) (v := (.ref (N + 6))) (c := (lawC (PP w b1 b2) 0)) (dp := 351) (q := 27) (idx := [27,28]) (idn := [0,5,6,7,8,9,10,11,12,13,14,15,16,17,18,19,20,21,22,23,24,25,26]) (Lf := fun F => ([(130, tab1 cd cx), (158, oList xs ep)])) (Nf := fun F => ((N + 0 + 3 + 2 + 0 + 1 + 0, oList (strValues q2 ++ [.str ⟨#[]⟩ t4]) 0) :: (td, oList (strValues q) etd) :: (lexL (PP w b1 b2) x dx pb fs fd fr cd ct ca la o (mailStr bs) p 17 tp tl [] 0 ++ [(cx, ocx)] ++ (cl, oList (bs.map Value.bool) epc) :: [(159, oFr [⟨hd, .str sDeal kd, D⟩, ⟨hc, .str sCells kc, .ref cl⟩] 2), (167, oCell0), (166, oCell0), (165, oCell (.ref td)), (164, oCell (.ref x)), (163, cS), (162, cE), (161, cD), (160, oCell (.ref 158))]))) r6 (by decide) (by kernel_rfl) (by kernel_rfl) ?_; intro h7 t7 l7
    have eq2 : strValues q2 ++ [.str ⟨#[]⟩ t4] = strValues (q2 ++ [((⟨#[]⟩ : Str), t4)]) := by simp [strValues]
    rw [eq2] at l7
    have eqq : q.map (·.1) = (q2 ++ [((⟨#[]⟩ : Str), t4)]).map (·.1) := by rw [hq, List.map_append, hq2]; rfl
    refine ne_lists (l7.get (i := 1) rfl) (l7.get (i := 0) rfl) ?_ ?_ (strs_eq eqq) ?_
    · have := congrArg List.length eqq
      simpa [strValues] using this
    · have : cLine = 9900 := rfl
      rw [un]; omega
    refine wpAny_truthy_bool ?_
    try dsimp only
    rw [if_neg (by decide)]
    refine isTrue_or (wpAny_isTrue_Compare1 ?_ (by kernel_rfl))
    refine evL l7 fun r8 => ?_
    refine enS 0 (n := 19) (hs := [19,3,0,0,0,3,0,0,0,3,3,0,4]) (v := (.int 17 tl)) (c := (lawC (PP w b1 b2) 0)) (dp := 351) (q := 23) (idx := [23,24]) (idn := [1,8,12,14,15,16,17,18,19,20,21,22]) (Lf := fun F => ([(130, tab1 cd cx), (158, oList xs ep)])) (Nf := fun F => ((td, oList (strValues q) etd) :: (cd, ⟨.type "code", none, .fields (o.c0 :: .str sQual o.tq :: o.cr).toArray, #[]⟩) :: (cx, ocx) :: [(159, oFr [⟨hd, .str sDeal kd, D⟩, ⟨hc, .str sCells kc, .ref cl⟩] 2), (167, oCell0), (166, oCell0), (165, oCell (.ref td)), (164, oCell (.ref x)), (163, cS), (162, cE), (161, cD), (160, oCell (.ref 158))])) r8 (by decide) (by kernel_rfl) (by kernel_rfl) ?_; intro h8 t8 l8
    refine evL l8 fun r9 => ?_
    refine enS 0 (n := 1) (hs := []) (v := (.int 17 t8)) (c := (lawC (PP w b1 b2) 0)) (dp := 351) (q := 12) (idx := [12,13]) (idn := [0,1,2,3,4,5,6,7,8,9,10,11]) (Lf := fun F => ([(130, tab1 cd cx), (158, oList xs ep)])) (Nf := fun F => ((td, oList (strValues q) etd) :: (cd, ⟨.type "code", none, .fields (o.c0 :: .str sQual o.tq :: o.cr).toArray, #[]⟩) :: (cx, ocx) :: [(159, oFr [⟨hd, .str sDeal kd, D⟩, ⟨hc, .str sCells kc, .ref cl⟩] 2), (167, oCell0), (166, oCell0), (165, oCell (.ref td)), (164, oCell (.ref x)), (163, cS), (162, cE), (161, cD), (160, oCell (.ref 158))])) r9 (by decide) (by kernel_rfl) (by kernel_rfl) ?_; intro h9 t9 l9
    refine ne_int ?_
    refine wpAny_truthy_bool ?_
    try dsimp only
    rw [if_neg (by decide)]
    refine isTrue_or_nil ?_
    try dsimp only
    rw [if_neg (by decide)]
    refine wpAny_execs_nil ?_
    exact k _ _ _ l9.ok)
end
end Mine
end
section
open PySem PySem.W PyProof.Rows PySem.W.X
namespace Mine
section
variable {prog : Program} {w : World} {A : Around} {R : Result → Shared → Prop} {h : Heap} {gs : Array GenState} {dr : Drawn} {t0 N : Nat} {os : OsState}
theorem lshift_any {a n : Int} {t u : Tok} (hn : 0 ≤ n) (hsz : (Builtin.Int.intBits a : Int) + n ≤ 2 ^ 27) (hN : h.objs.size = N)
    (k : ∀ h' tok tk, Af h [] [] h' → h'.objs.size = N → R (.ok (.ret (.int (a * 2 ^ n.toNat) tok))) ⟨h', gs, dr, tk, os⟩) :
    codeAny (model prog w) A (.call (.builtin "int.__lshift__") ⟨[.int a t, .int n u], []⟩) R ⟨h, gs, dr, t0, os⟩ := by
  refine codeAny_call_builtin slot_int_lshift.plain entry_int_lshift (slot_int_lshift.check _ _ _ _ _ _ _ _ (typeIs_int _ a t) (args_int_lshift _ _) ?_)
  show wpAny _ _ (if n < 0 then _ else _) _ _ _
  rw [if_neg (by omega)]
  show wpAny _ _ (if (a == 0) = true then _ else _) _ _ _
  by_cases h0 : a = 0
  · rw [if_pos (by simpa using h0)]
    have e : a * 2 ^ n.toNat = 0 := by subst h0; exact Int.zero_mul _
    have q := k h t0 (t0 + 1) (af_refl h) hN
    rw [e] at q
    repeat (first | refine wpAny_pure ?_ | refine wpAny_mkInt ?_ | refine wpAny_rule ?_ | refine wpAny_bind ?_)
    exact q
  rw [if_neg (by simpa using h0)]
  have h3 : ¬ (((Builtin.Int.intBits a : Int) + 29) / 30 + n / 30 + (if n % 30 == 0 then 0 else 1) > Builtin.maxDigits) := by
    unfold Builtin.maxDigits
    split <;> omega
  show wpAny _ _ (if ((Builtin.Int.intBits a : Int) + 29) / 30 + n / 30 + (if n % 30 == 0 then 0 else 1) > Builtin.maxDigits then _ else _) _ _ _
  rw [if_neg h3]
  have h4 : ¬ (Builtin.Int.intTooBig ((Builtin.Int.intBits a : Int) + n) = true) := by
    unfold Builtin.Int.intTooBig
    have : bitsLine = 2 ^ 27 := rfl
    simp only [decide_eq_true_eq, this]
    omega
  show wpAny _ _ (if Builtin.Int.intTooBig ((Builtin.Int.intBits a : Int) + n) = true then _ else _) _ _ _
  rw [if_neg h4]
  have q := k h t0 (t0 + 1) (af_refl h) hN
  repeat (first | refine wpAny_pure ?_ | refine wpAny_mkInt ?_ | refine wpAny_rule ?_ | refine wpAny_bind ?_)
  exact q
theorem lf_lshift {a n : Nat} {t u : Tok} (ha : a < 1000) (hn : n < 1000) (hN : h.objs.size = N)
    (k : ∀ h' tok tk, Af h [] [] h' → h'.objs.size = N → R (.ok (.ret (.int ((a * 2 ^ n : Nat) : Int) tok))) ⟨h', gs, dr, tk, os⟩) :
    codeAny (model prog w) A (.call (.builtin "int.__lshift__") ⟨[.int (a : Int) t, .int (n : Int) u], []⟩) R ⟨h, gs, dr, t0, os⟩ := by
  refine lshift_any (Int.natCast_nonneg n) (bits_add_le ?_ ?_) hN fun h' tok tk x z => ?_
  · rw [Int.natAbs_natCast]
    exact Nat.lt_of_lt_of_le ha (by decide)
  · omega
  · have e : ((a * 2 ^ n : Nat) : Int) = (a : Int) * 2 ^ ((n : Int)).toNat := by simp
    have q := k h' tok tk x z
    rw [e] at q
    exact q
end
end Mine
end
section
open PySem PySem.W PyProof.Rows PySem.W.X
namespace Mine
section
variable {prog : Program} {w : World} {A : Around} {R : Result → Shared → Prop} {h : Heap} {gs : Array GenState} {dr : Drawn} {t0 N : Nat} {os : OsState}
theorem gives_and (a : Int) (t : Tok) (b : Int) (u : Tok) : Gives (Builtin.«int.__and__» ⟨[.int a t, .int b u], []⟩) (.int (Builtin.bitAnd a b)) :=
  .of_wp fun M A E s Q h => by obtain ⟨hp, g, d, tk, os⟩ := s; wp_walk; exact ⟨_, rfl, h⟩
theorem gives_xor (a : Int) (t : Tok) (b : Int) (u : Tok) : Gives (Builtin.«int.__xor__» ⟨[.int a t, .int b u], []⟩) (.int (Builtin.bitXor a b)) :=
  .of_wp fun M A E s Q h => by obtain ⟨hp, g, d, tk, os⟩ := s; wp_walk; exact ⟨_, rfl, h⟩
theorem lf_and {a b v : Int} {t u : Tok} (hv : Builtin.bitAnd a b = v) (hN : h.objs.size = N)
    (k : ∀ h' tok tk, Af h [] [] h' → h'.objs.size = N → R (.ok (.ret (.int v tok))) ⟨h', gs, dr, tk, os⟩) :
    codeAny (model prog w) A (.call (.builtin "int.__and__") ⟨[.int a t, .int b u], []⟩) R ⟨h, gs, dr, t0, os⟩ := by
  subst hv
  exact lf_int F.slot_int_and F.entry_int_and (F.args_int_and_2 _ _) (gives_and _ _ _ _) hN k
theorem lf_xor {a b v : Int} {t u : Tok} (hv : Builtin.bitXor a b = v) (hN : h.objs.size = N)
    (k : ∀ h' tok tk, Af h [] [] h' → h'.objs.size = N → R (.ok (.ret (.int v tok))) ⟨h', gs, dr, tk, os⟩) :
    codeAny (model prog w) A (.call (.builtin "int.__xor__") ⟨[.int a t, .int b u], []⟩) R ⟨h, gs, dr, t0, os⟩ := by
  subst hv
  exact lf_int F.slot_int_xor F.entry_int_xor (F.args_int_xor_2 _ _) (gives_xor _ _ _ _) hN k
theorem and_nat (a b : Nat) : Builtin.bitAnd (a : Int) (b : Int) = ((a &&& b : Nat) : Int) := by
  rw [bitAnd_pp (Int.natCast_nonneg a) (Int.natCast_nonneg b)]
  rfl
theorem and_pow (F i : Nat) : F &&& 2 ^ i = if F.testBit i then 2 ^ i else 0 := by
  apply Nat.eq_of_testBit_eq
  intro j
  rw [Nat.testBit_and, Nat.testBit_two_pow]
  by_cases e : i = j
  · subst e
    cases hb : F.testBit i
    · simp
    · simp [Nat.testBit_two_pow_self]
  · cases hb : F.testBit i
    · simp [e]
    · simp [e, Nat.testBit_two_pow]
theorem and_unset {F i : Nat} (hb : F.testBit i = false) : Builtin.bitAnd (F : Int) ((1 * 2 ^ i : Nat) : Int) = 0 := by
  rw [and_nat, Nat.one_mul, and_pow, hb]
  simp
theorem and_set {F i : Nat} (hb : F.testBit i = true) : Builtin.bitAnd (F : Int) ((1 * 2 ^ i : Nat) : Int) = ((2 ^ i : Nat) : Int) := by
  rw [and_nat, Nat.one_mul, and_pow, hb]
  simp
theorem xor_set {F i : Nat} (hb : F.testBit i = true) : Builtin.bitXor (F : Int) ((2 ^ i : Nat) : Int) = ((F - 2 ^ i : Nat) : Int) := by
  have e1 := and_set hb
  rw [Nat.one_mul] at e1
  have ge : 2 ^ i ≤ F := Nat.ge_two_pow_of_testBit hb
  unfold Builtin.bitXor
  rw [bitOr_and, e1]
  omega
end
end Mine
end
section
open PySem PySem.W PyProof.Rows PySem.W.X
namespace Mine
/-- a top's dict, found by its address -/
noncomputable def esAt (P : Params) (a : Nat) : List DictEntry := match Kt P a with
  | some ⟨_, _, .dict es _, _⟩ => es.toList
  | _ => []
noncomputable def epAt (P : Params) (a : Nat) : Nat := match Kt P a with
  | some ⟨_, _, .dict _ ep, _⟩ => ep
  | _ => 0
/-- all keys are small ints with their own hashes -/
noncomputable def smallKey (e : DictEntry) : Bool := match e.key with
  | .int k _ => decide (e.hash = k) && (decide (0 ≤ k) && decide (k < 1000))
  | _ => false
noncomputable def smallKeys (l : List DictEntry) : Bool := l.all smallKey
theorem hash_small {k : Int} (h0 : 0 ≤ k) (h1 : k < 1000) : hashInt k = k := by
  have key : ∀ n : Fin 1000, hashInt ((n.val : Nat) : Int) = ((n.val : Nat) : Int) := by decide +kernel
  obtain ⟨n, rfl⟩ := Int.eq_ofNat_of_zero_le h0
  have : n < 1000 := by omega
  exact key ⟨n, this⟩
theorem small_keys {prog : Program} {w : World} {l : List DictEntry} (hs : smallKeys l = true) : ∀ e ∈ l, ∃ k, (intKind prog w).is k e.key = true ∧ e.hash = (intKind prog w).hash k := by
  intro e he
  have q := List.all_eq_true.mp hs e he
  obtain ⟨h, key, v⟩ := e
  cases key with
  | int k t =>
    have q : (decide (h = k) && (decide (0 ≤ k) && decide (k < 1000))) = true := q
    simp only [Bool.and_eq_true, decide_eq_true_eq] at q
    exact ⟨k, by simp [intKind, Value.isInt], by rw [q.1]; exact (hash_small q.2.1 q.2.2).symm⟩
  | _ => exact absurd q Bool.false_ne_true
section
variable {w : World} {b1 b2 : Bool} {A : Around} {R : Result → Shared → Prop} {h : Heap} {gs : Array GenState} {dr : Drawn} {t0 N : Nat} {os : OsState}
theorem lf_dget {d : Nat} {key : Int} {tk : Tok} {dflt v : Value} (T : Tp (kP w b1 b2) h) (hs : (d == sysModules) = false)
    (hd : Kt (PP w b1 b2) d = some (oD (esAt (PP w b1 b2) d) (epAt (PP w b1 b2) d))) (hk : smallKeys (esAt (PP w b1 b2) d) = true) (hv : findBy Value.isInt (esAt (PP w b1 b2) d).toArray key = some v) (hN : h.objs.size = N)
    (k : ∀ h' tk, Af h [] [] h' → h'.objs.size = N → R (.ok (.ret v)) ⟨h', gs, dr, tk, os⟩) :
    CA w b1 b2 A (.call (.builtin "dict.get") ⟨[.ref d, .int key tk, dflt], []⟩) R ⟨h, gs, dr, t0, os⟩ := by
  have ho := T.K _ _ hd
  have hm : (⟨h, gs, dr, t0, os⟩ : Shared).heap.MapOf (intKind pw (Wf w b1 b2)) d (fun k => findBy (intKind pw (Wf w b1 b2)).is (esAt (PP w b1 b2) d).toArray k) :=
    ⟨_, _, _, ho, ⟨rfl, rfl, rfl⟩, rfl, fun e he => small_keys hk e (by simpa using he), fun _ => rfl⟩
  have g := meets_dict_get_default (prog := pw) (w := Wf w b1 b2) (intKind pw (Wf w b1 b2)) (k := key) (key := .int key tk) d (by simp [intKind, Value.isInt]) hs dflt
  refine codeAny_call_builtin F.slot_dict_get.plain F.entry_dict_get (F.slot_dict_get.check _ _ _ _ _ _ _ _ ⟨_, ho, rfl⟩ (F.args_dict_get_3 _ _ _) ?_)
  refine g A R _ ⟨_, hm, ?_⟩
  have e : findBy (intKind pw (Wf w b1 b2)).is (esAt (PP w b1 b2) d).toArray key = some v := hv
  rw [e]
  exact k h _ (af_refl h) hN
theorem lf_dget0 {d : Nat} {key : Int} {tk : Tok} {dflt : Value} (T : Tp (kP w b1 b2) h) (hs : (d == sysModules) = false)
    (hd : Kt (PP w b1 b2) d = some (oD (esAt (PP w b1 b2) d) (epAt (PP w b1 b2) d))) (hk : smallKeys (esAt (PP w b1 b2) d) = true) (hv : findBy Value.isInt (esAt (PP w b1 b2) d).toArray key = none) (hN : h.objs.size = N)
    (k : ∀ h' tk, Af h [] [] h' → h'.objs.size = N → R (.ok (.ret dflt)) ⟨h', gs, dr, tk, os⟩) :
    CA w b1 b2 A (.call (.builtin "dict.get") ⟨[.ref d, .int key tk, dflt], []⟩) R ⟨h, gs, dr, t0, os⟩ := by
  have ho := T.K _ _ hd
  have hm : (⟨h, gs, dr, t0, os⟩ : Shared).heap.MapOf (intKind pw (Wf w b1 b2)) d (fun k => findBy (intKind pw (Wf w b1 b2)).is (esAt (PP w b1 b2) d).toArray k) :=
    ⟨_, _, _, ho, ⟨rfl, rfl, rfl⟩, rfl, fun e he => small_keys hk e (by simpa using he), fun _ => rfl⟩
  have g := meets_dict_get_default (prog := pw) (w := Wf w b1 b2) (intKind pw (Wf w b1 b2)) (k := key) (key := .int key tk) d (by simp [intKind, Value.isInt]) hs dflt
  refine codeAny_call_builtin F.slot_dict_get.plain F.entry_dict_get (F.slot_dict_get.check _ _ _ _ _ _ _ _ ⟨_, ho, rfl⟩ (F.args_dict_get_3 _ _ _) ?_)
  refine g A R _ ⟨_, hm, ?_⟩
  have e : findBy (intKind pw (Wf w b1 b2)).is (esAt (PP w b1 b2) d).toArray key = none := hv
  rw [e]
  exact k h _ (af_refl h) hN
end
end Mine
end
section
open PySem PySem.W PyProof.Rows PySem.W.X
namespace Mine
section
variable {w : World} {b1 b2 : Bool} {A : Around} {R : Result → Shared → Prop} {hB h : Heap} {gs : Array GenState} {dr : Drawn} {t0 N : Nat} {os : OsState}
noncomputable def forT : Stmt → Expr
  | .For t _ _ _ _ => t
  | _ => noExpr
noncomputable def forB : Stmt → List Stmt
  | .For _ _ b _ _ => b
  | _ => []
noncomputable def forE : Stmt → List Stmt
  | .For _ _ _ e _ => e
  | _ => []
noncomputable def qPF : Str := ⟨#[112,114,101,116,116,121,95,102,108,97,103,115,46,60,108,111,99,97,108,115,62,46]⟩
noncomputable def sFlags : Str := ⟨#[102,108,97,103,115]⟩
noncomputable def sFlag : Str := ⟨#[102,108,97,103]⟩
noncomputable def sI : Str := ⟨#[105]⟩
noncomputable abbrev envPF (P : Params) (loc : Addr) : Env := { scope := scopeAt P 39, locals := loc, globals := 3, cells := [], qual := qPF, func := some 39, code := .ref 38, frame := some loc }
noncomputable abbrev sPF (P : Params) : Stmt := stmtNo (bodyAt P 39) 1
noncomputable abbrev cPF (P : Params) (it loc : Addr) : Code := .forLoop (forT (sPF P)) (.ref it) (forB (sPF P)) (forE (sPF P)) (envPF P loc)
structure PFn where
  hf : Int
  kf : Tok
  hn : Int
  kn : Tok
noncomputable def oPF (o : PFn) (Fl : Nat) (tf : Tok) (nl : Addr) : Option (Int × Tok × Value × Int × Tok × Value) → Obj
  | none => oFr [⟨o.hf, .str sFlags o.kf, .int (Fl : Int) tf⟩, ⟨o.hn, .str sNames o.kn, .ref nl⟩] 2
  | some (h1, k1, v1, h2, k2, v2) => oFr [⟨o.hf, .str sFlags o.kf, .int (Fl : Int) tf⟩, ⟨o.hn, .str sNames o.kn, .ref nl⟩, ⟨h1, .str sI k1, v1⟩, ⟨h2, .str sFlag k2, v2⟩] 4
noncomputable abbrev pfL (it nl loc : Addr) (i m : Nat) (ns : List Value) (ep : Nat) (o : PFn) (Fl : Nat) (tf : Tok) (x : Option (Int × Tok × Value × Int × Tok × Value)) : List (Addr × Obj) :=
  [(it, oRit i m), (nl, oList ns ep), (loc, oPF o Fl tf nl x)]
noncomputable def flagName : Nat → Str
  | 0 => ⟨#[79,80,84,73,77,73,90,69,68]⟩
  | 1 => ⟨#[78,69,87,76,79,67,65,76,83]⟩
  | 2 => ⟨#[86,65,82,65,82,71,83]⟩
  | 3 => ⟨#[86,65,82,75,69,89,87,79,82,68,83]⟩
  | 4 => ⟨#[78,69,83,84,69,68]⟩
  | 5 => ⟨#[71,69,78,69,82,65,84,79,82]⟩
  | 6 => ⟨#[78,79,70,82,69,69]⟩
  | 7 => ⟨#[67,79,82,79,85,84,73,78,69]⟩
  | 8 => ⟨#[73,84,69,82,65,66,76,69,95,67,79,82,79,85,84,73,78,69]⟩
  | 9 => ⟨#[65,83,89,78,67,95,71,69,78,69,82,65,84,79,82]⟩
  | _ => ⟨#[48,120,52,48,48]⟩
theorem dict32 (P : Params) : Kt P 32 = some (oD (esAt P 32) (epAt P 32)) := by kernel_rfl
theorem keys32 (P : Params) : smallKeys (esAt P 32) = true := by kernel_rfl
theorem pf_unset {i : Nat} {it nl loc : Addr} {m : Nat} {ns : List Value} {ep : Nat} {o : PFn} {Fl : Nat} {tf : Tok} {x : Option (Int × Tok × Value × Int × Tok × Value)} (hA : Okk A 600) (T : Tp (kP w b1 b2) h)
    (G : Giv (kP w b1 b2) h (pfL it nl loc i (m + 1) ns ep o Fl tf x)) (hb : Fl.testBit i = false) (hi : i < 32)
    (k : ∀ h' t' x', Af h (pfL it nl loc (i + 1) m ns ep o Fl tf (some x')) [] h' → Tp (kP w b1 b2) h' → Giv (kP w b1 b2) h' (pfL it nl loc (i + 1) m ns ep o Fl tf (some x')) → CA w b1 b2 A (cPF (PP w b1 b2) it loc) R ⟨h', gs, dr, t', os⟩) :
    CA w b1 b2 A (cPF (PP w b1 b2) it loc) R ⟨h, gs, dr, t0, os⟩ := by
  revert b1
  refine @bothB _ ?_ ?_ <;> set_option tactic.hygienic false in intros
  all_goals (
  refine goC hA T G (by kernel_rfl) ?_; intro _ _ r
  obtain _ | ⟨u1, u2, u3, u4, u5, u6⟩ := x
  · refine cutS 750 0 (n := 26) (hs := [1,1,1,1,1,1,1,1,1,3,3,3]) (c := (.call (.builtin "int.__lshift__") ⟨[(.int 1 (t0 + 2)), (.int (i : Int) t0)], []⟩)) (idx := []) (Lf := fun F => []) r (by decide) (by kernel_rfl) ?_; intro h1 t1 r1 T1 G1 o1 z1
    refine lf_lshift (a := 1) (n := i) (by decide) (by omega) z1 ?_
    intro h2 u2' t2 x2 z2
    refine goS r1 _ [] x2 z2 (by kernel_rfl) ?_; intro _ r2
    refine cutS 750 0 (n := 13) (hs := [3,3,3,3]) (c := (.call (.builtin "int.__and__") ⟨[(.int (Fl : Int) tf), (.int ((1 * 2 ^ i) : Int) u2')], []⟩)) (idx := []) (Lf := fun F => []) r2 (by decide) (by kernel_rfl) ?_; intro h3 t3 r3 T3 G3 o3 z3
    refine lf_and (and_unset hb) z3 ?_
    intro h4 u4' t4 x4 z4
    refine goS r3 _ [] x4 z4 (by kernel_rfl) ?_; intro _ r4
    refine agS 0 (n := 4) (hs := []) (c := (cPF (PP w b1 b2) it loc)) (q := 0) (idx := [0,1,2]) (idn := []) (Lf := fun F => [(it, ⟨(.type "range_iterator"), Option.none, (.fields #[(.int ((i + 1) : Int) 0), (.int ((↑(m + 1) : Int) - 1) 0), (.int 1 0)]), #[]⟩), (nl, oList ns ep), (loc, oFr [⟨(o.1), .str ⟨#[102,108,97,103,115]⟩ (o.2), (.int (Fl : Int) tf)⟩, ⟨(o.3), .str ⟨#[110,97,109,101,115]⟩ (o.4), (.ref nl)⟩, ⟨hOf F 2 2, .str ⟨#[105]⟩ (kOf F 2 2), (.int (i : Int) t0)⟩, ⟨hOf F 2 3, .str ⟨#[102,108,97,103]⟩ (kOf F 2 3), (.int ((1 * 2 ^ i) : Int) u2')⟩] 4)]) (Nf := fun F => []) r4 (by decide) (by kernel_rfl) ?_; intro h5 t5 x5 z5 T5 G5
    rw [show ((↑(m + 1) : Int) - 1) = (m : Int) by omega] at x5 G5
    exact k h5 t5 (_, _, _, _, _, _) x5 T5 G5
  · refine cutS 750 0 (n := 26) (hs := [1,1,1,1,1,1,1,1,1,3,3,3]) (c := (.call (.builtin "int.__lshift__") ⟨[(.int 1 (t0 + 2)), (.int (i : Int) t0)], []⟩)) (idx := []) (Lf := fun F => []) r (by decide) (by kernel_rfl) ?_; intro h1 t1 r1 T1 G1 o1 z1
    refine lf_lshift (a := 1) (n := i) (by decide) (by omega) z1 ?_
    intro h2 u2' t2 x2 z2
    refine goS r1 _ [] x2 z2 (by kernel_rfl) ?_; intro _ r2
    refine cutS 750 0 (n := 13) (hs := [3,3,3,3]) (c := (.call (.builtin "int.__and__") ⟨[(.int (Fl : Int) tf), (.int ((1 * 2 ^ i) : Int) u2')], []⟩)) (idx := []) (Lf := fun F => []) r2 (by decide) (by kernel_rfl) ?_; intro h3 t3 r3 T3 G3 o3 z3
    refine lf_and (and_unset hb) z3 ?_
    intro h4 u4' t4 x4 z4
    refine goS r3 _ [] x4 z4 (by kernel_rfl) ?_; intro _ r4
    refine agS 0 (n := 4) (hs := []) (c := (cPF (PP w b1 b2) it loc)) (q := 0) (idx := [0,1,2]) (idn := []) (Lf := fun F => [(it, ⟨(.type "range_iterator"), Option.none, (.fields #[(.int ((i + 1) : Int) 0), (.int ((↑(m + 1) : Int) - 1) 0), (.int 1 0)]), #[]⟩), (nl, oList ns ep), (loc, oFr [⟨(o.1), .str ⟨#[102,108,97,103,115]⟩ (o.2), (.int (Fl : Int) tf)⟩, ⟨(o.3), .str ⟨#[110,97,109,101,115]⟩ (o.4), (.ref nl)⟩, ⟨u1, .str ⟨#[105]⟩ u2, (.int (i : Int) t0)⟩, ⟨u4, .str ⟨#[102,108,97,103]⟩ u5, (.int ((1 * 2 ^ i) : Int) u2')⟩] 4)]) (Nf := fun F => []) r4 (by decide) (by kernel_rfl) ?_; intro h5 t5 x5 z5 T5 G5
    rw [show ((↑(m + 1) : Int) - 1) = (m : Int) by omega] at x5 G5
    exact k h5 t5 (_, _, _, _, _, _) x5 T5 G5)
theorem lf_hex {a : Int} {t : Tok} (hsz : (baseText "0x" 16 a).length ≤ 1000) (hN : h.objs.size = N)
    (k : ∀ h' tok tk, Af h [] [] h' → h'.objs.size = N → R (.ok (.ret (.str (baseText "0x" 16 a) tok))) ⟨h', gs, dr, tk, os⟩) :
    CA w b1 b2 A (.call (.builtin "hex") ⟨[.int a t], []⟩) R ⟨h, gs, dr, t0, os⟩ := by
  refine codeAny_call_builtin F.plain_hex F.entry_hex ?_
  have hfin := (gives_hex a t).meets pw (Wf w b1 b2) A R ⟨h, gs, dr, t0, os⟩ ⟨Nat.le_trans hsz (by decide), k h _ _ (af_refl h) hN⟩
  simp only [checkBuiltinCall, F.kind_hex]
  have ok := F.args_hex1 (.int a t)
  cases hsig : Manifest.signature? "hex" with
  | none => exact wpAny_pure hfin
  | some sig =>
    simp only [argsOk, hsig] at ok
    simp only [ok]
    exact wpAny_pure hfin
theorem hex_len : ∀ i, i < 11 → (baseText "0x" 16 ((1 * 2 ^ i : Nat) : Int)).length ≤ 1000 := by decide +kernel
theorem hex10 : baseText "0x" 16 ((1 * 2 ^ 10 : Nat) : Int) = flagName 10 := by decide +kernel
theorem flag_get {i : Nat} (hi : i < 11) {tk u : Tok} (T : Tp (kP w b1 b2) h) (hN : h.objs.size = N)
    (k : ∀ h' tok t', Af h [] [] h' → h'.objs.size = N → R (.ok (.ret (.str (flagName i) tok))) ⟨h', gs, dr, t', os⟩) :
    CA w b1 b2 A (.call (.builtin "dict.get") ⟨[.ref 32, .int ((1 * 2 ^ i : Nat) : Int) tk, .str (baseText "0x" 16 ((1 * 2 ^ i : Nat) : Int)) u], []⟩) R ⟨h, gs, dr, t0, os⟩ := by
  match i, hi, k with
  | 0, _, k => exact lf_dget (v := .str (flagName 0) 285) T (by decide) (dict32 _) (keys32 _) (by kernel_rfl) hN fun h' t' x z => k h' _ t' x z
  | 1, _, k => exact lf_dget (v := .str (flagName 1) 287) T (by decide) (dict32 _) (keys32 _) (by kernel_rfl) hN fun h' t' x z => k h' _ t' x z
  | 2, _, k => exact lf_dget (v := .str (flagName 2) 289) T (by decide) (dict32 _) (keys32 _) (by kernel_rfl) hN fun h' t' x z => k h' _ t' x z
  | 3, _, k => exact lf_dget (v := .str (flagName 3) 291) T (by decide) (dict32 _) (keys32 _) (by kernel_rfl) hN fun h' t' x z => k h' _ t' x z
  | 4, _, k => exact lf_dget (v := .str (flagName 4) 293) T (by decide) (dict32 _) (keys32 _) (by kernel_rfl) hN fun h' t' x z => k h' _ t' x z
  | 5, _, k => exact lf_dget (v := .str (flagName 5) 295) T (by decide) (dict32 _) (keys32 _) (by kernel_rfl) hN fun h' t' x z => k h' _ t' x z
  | 6, _, k => exact lf_dget (v := .str (flagName 6) 297) T (by decide) (dict32 _) (keys32 _) (by kernel_rfl) hN fun h' t' x z => k h' _ t' x z
  | 7, _, k => exact lf_dget (v := .str (flagName 7) 299) T (by decide) (dict32 _) (keys32 _) (by kernel_rfl) hN fun h' t' x z => k h' _ t' x z
  | 8, _, k => exact lf_dget (v := .str (flagName 8) 301) T (by decide) (dict32 _) (keys32 _) (by kernel_rfl) hN fun h' t' x z => k h' _ t' x z
  | 9, _, k => exact lf_dget (v := .str (flagName 9) 303) T (by decide) (dict32 _) (keys32 _) (by kernel_rfl) hN fun h' t' x z => k h' _ t' x z
  | 10, _, k => exact lf_dget0 T (by decide) (dict32 _) (keys32 _) (by kernel_rfl) hN fun h' t' x z => by rw [hex10]; exact k h' u t' x z
  | n + 11, h, _ => omega
theorem pf_more {i : Nat} (hi : i < 11) {it nl loc : Addr} {m : Nat} {ns : List Value} {ep : Nat} {o : PFn} {Fl : Nat} {tf : Tok} {x : Option (Int × Tok × Value × Int × Tok × Value)} (hA : Okk A 600) (T : Tp (kP w b1 b2) h)
    (G : Giv (kP w b1 b2) h (pfL it nl loc i (m + 1) ns ep o Fl tf x)) (hb : Fl.testBit i = true) {g : Nat} (hg : Fl - 2 ^ i = g + 1) (hz : ns.length ≤ 1000)
    (k : ∀ h' t' x' tk tf', Af h (pfL it nl loc (i + 1) m (ns ++ [.str (flagName i) tk]) (ep + 1) o (g + 1) tf' (some x')) [] h' → Tp (kP w b1 b2) h' → Giv (kP w b1 b2) h' (pfL it nl loc (i + 1) m (ns ++ [.str (flagName i) tk]) (ep + 1) o (g + 1) tf' (some x')) → CA w b1 b2 A (cPF (PP w b1 b2) it loc) R ⟨h', gs, dr, t', os⟩) :
    CA w b1 b2 A (cPF (PP w b1 b2) it loc) R ⟨h, gs, dr, t0, os⟩ := by
  obtain ⟨p, hp⟩ : ∃ p, 2 ^ i = p + 1 := ⟨2 ^ i - 1, by have := Nat.two_pow_pos i; omega⟩
  have xs : Builtin.bitXor (Fl : Int) ((1 * 2 ^ i : Nat) : Int) = ((g + 1 : Nat) : Int) := by rw [Nat.one_mul, xor_set hb, hg]
  revert b1
  refine @bothB _ ?_ ?_ <;> set_option tactic.hygienic false in intros
  all_goals (
  refine goC hA T G (by kernel_rfl) ?_; intro _ _ r
  obtain _ | ⟨u1, u2, u3, u4, u5, u6⟩ := x
  · refine cutS 750 0 (n := 26) (hs := [1,1,1,1,1,1,1,1,1,3,3,3]) (c := (.call (.builtin "int.__lshift__") ⟨[(.int 1 (t0 + 2)), (.int (i : Int) t0)], []⟩)) (idx := []) (Lf := fun F => []) r (by decide) (by kernel_rfl) ?_; intro h1 t1 r1 T1 G1 o1 z1
    refine lf_lshift (a := 1) (n := i) (by decide) (by omega) z1 ?_
    intro h2 a2 t2 x2 z2
    refine goS r1 _ [] x2 z2 (by kernel_rfl) ?_; intro _ r2
    refine cutS 750 0 (n := 13) (hs := [3,3,3,3]) (c := (.call (.builtin "int.__and__") ⟨[(.int (Fl : Int) tf), (.int ((1 * 2 ^ i) : Int) a2)], []⟩)) (idx := []) (Lf := fun F => []) r2 (by decide) (by kernel_rfl) ?_; intro h3 t3 r3 T3 G3 o3 z3
    refine lf_and (v := ((p + 1 : Nat) : Int)) ((and_set hb).trans (by rw [hp])) z3 ?_
    intro h4 a4 t4 x4 z4
    refine goS r3 _ [] x4 z4 (by kernel_rfl) ?_; intro _ r4
    refine cutS 750 0 (n := 29) (hs := [3,2,2,2,2,0,0,0,0,0,3,0,0,3]) (c := (.call (.builtin "hex") ⟨[(.int ((1 * 2 ^ i) : Int) a2)], []⟩)) (idx := []) (Lf := fun F => []) r4 (by decide) (by kernel_rfl) ?_; intro h5 t5 r5 T5 G5 o5 z5
    refine lf_hex (a := ((1 * 2 ^ i : Nat) : Int)) (hex_len i hi) z5 ?_
    intro h6 a6 t6 x6 z6
    refine goS r5 _ [] x6 z6 (by kernel_rfl) ?_; intro _ r6
    refine cutS 750 0 (n := 2) (hs := []) (c := ((.call (.builtin "dict.get") ⟨[.ref 32, .int ((1 * 2 ^ i : Nat) : Int) a2, .str (baseText "0x" 16 ((1 * 2 ^ i : Nat) : Int)) a6], []⟩))) (idx := []) (Lf := fun F => ([])) r6 (by decide) (by kernel_rfl) ?_; intro h7 t7 r7 T7 G7 o7 z7
    refine flag_get hi T7 z7 ?_
    intro h8 a8 t8 x8 z8
    refine goS r7 _ [] x8 z8 (by kernel_rfl) ?_; intro _ r8
    refine cutS 750 0 (n := 2) (hs := []) (c := ((.call (.builtin "list.append") ⟨[.ref nl, .str (flagName i) a8], []⟩))) (idx := [1]) (Lf := fun F => ([(nl, oList ns ep)])) r8 (by decide) (by kernel_rfl) ?_; intro h9 t9 r9 T9 G9 o9 z9
    refine lf_append (G9.nw _ (.head _)) hz z9 ?_
    intro h10 x10 z10
    refine goS r9 _ [1] x10 z10 (by kernel_rfl) ?_; intro _ r10
    refine cutS 750 0 (n := 6) (hs := [3,3]) (c := (.call (.builtin "int.__xor__") ⟨[(.int (Fl : Int) tf), (.int ((1 * 2 ^ i) : Int) a2)], []⟩)) (idx := []) (Lf := fun F => []) r10 (by decide) (by kernel_rfl) ?_; intro h11 t11 r11 T11 G11 o11 z11
    refine lf_xor (v := ((g + 1 : Nat) : Int)) (xs) z11 ?_
    intro h12 a12 t12 x12 z12
    refine goS r11 _ [] x12 z12 (by kernel_rfl) ?_; intro _ r12
    refine agS 0 (n := 14) (hs := [3,3,3]) (c := (cPF (PP w b1 b2) it loc)) (q := 0) (idx := [0,1,2]) (idn := []) (Lf := fun F => ([(it, ⟨.type "range_iterator", none, .fields #[.int ((i + 1 : Nat) : Int) 0, .int (((m + 1 : Nat) : Int) - 1) 0, .int 1 0], #[]⟩), (nl, oList (ns ++ [.str (flagName i) a8]) (ep + 1)), (loc, oPF o (g + 1) a12 nl (some (hOf F 2 2, kOf F 2 2, .int (i : Int) t0, hOf F 2 3, kOf F 2 3, .int ((1 * 2 ^ i : Nat) : Int) a2)))])) (Nf := fun F => ([])) r12 (by decide) (by kernel_rfl) ?_; intro h13 t13 x13 z13 T13 G13
    rw [show (((m + 1 : Nat) : Int) - 1) = (m : Int) by omega] at x13 G13
    exact k h13 t13 (_, _, _, _, _, _) _ _ x13 T13 G13
  · refine cutS 750 0 (n := 26) (hs := [1,1,1,1,1,1,1,1,1,3,3,3]) (c := (.call (.builtin "int.__lshift__") ⟨[(.int 1 (t0 + 2)), (.int (i : Int) t0)], []⟩)) (idx := []) (Lf := fun F => []) r (by decide) (by kernel_rfl) ?_; intro h1 t1 r1 T1 G1 o1 z1
    refine lf_lshift (a := 1) (n := i) (by decide) (by omega) z1 ?_
    intro h2 a2 t2 x2 z2
    refine goS r1 _ [] x2 z2 (by kernel_rfl) ?_; intro _ r2
    refine cutS 750 0 (n := 13) (hs := [3,3,3,3]) (c := (.call (.builtin "int.__and__") ⟨[(.int (Fl : Int) tf), (.int ((1 * 2 ^ i) : Int) a2)], []⟩)) (idx := []) (Lf := fun F => []) r2 (by decide) (by kernel_rfl) ?_; intro h3 t3 r3 T3 G3 o3 z3
    refine lf_and (v := ((p + 1 : Nat) : Int)) ((and_set hb).trans (by rw [hp])) z3 ?_
    intro h4 a4 t4 x4 z4
    refine goS r3 _ [] x4 z4 (by kernel_rfl) ?_; intro _ r4
    refine cutS 750 0 (n := 29) (hs := [3,2,2,2,2,0,0,0,0,0,3,0,0,3]) (c := (.call (.builtin "hex") ⟨[(.int ((1 * 2 ^ i) : Int) a2)], []⟩)) (idx := []) (Lf := fun F => []) r4 (by decide) (by kernel_rfl) ?_; intro h5 t5 r5 T5 G5 o5 z5
    refine lf_hex (a := ((1 * 2 ^ i : Nat) : Int)) (hex_len i hi) z5 ?_
    intro h6 a6 t6 x6 z6
    refine goS r5 _ [] x6 z6 (by kernel_rfl) ?_; intro _ r6
    refine cutS 750 0 (n := 2) (hs := []) (c := ((.call (.builtin "dict.get") ⟨[.ref 32, .int ((1 * 2 ^ i : Nat) : Int) a2, .str (baseText "0x" 16 ((1 * 2 ^ i : Nat) : Int)) a6], []⟩))) (idx := []) (Lf := fun F => ([])) r6 (by decide) (by kernel_rfl) ?_; intro h7 t7 r7 T7 G7 o7 z7
    refine flag_get hi T7 z7 ?_
    intro h8 a8 t8 x8 z8
    refine goS r7 _ [] x8 z8 (by kernel_rfl) ?_; intro _ r8
    refine cutS 750 0 (n := 2) (hs := []) (c := ((.call (.builtin "list.append") ⟨[.ref nl, .str (flagName i) a8], []⟩))) (idx := [1]) (Lf := fun F => ([(nl, oList ns ep)])) r8 (by decide) (by kernel_rfl) ?_; intro h9 t9 r9 T9 G9 o9 z9
    refine lf_append (G9.nw _ (.head _)) hz z9 ?_
    intro h10 x10 z10
    refine goS r9 _ [1] x10 z10 (by kernel_rfl) ?_; intro _ r10
    refine cutS 750 0 (n := 6) (hs := [3,3]) (c := (.call (.builtin "int.__xor__") ⟨[(.int (Fl : Int) tf), (.int ((1 * 2 ^ i) : Int) a2)], []⟩)) (idx := []) (Lf := fun F => []) r10 (by decide) (by kernel_rfl) ?_; intro h11 t11 r11 T11 G11 o11 z11
    refine lf_xor (v := ((g + 1 : Nat) : Int)) (xs) z11 ?_
    intro h12 a12 t12 x12 z12
    refine goS r11 _ [] x12 z12 (by kernel_rfl) ?_; intro _ r12
    refine agS 0 (n := 14) (hs := [3,3,3]) (c := (cPF (PP w b1 b2) it loc)) (q := 0) (idx := [0,1,2]) (idn := []) (Lf := fun F => ([(it, ⟨.type "range_iterator", none, .fields #[.int ((i + 1 : Nat) : Int) 0, .int (((m + 1 : Nat) : Int) - 1) 0, .int 1 0], #[]⟩), (nl, oList (ns ++ [.str (flagName i) a8]) (ep + 1)), (loc, oPF o (g + 1) a12 nl (some (u1, u2, .int (i : Int) t0, u4, u5, .int ((1 * 2 ^ i : Nat) : Int) a2)))])) (Nf := fun F => ([])) r12 (by decide) (by kernel_rfl) ?_; intro h13 t13 x13 z13 T13 G13
    rw [show (((m + 1 : Nat) : Int) - 1) = (m : Int) by omega] at x13 G13
    exact k h13 t13 (_, _, _, _, _, _) _ _ x13 T13 G13)
theorem pf_last {i : Nat} (hi : i < 11) {it nl loc : Addr} {m : Nat} {ns : List Value} {ep : Nat} {o : PFn} {Fl : Nat} {tf : Tok} {x : Option (Int × Tok × Value × Int × Tok × Value)} (hA : Okk A 600) (T : Tp (kP w b1 b2) h)
    (G : Giv (kP w b1 b2) h (pfL it nl loc i (m + 1) ns ep o Fl tf x)) (hb : Fl.testBit i = true) (hg : Fl - 2 ^ i = 0) (hz : ns.length ≤ 1000)
    (k : ∀ h' t' oi tf' x' tk, Af h [(it, oi), (nl, oList (ns ++ [.str (flagName i) tk]) (ep + 1)), (loc, oPF o 0 tf' nl (some x'))] [] h' → R (.ok .next) ⟨h', gs, dr, t', os⟩) :
    CA w b1 b2 A (cPF (PP w b1 b2) it loc) R ⟨h, gs, dr, t0, os⟩ := by
  obtain ⟨p, hp⟩ : ∃ p, 2 ^ i = p + 1 := ⟨2 ^ i - 1, by have := Nat.two_pow_pos i; omega⟩
  have xs : Builtin.bitXor (Fl : Int) ((1 * 2 ^ i : Nat) : Int) = 0 := by rw [Nat.one_mul, xor_set hb, hg]; rfl
  revert b1
  refine @bothB _ ?_ ?_ <;> set_option tactic.hygienic false in intros
  all_goals (
  refine goC hA T G (by kernel_rfl) ?_; intro _ _ r
  obtain _ | ⟨u1, u2, u3, u4, u5, u6⟩ := x
  · refine cutS 750 0 (n := 26) (hs := [1,1,1,1,1,1,1,1,1,3,3,3]) (c := (.call (.builtin "int.__lshift__") ⟨[(.int 1 (t0 + 2)), (.int (i : Int) t0)], []⟩)) (idx := []) (Lf := fun F => []) r (by decide) (by kernel_rfl) ?_; intro h1 t1 r1 T1 G1 o1 z1
    refine lf_lshift (a := 1) (n := i) (by decide) (by omega) z1 ?_
    intro h2 a2 t2 x2 z2
    refine goS r1 _ [] x2 z2 (by kernel_rfl) ?_; intro _ r2
    refine cutS 750 0 (n := 13) (hs := [3,3,3,3]) (c := (.call (.builtin "int.__and__") ⟨[(.int (Fl : Int) tf), (.int ((1 * 2 ^ i) : Int) a2)], []⟩)) (idx := []) (Lf := fun F => []) r2 (by decide) (by kernel_rfl) ?_; intro h3 t3 r3 T3 G3 o3 z3
    refine lf_and (v := ((p + 1 : Nat) : Int)) ((and_set hb).trans (by rw [hp])) z3 ?_
    intro h4 a4 t4 x4 z4
    refine goS r3 _ [] x4 z4 (by kernel_rfl) ?_; intro _ r4
    refine cutS 750 0 (n := 29) (hs := [3,2,2,2,2,0,0,0,0,0,3,0,0,3]) (c := (.call (.builtin "hex") ⟨[(.int ((1 * 2 ^ i) : Int) a2)], []⟩)) (idx := []) (Lf := fun F => []) r4 (by decide) (by kernel_rfl) ?_; intro h5 t5 r5 T5 G5 o5 z5
    refine lf_hex (a := ((1 * 2 ^ i : Nat) : Int)) (hex_len i hi) z5 ?_
    intro h6 a6 t6 x6 z6
    refine goS r5 _ [] x6 z6 (by kernel_rfl) ?_; intro _ r6
    refine cutS 750 0 (n := 2) (hs := []) (c := ((.call (.builtin "dict.get") ⟨[.ref 32, .int ((1 * 2 ^ i : Nat) : Int) a2, .str (baseText "0x" 16 ((1 * 2 ^ i : Nat) : Int)) a6], []⟩))) (idx := []) (Lf := fun F => ([])) r6 (by decide) (by kernel_rfl) ?_; intro h7 t7 r7 T7 G7 o7 z7
    refine flag_get hi T7 z7 ?_
    intro h8 a8 t8 x8 z8
    refine goS r7 _ [] x8 z8 (by kernel_rfl) ?_; intro _ r8
    refine cutS 750 0 (n := 2) (hs := []) (c := ((.call (.builtin "list.append") ⟨[.ref nl, .str (flagName i) a8], []⟩))) (idx := [1]) (Lf := fun F => ([(nl, oList ns ep)])) r8 (by decide) (by kernel_rfl) ?_; intro h9 t9 r9 T9 G9 o9 z9
    refine lf_append (G9.nw _ (.head _)) hz z9 ?_
    intro h10 x10 z10
    refine goS r9 _ [1] x10 z10 (by kernel_rfl) ?_; intro _ r10
    refine cutS 750 0 (n := 6) (hs := [3,3]) (c := (.call (.builtin "int.__xor__") ⟨[(.int (Fl : Int) tf), (.int ((1 * 2 ^ i) : Int) a2)], []⟩)) (idx := []) (Lf := fun F => []) r10 (by decide) (by kernel_rfl) ?_; intro h11 t11 r11 T11 G11 o11 z11
    refine lf_xor (v := 0) (xs) z11 ?_
    intro h12 a12 t12 x12 z12
    refine goS r11 _ [] x12 z12 (by kernel_rfl) ?_; intro _ r12
    refine endS 0 (n := 15) (hs := [3,3,3]) (fl := (.next)) (q := 0) (idx := [0,1,2]) (idn := []) (Lf := fun F => ([(it, ⟨.type "range_iterator", none, .fields #[.int ((i + 1 : Nat) : Int) 0, .int (((m + 1 : Nat) : Int) - 1) 0, .int 1 0], #[]⟩), (nl, oList (ns ++ [.str (flagName i) a8]) (ep + 1)), (loc, oPF o 0 a12 nl (some (hOf F 2 2, kOf F 2 2, .int (i : Int) t0, hOf F 2 3, kOf F 2 3, .int ((1 * 2 ^ i : Nat) : Int) a2)))])) (Nf := fun F => ([])) r12 (by decide) (by kernel_rfl) ?_; intro h13 t13 x13 z13
    exact k h13 t13 _ _ (_, _, _, _, _, _) _ x13
  · refine cutS 750 0 (n := 26) (hs := [1,1,1,1,1,1,1,1,1,3,3,3]) (c := (.call (.builtin "int.__lshift__") ⟨[(.int 1 (t0 + 2)), (.int (i : Int) t0)], []⟩)) (idx := []) (Lf := fun F => []) r (by decide) (by kernel_rfl) ?_; intro h1 t1 r1 T1 G1 o1 z1
    refine lf_lshift (a := 1) (n := i) (by decide) (by omega) z1 ?_
    intro h2 a2 t2 x2 z2
    refine goS r1 _ [] x2 z2 (by kernel_rfl) ?_; intro _ r2
    refine cutS 750 0 (n := 13) (hs := [3,3,3,3]) (c := (.call (.builtin "int.__and__") ⟨[(.int (Fl : Int) tf), (.int ((1 * 2 ^ i) : Int) a2)], []⟩)) (idx := []) (Lf := fun F => []) r2 (by decide) (by kernel_rfl) ?_; intro h3 t3 r3 T3 G3 o3 z3
    refine lf_and (v := ((p + 1 : Nat) : Int)) ((and_set hb).trans (by rw [hp])) z3 ?_
    intro h4 a4 t4 x4 z4
    refine goS r3 _ [] x4 z4 (by kernel_rfl) ?_; intro _ r4
    refine cutS 750 0 (n := 29) (hs := [3,2,2,2,2,0,0,0,0,0,3,0,0,3]) (c := (.call (.builtin "hex") ⟨[(.int ((1 * 2 ^ i) : Int) a2)], []⟩)) (idx := []) (Lf := fun F => []) r4 (by decide) (by kernel_rfl) ?_; intro h5 t5 r5 T5 G5 o5 z5
    refine lf_hex (a := ((1 * 2 ^ i : Nat) : Int)) (hex_len i hi) z5 ?_
    intro h6 a6 t6 x6 z6
    refine goS r5 _ [] x6 z6 (by kernel_rfl) ?_; intro _ r6
    refine cutS 750 0 (n := 2) (hs := []) (c := ((.call (.builtin "dict.get") ⟨[.ref 32, .int ((1 * 2 ^ i : Nat) : Int) a2, .str (baseText "0x" 16 ((1 * 2 ^ i : Nat) : Int)) a6], []⟩))) (idx := []) (Lf := fun F => ([])) r6 (by decide) (by kernel_rfl) ?_; intro h7 t7 r7 T7 G7 o7 z7
    refine flag_get hi T7 z7 ?_
    intro h8 a8 t8 x8 z8
    refine goS r7 _ [] x8 z8 (by kernel_rfl) ?_; intro _ r8
    refine cutS 750 0 (n := 2) (hs := []) (c := ((.call (.builtin "list.append") ⟨[.ref nl, .str (flagName i) a8], []⟩))) (idx := [1]) (Lf := fun F => ([(nl, oList ns ep)])) r8 (by decide) (by kernel_rfl) ?_; intro h9 t9 r9 T9 G9 o9 z9
    refine lf_append (G9.nw _ (.head _)) hz z9 ?_
    intro h10 x10 z10
    refine goS r9 _ [1] x10 z10 (by kernel_rfl) ?_; intro _ r10
    refine cutS 750 0 (n := 6) (hs := [3,3]) (c := (.call (.builtin "int.__xor__") ⟨[(.int (Fl : Int) tf), (.int ((1 * 2 ^ i) : Int) a2)], []⟩)) (idx := []) (Lf := fun F => []) r10 (by decide) (by kernel_rfl) ?_; intro h11 t11 r11 T11 G11 o11 z11
    refine lf_xor (v := 0) (xs) z11 ?_
    intro h12 a12 t12 x12 z12
    refine goS r11 _ [] x12 z12 (by kernel_rfl) ?_; intro _ r12
    refine endS 0 (n := 15) (hs := [3,3,3]) (fl := (.next)) (q := 0) (idx := [0,1,2]) (idn := []) (Lf := fun F => ([(it, ⟨.type "range_iterator", none, .fields #[.int ((i + 1 : Nat) : Int) 0, .int (((m + 1 : Nat) : Int) - 1) 0, .int 1 0], #[]⟩), (nl, oList (ns ++ [.str (flagName i) a8]) (ep + 1)), (loc, oPF o 0 a12 nl (some (u1, u2, .int (i : Int) t0, u4, u5, .int ((1 * 2 ^ i : Nat) : Int) a2)))])) (Nf := fun F => ([])) r12 (by decide) (by kernel_rfl) ?_; intro h13 t13 x13 z13
    exact k h13 t13 _ _ (_, _, _, _, _, _) _ x13)
end
end Mine
end
section
namespace Mine
/-! ## rook numbers: the plain law -/
noncomputable def su : Nat → (Nat → Int) → Int
  | 0, _ => 0
  | n + 1, f => su n f + f n
theorem su_congr {f g : Nat → Int} : ∀ n, (∀ i, i < n → f i = g i) → su n f = su n g
  | 0, _ => rfl
  | n + 1, h => by
    show su n f + f n = su n g + g n
    rw [su_congr n fun i hi => h i (Nat.lt_succ_of_lt hi), h n (Nat.lt_succ_self n)]
theorem su_add (f g : Nat → Int) : ∀ n, su n (fun i => f i + g i) = su n f + su n g
  | 0 => rfl
  | n + 1 => by
    show su n (fun i => f i + g i) + (f n + g n) = (su n f + f n) + (su n g + g n)
    rw [su_add f g n]; omega
theorem su_mul (a : Int) (f : Nat → Int) : ∀ n, su n (fun i => a * f i) = a * su n f
  | 0 => by show (0 : Int) = a * 0; rw [Int.mul_zero]
  | n + 1 => by
    show su n (fun i => a * f i) + a * f n = a * (su n f + f n)
    rw [su_mul a f n, Int.mul_add]
theorem su_zero : ∀ n, su n (fun _ => 0) = 0
  | 0 => rfl
  | n + 1 => by show su n (fun _ => 0) + 0 = 0; rw [su_zero n]; rfl
theorem su_comm (f : Nat → Nat → Int) (m : Nat) : ∀ n, su n (fun i => su m (fun j => f i j)) = su m (fun j => su n (fun i => f i j))
  | 0 => by show (0 : Int) = su m fun _ => 0; rw [su_zero]
  | n + 1 => by
    show su n (fun i => su m fun j => f i j) + su m (fun j => f n j) = su m fun j => su n (fun i => f i j) + f n j
    rw [su_comm f m n, su_add]
theorem su_single (a : Nat) (v : Nat → Int) : ∀ n, a < n → su n (fun j => (if j = a then 1 else 0) * v j) = v a
  | 0, h => by omega
  | n + 1, h => by
    show su n (fun j => (if j = a then 1 else 0) * v j) + (if n = a then 1 else 0) * v n = v a
    by_cases e : n = a
    · subst e
      have : su n (fun j => (if j = n then 1 else 0) * v j) = su n (fun _ => 0) := su_congr n fun i hi => by rw [if_neg (by omega), Int.zero_mul]
      rw [this, su_zero, if_pos rfl, Int.one_mul, Int.zero_add]
    · rw [su_single a v n (by omega), if_neg e, Int.zero_mul, Int.add_zero]
/-- a matrix upon a vector -/
noncomputable def ap (M : Nat → Nat → Int) (v : Nat → Int) (m : Nat) : Int := su 16 fun j => M m j * v j
theorem ap_ap (M N : Nat → Nat → Int) (v : Nat → Int) (m : Nat) : ap M (ap N v) m = su 16 fun k => (su 16 fun j => M m j * N j k) * v k := by
  unfold ap
  have e1 : su 16 (fun j => M m j * su 16 fun k => N j k * v k) = su 16 fun j => su 16 fun k => (M m j * N j k) * v k := su_congr 16 fun j _ => by
    rw [← su_mul]
    exact su_congr 16 fun k _ => by rw [Int.mul_assoc]
  rw [e1, su_comm]
  refine su_congr 16 fun k _ => ?_
  have e2 : su 16 (fun j => M m j * N j k * v k) = su 16 fun j => v k * (M m j * N j k) := su_congr 16 fun j _ => by rw [Int.mul_comm]
  rw [e2, su_mul, Int.mul_comm]
noncomputable def popc (m : Nat) : Nat := match m with
  | 0 => 0 | 1 => 1 | 2 => 1 | 3 => 2 | 4 => 1 | 5 => 2 | 6 => 2 | 7 => 3 | 8 => 1 | 9 => 2 | 10 => 2 | 11 => 3 | 12 => 2 | 13 => 3 | 14 => 3 | 15 => 4
  | _ => 0
/-- column c set upon the columns m -/
noncomputable def EM (c m j : Nat) : Int := if m.testBit c = false ∧ j = m + 2 ^ c then 1 else 0
noncomputable def I1 (m j : Nat) : Int := if j = m then 1 else 0
noncomputable def sg (n : Nat) : Int := if n % 2 = 0 then 1 else -1
/-- k (k - 1) and so on, n factors -/
noncomputable def ff (x : Int) : Nat → Int
  | 0 => 1
  | n + 1 => ff x n * (x - n)
noncomputable def RM (k m j : Nat) : Int := if m &&& j = m then sg (popc m) * ff ((k : Int) - popc m) (popc j - popc m) else 0
theorem em_lt : ∀ c : Fin 4, ∀ m : Fin 16, m.val.testBit c.val = false → m.val + 2 ^ c.val < 16 := by decide +kernel
theorem em_iff : ∀ c : Fin 4, ∀ i j : Fin 16, (i.val.testBit c.val = false ∧ j.val = i.val + 2 ^ c.val) ↔ (j.val.testBit c.val = true ∧ i.val = j.val - 2 ^ c.val) := by decide +kernel
theorem su_EM {c m : Nat} (hc : c < 4) (hm : m < 16) (X : Nat → Int) : su 16 (fun i => EM c m i * X i) = if m.testBit c then 0 else X (m + 2 ^ c) := by
  cases e : m.testBit c with
  | true =>
    rw [if_pos rfl, ← su_zero 16]
    refine su_congr 16 fun i _ => ?_
    unfold EM
    rw [if_neg (by rw [e]; simp), Int.zero_mul]
  | false =>
    rw [if_neg (by simp), ← su_single (m + 2 ^ c) X 16 (em_lt ⟨c, hc⟩ ⟨m, hm⟩ e)]
    refine su_congr 16 fun i _ => ?_
    unfold EM
    rw [e]
    simp only [true_and]
theorem su_ME {c j : Nat} (hc : c < 4) (hj : j < 16) (X : Nat → Int) : su 16 (fun i => X i * EM c i j) = if j.testBit c then X (j - 2 ^ c) else 0 := by
  cases e : j.testBit c with
  | true =>
    rw [if_pos rfl, ← su_single (j - 2 ^ c) X 16 (Nat.lt_of_le_of_lt (Nat.sub_le _ _) hj)]
    refine su_congr 16 fun i hi => ?_
    have q := em_iff ⟨c, hc⟩ ⟨i, hi⟩ ⟨j, hj⟩
    dsimp only at q
    unfold EM
    rw [Int.mul_comm]
    by_cases d : i = j - 2 ^ c
    · rw [if_pos (q.mpr ⟨e, d⟩), if_pos d]
    · rw [if_neg fun x => d (q.mp x).2, if_neg d]
  | false =>
    rw [if_neg (by simp), ← su_zero 16]
    refine su_congr 16 fun i hi => ?_
    have q := em_iff ⟨c, hc⟩ ⟨i, hi⟩ ⟨j, hj⟩
    dsimp only at q
    unfold EM
    rw [if_neg (by rw [q, e]; simp), Int.mul_zero]
theorem mat1k : ∀ k : Fin 4, ∀ c : Fin 4, ∀ m j : Fin 16, (if m.val.testBit c.val then 0 else RM (k.val + 1) (m.val + 2 ^ c.val) j.val) = - if j.val.testBit c.val then RM k.val m.val (j.val - 2 ^ c.val) else 0 := by decide +kernel
theorem mat1 (k : Fin 4) (c : Fin 4) (m j : Fin 16) : (su 16 fun i => EM c.val m.val i * RM (k.val + 1) i j.val) = - su 16 fun i => RM k.val m.val i * EM c.val i j.val := by
  rw [su_EM c.isLt m.isLt (fun i => RM (k.val + 1) i j.val), su_ME c.isLt j.isLt (fun i => RM k.val m.val i)]
  exact mat1k k c m j
theorem mat2k : ∀ k : Fin 4, ∀ m j : Fin 16, RM (k.val + 1) m.val j.val = RM k.val m.val j.val + su 4 fun c => if j.val.testBit c then RM k.val m.val (j.val - 2 ^ c) else 0 := by decide +kernel
theorem mat2 (k : Fin 4) (m j : Fin 16) : RM (k.val + 1) m.val j.val = RM k.val m.val j.val + su 4 fun c => su 16 fun i => RM k.val m.val i * EM c i j.val := by
  rw [mat2k k m j]
  congr 1
  exact su_congr 4 fun c hc => (su_ME hc j.isLt (fun i => RM k.val m.val i)).symm
/-- a row's matrix: nothing set, or one of its columns -/
noncomputable def TB (r : Nat → Bool) (m j : Nat) : Int := I1 m j + su 4 fun c => if r c then EM c m j else 0
theorem su_ite_mul (b : Bool) (f g : Nat → Int) (n : Nat) : su n (fun i => (if b then f i else 0) * g i) = if b then su n (fun i => f i * g i) else 0 := by
  cases b with
  | true => simp
  | false => simp [su_zero]
theorem su_mul_ite (b : Bool) (f g : Nat → Int) (n : Nat) : su n (fun i => g i * (if b then f i else 0)) = if b then su n (fun i => g i * f i) else 0 := by
  cases b with
  | true => simp
  | false => simp [su_zero]
theorem su_su_mul (r : Nat → Bool) (E : Nat → Nat → Int) (g : Nat → Int) : su 16 (fun i => (su 4 fun c => if r c then E c i else 0) * g i) = su 4 fun c => if r c then su 16 (fun i => E c i * g i) else 0 := by
  have e1 : su 16 (fun i => (su 4 fun c => if r c then E c i else 0) * g i) = su 16 fun i => su 4 fun c => (if r c then E c i else 0) * g i := su_congr 16 fun i _ => by
    rw [Int.mul_comm, ← su_mul]
    exact su_congr 4 fun c _ => by rw [Int.mul_comm]
  rw [e1, su_comm]
  exact su_congr 4 fun c _ => su_ite_mul (r c) (E c) g 16
theorem su_mul_su (r : Nat → Bool) (E : Nat → Nat → Int) (g : Nat → Int) : su 16 (fun i => g i * (su 4 fun c => if r c then E c i else 0)) = su 4 fun c => if r c then su 16 (fun i => g i * E c i) else 0 := by
  have e1 : su 16 (fun i => g i * (su 4 fun c => if r c then E c i else 0)) = su 16 fun i => su 4 fun c => g i * (if r c then E c i else 0) := su_congr 16 fun i _ => by
    rw [← su_mul]
  rw [e1, su_comm]
  exact su_congr 4 fun c _ => su_mul_ite (r c) (E c) g 16
theorem su_I1_left (g : Nat → Int) {m : Nat} (hm : m < 16) : su 16 (fun i => I1 m i * g i) = g m := su_single m g 16 hm
theorem su_I1_right (g : Nat → Int) {j : Nat} (hj : j < 16) : su 16 (fun i => g i * I1 i j) = g j := by
  have : su 16 (fun i => g i * I1 i j) = su 16 (fun i => (if i = j then 1 else 0) * g i) := su_congr 16 fun i _ => by
    unfold I1
    by_cases e : i = j
    · subst e; rw [if_pos rfl, Int.mul_comm]
    · rw [if_neg (fun h => e h.symm), if_neg e, Int.mul_comm]
  rw [this, su_single j g 16 hj]
theorem su_neg (f : Nat → Int) : ∀ n, su n (fun i => - f i) = - su n f
  | 0 => rfl
  | n + 1 => by show su n (fun i => - f i) + - f n = - (su n f + f n); rw [su_neg f n]; omega
theorem coeff (r : Nat → Bool) {k m j : Nat} (hk : k < 4) (hm : m < 16) (hj : j < 16) :
    su 16 (fun i => TB r m i * RM (k + 1) i j) = su 16 fun i => RM k m i * TB (fun c => !r c) i j := by
  have l1 : su 16 (fun i => TB r m i * RM (k + 1) i j) = su 16 (fun i => I1 m i * RM (k + 1) i j) + su 16 (fun i => (su 4 fun c => if r c then EM c m i else 0) * RM (k + 1) i j) := by
    rw [← su_add]
    exact su_congr 16 fun i _ => by unfold TB; rw [Int.add_mul]
  have r1 : su 16 (fun i => RM k m i * TB (fun c => !r c) i j) = su 16 (fun i => RM k m i * I1 i j) + su 16 (fun i => RM k m i * (su 4 fun c => if (!r c) then EM c i j else 0)) := by
    rw [← su_add]
    exact su_congr 16 fun i _ => by unfold TB; rw [Int.mul_add]
  rw [l1, r1, su_I1_left _ hm, su_I1_right _ hj, su_su_mul, su_mul_su (fun c => !r c) (fun c i => EM c i j)]
  have m2 := mat2 ⟨k, hk⟩ ⟨m, hm⟩ ⟨j, hj⟩
  have m1 : su 4 (fun c => if r c then su 16 (fun i => EM c m i * RM (k + 1) i j) else 0) = - su 4 (fun c => if r c then su 16 (fun i => RM k m i * EM c i j) else 0) := by
    rw [← su_neg]
    refine su_congr 4 fun c hc => ?_
    have q := mat1 ⟨k, hk⟩ ⟨c, hc⟩ ⟨m, hm⟩ ⟨j, hj⟩
    dsimp only at q
    cases r c with
    | true => rw [if_pos rfl, if_pos rfl]; exact q
    | false => rfl
  have sp : su 4 (fun c => su 16 fun i => RM k m i * EM c i j) = su 4 (fun c => if r c then su 16 (fun i => RM k m i * EM c i j) else 0) + su 4 (fun c => if (!r c) then su 16 (fun i => RM k m i * EM c i j) else 0) := by
    rw [← su_add]
    refine su_congr 4 fun c _ => ?_
    cases r c with
    | true => simp
    | false => simp
  dsimp only at m2
  rw [m1, m2, sp]
  omega
theorem ap_congr {M : Nat → Nat → Int} {v v' : Nat → Int} (h : ∀ j, j < 16 → v j = v' j) (m : Nat) : ap M v m = ap M v' m := su_congr 16 fun j hj => by rw [h j hj]
theorem row_swap (r : Nat → Bool) {k : Nat} (hk : k < 4) (v : Nat → Int) {m : Nat} (hm : m < 16) : ap (TB r) (ap (RM (k + 1)) v) m = ap (RM k) (ap (TB fun c => !r c) v) m := by
  rw [ap_ap, ap_ap]
  exact su_congr 16 fun j hj => by rw [coeff r hk hm hj]
/-- the weights by which the rook numbers are summed up -/
noncomputable def wt (x : Int) (m : Nat) : Int := match popc m with
  | 0 => (x - 3) * (x - 2) * (x - 1) * x
  | 1 => (x - 2) * (x - 1) * x
  | 2 => (x - 1) * x
  | 3 => x
  | _ => 1
theorem mat3 : ∀ x : Fin 5, ∀ m : Fin 16, wt (- (x.val : Int) - 1) m.val = ap (RM 4) (wt (x.val : Int)) m.val := by decide +kernel
theorem mat0 : ∀ j : Fin 16, RM 0 0 j.val = I1 0 j.val := by decide +kernel
theorem rook_law (r0 r1 r2 r3 : Nat → Bool) {x : Nat} (hx : x < 5) :
    ap (TB r0) (ap (TB r1) (ap (TB r2) (ap (TB r3) (wt (- (x : Int) - 1))))) 0 = ap (TB fun c => !r0 c) (ap (TB fun c => !r1 c) (ap (TB fun c => !r2 c) (ap (TB fun c => !r3 c) (wt (x : Int))))) 0 := by
  have s3 : ∀ m, m < 16 → ap (TB r3) (wt (- (x : Int) - 1)) m = ap (RM 3) (ap (TB fun c => !r3 c) (wt (x : Int))) m := fun m hm => by
    rw [ap_congr (v' := ap (RM 4) (wt (x : Int))) (fun j hj => mat3 ⟨x, hx⟩ ⟨j, hj⟩) m]
    exact row_swap r3 (by decide) _ hm
  have s2 : ∀ m, m < 16 → ap (TB r2) (ap (TB r3) (wt (- (x : Int) - 1))) m = ap (RM 2) (ap (TB fun c => !r2 c) (ap (TB fun c => !r3 c) (wt (x : Int)))) m := fun m hm => by
    rw [ap_congr (fun j hj => s3 j hj) m]
    exact row_swap r2 (by decide) _ hm
  have s1 : ∀ m, m < 16 → ap (TB r1) (ap (TB r2) (ap (TB r3) (wt (- (x : Int) - 1)))) m = ap (RM 1) (ap (TB fun c => !r1 c) (ap (TB fun c => !r2 c) (ap (TB fun c => !r3 c) (wt (x : Int))))) m := fun m hm => by
    rw [ap_congr (fun j hj => s2 j hj) m]
    exact row_swap r1 (by decide) _ hm
  rw [ap_congr (fun j hj => s1 j hj) 0, row_swap r0 (by decide) _ (by decide)]
  show su 16 (fun j => RM 0 0 j * _) = _
  rw [su_congr (g := fun j => I1 0 j * ap (TB fun c => !r0 c) (ap (TB fun c => !r1 c) (ap (TB fun c => !r2 c) (ap (TB fun c => !r3 c) (wt (x : Int))))) j) 16 fun j hj => by rw [mat0 ⟨j, hj⟩]]
  exact su_I1_left _ (by decide)
end Mine
end
section
namespace Mine
/-- what a waiting set of columns lets be pushed -/
noncomputable def cols (r : Nat → Bool) (m : Nat) : List Nat := ((List.range 4).filter fun c => r c && !m.testBit c).map fun c => m + 2 ^ c
noncomputable def stepQ (r : Nat → Bool) (q : List Nat) : List Nat := q.flatMap fun m => m :: cols r m
noncomputable def PhQ (v : Nat → Int) (q : List Nat) : Int := (q.map v).sum
theorem add_lt : ∀ m : Fin 16, ∀ c : Fin 4, m.val.testBit c.val = false → m.val + 2 ^ c.val < 16 := by decide +kernel
theorem cols_lt {r : Nat → Bool} {m a : Nat} (hm : m < 16) (ha : a ∈ cols r m) : a < 16 := by
  unfold cols at ha
  simp only [List.mem_map, List.mem_filter, List.mem_range, Bool.and_eq_true, Bool.not_eq_true'] at ha
  obtain ⟨c, ⟨hc, _, hb⟩, rfl⟩ := ha
  exact add_lt ⟨m, hm⟩ ⟨c, hc⟩ hb
theorem stepQ_lt {r : Nat → Bool} {q : List Nat} (hq : ∀ m ∈ q, m < 16) : ∀ m ∈ stepQ r q, m < 16 := by
  intro a ha
  unfold stepQ at ha
  obtain ⟨m, hm, ha⟩ := List.mem_flatMap.mp ha
  rcases List.mem_cons.mp ha with rfl | ha
  · exact hq _ hm
  · exact cols_lt (hq m hm) ha
theorem su_range (p : Nat → Bool) (f : Nat → Int) (n : Nat) : (((List.range n).filter p).map f).sum = su n fun c => if p c then f c else 0 := by
  induction n with
  | zero => rfl
  | succ n ih =>
    rw [List.range_succ, List.filter_append, List.map_append, List.sum_append, ih]
    show _ = su n _ + _
    congr 1
    cases h : p n with
    | true => simp [h]
    | false => simp [h]
theorem ap_TB (r : Nat → Bool) (v : Nat → Int) {m : Nat} (hm : m < 16) : ap (TB r) v m = v m + ((cols r m).map v).sum := by
  unfold ap
  have e1 : su 16 (fun j => TB r m j * v j) = su 16 (fun j => I1 m j * v j) + su 16 (fun j => (su 4 fun c => if r c then EM c m j else 0) * v j) := by
    rw [← su_add]
    exact su_congr 16 fun i _ => by unfold TB; rw [Int.add_mul]
  rw [e1, su_I1_left _ hm, su_su_mul r (fun c j => EM c m j)]
  congr 1
  unfold cols
  rw [List.map_map, su_range]
  refine su_congr 4 fun c hc => ?_
  cases hr : r c with
  | false => simp
  | true =>
    rw [if_pos rfl]
    cases hb : m.testBit c with
    | true =>
      have : su 16 (fun j => EM c m j * v j) = su 16 (fun _ => 0) := su_congr 16 fun j _ => by unfold EM; rw [hb]; simp
      rw [this, su_zero]
      simp
    | false =>
      have : su 16 (fun j => EM c m j * v j) = su 16 (fun j => (if j = m + 2 ^ c then 1 else 0) * v j) := su_congr 16 fun j _ => by unfold EM; rw [hb]; simp
      rw [this, su_single _ _ 16 (add_lt ⟨m, hm⟩ ⟨c, hc⟩ hb)]
      simp
theorem PhQ_step (r : Nat → Bool) (v : Nat → Int) : ∀ q : List Nat, (∀ m ∈ q, m < 16) → PhQ v (stepQ r q) = PhQ (ap (TB r) v) q
  | [], _ => rfl
  | m :: q, h => by
    have ih := PhQ_step r v q fun a ha => h a (List.mem_cons_of_mem _ ha)
    unfold PhQ stepQ at ih ⊢
    rw [List.flatMap_cons, List.map_append, List.sum_append, ih, List.map_cons, List.sum_cons, List.map_cons, List.sum_cons, ap_TB r v (h m (List.mem_cons_self ..))]
/-- the law's own sum -/
noncomputable def valR (r : Nat → Int) (x : Int) : Int := ((((0 * (x - 4 + 0) + r 0) * (x - 4 + 1) + r 1) * (x - 4 + 2) + r 2) * (x - 4 + 3) + r 3) * (x - 4 + 4) + r 4
noncomputable def cntQ (q : List Nat) (j : Nat) : Int := ((q.countP fun m => popc m == j) : Nat)
theorem popc_le : ∀ m : Fin 16, popc m.val ≤ 4 := by decide +kernel
theorem valR_wt (x : Int) : ∀ q : List Nat, (∀ m ∈ q, m < 16) → PhQ (wt x) q = valR (cntQ q) x
  | [], _ => by
    unfold PhQ valR cntQ
    simp
  | m :: q, h => by
    have ih := valR_wt x q fun a ha => h a (List.mem_cons_of_mem _ ha)
    have hm := popc_le ⟨m, h m (List.mem_cons_self ..)⟩
    dsimp only at hm
    have e : PhQ (wt x) (m :: q) = wt x m + PhQ (wt x) q := by unfold PhQ; rw [List.map_cons, List.sum_cons]
    rw [e, ih]
    have c : ∀ j, cntQ (m :: q) j = cntQ q j + (if popc m == j then 1 else 0) := fun j => by
      unfold cntQ
      rw [List.countP_cons]
      split <;> simp
    unfold valR
    simp only [c]
    unfold wt
    generalize cntQ q 0 = a0
    generalize cntQ q 1 = a1
    generalize cntQ q 2 = a2
    generalize cntQ q 3 = a3
    generalize cntQ q 4 = a4
    match hp : popc m, hm with
    | 0, _ => simp; grind
    | 1, _ => simp; grind
    | 2, _ => simp; grind
    | 3, _ => simp; grind
    | 4, _ => simp; grind
    | n + 5, hm => omega
/-- the waiting line behind the last row -/
noncomputable def lineQ (r0 r1 r2 r3 : Nat → Bool) : List Nat := stepQ r3 (stepQ r2 (stepQ r1 (stepQ r0 [0])))
theorem line_val (r0 r1 r2 r3 : Nat → Bool) (x : Int) : valR (cntQ (lineQ r0 r1 r2 r3)) x = ap (TB r0) (ap (TB r1) (ap (TB r2) (ap (TB r3) (wt x)))) 0 := by
  have h0 : ∀ m ∈ [0], m < 16 := fun m hm => by cases List.mem_singleton.mp hm; decide
  have h1 := stepQ_lt (r := r0) h0
  have h2 := stepQ_lt (r := r1) h1
  have h3 := stepQ_lt (r := r2) h2
  have h4 := stepQ_lt (r := r3) h3
  unfold lineQ
  rw [← valR_wt x _ h4, PhQ_step _ _ _ h3, PhQ_step _ _ _ h2, PhQ_step _ _ _ h1, PhQ_step _ _ _ h0]
  unfold PhQ
  simp
/-- the law: either board tells the other's numbers -/
theorem line_law (r0 r1 r2 r3 : Nat → Bool) {x : Nat} (hx : x < 5) :
    valR (cntQ (lineQ (fun c => !r0 c) (fun c => !r1 c) (fun c => !r2 c) (fun c => !r3 c))) (x : Int) = valR (cntQ (lineQ r0 r1 r2 r3)) (- (x : Int) - 1) := by
  rw [line_val, line_val]
  exact (rook_law r0 r1 r2 r3 hx).symm
end Mine
end
section
open PySem PySem.W PyProof.Rows PySem.W.X
namespace Mine
/-- the names of u's set places, the first of them named as place i -/
noncomputable def nmF : Nat → Nat → Nat → List Str
  | 0, _, _ => []
  | n + 1, i, u => if u % 2 = 1 then flagName i :: nmF n (i + 1) (u / 2) else nmF n (i + 1) (u / 2)
theorem nmF_zero : ∀ n i, nmF n i 0 = []
  | 0, _ => rfl
  | n + 1, i => by unfold nmF; simpa using nmF_zero n (i + 1)
theorem bit_at (i u : Nat) : (2 ^ i * u).testBit i = decide (u % 2 = 1) := by
  rw [Nat.testBit_two_pow_mul]
  simp [Nat.testBit_zero]
section
variable {w : World} {b1 b2 : Bool} {A : Around} {R : Result → Shared → Prop} {hB h : Heap} {gs : Array GenState} {dr : Drawn} {t0 N : Nat} {os : OsState}
theorem strValues_snoc (q : List (Str × Tok)) (s : Str) (t : Tok) : strValues q ++ [.str s t] = strValues (q ++ [(s, t)]) := by simp [strValues]
theorem pf_loop {it nl loc : Addr} {o : PFn} (hA : Okk A 600) : ∀ (n i u : Nat) (q : List (Str × Tok)) (ep : Nat) (tf : Tok) (x : Option (Int × Tok × Value × Int × Tok × Value)) (h : Heap) (t0 : Nat),
    i + n = 11 → 0 < u → u < 2 ^ n → q.length ≤ i → Tp (kP w b1 b2) h → Giv (kP w b1 b2) h (pfL it nl loc i (32 - i) (strValues q) ep o (2 ^ i * u) tf x) →
    (∀ h' t' oi tf' x' q' ep', q'.map (·.1) = q.map (·.1) ++ nmF n i u → Af h [(it, oi), (nl, oList (strValues q') ep'), (loc, oPF o 0 tf' nl (some x'))] [] h' → R (.ok .next) ⟨h', gs, dr, t', os⟩) →
    CA w b1 b2 A (cPF (PP w b1 b2) it loc) R ⟨h, gs, dr, t0, os⟩ := by
  intro n
  induction n with
  | zero => intro i u q ep tf x h t0 hin h0 hu; omega
  | succ n ih =>
    intro i u q ep tf x h t0 hin h0 hu hq T G kk
    have em : 32 - i = (31 - i) + 1 := by omega
    rw [em] at G
    have hz : (strValues q).length ≤ 1000 := by simp only [strValues, List.length_map]; omega
    have pw2 : 2 ^ (n + 1) = 2 * 2 ^ n := by rw [Nat.pow_succ]; omega
    have em2 : 31 - i = 32 - (i + 1) := by omega
    have eu : 2 ^ i * (2 * (u / 2)) = 2 ^ (i + 1) * (u / 2) := by rw [Nat.pow_succ, Nat.mul_assoc]
    by_cases hodd : u % 2 = 1
    · have hb : (2 ^ i * u).testBit i = true := by rw [bit_at, decide_eq_true hodd]
      have e1 : 2 ^ i * u - 2 ^ i = 2 ^ (i + 1) * (u / 2) := by
        rw [← eu]
        have : u = 2 * (u / 2) + 1 := by omega
        conv => lhs; rw [this]
        rw [Nat.mul_add, Nat.mul_one, Nat.add_sub_cancel]
      have nm : nmF (n + 1) i u = flagName i :: nmF n (i + 1) (u / 2) := by
        show (if u % 2 = 1 then _ else _) = _
        rw [if_pos hodd]
      by_cases hr : u / 2 = 0
      · refine pf_last (by omega) hA T G hb (by rw [e1, hr]; rfl) hz fun h' t' oi tfz xz tk x1 => ?_
        rw [strValues_snoc] at x1
        refine kk h' t' oi _ _ _ _ ?_ x1
        rw [List.map_append, nm, hr, nmF_zero]; rfl
      · have pos : 0 < 2 ^ (i + 1) * (u / 2) := Nat.mul_pos (Nat.two_pow_pos _) (by omega)
        obtain ⟨g, hg⟩ := Nat.exists_eq_add_of_lt pos
        have hg : 2 ^ (i + 1) * (u / 2) = g + 1 := by omega
        refine pf_more (by omega) hA T G hb (g := g) (by rw [e1]; exact hg) hz fun h' t' x' tk tf' x1 T1 G1 => ?_
        rw [strValues_snoc, ← hg, em2] at x1 G1
        refine ih (i + 1) (u / 2) _ _ _ _ h' t' (by omega) (by omega) (by omega) (by rw [List.length_append, List.length_singleton]; omega) T1 G1 fun h2 t2 oi tfz xz q2 ep2 e2 x2 => ?_
        refine kk h2 t2 oi _ _ q2 ep2 ?_ (x1.trans x2 rfl)
        rw [e2, nm, List.map_append, List.append_assoc]; rfl
    · have hb : (2 ^ i * u).testBit i = false := by rw [bit_at, decide_eq_false hodd]
      have e1 : 2 ^ i * u = 2 ^ (i + 1) * (u / 2) := by
        rw [← eu]
        have : u = 2 * (u / 2) := by omega
        conv => lhs; rw [this]
      have nm : nmF (n + 1) i u = nmF n (i + 1) (u / 2) := by
        show (if u % 2 = 1 then _ else _) = _
        rw [if_neg hodd]
      refine pf_unset hA T G hb (by omega) fun h' t' x' x1 T1 G1 => ?_
      rw [e1, em2] at x1 G1
      refine ih (i + 1) (u / 2) q ep _ _ h' t' (by omega) (by omega) (by omega) (by omega) T1 G1 fun h2 t2 oi tfz xz q2 ep2 e2 x2 => ?_
      exact kk h2 t2 oi _ _ q2 ep2 (by rw [e2, nm]) (x1.trans x2 rfl)
end
end Mine
end
section
open PySem PySem.W PyProof.Rows PySem.W.X
open PySem.Builtin.Str
namespace Mine
theorem fold_len2 (sep : Str) : ∀ (l : List Str) (n : Nat), l.foldl (fun (a : Nat) (x : Str) => a + x.length + sep.length) n = n + ((l.map (·.length)).sum + l.length * sep.length)
  | [], n => by simp
  | x :: l, n => by
    rw [List.foldl_cons, fold_len2 sep l]
    simp only [List.map_cons, List.sum_cons, List.length_cons, Nat.add_mul]
    omega
theorem sum_len_le {l : List Str} (hs : ∀ s ∈ l, s.length ≤ 20) : (l.map (·.length)).sum ≤ 20 * l.length := by
  induction l with
  | nil => simp
  | cons x l ih =>
    have := ih fun s h => hs s (List.mem_cons_of_mem _ h)
    have := hs x (List.mem_cons_self ..)
    simp only [List.map_cons, List.sum_cons, List.length_cons]
    omega
noncomputable def sCS : Str := ⟨#[44,32]⟩
section
variable {w : World} {b1 b2 : Bool} {A : Around} {R : Result → Shared → Prop} {hB h : Heap} {gs : Array GenState} {dr : Drawn} {t0 N : Nat} {os : OsState}
theorem lf_joinS {l : Addr} {q : List (Str × Tok)} {ep : Nat} {t : Tok} (hl : h.get? l = some (oList (strValues q) ep)) (hn : q.length ≤ 20) (hs : ∀ s ∈ q.map (·.1), s.length ≤ 20) (hN : h.objs.size = N)
    (k : ∀ h' tok tk, Af h [] [] h' → h'.objs.size = N → R (.ok (.ret (.str (glued sCS (q.map (·.1))) tok))) ⟨h', gs, dr, tk, os⟩) :
    CA w b1 b2 A (.call (.builtin "str.join") ⟨[.str sCS t, .ref l], []⟩) R ⟨h, gs, dr, t0, os⟩ := by
  have h2 : sizeLine = 16777216 := rfl
  have h3 : sCS.length = 2 := rfl
  have sl := sum_len_le hs
  have ln : (q.map (·.1)).length = q.length := by simp
  have hb : tooLong ((q.map (·.1)).toArray.foldl (· + ·.length + sCS.length) 0) = false := by
    have e : (q.map (·.1)).toArray.foldl (· + ·.length + sCS.length) 0 = 0 + (((q.map (·.1)).map (·.length)).sum + (q.map (·.1)).length * sCS.length) := by
      rw [← fold_len2]
      simp
    rw [e, h3]
    unfold tooLong
    apply decide_eq_false
    rw [h2]
    omega
  refine cut_meets F.slot_str_join (typeIs_str _ _ _) F.entry_str_join (F.args_str_join_2 _ _) (meets_str_join_list sCS t l q hb) ⟨⟨_, hl, rfl, _, rfl⟩, ?_⟩
  have big : (glued sCS (q.map (·.1))).length ≤ sizeLine := by
    rw [size_glued, h3]
    have : ((q.map (·.1)).map (·.length)).sum ≤ 20 * q.length := by rw [← ln]; exact sl
    omega
  match q, k, big with
  | [], k, big => exact ⟨big, k h _ _ (af_refl h) hN⟩
  | [p], k, big =>
    have := k h p.2 t0 (af_refl h) hN
    rw [List.map_cons, List.map_nil, glued_one] at this
    exact this
  | p :: r :: q, k, big => exact ⟨big, k h _ _ (af_refl h) hN⟩
theorem flagName_len (i : Nat) : (flagName i).length ≤ 20 := by
  unfold flagName
  split <;> decide
theorem nmF_len : ∀ n i u, (nmF n i u).length ≤ n ∧ ∀ s ∈ nmF n i u, s.length ≤ 20
  | 0, _, _ => ⟨Nat.le_refl _, fun _ h => (nomatch h)⟩
  | n + 1, i, u => by
    have ih := nmF_len n (i + 1) (u / 2)
    unfold nmF
    split
    · refine ⟨by rw [List.length_cons]; omega, fun s hs => ?_⟩
      rcases List.mem_cons.mp hs with rfl | hs
      · exact flagName_len i
      · exact ih.2 s hs
    · exact ⟨by omega, ih.2⟩
noncomputable def s0x0 : Str := ⟨#[48,120,48]⟩
theorem pf_all {it nl loc : Addr} {o : PFn} {u : Nat} {ep : Nat} {tf : Tok} (hA : Okk A 600) (h0 : 0 < u) (hu : u < 2 ^ 11) (T : Tp (kP w b1 b2) h) (G : Giv (kP w b1 b2) h (pfL it nl loc 0 32 [] ep o u tf none))
    (kk : ∀ h' t' oi tf' x' q' ep', q'.map (·.1) = nmF 11 0 u → Af h [(it, oi), (nl, oList (strValues q') ep'), (loc, oPF o 0 tf' nl (some x'))] [] h' → R (.ok .next) ⟨h', gs, dr, t', os⟩) :
    CA w b1 b2 A (cPF (PP w b1 b2) it loc) R ⟨h, gs, dr, t0, os⟩ := by
  have e : u = 2 ^ 0 * u := by rw [Nat.pow_zero, Nat.one_mul]
  refine pf_loop hA 11 0 u [] ep tf none h t0 rfl h0 hu (Nat.zero_le _) T (e ▸ G) fun h' t' oi tfz xz q' ep' e' x => kk h' t' oi _ _ q' ep' ?_ x
  rw [e']; rfl
theorem pretty_call {u : Nat} {tf : Tok} (h0 : 0 < u) (hu : u < 2 ^ 11) (hA : Okk A 550) (T : Tp (kP w b1 b2) h)
    (k : ∀ h' t' tok, Af h [] [] h' → R (.ok (.ret (.str (glued sCS (nmF 11 0 u)) tok))) ⟨h', gs, dr, t', os⟩) :
    CA w b1 b2 A (.call (.ref 39) ⟨[.int (u : Int) tf], []⟩) R ⟨h, gs, dr, t0, os⟩ := by
  revert b1
  refine @bothB _ ?_ ?_ <;> set_option tactic.hygienic false in intros
  all_goals (
  refine goC hA T (L := []) (show Giv (kP w b1 b2) h [] from ⟨fun _ hp => (nomatch hp), List.nodup_nil, fun _ hp => (nomatch hp)⟩) (by kernel_rfl) ?_; intro _ _ r
  refine cutS 600 4 (n := 56) (hs := [0,0,1,1,2,2,0,0,1,1,1,1,1,1,1,1,1,1,1]) (c := (cPF (PP w b1 b2) (h.objs.size + 3) (h.objs.size + 0))) (idx := [0,2,3]) (Lf := fun F => [((h.objs.size + 3), ⟨(.type "range_iterator"), Option.none, (.fields #[(.int 0 0), (.int 32 0), (.int 1 0)]), #[]⟩), ((h.objs.size + 1), oList [] 0), ((h.objs.size + 0), oFr [⟨hOf F 3 0, .str ⟨#[102,108,97,103,115]⟩ (kOf F 3 0), (.int (u : Int) tf)⟩, ⟨hOf F 3 1, .str ⟨#[110,97,109,101,115]⟩ (kOf F 3 1), (.ref (h.objs.size + 1))⟩] 2)]) r (by decide) (by kernel_rfl) ?_; intro h1 t1 r1 T1 G1 o1 z1
  obtain ⟨o, G1⟩ : ∃ o : PFn, Giv (kP w b1 b2) h1 (pfL (h.objs.size + 3) (h.objs.size + 1) (h.objs.size + 0) 0 32 [] 0 o u tf none) := ⟨⟨_, _, _, _⟩, G1⟩
  refine pf_all o1 h0 hu T1 G1 fun h2 t2 oi tf2 xz q2 ep2 e2 x2 => ?_
  obtain ⟨u1, u2, u3, u4, u5, u6⟩ := xz
  have z2 : h2.objs.size = h2.objs.size := rfl
  refine goS r1 _ [0,2,3] x2 z2 (by kernel_rfl) ?_; intro _ r2
  refine cutS 650 0 (n := 7) (hs := [4]) (c := ((.call (.builtin "str.join") ⟨[.str sCS t2, .ref (h.objs.size + 1)], []⟩))) (idx := [2]) (Lf := fun F => ([(h.objs.size + 1, oList (strValues q2) ep2)])) r2 (by decide) (by kernel_rfl) ?_; intro h3 t3 r3 T3 G3 o3 z3
  have ql := nmF_len 11 0 u
  rw [← e2] at ql
  refine lf_joinS (G3.nw _ (.head _)) (by have := ql.1; rw [List.length_map] at this; omega) ql.2 z3 ?_
  intro h4 tok t4 x4 z4
  refine goS r3 _ [] x4 z4 (by kernel_rfl) ?_; intro _ r4
  refine endS 0 (n := 1) (hs := []) (fl := (.ret (.str ⟨(List.foldl (fun acc p => acc ++ sCS.cps ++ p.cps) ((List.map (fun x => x.fst) q2).headD Str.empty).cps (List.drop 1 (List.map (fun x => x.fst) q2)))⟩ tok))) (q := 4) (idx := []) (idn := []) (Lf := fun F => []) (Nf := fun F => []) r4 (by decide) (by kernel_rfl) ?_; intro h5 t5 x5 z5
  rw [e2] at *
  exact k _ _ _ x5)
theorem pf_none {it nl loc : Addr} {o : PFn} {ep : Nat} {tf : Tok} (hA : Okk A 600) : ∀ (n i : Nat) (x : Option (Int × Tok × Value × Int × Tok × Value)) (h : Heap) (t0 : Nat), i + n = 32 → Tp (kP w b1 b2) h → Giv (kP w b1 b2) h (pfL it nl loc i n [] ep o 0 tf x) →
    (∀ h' t' oi x' tk, Af h [(it, oi), (nl, oList [.str s0x0 tk] (ep + 1)), (loc, oPF o 0 tf nl x')] [] h' → R (.ok .next) ⟨h', gs, dr, t', os⟩) →
    CA w b1 b2 A (cPF (PP w b1 b2) it loc) R ⟨h, gs, dr, t0, os⟩ := by
  intro n
  induction n with
  | zero =>
    intro i x h t0 hin T G kk
    revert b1
    refine @bothB _ ?_ ?_ <;> set_option tactic.hygienic false in intros
    all_goals (
    refine goC hA T G (by kernel_rfl) ?_; intro _ _ r
    obtain _ | ⟨u1, u2, u3, u4, u5, u6⟩ := x
    · refine cutS 750 2 (n := 36) (hs := [1,1,1,1,1,1,5,4,4,4,4,0,0,5]) (c := (.call (.builtin "list.append") ⟨[(.ref nl), (.str ⟨#[48,120,48]⟩ t0)], []⟩)) (idx := [3]) (Lf := fun F => [(nl, oList [] ep)]) r (by decide) (by kernel_rfl) ?_; intro h1 t1 r1 T1 G1 o1 z1
      refine lf_append (G1.nw _ (.head _)) (by decide) z1 ?_
      intro h4 x4 z4
      refine goS r1 _ [3] x4 z4 (by kernel_rfl) ?_; intro _ r4
      refine endS 0 (n := 1) (hs := []) (fl := .next) (q := 2) (idx := [2,3,4]) (idn := []) (Lf := fun F => [(it, ⟨(.type "range_iterator"), Option.none, (.fields #[(.int (i : Int) 0), (.int 0 0), (.int 1 0)]), #[]⟩), (nl, oList [(.str ⟨#[48,120,48]⟩ t0)] (ep + 1)), (loc, oFr [⟨(o.1), .str ⟨#[102,108,97,103,115]⟩ (o.2), (.int 0 tf)⟩, ⟨(o.3), .str ⟨#[110,97,109,101,115]⟩ (o.4), (.ref nl)⟩] 2)]) (Nf := fun F => []) r4 (by decide) (by kernel_rfl) ?_; intro h5 t5 x5 z5
      exact kk h5 t5 _ none _ x5
    · refine cutS 750 2 (n := 36) (hs := [1,1,1,1,1,1,5,4,4,4,4,0,0,5]) (c := (.call (.builtin "list.append") ⟨[(.ref nl), (.str ⟨#[48,120,48]⟩ t0)], []⟩)) (idx := [3]) (Lf := fun F => [(nl, oList [] ep)]) r (by decide) (by kernel_rfl) ?_; intro h1 t1 r1 T1 G1 o1 z1
      refine lf_append (G1.nw _ (.head _)) (by decide) z1 ?_
      intro h4 x4 z4
      refine goS r1 _ [3] x4 z4 (by kernel_rfl) ?_; intro _ r4
      refine endS 0 (n := 1) (hs := []) (fl := .next) (q := 2) (idx := [2,3,4]) (idn := []) (Lf := fun F => [(it, ⟨(.type "range_iterator"), Option.none, (.fields #[(.int (i : Int) 0), (.int 0 0), (.int 1 0)]), #[]⟩), (nl, oList [(.str ⟨#[48,120,48]⟩ t0)] (ep + 1)), (loc, oFr [⟨(o.1), .str ⟨#[102,108,97,103,115]⟩ (o.2), (.int 0 tf)⟩, ⟨(o.3), .str ⟨#[110,97,109,101,115]⟩ (o.4), (.ref nl)⟩, ⟨u1, .str ⟨#[105]⟩ u2, u3⟩, ⟨u4, .str ⟨#[102,108,97,103]⟩ u5, u6⟩] 4)]) (Nf := fun F => []) r4 (by decide) (by kernel_rfl) ?_; intro h5 t5 x5 z5
      exact kk h5 t5 _ (some (_, _, _, _, _, _)) _ x5)
  | succ n ih =>
    intro i x h t0 hin T G kk
    refine pf_unset hA T G (by simp) (by omega) fun h' t' x' x1 T1 G1 => ?_
    exact ih (i + 1) _ h' t' (by omega) T1 G1 fun h2 t2 oi x2 tk y => kk h2 t2 oi x2 tk (x1.trans y rfl)
theorem pretty_zero {tf : Tok} (hA : Okk A 550) (T : Tp (kP w b1 b2) h)
    (k : ∀ h' t' tok, Af h [] [] h' → R (.ok (.ret (.str s0x0 tok))) ⟨h', gs, dr, t', os⟩) :
    CA w b1 b2 A (.call (.ref 39) ⟨[.int 0 tf], []⟩) R ⟨h, gs, dr, t0, os⟩ := by
  revert b1
  refine @bothB _ ?_ ?_ <;> set_option tactic.hygienic false in intros
  all_goals (
  refine goC hA T (L := []) (show Giv (kP w b1 b2) h [] from ⟨fun _ hp => (nomatch hp), List.nodup_nil, fun _ hp => (nomatch hp)⟩) (by kernel_rfl) ?_; intro _ _ r
  refine cutS 600 4 (n := 56) (hs := [0,0,1,1,2,2,0,0,1,1,1,1,1,1,1,1,1,1,1]) (c := (cPF (PP w b1 b2) (h.objs.size + 3) (h.objs.size + 0))) (idx := [0,2,3]) (Lf := fun F => [((h.objs.size + 3), ⟨(.type "range_iterator"), Option.none, (.fields #[(.int 0 0), (.int 32 0), (.int 1 0)]), #[]⟩), ((h.objs.size + 1), oList [] 0), ((h.objs.size + 0), oFr [⟨hOf F 3 0, .str ⟨#[102,108,97,103,115]⟩ (kOf F 3 0), (.int 0 tf)⟩, ⟨hOf F 3 1, .str ⟨#[110,97,109,101,115]⟩ (kOf F 3 1), (.ref (h.objs.size + 1))⟩] 2)]) r (by decide) (by kernel_rfl) ?_; intro h1 t1 r1 T1 G1 o1 z1
  obtain ⟨o, G1⟩ : ∃ o : PFn, Giv (kP w b1 b2) h1 (pfL (h.objs.size + 3) (h.objs.size + 1) (h.objs.size + 0) 0 32 [] 0 o 0 tf none) := ⟨⟨_, _, _, _⟩, G1⟩
  refine pf_none o1 32 0 none _ _ rfl T1 G1 fun h2 t2 oi xz tk x2 => ?_
  have z2 : h2.objs.size = h2.objs.size := rfl
  obtain _ | ⟨u1, u2, u3, u4, u5, u6⟩ := xz
  · refine goS r1 _ [0,2,3] x2 z2 (by kernel_rfl) ?_; intro _ r2
    refine cutS 650 0 (n := 7) (hs := [4]) (c := ((.call (.builtin "str.join") ⟨[.str sCS t2, .ref (h.objs.size + 1)], []⟩))) (idx := [2]) (Lf := fun F => ([(h.objs.size + 1, oList [.str s0x0 tk] (0 + 1))])) r2 (by decide) (by kernel_rfl) ?_; intro h3 t3 r3 T3 G3 o3 z3
    refine lf_joinS (q := [(s0x0, tk)]) (G3.nw _ (.head _)) (by simp) (by intro s hs; rw [List.map_cons, List.map_nil, List.mem_singleton] at hs; subst hs; show s0x0.length ≤ 20; decide) z3 ?_
    intro h4 tok t4 x4 z4
    refine goS r3 _ [] x4 z4 (by kernel_rfl) ?_; intro _ r4
    refine endS 0 (n := 1) (hs := []) (fl := (.ret (.str ⟨#[48,120,48]⟩ tok))) (q := 4) (idx := []) (idn := []) (Lf := fun F => []) (Nf := fun F => []) r4 (by decide) (by kernel_rfl) ?_; intro h5 t5 x5 z5
    exact k _ _ _ x5
  · refine goS r1 _ [0,2,3] x2 z2 (by kernel_rfl) ?_; intro _ r2
    refine cutS 650 0 (n := 7) (hs := [4]) (c := ((.call (.builtin "str.join") ⟨[.str sCS t2, .ref (h.objs.size + 1)], []⟩))) (idx := [2]) (Lf := fun F => ([(h.objs.size + 1, oList [.str s0x0 tk] (0 + 1))])) r2 (by decide) (by kernel_rfl) ?_; intro h3 t3 r3 T3 G3 o3 z3
    refine lf_joinS (q := [(s0x0, tk)]) (G3.nw _ (.head _)) (by simp) (by intro s hs; rw [List.map_cons, List.map_nil, List.mem_singleton] at hs; subst hs; show s0x0.length ≤ 20; decide) z3 ?_
    intro h4 tok t4 x4 z4
    refine goS r3 _ [] x4 z4 (by kernel_rfl) ?_; intro _ r4
    refine endS 0 (n := 1) (hs := []) (fl := (.ret (.str ⟨#[48,120,48]⟩ tok))) (q := 4) (idx := []) (idn := []) (Lf := fun F => []) (Nf := fun F => []) r4 (by decide) (by kernel_rfl) ?_; intro h5 t5 x5 z5
    exact k _ _ _ x5)
/-- the name of the set c of columns, column 0 named as place s -/
noncomputable def nm (s c : Nat) : Str := if c = 0 then s0x0 else glued sCS (nmF 4 s c)
theorem nm_small : ∀ c, c < 16 → ∀ s, s < 8 → nmF 11 0 (c * 2 ^ s) = nmF 4 s c := by decide +kernel
theorem nm_pos : ∀ c, c < 16 → 0 < c → ∀ s, s < 8 → 0 < c * 2 ^ s ∧ c * 2 ^ s < 2 ^ 11 := by decide +kernel
theorem pretty {s c : Nat} {tf : Tok} (hs : s < 8) (hc : c < 16) (hA : Okk A 550) (T : Tp (kP w b1 b2) h)
    (k : ∀ h' t' tok, Af h [] [] h' → R (.ok (.ret (.str (nm s c) tok))) ⟨h', gs, dr, t', os⟩) :
    CA w b1 b2 A (.call (.ref 39) ⟨[.int ((c * 2 ^ s : Nat) : Int) tf], []⟩) R ⟨h, gs, dr, t0, os⟩ := by
  unfold nm at k
  by_cases h0 : c = 0
  · rw [if_pos h0] at k
    subst h0
    rw [Nat.zero_mul]
    exact pretty_zero hA T k
  · rw [if_neg h0] at k
    have p := nm_pos c hc (by omega) s hs
    rw [← nm_small c hc s hs] at k
    exact pretty_call p.1 p.2 hA T k
end
end Mine
end
section
open PySem PySem.W PyProof.Rows PySem.W.X
namespace Mine
theorem Af.lt {h h' : Heap} {L Nw : List (Addr × Obj)} (x : Af h L Nw h') : ∀ p ∈ Nw, p.1 < h'.objs.size := fun p hp => Heap.lt_size (x.nw p hp)
theorem Af.transN {h h1 h2 : Heap} {L1 N1 L2 N2 : List (Addr × Obj)} (x : Af h L1 N1 h1) (y : Af h1 L2 N2 h2) (e : L1.map (·.1) = L2.map (·.1)) (hl : ∀ p ∈ L1, p.1 < h.objs.size) : Af h L2 (N1 ++ N2) h2 := by
  have t := x.trans y e
  have keep : ∀ p ∈ N1, h2.get? p.1 = some p.2 := fun p hp => y.a.keep _ _ (x.nw p hp) fun q hq eq => by
    have : q.1 ∈ L1.map (·.1) := by rw [e]; exact List.mem_map_of_mem hq
    obtain ⟨z, hz, ez⟩ := List.mem_map.mp this
    have h1 := hl z hz
    have h2 := x.ge p hp
    have h3 : z.1 = p.1 := ez.trans eq
    exact Nat.lt_irrefl _ (Nat.lt_of_lt_of_le (h3 ▸ h1) h2)
  refine ⟨t.a, fun p hp => ?_, fun p hp => ?_, ?_⟩
  · rcases List.mem_append.mp hp with hp | hp
    · exact keep p hp
    · exact y.nw p hp
  · rcases List.mem_append.mp hp with hp | hp
    · exact x.ge p hp
    · exact t.ge p hp
  · rw [List.map_append, List.nodup_append]
    refine ⟨x.nd, y.nd, fun a ha b hb eab => ?_⟩
    obtain ⟨p, hp, ep⟩ := List.mem_map.mp ha
    obtain ⟨q, hq, eq⟩ := List.mem_map.mp hb
    have h1 := x.lt p hp
    have h2 := y.ge q hq
    have h3 : p.1 = q.1 := (ep.trans eab).trans eq.symm
    exact Nat.lt_irrefl _ (Nat.lt_of_lt_of_le (h3 ▸ h1) h2)
theorem Giv.lt {K : Nat → Option Obj} {h : Heap} {L : List (Addr × Obj)} (G : Giv K h L) : ∀ p ∈ L, p.1 < h.objs.size := fun p hp => Heap.lt_size (G.nw p hp)
section
variable {w : World} {b1 b2 : Bool} {A : Around} {R : Result → Shared → Prop} {hB h : Heap} {gs : Array GenState} {dr : Drawn} {t0 N : Nat} {os : OsState}
noncomputable abbrev ePairs (P : Params) : Expr := lawE P 8 []
noncomputable abbrev cPairs (P : Params) (it acc loc : Addr) : Code := cComp P (ePairs P) it acc loc [(sShift, 163)] 159
noncomputable abbrev prL (it acc loc : Addr) (s : Nat) (ts : Tok) (i m : Nat) (zs : List Value) (ep : Nat) (ox : Option (Int × Tok × Value)) : List (Addr × Obj) :=
  [(it, oRit i m), (acc, oList zs ep), (loc, oX sColumns ox), (163, oCell (.int (s : Int) ts))]
theorem pairs_turn {it acc loc : Addr} {s i m : Nat} {ts : Tok} {zs : List Value} {ep : Nat} {ox : Option (Int × Tok × Value)} (hs : s < 8) (hi : i < 16) (hA : Okk A 450) (T : Tp (kP w b1 b2) h)
    (G : Giv (kP w b1 b2) h (prL it acc loc s ts i (m + 1) zs ep ox)) (hz : zs.length ≤ 1000)
    (k : ∀ h' t' a tok ox', Af h (prL it acc loc s ts (i + 1) m (zs ++ [.ref a]) (ep + 1) (some ox')) [(a, oTup [.str (nm s i) tok, .str (nm s i) tok])] h' → Tp (kP w b1 b2) h' → Giv (kP w b1 b2) h' (prL it acc loc s ts (i + 1) m (zs ++ [.ref a]) (ep + 1) (some ox')) →
      CA w b1 b2 A (cPairs (PP w b1 b2) it acc loc) R ⟨h', gs, dr, t', os⟩) :
    CA w b1 b2 A (cPairs (PP w b1 b2) it acc loc) R ⟨h, gs, dr, t0, os⟩ := by
  revert b1
  refine @bothB _ ?_ ?_ <;> set_option tactic.hygienic false in intros
  all_goals (
  refine goC hA T G (by kernel_rfl) ?_; intro _ _ r
  obtain ⟨n, hn⟩ : ∃ n, h.objs.size = n + 164 := ⟨h.objs.size - 164, by have := G.lt (163, oCell (.int (s : Int) ts)) (.tail _ (.tail _ (.tail _ (.head _)))); have : 163 < h.objs.size := this; omega⟩
  rw [hn] at r
  obtain _ | ⟨u1, u2, u3⟩ := ox
  · refine cutS 550 0 (n := 28) (hs := [1,1,1,1,1,1,1,1,1,3,3,0,3,4]) (c := (.call (.builtin "int.__lshift__") ⟨[(.int (i : Int) t0), (.int (s : Int) ts)], []⟩)) (idx := []) (Lf := fun F => []) r (by decide) (by kernel_rfl) ?_; intro h1 t1 r1 T1 G1 o1 z1
    refine lf_lshift (a := i) (n := s) (by omega) (by omega) z1 ?_
    intro h2 a2 t2 x2 z2
    refine goS r1 _ [] x2 z2 (by kernel_rfl) ?_; intro _ r2
    refine cutS 550 3 (n := 45) (hs := [0,0,0,0,1,1,1,1,1,1,1,1,1,2,3,3,1,3,3,3,1,0]) (c := (.call (.ref 39) ⟨[(.int ((i * 2 ^ s) : Int) a2)], []⟩)) (idx := []) (Lf := fun F => []) r2 (by decide) (by kernel_rfl) ?_; intro h3 t3 r3 T3 G3 o3 z3
    refine pretty hs hi o3 T3 fun h4 t4 tok x4 => ?_
    have z4 : h4.objs.size = h4.objs.size := rfl
    refine goS r3 _ [] x4 z4 (by kernel_rfl) ?_; intro _ r4
    refine cutS 550 1 (n := 17) (hs := [2,2,2,2]) (c := (.call (.builtin "list.append") ⟨[(.ref acc), (.ref (h4.objs.size + 0))], []⟩)) (idx := [5]) (Lf := fun F => [(acc, oList zs ep)]) r4 (by decide) (by kernel_rfl) ?_; intro h5 t5 r5 T5 G5 o5 z5
    refine lf_append (G5.nw _ (.head _)) hz z5 ?_
    intro h6 x6 z6
    refine goS r5 _ [5] x6 z6 (by kernel_rfl) ?_; intro _ r6
    refine agS 0 (n := 0) (hs := []) (c := (cPairs (PP w b1 b2) it acc loc)) (q := 4) (idx := [4,5,6,7]) (idn := [0]) (Lf := fun F => ([(it, ⟨.type "range_iterator", none, .fields #[.int ((i + 1 : Nat) : Int) 0, .int (((m + 1 : Nat) : Int) - 1) 0, .int 1 0], #[]⟩), (acc, oList (zs ++ [.ref (h4.objs.size + 0)]) (ep + 1)), (loc, oD [⟨hOf F 6 0, .str sColumns (kOf F 6 0), .int (i : Int) t0⟩] 1), (163, oCell (.int (s : Int) ts))])) (Nf := fun F => ([(h4.objs.size + 0, oTup [.str (nm s i) tok, .str (nm s i) tok])])) r6 (by decide) (by kernel_rfl) ?_; intro h7 t7 x7 z7 T7 G7
    rw [show (((m + 1 : Nat) : Int) - 1) = (m : Int) by omega] at x7 G7
    exact k h7 t7 _ tok (_, _, _) x7 T7 ⟨fun p hp => G7.nw p (.tail _ hp), (List.nodup_cons.mp G7.nd).2, fun p hp => G7.sep p (.tail _ hp)⟩
  · refine cutS 550 0 (n := 28) (hs := [1,1,1,1,1,1,1,1,1,3,3,0,3,4]) (c := (.call (.builtin "int.__lshift__") ⟨[(.int (i : Int) t0), (.int (s : Int) ts)], []⟩)) (idx := []) (Lf := fun F => []) r (by decide) (by kernel_rfl) ?_; intro h1 t1 r1 T1 G1 o1 z1
    refine lf_lshift (a := i) (n := s) (by omega) (by omega) z1 ?_
    intro h2 a2 t2 x2 z2
    refine goS r1 _ [] x2 z2 (by kernel_rfl) ?_; intro _ r2
    refine cutS 550 3 (n := 45) (hs := [0,0,0,0,1,1,1,1,1,1,1,1,1,2,3,3,1,3,3,3,1,0]) (c := (.call (.ref 39) ⟨[(.int ((i * 2 ^ s) : Int) a2)], []⟩)) (idx := []) (Lf := fun F => []) r2 (by decide) (by kernel_rfl) ?_; intro h3 t3 r3 T3 G3 o3 z3
    refine pretty hs hi o3 T3 fun h4 t4 tok x4 => ?_
    have z4 : h4.objs.size = h4.objs.size := rfl
    refine goS r3 _ [] x4 z4 (by kernel_rfl) ?_; intro _ r4
    refine cutS 550 1 (n := 17) (hs := [2,2,2,2]) (c := (.call (.builtin "list.append") ⟨[(.ref acc), (.ref (h4.objs.size + 0))], []⟩)) (idx := [5]) (Lf := fun F => [(acc, oList zs ep)]) r4 (by decide) (by kernel_rfl) ?_; intro h5 t5 r5 T5 G5 o5 z5
    refine lf_append (G5.nw _ (.head _)) hz z5 ?_
    intro h6 x6 z6
    refine goS r5 _ [5] x6 z6 (by kernel_rfl) ?_; intro _ r6
    refine agS 0 (n := 0) (hs := []) (c := (cPairs (PP w b1 b2) it acc loc)) (q := 4) (idx := [4,5,6,7]) (idn := [0]) (Lf := fun F => ([(it, ⟨.type "range_iterator", none, .fields #[.int ((i + 1 : Nat) : Int) 0, .int (((m + 1 : Nat) : Int) - 1) 0, .int 1 0], #[]⟩), (acc, oList (zs ++ [.ref (h4.objs.size + 0)]) (ep + 1)), (loc, oD [⟨u1, .str sColumns u2, .int (i : Int) t0⟩] 1), (163, oCell (.int (s : Int) ts))])) (Nf := fun F => ([(h4.objs.size + 0, oTup [.str (nm s i) tok, .str (nm s i) tok])])) r6 (by decide) (by kernel_rfl) ?_; intro h7 t7 x7 z7 T7 G7
    rw [show (((m + 1 : Nat) : Int) - 1) = (m : Int) by omega] at x7 G7
    exact k h7 t7 _ tok (_, _, _) x7 T7 ⟨fun p hp => G7.nw p (.tail _ hp), (List.nodup_cons.mp G7.nd).2, fun p hp => G7.sep p (.tail _ hp)⟩)
end
end Mine
end
section
open PySem PySem.W PyProof.Rows PySem.W.X
namespace Mine
/-- the pairs made by a row of turns -/
noncomputable def tupL (s : Nat) : Nat → List (Addr × Tok) → List (Addr × Obj)
  | _, [] => []
  | i, p :: q => (p.1, oTup [.str (nm s i) p.2, .str (nm s i) p.2]) :: tupL s (i + 1) q
noncomputable def refsOf (q : List (Addr × Tok)) : List Value := q.map fun p => .ref p.1
noncomputable abbrev fl (f : Nat → Addr × Tok) : List (Addr × Tok) := [f 0, f 1, f 2, f 3, f 4, f 5, f 6, f 7, f 8, f 9, f 10, f 11, f 12, f 13, f 14, f 15]
noncomputable def atNo {α : Type} (d : α) : List α → Nat → α
  | [], _ => d
  | a :: _, 0 => a
  | _ :: l, n + 1 => atNo d l n
theorem fl_of {q : List (Addr × Tok)} (h : q.length = 16) : ∃ f, q = fl f := by
  refine ⟨fun i => q.getD i (0, 0), ?_⟩
  have e : q = (List.range 16).map fun i => q.getD i (0, 0) := by
    apply List.ext_getElem
    · rw [List.length_map, List.length_range, h]
    · intro i h1 h2
      rw [List.getElem_map, List.getElem_range, List.getD_eq_getElem?_getD, List.getElem?_eq_getElem h1]; rfl
  exact e
theorem Giv.ltk {K : Nat → Option Obj} {h : Heap} {L0 L : List (Addr × Obj)} (G : Giv K h L0) (e : L.map (·.1) = L0.map (·.1)) : ∀ p ∈ L, p.1 < h.objs.size := by
  intro p hp
  have : p.1 ∈ L0.map (·.1) := by rw [← e]; exact List.mem_map_of_mem hp
  obtain ⟨q, hq, eq⟩ := List.mem_map.mp this
  exact eq ▸ G.lt q hq
section
variable {w : World} {b1 b2 : Bool} {A : Around} {R : Result → Shared → Prop} {hB h : Heap} {gs : Array GenState} {dr : Drawn} {t0 N : Nat} {os : OsState}
theorem pairs_loop {it acc loc : Addr} {s : Nat} {ts : Tok} (hs : s < 8) (hA : Okk A 450) :
    ∀ (n i : Nat) (zs : List Value) (ep : Nat) (ox : Option (Int × Tok × Value)) (h : Heap) (t0 : Nat), i + n = 16 → zs.length ≤ i → Tp (kP w b1 b2) h → Giv (kP w b1 b2) h (prL it acc loc s ts i n zs ep ox) →
    (∀ h' t' q ep' oi ox', q.length = n → Af h [(it, oi), (acc, oList (zs ++ refsOf q) ep'), (loc, oX sColumns ox'), (163, oCell (.int (s : Int) ts))] (tupL s i q) h' → R (.ok .next) ⟨h', gs, dr, t', os⟩) →
    CA w b1 b2 A (cPairs (PP w b1 b2) it acc loc) R ⟨h, gs, dr, t0, os⟩ := by
  intro n
  induction n with
  | zero =>
    intro i zs ep ox h t0 hin hz T G kk
    have e0 : zs ++ refsOf [] = zs := List.append_nil _
    revert b1
    refine @bothB _ ?_ ?_ <;> set_option tactic.hygienic false in intros
    all_goals (
    refine goC hA T G (by kernel_rfl) ?_; intro _ _ r
    obtain _ | ⟨u1, u2, u3⟩ := ox
    · refine endS 2 (n := 14) (hs := [1,1,1,1,1,1]) (fl := (.next)) (q := 2) (idx := [2,3,4,5]) (idn := []) (Lf := fun F => ([(it, objOf F 2), (acc, oList zs ep), (loc, oX sColumns none), (163, oCell (.int (s : Int) ts))])) (Nf := fun F => ([])) r (by decide) (by kernel_rfl) ?_; intro h3 t3 x3 z3
      exact kk h3 t3 [] ep _ none rfl (by rw [e0]; exact x3)
    · refine endS 2 (n := 14) (hs := [1,1,1,1,1,1]) (fl := (.next)) (q := 2) (idx := [2,3,4,5]) (idn := []) (Lf := fun F => ([(it, objOf F 2), (acc, oList zs ep), (loc, oX sColumns (some (u1, u2, u3))), (163, oCell (.int (s : Int) ts))])) (Nf := fun F => ([])) r (by decide) (by kernel_rfl) ?_; intro h3 t3 x3 z3
      exact kk h3 t3 [] ep _ (some (u1, u2, u3)) rfl (by rw [e0]; exact x3))
  | succ n ih =>
    intro i zs ep ox h t0 hin hz T G kk
    refine pairs_turn hs (by omega) hA T G (by omega) fun h1 t1 a tok ox1 x1 T1 G1 => ?_
    refine ih (i + 1) _ _ _ h1 t1 (by omega) (by rw [List.length_append, List.length_singleton]; omega) T1 G1 fun h2 t2 q ep2 oi ox2 hq x2 => ?_
    refine kk h2 t2 ((a, tok) :: q) ep2 oi ox2 (by rw [List.length_cons, hq]) ?_
    have e : zs ++ [.ref a] ++ refsOf q = zs ++ refsOf ((a, tok) :: q) := by rw [List.append_assoc]; rfl
    rw [e] at x2
    exact x1.transN x2 rfl (G.ltk rfl)
theorem st8 {cE cD cT cRd od occ ocx tab : Obj} {s : Nat} {ts : Tok} {xs : List Value} {ep : Nat} {td cd cx : Addr} {D C : Value} {hd hc : Int} {kd kc : Tok} (hs : s < 8)
    (r : OkL w b1 b2 A R hB 8 ((td, od) :: (cd, occ) :: (cx, ocx) :: lawL tab [⟨hd, .str sDeal kd, D⟩, ⟨hc, .str sCells kc, C⟩] 2 oCell0 oCell0 cT cRd (oCell (.int (s : Int) ts)) cE cD xs ep) h N t0)
    (k : ∀ h' N' t' pl f epl hp kp, OkL w b1 b2 A R hB 9 ((pl, oList (refsOf (fl f)) epl) :: (tupL s 0 (fl f) ++ (td, od) :: (cd, occ) :: (cx, ocx) :: lawL tab [⟨hd, .str sDeal kd, D⟩, ⟨hc, .str sCells kc, C⟩, ⟨hp, .str sPairs kp, .ref pl⟩] 3 oCell0 oCell0 cT cRd (oCell (.int (s : Int) ts)) cE cD xs ep)) h' N' t' →
      GoL w b1 b2 A R 9 ((pl, oList (refsOf (fl f)) epl) :: (tupL s 0 (fl f) ++ (td, od) :: (cd, occ) :: (cx, ocx) :: lawL tab [⟨hd, .str sDeal kd, D⟩, ⟨hc, .str sCells kc, C⟩, ⟨hp, .str sPairs kp, .ref pl⟩] 3 oCell0 oCell0 cT cRd (oCell (.int (s : Int) ts)) cE cD xs ep)) ⟨h', gs, dr, t', os⟩) :
    GoL w b1 b2 A R 8 ((td, od) :: (cd, occ) :: (cx, ocx) :: lawL tab [⟨hd, .str sDeal kd, D⟩, ⟨hc, .str sCells kc, C⟩] 2 oCell0 oCell0 cT cRd (oCell (.int (s : Int) ts)) cE cD xs ep) ⟨h, gs, dr, t0, os⟩ := by
  revert b1
  refine @bothB _ ?_ ?_ <;> set_option tactic.hygienic false in intros
  all_goals (
  refine cutS 450 4 (n := 40) (hs := [0,0,1,1,1,1,1,1,1,1,1,1,1]) (c := (.compStart (ePairs (PP w b1 b2)) 0 (.ref (N + 1)) (.ref (N + 2)) (envL (PP w b1 b2) (ePairs (PP w b1 b2)) (N + 3) ([(sShift, 163)]) (159)))) (idx := [2,1,0,12]) (Lf := fun F => [((N + 1), ⟨(.type "range_iterator"), Option.none, (.fields #[(.int 0 0), (.int 16 0), (.int 1 0)]), #[]⟩), ((N + 2), oList [] 0), ((N + 3), oD [] 0), (163, ⟨(.type "cell"), Option.none, (.cell (Option.some (.int (s : Int) ts))), #[]⟩)]) r (by decide) (by kernel_rfl) ?_; intro h1 t1 r1 T1 G1 o1 z1
  refine comp_start (by kernel_rfl) (.range ⟨_, G1.nw _ (.head _), rfl⟩) ?_
  refine pairs_loop hs o1 16 0 [] 0 none h1 _ rfl (Nat.zero_le _) T1 G1 ?_
  intro h2 t2 q ep2 oi ox hq x2
  obtain ⟨f, rfl⟩ := fl_of hq
  have z2 : h2.objs.size = h2.objs.size := rfl
  refine goS r1 _ [2,1,0,12] x2 z2 (by kernel_rfl) ?_; intro _ r2
  obtain _ | ⟨u1, u2, u3⟩ := ox
  · refine toL 0 (n := 9) (hs := [24,24,17]) (T := restT (lawC (PP w b1 b2) 9)) (c := lawC (PP w b1 b2) 0) (dp := 351) (q := 32) (idx := [32,33]) (idn := [17,0,1,2,3,4,5,6,7,8,9,10,11,12,13,14,15,20,21,22,23,24,25,26,27,28,29,30,31]) (Lf := fun F => ([(130, tab), (158, oList xs ep)])) (Nf := fun F => ((N + 2, oList (refsOf (fl f)) ep2) :: (tupL s 0 (fl f) ++ (td, od) :: (cd, occ) :: (cx, ocx) :: [(159, oFr [⟨hd, .str sDeal kd, D⟩, ⟨hc, .str sCells kc, C⟩, ⟨hOf F 23 2, .str sPairs (kOf F 23 2), .ref (N + 2)⟩] 3), (167, oCell0), (166, oCell0), (165, cT), (164, cRd), (163, oCell (.int (s : Int) ts)), (162, cE), (161, cD), (160, oCell (.ref 158))]))) r2 (by decide) (by kernel_rfl) (by kernel_rfl) ?_; intro h3 t3 r3
    exact k _ _ _ (N + 2) f ep2 _ _ r3
  · refine toL 0 (n := 13) (hs := [24,24,17,17,17]) (T := restT (lawC (PP w b1 b2) 9)) (c := lawC (PP w b1 b2) 0) (dp := 351) (q := 32) (idx := [32,33]) (idn := [17,0,1,2,3,4,5,6,7,8,9,10,11,12,13,14,15,20,21,22,23,24,25,26,27,28,29,30,31]) (Lf := fun F => ([(130, tab), (158, oList xs ep)])) (Nf := fun F => ((N + 2, oList (refsOf (fl f)) ep2) :: (tupL s 0 (fl f) ++ (td, od) :: (cd, occ) :: (cx, ocx) :: [(159, oFr [⟨hd, .str sDeal kd, D⟩, ⟨hc, .str sCells kc, C⟩, ⟨hOf F 23 2, .str sPairs (kOf F 23 2), .ref (N + 2)⟩] 3), (167, oCell0), (166, oCell0), (165, cT), (164, cRd), (163, oCell (.int (s : Int) ts)), (162, cE), (161, cD), (160, oCell (.ref 158))]))) r2 (by decide) (by kernel_rfl) (by kernel_rfl) ?_; intro h3 t3 r3
    exact k _ _ _ (N + 2) f ep2 _ _ r3)
end
end Mine
end
section
open PySem PySem.W PyProof.Rows PySem.W.X
namespace Mine
noncomputable def qWd : Str := ⟨#[95,108,97,119,95,119,111,114,100,115,46,60,108,111,99,97,108,115,62,46]⟩
noncomputable def sMarks : Str := ⟨#[109,97,114,107,115]⟩
section
variable {w : World} {b1 b2 : Bool} {A : Around} {R : Result → Shared → Prop} {hB h : Heap} {gs : Array GenState} {dr : Drawn} {t0 N : Nat} {os : OsState}
theorem lf_extend {l b : Addr} {xs ys : List Value} {n1 n2 : Nat} (hl : h.get? l = some (oList xs n1)) (hb : h.get? b = some (oList ys n2)) (hne : ys.length ≠ 0) (hz : xs.length + ys.length ≤ 1000) (hN : h.objs.size = N)
    (k : ∀ h' tk, Af h [(l, oList (xs ++ ys) (n1 + 1))] [] h' → h'.objs.size = N → R (.ok (.ret .none)) ⟨h', gs, dr, tk, os⟩) :
    CA w b1 b2 A (.call (.builtin "list.extend") ⟨[.ref l, .ref b], []⟩) R ⟨h, gs, dr, t0, os⟩ := by
  have sl : 1001 ≤ sizeLine := by decide
  have hs : xs.toArray.size + ys.toArray.size ≤ sizeLine := by simp only [List.size_toArray]; omega
  have hc0 : ¬(!xs.toArray.isEmpty && Builtin.List.listTooLong (xs.toArray.size + ys.toArray.size)) = true := by
    have : Builtin.List.listTooLong (xs.toArray.size + ys.toArray.size) = false := by
      unfold Builtin.List.listTooLong
      apply decide_eq_false
      have : sizeLine = 16777216 := rfl
      omega
    rw [this, Bool.and_false]
    decide
  refine cut_meets F.slot_list_extend ⟨_, hl, rfl⟩ F.entry_list_extend (F.args_list_extend_2 _ _) (AutoSeq1.list_extend_list_list_0 l xs.toArray n1 b ys.toArray n2 hc0 (by omega) (by omega)) ⟨hl, hb, ?_⟩
  refine k _ _ ?_ ((Heap.SameBut.update ..).1.trans hN)
  have x := af_upd (g := Obj.mapSeq fun x => x ++ ys.toArray) hl rfl
  have e : Obj.mapSeq (fun x => x ++ ys.toArray) (oList xs n1) = oList (xs ++ ys) (n1 + 1) := by
    have : ys ≠ [] := fun e => hne (by rw [e]; rfl)
    simp [Obj.mapSeq, oList, this]
  rw [e] at x
  exact x
theorem lf_rshiftD {a c d : Nat} {t u : Tok} (hd : a / 2 ^ c = d) (hN : h.objs.size = N)
    (k : ∀ h' tok tk, Af h [] [] h' → h'.objs.size = N → R (.ok (.ret (.int (d : Int) tok))) ⟨h', gs, dr, tk, os⟩) :
    CA w b1 b2 A (.call (.builtin "int.__rshift__") ⟨[.int (a : Int) t, .int (c : Int) u], []⟩) R ⟨h, gs, dr, t0, os⟩ := by
  subst hd
  exact lf_rshift hN k
noncomputable abbrev eWords (P : Params) : Expr := exprOf (stmtNo (bodyAt P 140) 2)
noncomputable abbrev cWords (P : Params) (it acc loc fr cc cs cm : Addr) : Code := .compLoop (eWords P) 0 (.ref it) (.ref acc) (envC (eWords P) qWd loc [(sShift, cs), (sMarks, cm), (sColumns, cc)] (.ref 139) fr)
noncomputable abbrev wdL (it acc loc cc cs cm ml : Addr) (i m : Nat) (zs : List Value) (ep : Nat) (ox : Option (Int × Tok × Value)) (c : Nat) (tc : Tok) (s : Nat) (ts : Tok) (ms : List Value) (em : Nat) : List (Addr × Obj) :=
  [(it, oRit i m), (acc, oList zs ep), (loc, oX sK ox), (cc, oCell (.int (c : Int) tc)), (cs, oCell (.int (s : Int) ts)), (cm, oCell (.ref ml)), (ml, oList ms em)]
theorem and_one (u : Nat) : Builtin.bitAnd ((u : Nat) : Int) 1 = ((u % 2 : Nat) : Int) := by
  have := and_nat u 1
  rw [Nat.and_one_is_mod] at this
  exact this
theorem words_set {it acc loc fr cc cs cm ml : Addr} {i m : Nat} {zs : List Value} {ep : Nat} {ox : Option (Int × Tok × Value)} {c : Nat} {tc : Tok} {s : Nat} {ts : Tok} {ms : List Value} {em : Nat} {x : Value} (hA : Okk A 600) (T : Tp (kP w b1 b2) h)
    (G : Giv (kP w b1 b2) h (wdL it acc loc cc cs cm ml i (m + 1) zs ep ox c tc s ts ms em)) {d : Nat} (hd : c / 2 ^ i = d) (hb : d % 2 = 1) (hz : zs.length ≤ 1000) (hx : ms[i + s]? = some x) (hi : i + s < 1000)
    (k : ∀ h' t' ox', Af h (wdL it acc loc cc cs cm ml (i + 1) m (zs ++ [x]) (ep + 1) (some ox') c tc s ts ms em) [] h' → h'.objs.size = h.objs.size → Tp (kP w b1 b2) h' → Giv (kP w b1 b2) h' (wdL it acc loc cc cs cm ml (i + 1) m (zs ++ [x]) (ep + 1) (some ox') c tc s ts ms em) →
      CA w b1 b2 A (cWords (PP w b1 b2) it acc loc fr cc cs cm) R ⟨h', gs, dr, t', os⟩) :
    CA w b1 b2 A (cWords (PP w b1 b2) it acc loc fr cc cs cm) R ⟨h, gs, dr, t0, os⟩ := by
  revert b1
  refine @bothB _ ?_ ?_ <;> set_option tactic.hygienic false in intros
  all_goals (
  refine goC hA T G (by kernel_rfl) ?_; intro _ _ r
  obtain _ | ⟨u1, u2, u3⟩ := ox
  · refine cutS 650 0 (n := 26) (hs := [1,1,1,1,1,1,1,1,1,3,3,4,3]) (c := (.call (.builtin "int.__rshift__") ⟨[(.int (c : Int) tc), (.int (i : Int) t0)], []⟩)) (idx := []) (Lf := fun F => []) r (by decide) (by kernel_rfl) ?_; intro h1 t1 r1 T1 G1 o1 z1
    refine lf_rshiftD (a := c) (c := i) hd z1 ?_
    intro h2 a2 t2 x2 z2
    refine goS r1 _ [] x2 z2 (by kernel_rfl) ?_; intro _ r2
    refine cutS 650 0 (n := 2) (hs := []) (c := (.call (.builtin "int.__and__") ⟨[(.int (d : Int) a2), (.int 1 t2)], []⟩)) (idx := []) (Lf := fun F => []) r2 (by decide) (by kernel_rfl) ?_; intro h3 t3 r3 T3 G3 o3 z3
    refine lf_and (v := 1) (by rw [and_one, hb]; rfl) z3 ?_
    intro h4 a4 t4 x4 z4
    refine goS r3 _ [] x4 z4 (by kernel_rfl) ?_; intro _ r4
    refine cutS 650 0 (n := 21) (hs := [6,3,5,7,7,7]) (c := (.call (.builtin "list.__getitem__") ⟨[(.ref ml), (.int ((i + s) : Int) (t4 + 1))], []⟩)) (idx := [6]) (Lf := fun F => [(ml, oList ms em)]) r4 (by decide) (by kernel_rfl) ?_; intro h5 t5 r5 T5 G5 o5 z5
    refine lf_getitem (i := i + s) (G5.nw _ (.head _)) hx (by omega) z5 ?_
    intro h6 t6 x6 z6
    refine goS r5 _ [] x6 z6 (by kernel_rfl) ?_; intro _ r6
    refine cutS 650 0 (n := 0) (hs := []) (c := (.call (.builtin "list.append") ⟨[(.ref acc), x], []⟩)) (idx := [1]) (Lf := fun F => [(acc, oList zs ep)]) r6 (by decide) (by kernel_rfl) ?_; intro h7 t7 r7 T7 G7 o7 z7
    refine lf_append (G7.nw _ (.head _)) hz z7 ?_
    intro h8 x8 z8
    refine goS r7 _ [1] x8 z8 (by kernel_rfl) ?_; intro _ r8
    refine agS 0 (n := 0) (hs := []) (c := (cWords (PP w b1 b2) it acc loc fr cc cs cm)) (q := 0) (idx := [0,1,2,3,4,5,6]) (idn := []) (Lf := fun F => [(it, ⟨(.type "range_iterator"), Option.none, (.fields #[(.int ((i + 1) : Int) 0), (.int ((↑(m + 1) : Int) - 1) 0), (.int 1 0)]), #[]⟩), (acc, oList (zs ++ [x]) (ep + 1)), (loc, oD [⟨hOf F 2 0, .str ⟨#[107]⟩ (kOf F 2 0), (.int (i : Int) t0)⟩] 1), (cc, ⟨(.type "cell"), Option.none, (.cell (Option.some (.int (c : Int) tc))), #[]⟩), (cs, ⟨(.type "cell"), Option.none, (.cell (Option.some (.int (s : Int) ts))), #[]⟩), (cm, ⟨(.type "cell"), Option.none, (.cell (Option.some (.ref ml))), #[]⟩), (ml, oList ms em)]) (Nf := fun F => []) r8 (by decide) (by kernel_rfl) ?_; intro h9 t9 x9 z9 T9 G9
    rw [show ((↑(m + 1) : Int) - 1) = (m : Int) by omega] at x9 G9
    exact k h9 t9 (_, _, _) x9 z9 T9 G9
  · refine cutS 650 0 (n := 26) (hs := [1,1,1,1,1,1,1,1,1,3,3,4,3]) (c := (.call (.builtin "int.__rshift__") ⟨[(.int (c : Int) tc), (.int (i : Int) t0)], []⟩)) (idx := []) (Lf := fun F => []) r (by decide) (by kernel_rfl) ?_; intro h1 t1 r1 T1 G1 o1 z1
    refine lf_rshiftD (a := c) (c := i) hd z1 ?_
    intro h2 a2 t2 x2 z2
    refine goS r1 _ [] x2 z2 (by kernel_rfl) ?_; intro _ r2
    refine cutS 650 0 (n := 2) (hs := []) (c := (.call (.builtin "int.__and__") ⟨[(.int (d : Int) a2), (.int 1 t2)], []⟩)) (idx := []) (Lf := fun F => []) r2 (by decide) (by kernel_rfl) ?_; intro h3 t3 r3 T3 G3 o3 z3
    refine lf_and (v := 1) (by rw [and_one, hb]; rfl) z3 ?_
    intro h4 a4 t4 x4 z4
    refine goS r3 _ [] x4 z4 (by kernel_rfl) ?_; intro _ r4
    refine cutS 650 0 (n := 21) (hs := [6,3,5,7,7,7]) (c := (.call (.builtin "list.__getitem__") ⟨[(.ref ml), (.int ((i + s) : Int) (t4 + 1))], []⟩)) (idx := [6]) (Lf := fun F => [(ml, oList ms em)]) r4 (by decide) (by kernel_rfl) ?_; intro h5 t5 r5 T5 G5 o5 z5
    refine lf_getitem (i := i + s) (G5.nw _ (.head _)) hx (by omega) z5 ?_
    intro h6 t6 x6 z6
    refine goS r5 _ [] x6 z6 (by kernel_rfl) ?_; intro _ r6
    refine cutS 650 0 (n := 0) (hs := []) (c := (.call (.builtin "list.append") ⟨[(.ref acc), x], []⟩)) (idx := [1]) (Lf := fun F => [(acc, oList zs ep)]) r6 (by decide) (by kernel_rfl) ?_; intro h7 t7 r7 T7 G7 o7 z7
    refine lf_append (G7.nw _ (.head _)) hz z7 ?_
    intro h8 x8 z8
    refine goS r7 _ [1] x8 z8 (by kernel_rfl) ?_; intro _ r8
    refine agS 0 (n := 0) (hs := []) (c := (cWords (PP w b1 b2) it acc loc fr cc cs cm)) (q := 0) (idx := [0,1,2,3,4,5,6]) (idn := []) (Lf := fun F => [(it, ⟨(.type "range_iterator"), Option.none, (.fields #[(.int ((i + 1) : Int) 0), (.int ((↑(m + 1) : Int) - 1) 0), (.int 1 0)]), #[]⟩), (acc, oList (zs ++ [x]) (ep + 1)), (loc, oD [⟨u1, .str ⟨#[107]⟩ u2, (.int (i : Int) t0)⟩] 1), (cc, ⟨(.type "cell"), Option.none, (.cell (Option.some (.int (c : Int) tc))), #[]⟩), (cs, ⟨(.type "cell"), Option.none, (.cell (Option.some (.int (s : Int) ts))), #[]⟩), (cm, ⟨(.type "cell"), Option.none, (.cell (Option.some (.ref ml))), #[]⟩), (ml, oList ms em)]) (Nf := fun F => []) r8 (by decide) (by kernel_rfl) ?_; intro h9 t9 x9 z9 T9 G9
    rw [show ((↑(m + 1) : Int) - 1) = (m : Int) by omega] at x9 G9
    exact k h9 t9 (_, _, _) x9 z9 T9 G9)
theorem words_unset {it acc loc fr cc cs cm ml : Addr} {i m : Nat} {zs : List Value} {ep : Nat} {ox : Option (Int × Tok × Value)} {c : Nat} {tc : Tok} {s : Nat} {ts : Tok} {ms : List Value} {em : Nat} (hA : Okk A 600) (T : Tp (kP w b1 b2) h)
    (G : Giv (kP w b1 b2) h (wdL it acc loc cc cs cm ml i (m + 1) zs ep ox c tc s ts ms em)) {d : Nat} (hd : c / 2 ^ i = d) (hb : d % 2 = 0) (hz : zs.length ≤ 1000)
    (k : ∀ h' t' ox', Af h (wdL it acc loc cc cs cm ml (i + 1) m zs ep (some ox') c tc s ts ms em) [] h' → h'.objs.size = h.objs.size → Tp (kP w b1 b2) h' → Giv (kP w b1 b2) h' (wdL it acc loc cc cs cm ml (i + 1) m zs ep (some ox') c tc s ts ms em) →
      CA w b1 b2 A (cWords (PP w b1 b2) it acc loc fr cc cs cm) R ⟨h', gs, dr, t', os⟩) :
    CA w b1 b2 A (cWords (PP w b1 b2) it acc loc fr cc cs cm) R ⟨h, gs, dr, t0, os⟩ := by
  revert b1
  refine @bothB _ ?_ ?_ <;> set_option tactic.hygienic false in intros
  all_goals (
  refine goC hA T G (by kernel_rfl) ?_; intro _ _ r
  obtain _ | ⟨u1, u2, u3⟩ := ox
  · refine cutS 650 0 (n := 26) (hs := [1,1,1,1,1,1,1,1,1,3,3,4,3]) (c := (.call (.builtin "int.__rshift__") ⟨[(.int (c : Int) tc), (.int (i : Int) t0)], []⟩)) (idx := []) (Lf := fun F => []) r (by decide) (by kernel_rfl) ?_; intro h1 t1 r1 T1 G1 o1 z1
    refine lf_rshiftD (a := c) (c := i) hd z1 ?_
    intro h2 a2 t2 x2 z2
    refine goS r1 _ [] x2 z2 (by kernel_rfl) ?_; intro _ r2
    refine cutS 650 0 (n := 2) (hs := []) (c := (.call (.builtin "int.__and__") ⟨[(.int (d : Int) a2), (.int 1 t2)], []⟩)) (idx := []) (Lf := fun F => []) r2 (by decide) (by kernel_rfl) ?_; intro h3 t3 r3 T3 G3 o3 z3
    refine lf_and (v := 0) (by rw [and_one, hb]; rfl) z3 ?_
    intro h4 a4 t4 x4 z4
    refine goS r3 _ [] x4 z4 (by kernel_rfl) ?_; intro _ r4
    refine agS 0 (n := 6) (hs := []) (c := (cWords (PP w b1 b2) it acc loc fr cc cs cm)) (q := 0) (idx := [0,1,2,3,4,5,6]) (idn := []) (Lf := fun F => [(it, ⟨(.type "range_iterator"), Option.none, (.fields #[(.int ((i + 1) : Int) 0), (.int ((↑(m + 1) : Int) - 1) 0), (.int 1 0)]), #[]⟩), (acc, oList zs ep), (loc, oD [⟨hOf F 2 0, .str ⟨#[107]⟩ (kOf F 2 0), (.int (i : Int) t0)⟩] 1), (cc, ⟨(.type "cell"), Option.none, (.cell (Option.some (.int (c : Int) tc))), #[]⟩), (cs, ⟨(.type "cell"), Option.none, (.cell (Option.some (.int (s : Int) ts))), #[]⟩), (cm, ⟨(.type "cell"), Option.none, (.cell (Option.some (.ref ml))), #[]⟩), (ml, oList ms em)]) (Nf := fun F => []) r4 (by decide) (by kernel_rfl) ?_; intro h9 t9 x9 z9 T9 G9
    rw [show ((↑(m + 1) : Int) - 1) = (m : Int) by omega] at x9 G9
    exact k h9 t9 (_, _, _) x9 z9 T9 G9
  · refine cutS 650 0 (n := 26) (hs := [1,1,1,1,1,1,1,1,1,3,3,4,3]) (c := (.call (.builtin "int.__rshift__") ⟨[(.int (c : Int) tc), (.int (i : Int) t0)], []⟩)) (idx := []) (Lf := fun F => []) r (by decide) (by kernel_rfl) ?_; intro h1 t1 r1 T1 G1 o1 z1
    refine lf_rshiftD (a := c) (c := i) hd z1 ?_
    intro h2 a2 t2 x2 z2
    refine goS r1 _ [] x2 z2 (by kernel_rfl) ?_; intro _ r2
    refine cutS 650 0 (n := 2) (hs := []) (c := (.call (.builtin "int.__and__") ⟨[(.int (d : Int) a2), (.int 1 t2)], []⟩)) (idx := []) (Lf := fun F => []) r2 (by decide) (by kernel_rfl) ?_; intro h3 t3 r3 T3 G3 o3 z3
    refine lf_and (v := 0) (by rw [and_one, hb]; rfl) z3 ?_
    intro h4 a4 t4 x4 z4
    refine goS r3 _ [] x4 z4 (by kernel_rfl) ?_; intro _ r4
    refine agS 0 (n := 6) (hs := []) (c := (cWords (PP w b1 b2) it acc loc fr cc cs cm)) (q := 0) (idx := [0,1,2,3,4,5,6]) (idn := []) (Lf := fun F => [(it, ⟨(.type "range_iterator"), Option.none, (.fields #[(.int ((i + 1) : Int) 0), (.int ((↑(m + 1) : Int) - 1) 0), (.int 1 0)]), #[]⟩), (acc, oList zs ep), (loc, oD [⟨u1, .str ⟨#[107]⟩ u2, (.int (i : Int) t0)⟩] 1), (cc, ⟨(.type "cell"), Option.none, (.cell (Option.some (.int (c : Int) tc))), #[]⟩), (cs, ⟨(.type "cell"), Option.none, (.cell (Option.some (.int (s : Int) ts))), #[]⟩), (cm, ⟨(.type "cell"), Option.none, (.cell (Option.some (.ref ml))), #[]⟩), (ml, oList ms em)]) (Nf := fun F => []) r4 (by decide) (by kernel_rfl) ?_; intro h9 t9 x9 z9 T9 G9
    rw [show ((↑(m + 1) : Int) - 1) = (m : Int) by omega] at x9 G9
    exact k h9 t9 (_, _, _) x9 z9 T9 G9)
end
end Mine
end
section
open PySem PySem.W PyProof.Rows PySem.W.X PySem.SeqAt PySem.Builtin.Str
namespace Mine
theorem eq_empty {prog : Program} {w : World} {A : Around} {E Q : Value → Shared → Prop} {s : Shared} {l b : Addr} {n1 n2 : Nat} (hl : s.heap.get? l = some (oList [] n1)) (hb : s.heap.get? b = some (oList [] n2)) (hu : A.units < cLine)
    (h : Q (.bool true) s) : wpAny (model prog w) A (compareOp .Eq (.ref l) (.ref b)) Q E s := by
  refine richCompare_meets_room (op := .Eq) ⟨_, hl, rfl⟩ ⟨_, hb, rfl⟩ F.slot_list_eq F.entry_list_eq (F.args_list_eq_2 _ _) (list_eqAt l b #[] #[] n1 n2 none none #[] #[] rfl fun _ => true) ⟨hl, hb, fun j h1 => absurd h1 (Nat.not_lt_zero j), ?_⟩ hu
  exact ⟨fun x => (nomatch x), h⟩
theorem eq_sizes {prog : Program} {w : World} {A : Around} {E Q : Value → Shared → Prop} {s : Shared} {l b : Addr} {xs ys : List Value} {n1 n2 : Nat} (hl : s.heap.get? l = some (oList xs n1)) (hb : s.heap.get? b = some (oList ys n2)) (hne : xs.length ≠ ys.length) (hu : A.units < cLine)
    (h : Q (.bool false) s) : wpAny (model prog w) A (compareOp .Eq (.ref l) (.ref b)) Q E s := by
  refine richCompare_meets_room (op := .Eq) ⟨_, hl, rfl⟩ ⟨_, hb, rfl⟩ F.slot_list_eq F.entry_list_eq (F.args_list_eq_2 _ _) (AutoSeq1.list___eq___list_list_0 l xs.toArray n1 b ys.toArray n2 (by simpa using hne)) ⟨hl, hb, ?_⟩ hu
  exact ⟨fun x => (nomatch x), h⟩
section
variable {w : World} {b1 b2 : Bool} {A : Around} {R : Result → Shared → Prop} {hB h : Heap} {gs : Array GenState} {dr : Drawn} {t0 N : Nat} {os : OsState}
theorem words_loop {it acc loc fr cc cs cm ml : Addr} {c : Nat} {tc : Tok} {s : Nat} {ts : Tok} {mq : List (Str × Tok)} {em : Nat} (hs : s < 8) (hm : mq.map (·.1) = (List.range 11).map flagName) (hA : Okk A 600) :
    ∀ (n i : Nat) (q : List (Str × Tok)) (ep : Nat) (ox : Option (Int × Tok × Value)) (h : Heap) (t0 : Nat), i + n = 4 → (n = 0 → ∃ p, ox = some p) → q.length ≤ i → Tp (kP w b1 b2) h → Giv (kP w b1 b2) h (wdL it acc loc cc cs cm ml i n (strValues q) ep ox c tc s ts (strValues mq) em) →
    (∀ h' t' q' ep' oi ox', q'.map (·.1) = q.map (·.1) ++ nmF n (i + s) (c / 2 ^ i) → Af h [(it, oi), (acc, oList (strValues q') ep'), (loc, oX sK (some ox')), (cc, oCell (.int (c : Int) tc)), (cs, oCell (.int (s : Int) ts)), (cm, oCell (.ref ml)), (ml, oList (strValues mq) em)] [] h' → h'.objs.size = h.objs.size + 2 → R (.ok .next) ⟨h', gs, dr, t', os⟩) →
    CA w b1 b2 A (cWords (PP w b1 b2) it acc loc fr cc cs cm) R ⟨h, gs, dr, t0, os⟩ := by
  intro n
  induction n with
  | zero =>
    intro i q ep ox h t0 hin hp hq T G kk
    revert b1
    refine @bothB _ ?_ ?_ <;> set_option tactic.hygienic false in intros
    all_goals (
    refine goC hA T G (by kernel_rfl) ?_; intro _ _ r
    obtain ⟨⟨u1, u2, u3⟩, rfl⟩ := hp rfl
    refine endS 2 (n := 14) (hs := [1,1,1,1,1,1]) (fl := .next) (q := 2) (idx := [2,3,4,5,6,7,8]) (idn := []) (Lf := fun F => [(it, ⟨(.type "range_iterator"), Option.none, (.fields #[(.int (i : Int) 0), (.int 0 0), (.int 1 0)]), #[]⟩), (acc, oList (strValues q) ep), (loc, oD [⟨u1, .str ⟨#[107]⟩ u2, u3⟩] 1), (cc, ⟨(.type "cell"), Option.none, (.cell (Option.some (.int (c : Int) tc))), #[]⟩), (cs, ⟨(.type "cell"), Option.none, (.cell (Option.some (.int (s : Int) ts))), #[]⟩), (cm, ⟨(.type "cell"), Option.none, (.cell (Option.some (.ref ml))), #[]⟩), (ml, oList (strValues mq) em)]) (Nf := fun F => []) r (by decide) (by kernel_rfl) ?_; intro h3 t3 x3 z3
    exact kk h3 t3 q ep _ (_, _, _) (by rw [show nmF 0 (i + s) (c / 2 ^ i) = [] from rfl, List.append_nil]) x3 z3)
  | succ n ih =>
    intro i q ep ox h t0 hin hp hq T G kk
    have ed : c / 2 ^ i / 2 = c / 2 ^ (i + 1) := by rw [Nat.div_div_eq_div_mul, ← Nat.pow_succ]
    have hz : (strValues q).length ≤ 1000 := by simp only [strValues, List.length_map]; omega
    have e1 : i + s + 1 = i + 1 + s := by omega
    by_cases hodd : c / 2 ^ i % 2 = 1
    · have hx : ∃ tk, (strValues mq)[i + s]? = some (.str (flagName (i + s)) tk) := by
        have hl : mq.length = 11 := by have := congrArg List.length hm; simpa using this
        have hlt : i + s < mq.length := by omega
        refine ⟨mq[i + s].2, ?_⟩
        have e2 : mq[i + s].1 = flagName (i + s) := by
          have := congrArg (fun l => l[i + s]?) hm
          simp only [List.getElem?_map, List.getElem?_eq_getElem hlt, Option.map_some] at this
          rw [List.getElem?_range (by omega)] at this
          simpa using this
        rw [← e2]
        simp [strValues, hlt]
      obtain ⟨tk, hx⟩ := hx
      refine words_set hA T G rfl hodd hz hx (by omega) fun h' t' x' x1 z1 T1 G1 => ?_
      have e : strValues q ++ [.str (flagName (i + s)) tk] = strValues (q ++ [(flagName (i + s), tk)]) := by simp [strValues]
      rw [e] at x1 G1
      refine ih (i + 1) _ _ _ h' t' (by omega) (fun _ => ⟨_, rfl⟩) (by rw [List.length_append, List.length_singleton]; omega) T1 G1 fun h2 t2 q2 ep2 oi ox2 e2 x2 z2 => ?_
      refine kk h2 t2 q2 ep2 oi ox2 ?_ (x1.trans x2 rfl) (z2.trans (by rw [z1]))
      rw [e2]
      show _ = _ ++ (if c / 2 ^ i % 2 = 1 then _ else _)
      rw [if_pos hodd, ed, e1, List.map_append, List.append_assoc]; rfl
    · refine words_unset hA T G rfl (by omega) hz fun h' t' x' x1 z1 T1 G1 => ?_
      refine ih (i + 1) _ _ _ h' t' (by omega) (fun _ => ⟨_, rfl⟩) (by omega) T1 G1 fun h2 t2 q2 ep2 oi ox2 e2 x2 z2 => ?_
      refine kk h2 t2 q2 ep2 oi ox2 ?_ (x1.trans x2 rfl) (z2.trans (by rw [z1]))
      rw [e2]
      show _ = _ ++ (if c / 2 ^ i % 2 = 1 then _ else _)
      rw [if_neg hodd, ed, e1]
noncomputable def sWords : Str := ⟨#[119,111,114,100,115]⟩
noncomputable abbrev envWd (P : Params) (N : Nat) : Env := { scope := scopeAt P 140, locals := N + 0, globals := 3, cells := [(sMarks, N + 3), (sShift, N + 2), (sColumns, N + 1)], qual := qWd, func := some 140, code := .ref 139, frame := some (N + 0) }
noncomputable abbrev wdC (P : Params) (N n : Nat) : Code := .func (dropS n (bodyAt P 140)) (envWd P N)
noncomputable abbrev sIf (P : Params) : Stmt := stmtNo (bodyAt P 140) 3
noncomputable abbrev eIf (P : Params) (i : Nat) : Expr := kid (exprOf (sIf P)) i
noncomputable def retE : List Stmt → Expr
  | [.Return (some e) _] => e
  | _ => noExpr
noncomputable def retP : List Stmt → Pos
  | [.Return (some _) p] => p
  | _ => ⟨0, 0, 0, 0⟩
theorem retA {T0 : Tp (kP w b1 b2) hB} {A' : Around} {v : Value} {gs : Array GenState} {dr : Drawn} {t0 : Nat} {os : OsState} (x : Af hB [] [] h) (hR : R (.ok (.ret v)) ⟨h, gs, dr, t0, os⟩) : wpAny (model pw (Wf w b1 b2)) A' (finT (.ret v)) (gC pw (Wf w b1 b2) A R) (eC R) ⟨h, gs, dr, t0, os⟩ :=
  wpAny_pure ⟨(T0.aft x.a (kt_two _) (fun _ hp => (nomatch hp))).lim, hR⟩
theorem restL {ks : List Addr} {c : Code} {dp d t : Nat} {L : List (Addr × Obj)} {T : Sem PySem.Fin} (l : Ld w b1 b2 A d hB ks c dp L h N t)
    (k : Ok w b1 b2 A R d hB ks ⟨c, [], T, dp, 0, 0, L⟩ h N t → MnS w b1 b2 A R ⟨c, [], T, dp, 0, 0, L⟩ ⟨h, gs, dr, t, os⟩) : wpAny (model pw (Wf w b1 b2)) (A.under c) T (gC pw (Wf w b1 b2) A R) (eC R) ⟨h, gs, dr, t, os⟩ := k l.ok
theorem nmF_pos : ∀ c, c < 16 → 0 < c → ∀ s, s < 8 → (nmF 4 s c).length ≠ 0 := by decide +kernel
theorem words_fin {N N' : Nat} {s c : Nat} {q : List (Str × Tok)} {epq : Nat} {hw : Int} {kw : Tok} (hs : s < 8) (hc : c < 16) (hq : q.map (·.1) = nmF 4 s c) (hu : A.units ≤ 9500) (T0 : Tp (kP w b1 b2) hB)
    (r : Ok w b1 b2 A R 550 hB [] ⟨wdC (PP w b1 b2) N 0, [], restT (wdC (PP w b1 b2) N 3), 551, 0, 0, [(N + 8, oList (strValues q) epq), (N + 0, oFr [⟨hw, .str sWords kw, .ref (N + 8)⟩] 1)]⟩ h N' t0)
    (k : ∀ h' t' tok, Af hB [] [] h' → R (.ok (.ret (.str (nm s c) tok))) ⟨h', gs, dr, t', os⟩) :
    MnS w b1 b2 A R ⟨wdC (PP w b1 b2) N 0, [], restT (wdC (PP w b1 b2) N 3), 551, 0, 0, [(N + 8, oList (strValues q) epq), (N + 0, oFr [⟨hw, .str sWords kw, .ref (N + 8)⟩] 1)]⟩ ⟨h, gs, dr, t0, os⟩ := by
  have l5 := r.ld
  show wpAny (model pw (Wf w b1 b2)) (A.under (wdC (PP w b1 b2) N 0)) (restT (.func (dropS 3 (bodyAt (PP w b1 b2) 140)) (envWd (PP w b1 b2) N))) (gC pw (Wf w b1 b2) A R) (eC R) _
  have e3 : dropS 3 (bodyAt (PP w b1 b2) 140) = sIf (PP w b1 b2) :: dropS 4 (bodyAt (PP w b1 b2) 140) := by kernel_rfl
  rw [e3]
  refine stmtW ?_
  have e : sIf (PP w b1 b2) = .If (.Compare (eIf (PP w b1 b2) 0) [.Eq] [eIf (PP w b1 b2) 1] (posOfE (exprOf (sIf (PP w b1 b2))))) [.Return (some (retE (ifBody (sIf (PP w b1 b2))))) (retP (ifBody (sIf (PP w b1 b2))))] [] (posOfS (sIf (PP w b1 b2))) := by kernel_rfl
  rw [e]
  have un : (A.under (wdC (PP w b1 b2) N 0)).units = A.units + 3 := rfl
  have cl : cLine = 9900 := rfl
  refine wpAny_If (wpAny_isTrue_Compare1 ?_ (by kernel_rfl))
  refine evL l5 fun r6 => ?_
  revert b1
  refine @bothB _ ?_ ?_ <;> set_option tactic.hygienic false in intros
  all_goals (
  refine enS 0 (n := 2) (hs := [2]) (v := (.ref (N + 8))) (c := (wdC (PP w b1 b2) N 0)) (dp := 551) (q := 2) (idx := []) (idn := [0,1]) (Lf := fun F => ([])) (Nf := fun F => ([(N + 8, oList (strValues q) epq), (N + 0, oFr [⟨hw, .str sWords kw, .ref (N + 8)⟩] 1)])) r6 (by decide) (by kernel_rfl) (by kernel_rfl) ?_; intro h6 t6 l6
  refine evL l6 fun r7 => ?_
  refine enS 1 (n := 2) (hs := []) (v := (.ref N')) (c := (wdC (PP w b1 b2) N 0)) (dp := 551) (q := 3) (idx := []) (idn := [0,1,2]) (Lf := fun F => ([])) (Nf := fun F => ([(N' + 0, oList [] 0), (N + 8, oList (strValues q) epq), (N + 0, oFr [⟨hw, .str sWords kw, .ref (N + 8)⟩] 1)])) r7 (by decide) (by kernel_rfl) (by kernel_rfl) ?_; intro h7 t7 l7
  by_cases h0 : c = 0
  · subst h0
    have q0 : q = [] := by
      rw [nmF_zero] at hq
      exact List.map_eq_nil_iff.mp hq
    subst q0
    refine eq_empty (l7.get (i := 1) rfl) (l7.get (i := 0) rfl) (by rw [un]; omega) ?_
    refine wpAny_truthy_bool ?_
    try dsimp only
    rw [if_pos rfl]
    refine wpAny_execs_cons (wpAny_Return_some ?_)
    refine evL l7 fun r8 => ?_
    refine endS 0 (n := 1) (hs := []) (fl := (.ret (.str ⟨#[48,120,48]⟩ t7))) (q := 3) (idx := []) (idn := []) (Lf := fun F => []) (Nf := fun F => []) r8 (by decide) (by kernel_rfl) ?_; intro h8 t8 x8 z8
    exact retA (T0 := T0) x8 (k _ _ _ x8)
  · have ne := nmF_pos c hc (by omega) s hs
    refine eq_sizes (l7.get (i := 1) rfl) (l7.get (i := 0) rfl) ?_ (by rw [un]; omega) ?_
    · rw [← hq] at ne
      simp only [strValues, List.length_map, List.length_nil] at ne ⊢
      exact ne
    refine wpAny_truthy_bool ?_
    try dsimp only
    rw [if_neg (by decide)]
    refine wpAny_execs_nil ?_
    refine restL l7 fun r8 => ?_
    refine cutS 600 0 (n := 7) (hs := [3]) (c := ((.call (.builtin "str.join") ⟨[.str sCS t7, .ref (N + 8)], []⟩))) (idx := [1]) (Lf := fun F => ([(N + 8, oList (strValues q) epq)])) r8 (by decide) (by kernel_rfl) ?_; intro h9 t9 r9 T9 G9 o9 z9
    have ql := nmF_len 4 s c
    rw [← hq] at ql
    refine lf_joinS (G9.nw _ (.head _)) (by have := ql.1; rw [List.length_map] at this; omega) ql.2 z9 ?_
    intro h10 tok t10 x10 z10
    refine goS r9 _ [] x10 z10 (by kernel_rfl) ?_; intro _ r10
    refine endS 0 (n := 1) (hs := []) (fl := (.ret (.str ⟨(List.foldl (fun acc p => acc ++ sCS.cps ++ p.cps) ((List.map (fun x => x.fst) q).headD Str.empty).cps (List.drop 1 (List.map (fun x => x.fst) q)))⟩ tok))) (q := 3) (idx := []) (idn := []) (Lf := fun F => []) (Nf := fun F => []) r10 (by decide) (by kernel_rfl) ?_; intro h11 t11 x11 z11
    have e2 : glued sCS (q.map (·.1)) = nm s c := by unfold nm; rw [if_neg h0, hq]
    rw [← e2] at k
    exact k _ _ _ x11)
theorem words_call {s c : Nat} {ts tc : Tok} (hs : s < 8) (hc : c < 16) (hA : Okk A 550) (hu : A.units ≤ 9500) (T : Tp (kP w b1 b2) h)
    (k : ∀ h' t' tok, Af h [] [] h' → R (.ok (.ret (.str (nm s c) tok))) ⟨h', gs, dr, t', os⟩) :
    CA w b1 b2 A (.call (.ref 140) ⟨[.int (c : Int) tc, .int (s : Int) ts], []⟩) R ⟨h, gs, dr, t0, os⟩ := by
  revert b1
  refine @bothB _ ?_ ?_ <;> set_option tactic.hygienic false in intros
  all_goals (
  refine goC hA T (L := []) (show Giv (kP w b1 b2) h [] from ⟨fun _ hp => (nomatch hp), List.nodup_nil, fun _ hp => (nomatch hp)⟩) (by kernel_rfl) ?_; intro _ _ r
  obtain ⟨N, hN⟩ : ∃ N, h.objs.size = N := ⟨_, rfl⟩
  rw [hN] at r
  refine cutS 600 6 (n := 43) (hs := [0,0,3,3,2,2,2,2,2,1,1,1,1]) (c := (.call (.builtin "list.extend") ⟨[(.ref (N + 4)), (.ref (N + 5))], []⟩)) (idx := [0,1]) (Lf := fun F => [((N + 5), oList [(.str ⟨#[71,69,78,69,82,65,84,79,82]⟩ (t0 + 5)), (.str ⟨#[78,79,70,82,69,69]⟩ (t0 + 6)), (.str ⟨#[67,79,82,79,85,84,73,78,69]⟩ (t0 + 7)), (.str ⟨#[73,84,69,82,65,66,76,69,95,67,79,82,79,85,84,73,78,69]⟩ (t0 + 8)), (.str ⟨#[65,83,89,78,67,95,71,69,78,69,82,65,84,79,82]⟩ (t0 + 9)), (.str ⟨#[48,120,52,48,48]⟩ (t0 + 10))] 0), ((N + 4), oList [(.str ⟨#[79,80,84,73,77,73,90,69,68]⟩ t0), (.str ⟨#[78,69,87,76,79,67,65,76,83]⟩ (t0 + 1)), (.str ⟨#[86,65,82,65,82,71,83]⟩ (t0 + 2)), (.str ⟨#[86,65,82,75,69,89,87,79,82,68,83]⟩ (t0 + 3)), (.str ⟨#[78,69,83,84,69,68]⟩ (t0 + 4))] 0)]) r (by decide) (by kernel_rfl) ?_; intro h1 t1 r1 T1 G1 o1 z1
  refine lf_extend (G1.nw _ (.tail _ (.head _))) (G1.nw _ (.head _)) (by simp) (by simp) z1 ?_
  intro h2 t2 x2 z2
  refine goS r1 _ [1] x2 z2 (by kernel_rfl) ?_; intro _ r2
  refine cutS 600 4 (n := 41) (hs := [0,0,1,1,1,1,1,1,1,1,1,1,1]) (c := (.compStart (eWords (PP w b1 b2)) 0 (.ref (N + 7)) (.ref (N + 8)) (envC (eWords (PP w b1 b2)) qWd (N + 9) [(sShift, N + 2), (sMarks, N + 3), (sColumns, N + 1)] (.ref 139) (N + 0)))) (idx := [2,1,0,8,7,6,5]) (Lf := fun F => [((N + 6 + 1), ⟨(.type "range_iterator"), Option.none, (.fields #[(.int 0 0), (.int 4 0), (.int 1 0)]), #[]⟩), ((N + 6 + 2), oList [] 0), ((N + 6 + 3), oD [] 0), ((N + 1), ⟨(.type "cell"), Option.none, (.cell (Option.some (.int (c : Int) tc))), #[]⟩), ((N + 2), ⟨(.type "cell"), Option.none, (.cell (Option.some (.int (s : Int) ts))), #[]⟩), ((N + 3), ⟨(.type "cell"), Option.none, (.cell (Option.some (.ref (N + 4)))), #[]⟩), ((N + 4), oList [(.str ⟨#[79,80,84,73,77,73,90,69,68]⟩ t0), (.str ⟨#[78,69,87,76,79,67,65,76,83]⟩ (t0 + 1)), (.str ⟨#[86,65,82,65,82,71,83]⟩ (t0 + 2)), (.str ⟨#[86,65,82,75,69,89,87,79,82,68,83]⟩ (t0 + 3)), (.str ⟨#[78,69,83,84,69,68]⟩ (t0 + 4)), (.str ⟨#[71,69,78,69,82,65,84,79,82]⟩ (t0 + 5)), (.str ⟨#[78,79,70,82,69,69]⟩ (t0 + 6)), (.str ⟨#[67,79,82,79,85,84,73,78,69]⟩ (t0 + 7)), (.str ⟨#[73,84,69,82,65,66,76,69,95,67,79,82,79,85,84,73,78,69]⟩ (t0 + 8)), (.str ⟨#[65,83,89,78,67,95,71,69,78,69,82,65,84,79,82]⟩ (t0 + 9)), (.str ⟨#[48,120,52,48,48]⟩ (t0 + 10))] 1)]) r2 (by decide) (by kernel_rfl) ?_; intro h3 t3 r3 T3 G3 o3 z3
  refine comp_start (by kernel_rfl) (.range ⟨_, G3.nw _ (.head _), rfl⟩) ?_
  refine words_loop (mq := [(flagName 0, _), (flagName 1, _), (flagName 2, _), (flagName 3, _), (flagName 4, _), (flagName 5, _), (flagName 6, _), (flagName 7, _), (flagName 8, _), (flagName 9, _), (flagName 10, _)]) hs rfl o3 4 0 [] 0 none h3 _ rfl (fun e => (nomatch e)) (Nat.zero_le _) T3 G3 ?_
  intro h4 t4 q ep4 oi ox hq x4 z4
  rw [z3] at z4
  obtain ⟨u1, u2, u3⟩ := ox
  refine goS r3 _ [2,1,0,8,7,6,5] x4 z4 (by kernel_rfl) ?_; intro _ r4
  refine toL 0 (n := 13) (hs := [10,10,1,1,1]) (T := restT ((wdC (PP w b1 b2) N 3))) (c := (wdC (PP w b1 b2) N 0)) (dp := 551) (q := 10) (idx := []) (idn := [1,9]) (Lf := fun F => ([])) (Nf := fun F => ([(N + 8, oList (strValues q) ep4), (N + 0, oFr [⟨hOf F 9 0, .str sWords (kOf F 9 0), .ref (N + 8)⟩] 1)])) r4 (by decide) (by kernel_rfl) (by kernel_rfl) ?_; intro h5 t5 r5
  exact words_fin hs hc (by rw [hq]; simp) hu T r5 k)
end
end Mine
end
section
open PySem PySem.W PyProof.Rows PySem.W.X
namespace Mine
theorem le_units {A A' : Around} (K n : Nat) (e : A'.units = A.units + K) (h : A.units + K ≤ n) : A'.units ≤ n := e ▸ h
noncomputable def namesV (s : Nat) : Nat → List Tok → List Value
  | _, [] => []
  | i, t :: q => .str (nm s i) t :: namesV s (i + 1) q
section
variable {w : World} {b1 b2 : Bool} {A : Around} {R : Result → Shared → Prop} {hB h : Heap} {gs : Array GenState} {dr : Drawn} {t0 N : Nat} {os : OsState}
noncomputable abbrev eNames (P : Params) : Expr := lawE P 9 []
noncomputable abbrev cNames (P : Params) (it acc loc : Addr) : Code := cComp P (eNames P) it acc loc [(sShift, 163)] 159
theorem names_turn {it acc loc : Addr} {s i m : Nat} {ts : Tok} {zs : List Value} {ep : Nat} {ox : Option (Int × Tok × Value)} (hs : s < 8) (hi : i < 16) (hA : Okk A 450) (hu : A.units ≤ 9400) (T : Tp (kP w b1 b2) h)
    (G : Giv (kP w b1 b2) h (prL it acc loc s ts i (m + 1) zs ep ox)) (hz : zs.length ≤ 1000)
    (k : ∀ h' t' tok ox', Af h (prL it acc loc s ts (i + 1) m (zs ++ [.str (nm s i) tok]) (ep + 1) (some ox')) [] h' → Tp (kP w b1 b2) h' → Giv (kP w b1 b2) h' (prL it acc loc s ts (i + 1) m (zs ++ [.str (nm s i) tok]) (ep + 1) (some ox')) →
      CA w b1 b2 A (cNames (PP w b1 b2) it acc loc) R ⟨h', gs, dr, t', os⟩) :
    CA w b1 b2 A (cNames (PP w b1 b2) it acc loc) R ⟨h, gs, dr, t0, os⟩ := by
  revert b1
  refine @bothB _ ?_ ?_ <;> set_option tactic.hygienic false in intros
  all_goals (
  refine goC hA T G (by kernel_rfl) ?_; intro _ _ r
  obtain _ | ⟨u1, u2, u3⟩ := ox
  · refine cutS 550 0 (n := 29) (hs := [1,1,1,1,1,1,1,1,1,3,3,0,3,4,0]) (c := (.call (.ref 140) ⟨[(.int (i : Int) t0), (.int (s : Int) ts)], []⟩)) (idx := []) (Lf := fun F => []) r (by decide) (by kernel_rfl) ?_; intro h3 t3 r3 T3 G3 o3 z3
    refine words_call hs hi o3 (le_units (A := A) 0 9500 (by kernel_rfl) (by omega)) T3 fun h4 t4 tok x4 => ?_
    have z4 : h4.objs.size = h4.objs.size := rfl
    refine goS r3 _ [] x4 z4 (by kernel_rfl) ?_; intro _ r4
    refine cutS 550 0 (n := 1) (hs := []) (c := (.call (.builtin "list.append") ⟨[(.ref acc), (.str (nm s i) tok)], []⟩)) (idx := [1]) (Lf := fun F => [(acc, oList zs ep)]) r4 (by decide) (by kernel_rfl) ?_; intro h5 t5 r5 T5 G5 o5 z5
    refine lf_append (G5.nw _ (.head _)) hz z5 ?_
    intro h6 x6 z6
    refine goS r5 _ [1] x6 z6 (by kernel_rfl) ?_; intro _ r6
    refine agS 0 (n := 0) (hs := []) (c := (cNames (PP w b1 b2) it acc loc)) (q := 0) (idx := [0,1,2,3]) (idn := []) (Lf := fun F => ([(it, ⟨.type "range_iterator", none, .fields #[.int ((i + 1 : Nat) : Int) 0, .int (((m + 1 : Nat) : Int) - 1) 0, .int 1 0], #[]⟩), (acc, oList (zs ++ [.str (nm s i) tok]) (ep + 1)), (loc, oD [⟨hOf F 2 0, .str sColumns (kOf F 2 0), .int (i : Int) t0⟩] 1), (163, oCell (.int (s : Int) ts))])) (Nf := fun F => ([])) r6 (by decide) (by kernel_rfl) ?_; intro h7 t7 x7 z7 T7 G7
    rw [show (((m + 1 : Nat) : Int) - 1) = (m : Int) by omega] at x7 G7
    exact k h7 t7 tok (_, _, _) x7 T7 G7
  · refine cutS 550 0 (n := 29) (hs := [1,1,1,1,1,1,1,1,1,3,3,0,3,4,0]) (c := (.call (.ref 140) ⟨[(.int (i : Int) t0), (.int (s : Int) ts)], []⟩)) (idx := []) (Lf := fun F => []) r (by decide) (by kernel_rfl) ?_; intro h3 t3 r3 T3 G3 o3 z3
    refine words_call hs hi o3 (le_units (A := A) 0 9500 (by kernel_rfl) (by omega)) T3 fun h4 t4 tok x4 => ?_
    have z4 : h4.objs.size = h4.objs.size := rfl
    refine goS r3 _ [] x4 z4 (by kernel_rfl) ?_; intro _ r4
    refine cutS 550 0 (n := 1) (hs := []) (c := (.call (.builtin "list.append") ⟨[(.ref acc), (.str (nm s i) tok)], []⟩)) (idx := [1]) (Lf := fun F => [(acc, oList zs ep)]) r4 (by decide) (by kernel_rfl) ?_; intro h5 t5 r5 T5 G5 o5 z5
    refine lf_append (G5.nw _ (.head _)) hz z5 ?_
    intro h6 x6 z6
    refine goS r5 _ [1] x6 z6 (by kernel_rfl) ?_; intro _ r6
    refine agS 0 (n := 0) (hs := []) (c := (cNames (PP w b1 b2) it acc loc)) (q := 0) (idx := [0,1,2,3]) (idn := []) (Lf := fun F => ([(it, ⟨.type "range_iterator", none, .fields #[.int ((i + 1 : Nat) : Int) 0, .int (((m + 1 : Nat) : Int) - 1) 0, .int 1 0], #[]⟩), (acc, oList (zs ++ [.str (nm s i) tok]) (ep + 1)), (loc, oD [⟨u1, .str sColumns u2, .int (i : Int) t0⟩] 1), (163, oCell (.int (s : Int) ts))])) (Nf := fun F => ([])) r6 (by decide) (by kernel_rfl) ?_; intro h7 t7 x7 z7 T7 G7
    rw [show (((m + 1 : Nat) : Int) - 1) = (m : Int) by omega] at x7 G7
    exact k h7 t7 tok (_, _, _) x7 T7 G7)
theorem names_loop {it acc loc : Addr} {s : Nat} {ts : Tok} (hs : s < 8) (hA : Okk A 450) (hu : A.units ≤ 9400) :
    ∀ (n i : Nat) (zs : List Value) (ep : Nat) (ox : Option (Int × Tok × Value)) (h : Heap) (t0 : Nat), i + n = 16 → (n = 0 → ∃ p, ox = some p) → zs.length ≤ i → Tp (kP w b1 b2) h → Giv (kP w b1 b2) h (prL it acc loc s ts i n zs ep ox) →
    (∀ h' t' q ep' oi ox', q.length = n → Af h [(it, oi), (acc, oList (zs ++ namesV s i q) ep'), (loc, oX sColumns (some ox')), (163, oCell (.int (s : Int) ts))] [] h' → R (.ok .next) ⟨h', gs, dr, t', os⟩) →
    CA w b1 b2 A (cNames (PP w b1 b2) it acc loc) R ⟨h, gs, dr, t0, os⟩ := by
  intro n
  induction n with
  | zero =>
    intro i zs ep ox h t0 hin hp hz T G kk
    have e0 : zs ++ namesV s i [] = zs := List.append_nil _
    revert b1
    refine @bothB _ ?_ ?_ <;> set_option tactic.hygienic false in intros
    all_goals (
    refine goC hA T G (by kernel_rfl) ?_; intro _ _ r
    obtain ⟨⟨u1, u2, u3⟩, rfl⟩ := hp rfl
    refine endS 2 (n := 14) (hs := [1,1,1,1,1,1]) (fl := (.next)) (q := 2) (idx := [2,3,4,5]) (idn := []) (Lf := fun F => ([(it, objOf F 2), (acc, oList zs ep), (loc, oX sColumns (some (u1, u2, u3))), (163, oCell (.int (s : Int) ts))])) (Nf := fun F => ([])) r (by decide) (by kernel_rfl) ?_; intro h3 t3 x3 z3
    exact kk h3 t3 [] ep _ (u1, u2, u3) rfl (by rw [e0]; exact x3))
  | succ n ih =>
    intro i zs ep ox h t0 hin hp hz T G kk
    refine names_turn hs (by omega) hA hu T G (by omega) fun h1 t1 tok ox1 x1 T1 G1 => ?_
    refine ih (i + 1) _ _ _ h1 t1 (by omega) (fun _ => ⟨_, rfl⟩) (by rw [List.length_append, List.length_singleton]; omega) T1 G1 fun h2 t2 q ep2 oi ox2 hq x2 => ?_
    refine kk h2 t2 (tok :: q) ep2 oi ox2 (by rw [List.length_cons, hq]) ?_
    have e : zs ++ [.str (nm s i) tok] ++ namesV s (i + 1) q = zs ++ namesV s i (tok :: q) := by rw [List.append_assoc]; rfl
    rw [e] at x2
    exact x1.trans x2 rfl
noncomputable abbrev esL (hd hc : Int) (kd kc : Tok) (D C : Value) (hp : Int) (kp : Tok) (pl : Addr) : List DictEntry := [⟨hd, .str sDeal kd, D⟩, ⟨hc, .str sCells kc, C⟩, ⟨hp, .str sPairs kp, .ref pl⟩]
noncomputable abbrev midL (td cd cx : Addr) (od occ ocx : Obj) : List (Addr × Obj) := [(td, od), (cd, occ), (cx, ocx)]
noncomputable abbrev tlL (es : List DictEntry) (ee : Nat) (cO cR cT cRd cS cE cD : Obj) : List (Addr × Obj) := [(159, oFr es ee), (167, cO), (166, cR), (165, cT), (164, cRd), (163, cS), (162, cE), (161, cD), (160, oCell (.ref 158))]
theorem st9 {cE cD cT cRd od occ ocx tab : Obj} {s : Nat} {ts : Tok} {xs : List Value} {ep : Nat} {td cd cx pl : Addr} {f : Nat → Addr × Tok} {epl : Nat} {D C : Value} {hd hc hp : Int} {kd kc kp : Tok} (hs : s < 8) (hu : A.units ≤ 9000)
    (r : OkL w b1 b2 A R hB 9 ((pl, oList (refsOf (fl f)) epl) :: (tupL s 0 (fl f) ++ (td, od) :: (cd, occ) :: (cx, ocx) :: lawL tab (esL hd hc kd kc D C hp kp pl) 3 oCell0 oCell0 cT cRd (oCell (.int (s : Int) ts)) cE cD xs ep)) h N t0)
    (k : ∀ h' N' t' nl q epn hn kn, q.length = 16 → OkL w b1 b2 A R hB 10 ((nl, oList (namesV s 0 q) epn) :: (pl, oList (refsOf (fl f)) epl) :: (tupL s 0 (fl f) ++ (td, od) :: (cd, occ) :: (cx, ocx) :: lawL tab (esL hd hc kd kc D C hp kp pl ++ [⟨hn, .str sNames kn, .ref nl⟩]) 4 oCell0 oCell0 cT cRd (oCell (.int (s : Int) ts)) cE cD xs ep)) h' N' t' →
      GoL w b1 b2 A R 10 ((nl, oList (namesV s 0 q) epn) :: (pl, oList (refsOf (fl f)) epl) :: (tupL s 0 (fl f) ++ (td, od) :: (cd, occ) :: (cx, ocx) :: lawL tab (esL hd hc kd kc D C hp kp pl ++ [⟨hn, .str sNames kn, .ref nl⟩]) 4 oCell0 oCell0 cT cRd (oCell (.int (s : Int) ts)) cE cD xs ep)) ⟨h', gs, dr, t', os⟩) :
    GoL w b1 b2 A R 9 ((pl, oList (refsOf (fl f)) epl) :: (tupL s 0 (fl f) ++ (td, od) :: (cd, occ) :: (cx, ocx) :: lawL tab (esL hd hc kd kc D C hp kp pl) 3 oCell0 oCell0 cT cRd (oCell (.int (s : Int) ts)) cE cD xs ep)) ⟨h, gs, dr, t0, os⟩ := by
  revert b1
  refine @bothB _ ?_ ?_ <;> set_option tactic.hygienic false in intros
  all_goals (
  refine cutS 450 4 (n := 40) (hs := [0,0,1,1,1,1,1,1,1,1,1,1,1]) (c := (.compStart (eNames (PP w b1 b2)) 0 (.ref (N + 1)) (.ref (N + 2)) (envL (PP w b1 b2) (eNames (PP w b1 b2)) (N + 3) ([(sShift, 163)]) (159)))) (idx := [2,1,0,29]) (Lf := fun F => [((N + 1), ⟨(.type "range_iterator"), Option.none, (.fields #[(.int 0 0), (.int 16 0), (.int 1 0)]), #[]⟩), ((N + 2), oList [] 0), ((N + 3), oD [] 0), (163, ⟨(.type "cell"), Option.none, (.cell (Option.some (.int (s : Int) ts))), #[]⟩)]) r (by decide) (by kernel_rfl) ?_; intro h1 t1 r1 T1 G1 o1 z1
  refine comp_start (by kernel_rfl) (.range ⟨_, G1.nw _ (.head _), rfl⟩) ?_
  refine names_loop hs o1 (le_units (A := A) 3 9400 (by kernel_rfl) (by omega)) 16 0 [] 0 none h1 _ rfl (fun e => (nomatch e)) (Nat.zero_le _) T1 G1 ?_
  intro h2 t2 q ep2 oi ox hq x2
  have z2 : h2.objs.size = h2.objs.size := rfl
  refine goS r1 _ [2,1,0,29] x2 z2 (by kernel_rfl) ?_; intro _ r2
  obtain ⟨u1, u2, u3⟩ := ox
  refine toL 0 (n := 13) (hs := [25,25,1,1,1]) (T := restT (lawC (PP w b1 b2) 10)) (c := lawC (PP w b1 b2) 0) (dp := 351) (q := 33) (idx := [33,34]) (idn := [1,4,5,6,7,8,9,10,11,12,13,14,15,16,17,18,19,20,21,22,23,24,25,26,27,28,29,30,31,32]) (Lf := fun F => ([(130, tab), (158, oList xs ep)])) (Nf := fun F => ((N + 2, oList (namesV s 0 q) ep2) :: (pl, oList (refsOf (fl f)) epl) :: (tupL s 0 (fl f) ++ (td, od) :: (cd, occ) :: (cx, ocx) :: tlL (esL hd hc kd kc D C hp kp pl ++ [⟨hOf F 24 3, .str sNames (kOf F 24 3), .ref (N + 2)⟩]) 4 oCell0 oCell0 cT cRd (oCell (.int (s : Int) ts)) cE cD))) r2 (by decide) (by kernel_rfl) (by kernel_rfl) ?_; intro h3 t3 r3
  exact k _ _ _ (N + 2) q ep2 _ _ hq r3)
end
end Mine
end
section
open PySem PySem.W PyProof.Rows PySem.W.X PySem.SeqAt
namespace Mine
theorem namesV_at {s : Nat} : ∀ (q : List Tok) (i j : Nat), j < q.length → ∃ t, (namesV s i q)[j]? = some (.str (nm s (i + j)) t)
  | t :: q, i, 0, _ => ⟨t, rfl⟩
  | t :: q, i, j + 1, hj => by
    obtain ⟨u, hu⟩ := namesV_at q (i + 1) j (by rw [List.length_cons] at hj; omega)
    refine ⟨u, ?_⟩
    rw [show i + (j + 1) = i + 1 + j by omega]
    exact hu
theorem namesV_len {s : Nat} : ∀ (q : List Tok) (i : Nat), (namesV s i q).length = q.length
  | [], _ => rfl
  | t :: q, i => congrArg Nat.succ (namesV_len q (i + 1))
theorem tup_at {f : Nat → Addr × Tok} {s : Nat} {h : Heap} (H : ∀ p ∈ tupL s 0 (fl f), h.get? p.1 = some p.2) : ∀ j, j < 16 → h.get? (f j).1 = some (oTup [.str (nm s j) (f j).2, .str (nm s j) (f j).2])
  | 0, _ => H _ (.head _)
  | 1, _ => H _ (.tail _ (.head _))
  | 2, _ => H _ (.tail _ (.tail _ (.head _)))
  | 3, _ => H _ (.tail _ (.tail _ (.tail _ (.head _))))
  | 4, _ => H _ (.tail _ (.tail _ (.tail _ (.tail _ (.head _)))))
  | 5, _ => H _ (.tail _ (.tail _ (.tail _ (.tail _ (.tail _ (.head _))))))
  | 6, _ => H _ (.tail _ (.tail _ (.tail _ (.tail _ (.tail _ (.tail _ (.head _)))))))
  | 7, _ => H _ (.tail _ (.tail _ (.tail _ (.tail _ (.tail _ (.tail _ (.tail _ (.head _))))))))
  | 8, _ => H _ (.tail _ (.tail _ (.tail _ (.tail _ (.tail _ (.tail _ (.tail _ (.tail _ (.head _)))))))))
  | 9, _ => H _ (.tail _ (.tail _ (.tail _ (.tail _ (.tail _ (.tail _ (.tail _ (.tail _ (.tail _ (.head _))))))))))
  | 10, _ => H _ (.tail _ (.tail _ (.tail _ (.tail _ (.tail _ (.tail _ (.tail _ (.tail _ (.tail _ (.tail _ (.head _)))))))))))
  | 11, _ => H _ (.tail _ (.tail _ (.tail _ (.tail _ (.tail _ (.tail _ (.tail _ (.tail _ (.tail _ (.tail _ (.tail _ (.head _))))))))))))
  | 12, _ => H _ (.tail _ (.tail _ (.tail _ (.tail _ (.tail _ (.tail _ (.tail _ (.tail _ (.tail _ (.tail _ (.tail _ (.tail _ (.head _)))))))))))))
  | 13, _ => H _ (.tail _ (.tail _ (.tail _ (.tail _ (.tail _ (.tail _ (.tail _ (.tail _ (.tail _ (.tail _ (.tail _ (.tail _ (.tail _ (.head _))))))))))))))
  | 14, _ => H _ (.tail _ (.tail _ (.tail _ (.tail _ (.tail _ (.tail _ (.tail _ (.tail _ (.tail _ (.tail _ (.tail _ (.tail _ (.tail _ (.tail _ (.head _)))))))))))))))
  | 15, _ => H _ (.tail _ (.tail _ (.tail _ (.tail _ (.tail _ (.tail _ (.tail _ (.tail _ (.tail _ (.tail _ (.tail _ (.tail _ (.tail _ (.tail _ (.tail _ (.head _))))))))))))))))
  | n + 16, hn => by omega
theorem refs_at {f : Nat → Addr × Tok} : ∀ j, j < 16 → (refsOf (fl f))[j]? = some (.ref (f j).1)
  | 0, _ => rfl
  | 1, _ => rfl
  | 2, _ => rfl
  | 3, _ => rfl
  | 4, _ => rfl
  | 5, _ => rfl
  | 6, _ => rfl
  | 7, _ => rfl
  | 8, _ => rfl
  | 9, _ => rfl
  | 10, _ => rfl
  | 11, _ => rfl
  | 12, _ => rfl
  | 13, _ => rfl
  | 14, _ => rfl
  | 15, _ => rfl
  | n + 16, hn => by omega
theorem arr_at {l : List Value} {j : Nat} {x : Value} (h : l[j]? = some x) (hj : j < l.toArray.size) : l.toArray[j] = x := by
  rw [List.getElem?_eq_some_iff] at h
  obtain ⟨_, e⟩ := h
  rw [List.getElem_toArray]
  exact e
theorem tups_eq {A : Around} {sh : Shared} {f g : Nat → Addr × Tok} {s : Nat} (hu : A.units + 2 < cLine) (Hf : ∀ p ∈ tupL s 0 (fl f), sh.heap.get? p.1 = some p.2) (Hg : ∀ p ∈ tupL s 0 (fl g), sh.heap.get? p.1 = some p.2) :
    ∀ j (h1 : j < (refsOf (fl f)).toArray.size) (h2 : j < (refsOf (fl g)).toArray.size), EqAt A.in1 sh ((refsOf (fl f)).toArray[j]'h1) ((refsOf (fl g)).toArray[j]'h2) true := by
  intro j h1 h2
  have l1 : j < 16 := h1
  rw [arr_at (refs_at (f := f) j l1) h1, arr_at (refs_at (f := g) j l1) h2]
  by_cases he : (f j).1 = (g j).1
  · rw [he]; exact EqAt.same _
  · refine EqAt.of_refs he ?_
    have := RcAt.tuples (A := A.in1) (s := sh) (l := (f j).1) (b := (g j).1) (items := #[.str (nm s j) (f j).2, .str (nm s j) (f j).2]) (items2 := #[.str (nm s j) (g j).2, .str (nm s j) (g j).2]) (e := fun _ => true) ⟨_, tup_at Hf j l1, rfl, _, rfl⟩ ⟨_, tup_at Hg j l1, rfl, _, rfl⟩ (by show A.units + 1 < cLine; omega) ?_
    · exact this
    · intro i i1 i2
      have : i < 2 := i1
      match i, this with
      | 0, _ => have := EqAt.str_str (A := A.in1.in1) (s := sh) (nm s j) (f j).2 (nm s j) (g j).2; simpa using this
      | 1, _ => have := EqAt.str_str (A := A.in1.in1) (s := sh) (nm s j) (f j).2 (nm s j) (g j).2; simpa using this
section
variable {w : World} {b1 b2 : Bool} {A : Around} {R : Result → Shared → Prop} {hB h : Heap} {gs : Array GenState} {dr : Drawn} {t0 N : Nat} {os : OsState}
noncomputable abbrev eMk (P : Params) : Expr := lawE P 10 [1]
noncomputable abbrev cMk (P : Params) (it acc loc : Addr) : Code := cComp P (eMk P) it acc loc [] 159
noncomputable abbrev mkL (it acc loc nl : Addr) (i : Nat) (zs : List Value) (ep : Nat) (ox : Option (Int × Tok × Value)) (ns : List Value) (en : Nat) : List (Addr × Obj) :=
  [(it, oLit nl i), (acc, oList zs ep), (loc, oX sWord ox), (nl, oList ns en)]
theorem mk_turn {it acc loc nl : Addr} {i : Nat} {zs ns : List Value} {ep en : Nat} {ox : Option (Int × Tok × Value)} {S : Str} {tS : Tok} (hA : Okk A 450) (T : Tp (kP w b1 b2) h)
    (G : Giv (kP w b1 b2) h (mkL it acc loc nl i zs ep ox ns en)) (hx : ns[i]? = some (.str S tS)) (hz : zs.length ≤ 1000)
    (k : ∀ h' t' a ox', Af h (mkL it acc loc nl (i + 1) (zs ++ [.ref a]) (ep + 1) (some ox') ns en) [(a, oTup [.str S tS, .str S tS])] h' → Tp (kP w b1 b2) h' → Giv (kP w b1 b2) h' (mkL it acc loc nl (i + 1) (zs ++ [.ref a]) (ep + 1) (some ox') ns en) →
      CA w b1 b2 A (cMk (PP w b1 b2) it acc loc) R ⟨h', gs, dr, t', os⟩) :
    CA w b1 b2 A (cMk (PP w b1 b2) it acc loc) R ⟨h, gs, dr, t0, os⟩ := by
  revert b1
  refine @bothB _ ?_ ?_ <;> set_option tactic.hygienic false in intros
  all_goals (
  refine goC hA T G (by kernel_rfl) ?_; intro _ _ r
  obtain ⟨N, hN⟩ : ∃ N, h.objs.size = N := ⟨_, rfl⟩
  rw [hN] at r
  refine cutS 550 0 (n := 2) (hs := [1]) (c := (.call (.builtin "list_iterator.__next__") ⟨[(.ref it)], []⟩)) (idx := [0,3]) (Lf := fun F => [(it, oLit nl i), (nl, oList ns en)]) r (by decide) (by kernel_rfl) ?_; intro h1 t1 r1 T1 G1 o1 z1
  refine lf_next (G1.nw _ (.head _)) (G1.nw _ (.tail _ (.head _))) hx z1 ?_
  intro h2 x2 z2
  refine goS r1 _ [0] x2 z2 (by kernel_rfl) ?_; intro _ r2
  obtain _ | ⟨u1, u2, u3⟩ := ox
  · refine cutS 550 1 (n := 13) (hs := [3,3,3,3]) (c := (.call (.builtin "list.append") ⟨[(.ref acc), (.ref N)], []⟩)) (idx := [2]) (Lf := fun F => [(acc, oList zs ep)]) r2 (by decide) (by kernel_rfl) ?_; intro h3 t3 r3 T3 G3 o3 z3
    refine lf_append (G3.nw _ (.head _)) hz z3 ?_
    intro h4 x4 z4
    refine goS r3 _ [2] x4 z4 (by kernel_rfl) ?_; intro _ r4
    refine agS 0 (n := 0) (hs := []) (c := (cMk (PP w b1 b2) it acc loc)) (q := 1) (idx := [1,2,3,4]) (idn := [0]) (Lf := fun F => [(it, oLit nl (i + 1)), (acc, oList (zs ++ [Value.ref N]) (ep + 1)), (loc, oD [⟨hOf F 3 0, .str ⟨#[119,111,114,100]⟩ (kOf F 3 0), (.str S tS)⟩] 1), (nl, oList ns en)]) (Nf := fun F => [(N, oTup [(.str S tS), (.str S tS)])]) r4 (by decide) (by kernel_rfl) ?_; intro h5 t5 x5 z5 T5 G5
    exact k h5 t5 _ (_, _, _) x5 T5 ⟨fun p hp => G5.nw p (.tail _ hp), (List.nodup_cons.mp G5.nd).2, fun p hp => G5.sep p (.tail _ hp)⟩
  · refine cutS 550 1 (n := 13) (hs := [3,3,3,3]) (c := (.call (.builtin "list.append") ⟨[(.ref acc), (.ref N)], []⟩)) (idx := [2]) (Lf := fun F => [(acc, oList zs ep)]) r2 (by decide) (by kernel_rfl) ?_; intro h3 t3 r3 T3 G3 o3 z3
    refine lf_append (G3.nw _ (.head _)) hz z3 ?_
    intro h4 x4 z4
    refine goS r3 _ [2] x4 z4 (by kernel_rfl) ?_; intro _ r4
    refine agS 0 (n := 0) (hs := []) (c := (cMk (PP w b1 b2) it acc loc)) (q := 1) (idx := [1,2,3,4]) (idn := [0]) (Lf := fun F => [(it, oLit nl (i + 1)), (acc, oList (zs ++ [Value.ref N]) (ep + 1)), (loc, oD [⟨u1, .str ⟨#[119,111,114,100]⟩ u2, (.str S tS)⟩] 1), (nl, oList ns en)]) (Nf := fun F => [(N, oTup [(.str S tS), (.str S tS)])]) r4 (by decide) (by kernel_rfl) ?_; intro h5 t5 x5 z5 T5 G5
    exact k h5 t5 _ (_, _, _) x5 T5 ⟨fun p hp => G5.nw p (.tail _ hp), (List.nodup_cons.mp G5.nd).2, fun p hp => G5.sep p (.tail _ hp)⟩)
theorem mk_loop {it acc loc nl : Addr} {s : Nat} {q : List Tok} {en : Nat} (hA : Okk A 450) (hq : q.length = 16) :
    ∀ (n i : Nat) (zs : List Value) (ep : Nat) (ox : Option (Int × Tok × Value)) (h : Heap) (t0 : Nat), i + n = 16 → (n = 0 → ∃ p, ox = some p) → zs.length ≤ i → Tp (kP w b1 b2) h → Giv (kP w b1 b2) h (mkL it acc loc nl i zs ep ox (namesV s 0 q) en) →
    (∀ h' t' g ep' oi ox', g.length = n → Af h [(it, oi), (acc, oList (zs ++ refsOf g) ep'), (loc, oX sWord (some ox')), (nl, oList (namesV s 0 q) en)] (tupL s i g) h' → R (.ok .next) ⟨h', gs, dr, t', os⟩) →
    CA w b1 b2 A (cMk (PP w b1 b2) it acc loc) R ⟨h, gs, dr, t0, os⟩ := by
  intro n
  induction n with
  | zero =>
    intro i zs ep ox h t0 hin hp hz T G kk
    have e0 : zs ++ refsOf [] = zs := List.append_nil _
    revert b1
    refine @bothB _ ?_ ?_ <;> set_option tactic.hygienic false in intros
    all_goals (
    refine goC hA T G (by kernel_rfl) ?_; intro _ _ r
    obtain ⟨⟨u1, u2, u3⟩, rfl⟩ := hp rfl
    refine cutS 550 0 (n := 2) (hs := [1]) (c := (.call (.builtin "list_iterator.__next__") ⟨[(.ref it)], []⟩)) (idx := [0,3]) (Lf := fun F => [(it, oLit nl i), (nl, oList (namesV s 0 q) en)]) r (by decide) (by kernel_rfl) ?_; intro h1 t1 r1 T1 G1 o1 z1
    refine lf_next_end o1.hd (G1.nw _ (.head _)) (G1.nw _ (.tail _ (.head _))) (List.getElem?_eq_none (by rw [namesV_len]; omega)) z1 ?_
    intro h2 x2 z2
    refine goS r1 _ [0] x2 z2 (by kernel_rfl) ?_; intro _ r2
    refine endS 0 (n := 1) (hs := [1]) (fl := .next) (q := 2) (idx := [2,3,4,5]) (idn := []) (Lf := fun F => [(it, oLitX i), (acc, oList zs ep), (loc, oD [⟨u1, .str ⟨#[119,111,114,100]⟩ u2, u3⟩] 1), (nl, oList (namesV s 0 q) en)]) (Nf := fun F => []) r2 (by decide) (by kernel_rfl) ?_; intro h3 t3 x3 z3
    exact kk h3 t3 [] ep _ (u1, u2, u3) rfl (by rw [e0]; exact x3))
  | succ n ih =>
    intro i zs ep ox h t0 hin hp hz T G kk
    obtain ⟨tk, hx⟩ := namesV_at (s := s) q 0 i (by omega)
    rw [Nat.zero_add] at hx
    refine mk_turn hA T G hx (by omega) fun h1 t1 a ox1 x1 T1 G1 => ?_
    refine ih (i + 1) _ _ _ h1 t1 (by omega) (fun _ => ⟨_, rfl⟩) (by rw [List.length_append, List.length_singleton]; omega) T1 G1 fun h2 t2 g ep2 oi ox2 hg x2 => ?_
    refine kk h2 t2 ((a, tk) :: g) ep2 oi ox2 (by rw [List.length_cons, hg]) ?_
    have e : zs ++ [.ref a] ++ refsOf g = zs ++ refsOf ((a, tk) :: g) := by rw [List.append_assoc]; rfl
    rw [e] at x2
    exact x1.transN x2 rfl (G.ltk rfl)
end
end Mine
end
section
open PySem PySem.W PyProof.Rows PySem.W.X PySem.SeqAt
namespace Mine
section
variable {w : World} {b1 b2 : Bool} {A : Around} {R : Result → Shared → Prop} {hB h : Heap} {gs : Array GenState} {dr : Drawn} {t0 N : Nat} {os : OsState}
theorem st10 {cE cD cT cRd od occ ocx tab : Obj} {s : Nat} {ts : Tok} {xs : List Value} {ep : Nat} {td cd cx pl nl : Addr} {f : Nat → Addr × Tok} {epl epn : Nat} {q : List Tok} {D C : Value} {hd hc hp hn : Int} {kd kc kp kn : Tok} (hq : q.length = 16) (hu : A.units ≤ 9000)
    (r : OkL w b1 b2 A R hB 10 ((nl, oList (namesV s 0 q) epn) :: (pl, oList (refsOf (fl f)) epl) :: (tupL s 0 (fl f) ++ (td, od) :: (cd, occ) :: (cx, ocx) :: lawL tab (esL hd hc kd kc D C hp kp pl ++ [⟨hn, .str sNames kn, .ref nl⟩]) 4 oCell0 oCell0 cT cRd (oCell (.int (s : Int) ts)) cE cD xs ep)) h N t0)
    (k : ∀ h' N' t', OkL w b1 b2 A R hB 11 ((pl, oList (refsOf (fl f)) epl) :: (tupL s 0 (fl f) ++ (td, od) :: (cd, occ) :: (cx, ocx) :: lawL tab (esL hd hc kd kc D C hp kp pl ++ [⟨hn, .str sNames kn, .ref nl⟩]) 4 oCell0 oCell0 cT cRd (oCell (.int (s : Int) ts)) cE cD xs ep)) h' N' t' → GoL w b1 b2 A R 11 ((pl, oList (refsOf (fl f)) epl) :: (tupL s 0 (fl f) ++ (td, od) :: (cd, occ) :: (cx, ocx) :: lawL tab (esL hd hc kd kc D C hp kp pl ++ [⟨hn, .str sNames kn, .ref nl⟩]) 4 oCell0 oCell0 cT cRd (oCell (.int (s : Int) ts)) cE cD xs ep)) ⟨h', gs, dr, t', os⟩) :
    GoL w b1 b2 A R 10 ((nl, oList (namesV s 0 q) epn) :: (pl, oList (refsOf (fl f)) epl) :: (tupL s 0 (fl f) ++ (td, od) :: (cd, occ) :: (cx, ocx) :: lawL tab (esL hd hc kd kc D C hp kp pl ++ [⟨hn, .str sNames kn, .ref nl⟩]) 4 oCell0 oCell0 cT cRd (oCell (.int (s : Int) ts)) cE cD xs ep)) ⟨h, gs, dr, t0, os⟩ := by
  refine law_next (by kernel_rfl) ?_
  have e10 : lw (PP w b1 b2) 10 = .If (.Compare (lawE (PP w b1 b2) 10 [0]) [.NotEq] [lawE (PP w b1 b2) 10 [1]] (posOfE (lawE (PP w b1 b2) 10 []))) (ifBody (lw (PP w b1 b2) 10)) [] (posOfS (lw (PP w b1 b2) 10)) := by kernel_rfl
  rw [e10]
  have un : (A.under (lawC (PP w b1 b2) 0)).units = A.units + 3 := rfl
  have cl : cLine = 9900 := rfl
  refine wpAny_If (wpAny_isTrue_Compare1 ?_ (by kernel_rfl))
  refine evL r.ld fun r1 => ?_
  revert b1
  refine @bothB _ ?_ ?_ <;> set_option tactic.hygienic false in intros
  all_goals (
  refine enS 0 (n := 2) (hs := [22]) (v := (.ref pl)) (c := (lawC (PP w b1 b2) 0)) (dp := 351) (q := 30) (idx := [30,31]) (idn := [0,1,2,3,4,5,6,7,8,9,10,11,12,13,14,15,16,17,18,19,20,21,22,23,24,25,26,27,28,29]) (Lf := fun F => ([(130, tab), (158, oList xs ep)])) (Nf := fun F => ((nl, oList (namesV s 0 q) epn) :: (pl, oList (refsOf (fl f)) epl) :: (tupL s 0 (fl f) ++ (td, od) :: (cd, occ) :: (cx, ocx) :: tlL (esL hd hc kd kc D C hp kp pl ++ [⟨hn, .str sNames kn, .ref nl⟩]) 4 oCell0 oCell0 cT cRd (oCell (.int (s : Int) ts)) cE cD))) r1 (by decide) (by kernel_rfl) (by kernel_rfl) ?_; intro h1 t1 l1
  refine evL l1 fun r2 => ?_
  refine cutS 450 3 (n := 14) (hs := [22,1,1,1,1]) (c := (.compStart (eMk (PP w b1 b2)) 0 (.ref N) (.ref (N + 0 + 1)) (envL (PP w b1 b2) (eMk (PP w b1 b2)) (N + 0 + 2) ([]) (159)))) (idx := [2,1,0,3]) (Lf := fun F => [(N, oLit nl 0), ((N + 0 + 1), oList [] 0), ((N + 0 + 2), oD [] 0), (nl, oList (namesV s 0 q) epn)]) r2 (by decide) (by kernel_rfl) ?_; intro h2 t2 r3 T3 G3 o3 z3
  refine comp_start (by kernel_rfl) (.list ⟨_, G3.nw _ (.head _), rfl⟩) ?_
  refine mk_loop o3 hq 16 0 [] 0 none _ _ rfl (fun e => (nomatch e)) (Nat.zero_le _) T3 G3 ?_
  intro h4 t4 g epg oi ox hg x4
  obtain ⟨g, rfl⟩ := fl_of hg
  obtain ⟨u1, u2, u3⟩ := ox
  have z4 : h4.objs.size = h4.objs.size := rfl
  refine goS r3 _ [2,1,0,3] x4 z4 (by kernel_rfl) ?_; intro _ r4
  refine enS 0 (n := 5) (hs := [17,17,17]) (v := (.ref (N + 1))) (c := (lawC (PP w b1 b2) 0)) (dp := 351) (q := 49) (idx := [49,50]) (idn := [17,0,1,2,3,4,5,6,7,8,9,10,11,12,13,14,15,20,21,22,23,24,25,26,27,28,29,30,31,32,33,34,35,36,37,38,39,40,41,42,43,44,45,46,47,48]) (Lf := fun F => ([(130, tab), (158, oList xs ep)])) (Nf := fun F => ((N + 1, oList (refsOf (fl g)) epg) :: (tupL s 0 (fl g) ++ (pl, oList (refsOf (fl f)) epl) :: (tupL s 0 (fl f) ++ (td, od) :: (cd, occ) :: (cx, ocx) :: tlL (esL hd hc kd kc D C hp kp pl ++ [⟨hn, .str sNames kn, .ref nl⟩]) 4 oCell0 oCell0 cT cRd (oCell (.int (s : Int) ts)) cE cD)))) r4 (by decide) (by kernel_rfl) (by kernel_rfl) ?_; intro h5 t5 l5
  refine ne_lists (l5.get (i := 17) rfl) (l5.get (i := 0) rfl) rfl (by rw [un]; omega) (tups_eq (by rw [un]; omega) (fun p hp => l5.R.nw p (List.mem_append.mpr (.inl (.tail _ (List.mem_append.mpr (.inr (.tail _ (List.mem_append.mpr (.inl hp))))))))) (fun p hp => l5.R.nw p (List.mem_append.mpr (.inl (.tail _ (List.mem_append.mpr (.inl hp))))))) ?_
  refine wpAny_truthy_bool ?_
  try dsimp only
  rw [if_neg (by decide)]
  refine wpAny_execs_nil ?_
  refine restL l5 fun r6 => ?_
  refine toL 0 (n := 0) (hs := []) (T := restT (lawC (PP w b1 b2) 11)) (c := lawC (PP w b1 b2) 0) (dp := 351) (q := 46) (idx := [46,47]) (idn := [17,18,19,20,21,22,23,24,25,26,27,28,29,30,31,32,33,34,35,36,37,38,39,40,41,42,43,44,45]) (Lf := fun F => [(130, tab), (158, oList xs ep)]) (Nf := fun F => (pl, oList (refsOf (fl f)) epl) :: (tupL s 0 (fl f) ++ (td, od) :: (cd, occ) :: (cx, ocx) :: tlL (esL hd hc kd kc D C hp kp pl ++ [⟨hn, .str sNames kn, .ref nl⟩]) 4 oCell0 oCell0 cT cRd (oCell (.int (s : Int) ts)) cE cD)) r6 (by decide) (by kernel_rfl) (by kernel_rfl) ?_
  intro h7 t7 r7
  exact k _ _ _ r7)
end
end Mine
end
section
open PySem PySem.W PyProof.Rows PySem.W.X
namespace Mine
noncomputable def colV (q : List (Nat × Tok)) : List Value := q.map fun p => .int (p.1 : Int) p.2
section
variable {w : World} {b1 b2 : Bool} {A : Around} {R : Result → Shared → Prop} {hB h : Heap} {gs : Array GenState} {dr : Drawn} {t0 N : Nat} {os : OsState}
theorem lf_mul {a b v : Int} {t u : Tok} (hv : a * b = v) (hm : IntMulOk a b) (hN : h.objs.size = N)
    (k : ∀ h' tok tk, Af h [] [] h' → h'.objs.size = N → R (.ok (.ret (.int v tok))) ⟨h', gs, dr, tk, os⟩) :
    CA w b1 b2 A (.call (.builtin "int.__mul__") ⟨[.int a t, .int b u], []⟩) R ⟨h, gs, dr, t0, os⟩ := by
  subst hv
  exact lf_int F.slot_int_mul F.entry_int_mul (F.args_int_mul_2 _ _) (AutoIntG1.int___mul___int_int_0 _ _ _ _ hm) hN k
theorem mul4_ok (k : Nat) : IntMulOk (4 : Int) (k : Int) := .of_left (by decide)
noncomputable abbrev bdL (it acc loc ck td : Addr) (i m : Nat) (zs : List Value) (ep : Nat) (ox : Option (Int × Tok × Value)) (k : Nat) (tk : Tok) (qs : List Value) (etd : Nat) : List (Addr × Obj) :=
  [(it, oRit i m), (acc, oList zs ep), (loc, oX sColumn ox), (ck, oCell (.int (k : Int) tk)), (165, oCell (.ref td)), (td, oList qs etd)]
noncomputable abbrev eBd11 (P : Params) : Expr := lawE P 11 [0]
noncomputable abbrev cBd11 (P : Params) (it acc loc ck : Addr) : Code := cComp P (eBd11 P) it acc loc [(sTold, 165), (sK, ck)] 159
theorem bd11_turn {it acc loc ck td : Addr} {i m : Nat} {zs : List Value} {ep : Nat} {ox : Option (Int × Tok × Value)} {k : Nat} {tk : Tok} {qs : List Value} {etd : Nat} {b : Bool} {tb : Tok} {d : Nat} (hd : 4 * k = d) (hA : Okk A 500) (T : Tp (kP w b1 b2) h)
    (G : Giv (kP w b1 b2) h (bdL it acc loc ck td i (m + 1) zs ep ox k tk qs etd)) (hx : qs[d + i]? = some (.str (tokStr b) tb)) (hl : d + i < 1000) (hz : zs.length ≤ 1000)
    (kk : ∀ h' t' tc ox', Af h (bdL it acc loc ck td (i + 1) m (if b = true then zs ++ [.int (i : Int) tc] else zs) (if b = true then ep + 1 else ep) (some ox') k tk qs etd) [] h' → Tp (kP w b1 b2) h' → Giv (kP w b1 b2) h' (bdL it acc loc ck td (i + 1) m (if b = true then zs ++ [.int (i : Int) tc] else zs) (if b = true then ep + 1 else ep) (some ox') k tk qs etd) →
      CA w b1 b2 A (cBd11 (PP w b1 b2) it acc loc ck) R ⟨h', gs, dr, t', os⟩) :
    CA w b1 b2 A (cBd11 (PP w b1 b2) it acc loc ck) R ⟨h, gs, dr, t0, os⟩ := by
  revert b1
  refine @bothB _ ?_ ?_ <;> set_option tactic.hygienic false in intros
  all_goals (
  refine goC hA T G (by kernel_rfl) ?_; intro _ _ r
  obtain _ | ⟨u1, u2, u3⟩ := ox
  · refine cutS 550 0 (n := 30) (hs := [1,1,1,1,1,1,1,1,1,3,3,0,0,5,4]) (c := (.call (.builtin "int.__mul__") ⟨[(.int 4 (t0 + 2)), (.int (k : Int) tk)], []⟩)) (idx := []) (Lf := fun F => []) r (by decide) (by kernel_rfl) ?_; intro h1 t1 r1 T1 G1 o1 z1
    refine lf_mul (v := (d : Int)) (by rw [← hd]; simp) (mul4_ok k) z1 ?_
    intro h2 a2 t2 x2 z2
    refine goS r1 _ [] x2 z2 (by kernel_rfl) ?_; intro _ r2
    refine cutS 550 0 (n := 11) (hs := [3,6,6,6]) (c := (.call (.builtin "list.__getitem__") ⟨[(.ref td), (.int ((d + i) : Int) t2)], []⟩)) (idx := [5]) (Lf := fun F => [(td, oList qs etd)]) r2 (by decide) (by kernel_rfl) ?_; intro h3 t3 r3 T3 G3 o3 z3
    refine lf_getitem (i := d + i) (G3.nw _ (.head _)) hx hl z3 ?_
    intro h4 t4 x4 z4
    refine goS r3 _ [] x4 z4 (by kernel_rfl) ?_; intro _ r4
    cases b with
    | true =>
      refine cutS 550 0 (n := 19) (hs := [3]) (c := (.call (.builtin "list.append") ⟨[(.ref acc), (.int (i : Int) t0)], []⟩)) (idx := [1]) (Lf := fun F => [(acc, oList zs ep)]) r4 (by decide) (by kernel_rfl) ?_; intro h5 t5 r5 T5 G5 o5 z5
      refine lf_append (G5.nw _ (.head _)) hz z5 ?_
      intro h6 x6 z6
      refine goS r5 _ [1] x6 z6 (by kernel_rfl) ?_; intro _ r6
      refine agS 0 (n := 0) (hs := []) (c := (cBd11 (PP w b1 b2) it acc loc ck)) (q := 0) (idx := [0,1,2,3,4,5]) (idn := []) (Lf := fun F => [(it, ⟨(.type "range_iterator"), Option.none, (.fields #[(.int ((i + 1) : Int) 0), (.int ((↑(m + 1) : Int) - 1) 0), (.int 1 0)]), #[]⟩), (acc, oList (zs ++ [Value.int (↑i : Int) t0]) (ep + 1)), (loc, oD [⟨hOf F 2 0, .str ⟨#[99,111,108,117,109,110]⟩ (kOf F 2 0), (.int (i : Int) t0)⟩] 1), (ck, ⟨(.type "cell"), Option.none, (.cell (Option.some (.int (k : Int) tk))), #[]⟩), (165, ⟨(.type "cell"), Option.none, (.cell (Option.some (.ref td))), #[]⟩), (td, oList qs etd)]) (Nf := fun F => []) r6 (by decide) (by kernel_rfl) ?_; intro h7 t7 x7 z7 T7 G7
      rw [show ((↑(m + 1) : Int) - 1) = (m : Int) by omega] at x7 G7
      exact kk h7 t7 _ (_, _, _) x7 T7 G7
    | false =>
      refine agS 0 (n := 17) (hs := []) (c := (cBd11 (PP w b1 b2) it acc loc ck)) (q := 0) (idx := [0,1,2,3,4,5]) (idn := []) (Lf := fun F => [(it, ⟨(.type "range_iterator"), Option.none, (.fields #[(.int ((i + 1) : Int) 0), (.int ((↑(m + 1) : Int) - 1) 0), (.int 1 0)]), #[]⟩), (acc, oList zs ep), (loc, oD [⟨hOf F 2 0, .str ⟨#[99,111,108,117,109,110]⟩ (kOf F 2 0), (.int (i : Int) t0)⟩] 1), (ck, ⟨(.type "cell"), Option.none, (.cell (Option.some (.int (k : Int) tk))), #[]⟩), (165, ⟨(.type "cell"), Option.none, (.cell (Option.some (.ref td))), #[]⟩), (td, oList qs etd)]) (Nf := fun F => []) r4 (by decide) (by kernel_rfl) ?_; intro h7 t7 x7 z7 T7 G7
      rw [show ((↑(m + 1) : Int) - 1) = (m : Int) by omega] at x7 G7
      exact kk h7 t7 0 (_, _, _) x7 T7 G7
  · refine cutS 550 0 (n := 30) (hs := [1,1,1,1,1,1,1,1,1,3,3,0,0,5,4]) (c := (.call (.builtin "int.__mul__") ⟨[(.int 4 (t0 + 2)), (.int (k : Int) tk)], []⟩)) (idx := []) (Lf := fun F => []) r (by decide) (by kernel_rfl) ?_; intro h1 t1 r1 T1 G1 o1 z1
    refine lf_mul (v := (d : Int)) (by rw [← hd]; simp) (mul4_ok k) z1 ?_
    intro h2 a2 t2 x2 z2
    refine goS r1 _ [] x2 z2 (by kernel_rfl) ?_; intro _ r2
    refine cutS 550 0 (n := 11) (hs := [3,6,6,6]) (c := (.call (.builtin "list.__getitem__") ⟨[(.ref td), (.int ((d + i) : Int) t2)], []⟩)) (idx := [5]) (Lf := fun F => [(td, oList qs etd)]) r2 (by decide) (by kernel_rfl) ?_; intro h3 t3 r3 T3 G3 o3 z3
    refine lf_getitem (i := d + i) (G3.nw _ (.head _)) hx hl z3 ?_
    intro h4 t4 x4 z4
    refine goS r3 _ [] x4 z4 (by kernel_rfl) ?_; intro _ r4
    cases b with
    | true =>
      refine cutS 550 0 (n := 19) (hs := [3]) (c := (.call (.builtin "list.append") ⟨[(.ref acc), (.int (i : Int) t0)], []⟩)) (idx := [1]) (Lf := fun F => [(acc, oList zs ep)]) r4 (by decide) (by kernel_rfl) ?_; intro h5 t5 r5 T5 G5 o5 z5
      refine lf_append (G5.nw _ (.head _)) hz z5 ?_
      intro h6 x6 z6
      refine goS r5 _ [1] x6 z6 (by kernel_rfl) ?_; intro _ r6
      refine agS 0 (n := 0) (hs := []) (c := (cBd11 (PP w b1 b2) it acc loc ck)) (q := 0) (idx := [0,1,2,3,4,5]) (idn := []) (Lf := fun F => [(it, ⟨(.type "range_iterator"), Option.none, (.fields #[(.int ((i + 1) : Int) 0), (.int ((↑(m + 1) : Int) - 1) 0), (.int 1 0)]), #[]⟩), (acc, oList (zs ++ [Value.int (↑i : Int) t0]) (ep + 1)), (loc, oD [⟨u1, .str ⟨#[99,111,108,117,109,110]⟩ u2, (.int (i : Int) t0)⟩] 1), (ck, ⟨(.type "cell"), Option.none, (.cell (Option.some (.int (k : Int) tk))), #[]⟩), (165, ⟨(.type "cell"), Option.none, (.cell (Option.some (.ref td))), #[]⟩), (td, oList qs etd)]) (Nf := fun F => []) r6 (by decide) (by kernel_rfl) ?_; intro h7 t7 x7 z7 T7 G7
      rw [show ((↑(m + 1) : Int) - 1) = (m : Int) by omega] at x7 G7
      exact kk h7 t7 _ (_, _, _) x7 T7 G7
    | false =>
      refine agS 0 (n := 17) (hs := []) (c := (cBd11 (PP w b1 b2) it acc loc ck)) (q := 0) (idx := [0,1,2,3,4,5]) (idn := []) (Lf := fun F => [(it, ⟨(.type "range_iterator"), Option.none, (.fields #[(.int ((i + 1) : Int) 0), (.int ((↑(m + 1) : Int) - 1) 0), (.int 1 0)]), #[]⟩), (acc, oList zs ep), (loc, oD [⟨u1, .str ⟨#[99,111,108,117,109,110]⟩ u2, (.int (i : Int) t0)⟩] 1), (ck, ⟨(.type "cell"), Option.none, (.cell (Option.some (.int (k : Int) tk))), #[]⟩), (165, ⟨(.type "cell"), Option.none, (.cell (Option.some (.ref td))), #[]⟩), (td, oList qs etd)]) (Nf := fun F => []) r4 (by decide) (by kernel_rfl) ?_; intro h7 t7 x7 z7 T7 G7
      rw [show ((↑(m + 1) : Int) - 1) = (m : Int) by omega] at x7 G7
      exact kk h7 t7 0 (_, _, _) x7 T7 G7)
noncomputable abbrev eBd12 (P : Params) : Expr := lawE P 12 [0]
noncomputable abbrev cBd12 (P : Params) (it acc loc ck : Addr) : Code := cComp P (eBd12 P) it acc loc [(sTold, 165), (sK, ck)] 159
theorem bd12_turn {it acc loc ck td : Addr} {i m : Nat} {zs : List Value} {ep : Nat} {ox : Option (Int × Tok × Value)} {k : Nat} {tk : Tok} {qs : List Value} {etd : Nat} {b : Bool} {tb : Tok} {d : Nat} (hd : 4 * k = d) (hA : Okk A 500) (T : Tp (kP w b1 b2) h)
    (G : Giv (kP w b1 b2) h (bdL it acc loc ck td i (m + 1) zs ep ox k tk qs etd)) (hx : qs[d + i]? = some (.str (tokStr b) tb)) (hl : d + i < 1000) (hz : zs.length ≤ 1000)
    (kk : ∀ h' t' tc ox', Af h (bdL it acc loc ck td (i + 1) m (if b = false then zs ++ [.int (i : Int) tc] else zs) (if b = false then ep + 1 else ep) (some ox') k tk qs etd) [] h' → Tp (kP w b1 b2) h' → Giv (kP w b1 b2) h' (bdL it acc loc ck td (i + 1) m (if b = false then zs ++ [.int (i : Int) tc] else zs) (if b = false then ep + 1 else ep) (some ox') k tk qs etd) →
      CA w b1 b2 A (cBd12 (PP w b1 b2) it acc loc ck) R ⟨h', gs, dr, t', os⟩) :
    CA w b1 b2 A (cBd12 (PP w b1 b2) it acc loc ck) R ⟨h, gs, dr, t0, os⟩ := by
  revert b1
  refine @bothB _ ?_ ?_ <;> set_option tactic.hygienic false in intros
  all_goals (
  refine goC hA T G (by kernel_rfl) ?_; intro _ _ r
  obtain _ | ⟨u1, u2, u3⟩ := ox
  · refine cutS 550 0 (n := 30) (hs := [1,1,1,1,1,1,1,1,1,3,3,0,0,5,4]) (c := (.call (.builtin "int.__mul__") ⟨[(.int 4 (t0 + 2)), (.int (k : Int) tk)], []⟩)) (idx := []) (Lf := fun F => []) r (by decide) (by kernel_rfl) ?_; intro h1 t1 r1 T1 G1 o1 z1
    refine lf_mul (v := (d : Int)) (by rw [← hd]; simp) (mul4_ok k) z1 ?_
    intro h2 a2 t2 x2 z2
    refine goS r1 _ [] x2 z2 (by kernel_rfl) ?_; intro _ r2
    refine cutS 550 0 (n := 11) (hs := [3,6,6,6]) (c := (.call (.builtin "list.__getitem__") ⟨[(.ref td), (.int ((d + i) : Int) t2)], []⟩)) (idx := [5]) (Lf := fun F => [(td, oList qs etd)]) r2 (by decide) (by kernel_rfl) ?_; intro h3 t3 r3 T3 G3 o3 z3
    refine lf_getitem (i := d + i) (G3.nw _ (.head _)) hx hl z3 ?_
    intro h4 t4 x4 z4
    refine goS r3 _ [] x4 z4 (by kernel_rfl) ?_; intro _ r4
    cases b with
    | true =>
      refine agS 0 (n := 17) (hs := []) (c := (cBd12 (PP w b1 b2) it acc loc ck)) (q := 0) (idx := [0,1,2,3,4,5]) (idn := []) (Lf := fun F => [(it, ⟨(.type "range_iterator"), Option.none, (.fields #[(.int ((i + 1) : Int) 0), (.int ((↑(m + 1) : Int) - 1) 0), (.int 1 0)]), #[]⟩), (acc, oList zs ep), (loc, oD [⟨hOf F 2 0, .str ⟨#[99,111,108,117,109,110]⟩ (kOf F 2 0), (.int (i : Int) t0)⟩] 1), (ck, ⟨(.type "cell"), Option.none, (.cell (Option.some (.int (k : Int) tk))), #[]⟩), (165, ⟨(.type "cell"), Option.none, (.cell (Option.some (.ref td))), #[]⟩), (td, oList qs etd)]) (Nf := fun F => []) r4 (by decide) (by kernel_rfl) ?_; intro h7 t7 x7 z7 T7 G7
      rw [show ((↑(m + 1) : Int) - 1) = (m : Int) by omega] at x7 G7
      exact kk h7 t7 0 (_, _, _) x7 T7 G7
    | false =>
      refine cutS 550 0 (n := 19) (hs := [3]) (c := (.call (.builtin "list.append") ⟨[(.ref acc), (.int (i : Int) t0)], []⟩)) (idx := [1]) (Lf := fun F => [(acc, oList zs ep)]) r4 (by decide) (by kernel_rfl) ?_; intro h5 t5 r5 T5 G5 o5 z5
      refine lf_append (G5.nw _ (.head _)) hz z5 ?_
      intro h6 x6 z6
      refine goS r5 _ [1] x6 z6 (by kernel_rfl) ?_; intro _ r6
      refine agS 0 (n := 0) (hs := []) (c := (cBd12 (PP w b1 b2) it acc loc ck)) (q := 0) (idx := [0,1,2,3,4,5]) (idn := []) (Lf := fun F => [(it, ⟨(.type "range_iterator"), Option.none, (.fields #[(.int ((i + 1) : Int) 0), (.int ((↑(m + 1) : Int) - 1) 0), (.int 1 0)]), #[]⟩), (acc, oList (zs ++ [Value.int (↑i : Int) t0]) (ep + 1)), (loc, oD [⟨hOf F 2 0, .str ⟨#[99,111,108,117,109,110]⟩ (kOf F 2 0), (.int (i : Int) t0)⟩] 1), (ck, ⟨(.type "cell"), Option.none, (.cell (Option.some (.int (k : Int) tk))), #[]⟩), (165, ⟨(.type "cell"), Option.none, (.cell (Option.some (.ref td))), #[]⟩), (td, oList qs etd)]) (Nf := fun F => []) r6 (by decide) (by kernel_rfl) ?_; intro h7 t7 x7 z7 T7 G7
      rw [show ((↑(m + 1) : Int) - 1) = (m : Int) by omega] at x7 G7
      exact kk h7 t7 _ (_, _, _) x7 T7 G7
  · refine cutS 550 0 (n := 30) (hs := [1,1,1,1,1,1,1,1,1,3,3,0,0,5,4]) (c := (.call (.builtin "int.__mul__") ⟨[(.int 4 (t0 + 2)), (.int (k : Int) tk)], []⟩)) (idx := []) (Lf := fun F => []) r (by decide) (by kernel_rfl) ?_; intro h1 t1 r1 T1 G1 o1 z1
    refine lf_mul (v := (d : Int)) (by rw [← hd]; simp) (mul4_ok k) z1 ?_
    intro h2 a2 t2 x2 z2
    refine goS r1 _ [] x2 z2 (by kernel_rfl) ?_; intro _ r2
    refine cutS 550 0 (n := 11) (hs := [3,6,6,6]) (c := (.call (.builtin "list.__getitem__") ⟨[(.ref td), (.int ((d + i) : Int) t2)], []⟩)) (idx := [5]) (Lf := fun F => [(td, oList qs etd)]) r2 (by decide) (by kernel_rfl) ?_; intro h3 t3 r3 T3 G3 o3 z3
    refine lf_getitem (i := d + i) (G3.nw _ (.head _)) hx hl z3 ?_
    intro h4 t4 x4 z4
    refine goS r3 _ [] x4 z4 (by kernel_rfl) ?_; intro _ r4
    cases b with
    | true =>
      refine agS 0 (n := 17) (hs := []) (c := (cBd12 (PP w b1 b2) it acc loc ck)) (q := 0) (idx := [0,1,2,3,4,5]) (idn := []) (Lf := fun F => [(it, ⟨(.type "range_iterator"), Option.none, (.fields #[(.int ((i + 1) : Int) 0), (.int ((↑(m + 1) : Int) - 1) 0), (.int 1 0)]), #[]⟩), (acc, oList zs ep), (loc, oD [⟨u1, .str ⟨#[99,111,108,117,109,110]⟩ u2, (.int (i : Int) t0)⟩] 1), (ck, ⟨(.type "cell"), Option.none, (.cell (Option.some (.int (k : Int) tk))), #[]⟩), (165, ⟨(.type "cell"), Option.none, (.cell (Option.some (.ref td))), #[]⟩), (td, oList qs etd)]) (Nf := fun F => []) r4 (by decide) (by kernel_rfl) ?_; intro h7 t7 x7 z7 T7 G7
      rw [show ((↑(m + 1) : Int) - 1) = (m : Int) by omega] at x7 G7
      exact kk h7 t7 0 (_, _, _) x7 T7 G7
    | false =>
      refine cutS 550 0 (n := 19) (hs := [3]) (c := (.call (.builtin "list.append") ⟨[(.ref acc), (.int (i : Int) t0)], []⟩)) (idx := [1]) (Lf := fun F => [(acc, oList zs ep)]) r4 (by decide) (by kernel_rfl) ?_; intro h5 t5 r5 T5 G5 o5 z5
      refine lf_append (G5.nw _ (.head _)) hz z5 ?_
      intro h6 x6 z6
      refine goS r5 _ [1] x6 z6 (by kernel_rfl) ?_; intro _ r6
      refine agS 0 (n := 0) (hs := []) (c := (cBd12 (PP w b1 b2) it acc loc ck)) (q := 0) (idx := [0,1,2,3,4,5]) (idn := []) (Lf := fun F => [(it, ⟨(.type "range_iterator"), Option.none, (.fields #[(.int ((i + 1) : Int) 0), (.int ((↑(m + 1) : Int) - 1) 0), (.int 1 0)]), #[]⟩), (acc, oList (zs ++ [Value.int (↑i : Int) t0]) (ep + 1)), (loc, oD [⟨u1, .str ⟨#[99,111,108,117,109,110]⟩ u2, (.int (i : Int) t0)⟩] 1), (ck, ⟨(.type "cell"), Option.none, (.cell (Option.some (.int (k : Int) tk))), #[]⟩), (165, ⟨(.type "cell"), Option.none, (.cell (Option.some (.ref td))), #[]⟩), (td, oList qs etd)]) (Nf := fun F => []) r6 (by decide) (by kernel_rfl) ?_; intro h7 t7 x7 z7 T7 G7
      rw [show ((↑(m + 1) : Int) - 1) = (m : Int) by omega] at x7 G7
      exact kk h7 t7 _ (_, _, _) x7 T7 G7)
end
end Mine
end
section
open PySem PySem.W PyProof.Rows PySem.W.X
namespace Mine
noncomputable def rowQ (g : Nat → Bool) (inc : Bool) : Nat → Nat → List Nat
  | _, 0 => []
  | i, m + 1 => if g i = inc then i :: rowQ g inc (i + 1) m else rowQ g inc (i + 1) m
theorem rowQ_succ (g : Nat → Bool) (inc : Bool) (i m : Nat) : rowQ g inc i (m + 1) = if g i = inc then i :: rowQ g inc (i + 1) m else rowQ g inc (i + 1) m := rfl
section
variable {w : World} {b1 b2 : Bool} {A : Around} {R : Result → Shared → Prop} {hB h : Heap} {gs : Array GenState} {dr : Drawn} {t0 N : Nat} {os : OsState}
noncomputable abbrev bdoL (it acc loc ck td : Addr) (i m : Nat) (zs : List Value) (ep : Nat) (oc : Obj) (qs : List Value) (etd : Nat) : List (Addr × Obj) :=
  [(it, oRit i m), (acc, oList zs ep), (loc, oD [] 0), (ck, oc), (165, oCell (.ref td)), (td, oList qs etd)]
theorem bd11_loop {it acc loc ck td : Addr} {k : Nat} {tk : Tok} {qs : List Value} {etd : Nat} {B : Nat → Bool} (hB : ∀ j, j < 16 → ∃ t, qs[j]? = some (.str (tokStr (B j)) t)) (hk : k < 4) (hA : Okk A 500) :
    ∀ (m i : Nat) (q : List (Nat × Tok)) (ep : Nat) (ox : Option (Int × Tok × Value)) (h : Heap) (t0 : Nat), i + m = 4 → (m = 0 → ∃ p, ox = some p) → q.length ≤ i → Tp (kP w b1 b2) h → Giv (kP w b1 b2) h (bdL it acc loc ck td i m (colV q) ep ox k tk qs etd) →
    (∀ h' t' q' ep' oi ox', q'.map (·.1) = q.map (·.1) ++ rowQ (fun c => B (4 * k + c)) true i m → Af h [(it, oi), (acc, oList (colV q') ep'), (loc, oX sColumn (some ox')), (ck, oCell (.int (k : Int) tk)), (165, oCell (.ref td)), (td, oList qs etd)] [] h' → R (.ok .next) ⟨h', gs, dr, t', os⟩) →
    CA w b1 b2 A (cBd11 (PP w b1 b2) it acc loc ck) R ⟨h, gs, dr, t0, os⟩ := by
  intro m
  induction m with
  | zero =>
    intro i q ep ox h t0 hin hp hz T G kk
    revert b1
    refine @bothB _ ?_ ?_ <;> set_option tactic.hygienic false in intros
    all_goals (
    refine goC hA T G (by kernel_rfl) ?_; intro _ _ r
    obtain ⟨⟨u1, u2, u3⟩, rfl⟩ := hp rfl
    refine endS 2 (n := 14) (hs := [1,1,1,1,1,1]) (fl := .next) (q := 2) (idx := [2,3,4,5,6,7]) (idn := []) (Lf := fun F => [(it, ⟨(.type "range_iterator"), Option.none, (.fields #[(.int (i : Int) 0), (.int 0 0), (.int 1 0)]), #[]⟩), (acc, oList (colV q) ep), (loc, oD [⟨u1, .str ⟨#[99,111,108,117,109,110]⟩ u2, u3⟩] 1), (ck, ⟨(.type "cell"), Option.none, (.cell (Option.some (.int (k : Int) tk))), #[]⟩), (165, ⟨(.type "cell"), Option.none, (.cell (Option.some (.ref td))), #[]⟩), (td, oList qs etd)]) (Nf := fun F => []) r (by decide) (by kernel_rfl) ?_; intro h3 t3 x3 z3
    exact kk h3 t3 q ep _ (u1, u2, u3) (by rw [show rowQ (fun c => B (4 * k + c)) true i 0 = [] from rfl, List.append_nil]) x3)
  | succ m ih =>
    intro i q ep ox h t0 hin hp hz T G kk
    obtain ⟨tb, hx⟩ := hB (4 * k + i) (by omega)
    refine bd11_turn rfl hA T G hx (by omega) (by unfold colV; rw [List.length_map]; omega) fun h1 t1 tc ox1 x1 T1 G1 => ?_
    by_cases hb : B (4 * k + i) = true
    · rw [if_pos hb, if_pos hb] at x1 G1
      have e : colV q ++ [.int (i : Int) tc] = colV (q ++ [(i, tc)]) := by unfold colV; rw [List.map_append]; rfl
      rw [e] at x1 G1
      refine ih (i + 1) _ _ _ h1 t1 (by omega) (fun _ => ⟨_, rfl⟩) (by rw [List.length_append, List.length_singleton]; omega) T1 G1 fun h2 t2 q2 ep2 oi ox2 e2 x2 => ?_
      refine kk h2 t2 q2 ep2 oi ox2 ?_ (x1.trans x2 rfl)
      rw [e2, rowQ_succ, if_pos hb, List.map_append, List.append_assoc]; rfl
    · rw [if_neg hb, if_neg hb] at x1 G1
      refine ih (i + 1) _ _ _ h1 t1 (by omega) (fun _ => ⟨_, rfl⟩) (by omega) T1 G1 fun h2 t2 q2 ep2 oi ox2 e2 x2 => ?_
      refine kk h2 t2 q2 ep2 oi ox2 ?_ (x1.trans x2 rfl)
      rw [e2, rowQ_succ, if_neg hb]
noncomputable abbrev eBo11 (P : Params) : Expr := lawE P 11 []
noncomputable abbrev cBo11 (P : Params) (it acc loc ck : Addr) : Code := cComp P (eBo11 P) it acc loc [(sK, ck), (sTold, 165)] 159
theorem bo11_turn {it acc loc ck td : Addr} {i m : Nat} {zs : List Value} {ep : Nat} {oc : Option Value} {qs : List Value} {etd : Nat} {B : Nat → Bool} (hB : ∀ j, j < 16 → ∃ t, qs[j]? = some (.str (tokStr (B j)) t)) (hi : i < 4) (hA : Okk A 450) (T : Tp (kP w b1 b2) h)
    (G : Giv (kP w b1 b2) h (bdoL it acc loc ck td i (m + 1) zs ep ⟨.type "cell", none, .cell oc, #[]⟩ qs etd)) (hz : zs.length ≤ 1000)
    (kk : ∀ h' t' a q ep' tk', q.map (·.1) = rowQ (fun c => B (4 * i + c)) true 0 4 → Af h (bdoL it acc loc ck td (i + 1) m (zs ++ [.ref a]) (ep + 1) (oCell (.int (i : Int) tk')) qs etd) [(a, oList (colV q) ep')] h' → Tp (kP w b1 b2) h' → Giv (kP w b1 b2) h' (bdoL it acc loc ck td (i + 1) m (zs ++ [.ref a]) (ep + 1) (oCell (.int (i : Int) tk')) qs etd) →
      CA w b1 b2 A (cBo11 (PP w b1 b2) it acc loc ck) R ⟨h', gs, dr, t', os⟩) :
    CA w b1 b2 A (cBo11 (PP w b1 b2) it acc loc ck) R ⟨h, gs, dr, t0, os⟩ := by
  revert b1
  refine @bothB _ ?_ ?_ <;> set_option tactic.hygienic false in intros
  all_goals (
  refine goC hA T G (by kernel_rfl) ?_; intro _ _ r
  obtain ⟨N, hN⟩ : ∃ N, h.objs.size = N := ⟨_, rfl⟩
  rw [hN] at r
  refine cutS 500 4 (n := 57) (hs := [1,1,1,1,1,1,1,1,1,4,4,0,0,1,1,1,1,1,1,1,1,1,1,1]) (c := (.compStart (eBd11 (PP w b1 b2)) 0 (.ref (N + 1)) (.ref (N + 2)) (envL (PP w b1 b2) (eBd11 (PP w b1 b2)) (N + 3) ([(sTold, 165), (sK, ck)]) (159)))) (idx := [2,1,0,7,8,9]) (Lf := fun F => [((N + 1), ⟨(.type "range_iterator"), Option.none, (.fields #[(.int 0 0), (.int 4 0), (.int 1 0)]), #[]⟩), ((N + 2), oList [] 0), ((N + 3), oD [] 0), (ck, ⟨(.type "cell"), Option.none, (.cell (Option.some (.int (i : Int) t0))), #[]⟩), (165, ⟨(.type "cell"), Option.none, (.cell (Option.some (.ref td))), #[]⟩), (td, oList qs etd)]) r (by decide) (by kernel_rfl) ?_; intro h1 t1 r1 T1 G1 o1 z1
  refine comp_start (by kernel_rfl) (.range ⟨_, G1.nw _ (.head _), rfl⟩) ?_
  refine bd11_loop hB hi o1 4 0 [] 0 none h1 _ rfl (fun e => (nomatch e)) (Nat.zero_le _) T1 G1 ?_
  intro h2 t2 q ep2 oi ox hq x2
  have z2 : h2.objs.size = h2.objs.size := rfl
  refine goS r1 _ [2,1,0,7,8,9] x2 z2 (by kernel_rfl) ?_; intro _ r2
  obtain ⟨u1, u2, u3⟩ := ox
  refine cutS 550 0 (n := 5) (hs := [1,1,1]) (c := (.call (.builtin "list.append") ⟨[(.ref acc), (.ref (N + 2))], []⟩)) (idx := [5]) (Lf := fun F => [(acc, oList zs ep)]) r2 (by decide) (by kernel_rfl) ?_; intro h3 t3 r3 T3 G3 o3 z3
  refine lf_append (G3.nw _ (.head _)) hz z3 ?_
  intro h4 x4 z4
  refine goS r3 _ [5] x4 z4 (by kernel_rfl) ?_; intro _ r4
  refine agS 0 (n := 0) (hs := []) (c := (cBo11 (PP w b1 b2) it acc loc ck)) (q := 4) (idx := [4,5,6,7,8,9]) (idn := [1]) (Lf := fun F => [(it, ⟨(.type "range_iterator"), Option.none, (.fields #[(.int ((i + 1) : Int) 0), (.int ((↑(m + 1) : Int) - 1) 0), (.int 1 0)]), #[]⟩), (acc, oList (zs ++ [Value.ref (N + 2)]) (ep + 1)), (loc, oD [] 0), (ck, ⟨(.type "cell"), Option.none, (.cell (Option.some (.int (i : Int) t0))), #[]⟩), (165, ⟨(.type "cell"), Option.none, (.cell (Option.some (.ref td))), #[]⟩), (td, oList qs etd)]) (Nf := fun F => [((N + 2), oList (colV q) ep2)]) r4 (by decide) (by kernel_rfl) ?_; intro h5 t5 x5 z5 T5 G5
  rw [show ((↑(m + 1) : Int) - 1) = (m : Int) by omega] at x5 G5
  exact kk h5 t5 _ q _ _ hq x5 T5 ⟨fun p hp => G5.nw p (.tail _ hp), (List.nodup_cons.mp G5.nd).2, fun p hp => G5.sep p (.tail _ hp)⟩)
theorem bd12_loop {it acc loc ck td : Addr} {k : Nat} {tk : Tok} {qs : List Value} {etd : Nat} {B : Nat → Bool} (hB : ∀ j, j < 16 → ∃ t, qs[j]? = some (.str (tokStr (B j)) t)) (hk : k < 4) (hA : Okk A 500) :
    ∀ (m i : Nat) (q : List (Nat × Tok)) (ep : Nat) (ox : Option (Int × Tok × Value)) (h : Heap) (t0 : Nat), i + m = 4 → (m = 0 → ∃ p, ox = some p) → q.length ≤ i → Tp (kP w b1 b2) h → Giv (kP w b1 b2) h (bdL it acc loc ck td i m (colV q) ep ox k tk qs etd) →
    (∀ h' t' q' ep' oi ox', q'.map (·.1) = q.map (·.1) ++ rowQ (fun c => B (4 * k + c)) false i m → Af h [(it, oi), (acc, oList (colV q') ep'), (loc, oX sColumn (some ox')), (ck, oCell (.int (k : Int) tk)), (165, oCell (.ref td)), (td, oList qs etd)] [] h' → R (.ok .next) ⟨h', gs, dr, t', os⟩) →
    CA w b1 b2 A (cBd12 (PP w b1 b2) it acc loc ck) R ⟨h, gs, dr, t0, os⟩ := by
  intro m
  induction m with
  | zero =>
    intro i q ep ox h t0 hin hp hz T G kk
    revert b1
    refine @bothB _ ?_ ?_ <;> set_option tactic.hygienic false in intros
    all_goals (
    refine goC hA T G (by kernel_rfl) ?_; intro _ _ r
    obtain ⟨⟨u1, u2, u3⟩, rfl⟩ := hp rfl
    refine endS 2 (n := 14) (hs := [1,1,1,1,1,1]) (fl := .next) (q := 2) (idx := [2,3,4,5,6,7]) (idn := []) (Lf := fun F => [(it, ⟨(.type "range_iterator"), Option.none, (.fields #[(.int (i : Int) 0), (.int 0 0), (.int 1 0)]), #[]⟩), (acc, oList (colV q) ep), (loc, oD [⟨u1, .str ⟨#[99,111,108,117,109,110]⟩ u2, u3⟩] 1), (ck, ⟨(.type "cell"), Option.none, (.cell (Option.some (.int (k : Int) tk))), #[]⟩), (165, ⟨(.type "cell"), Option.none, (.cell (Option.some (.ref td))), #[]⟩), (td, oList qs etd)]) (Nf := fun F => []) r (by decide) (by kernel_rfl) ?_; intro h3 t3 x3 z3
    exact kk h3 t3 q ep _ (u1, u2, u3) (by rw [show rowQ (fun c => B (4 * k + c)) false i 0 = [] from rfl, List.append_nil]) x3)
  | succ m ih =>
    intro i q ep ox h t0 hin hp hz T G kk
    obtain ⟨tb, hx⟩ := hB (4 * k + i) (by omega)
    refine bd12_turn rfl hA T G hx (by omega) (by unfold colV; rw [List.length_map]; omega) fun h1 t1 tc ox1 x1 T1 G1 => ?_
    by_cases hb : B (4 * k + i) = false
    · rw [if_pos hb, if_pos hb] at x1 G1
      have e : colV q ++ [.int (i : Int) tc] = colV (q ++ [(i, tc)]) := by unfold colV; rw [List.map_append]; rfl
      rw [e] at x1 G1
      refine ih (i + 1) _ _ _ h1 t1 (by omega) (fun _ => ⟨_, rfl⟩) (by rw [List.length_append, List.length_singleton]; omega) T1 G1 fun h2 t2 q2 ep2 oi ox2 e2 x2 => ?_
      refine kk h2 t2 q2 ep2 oi ox2 ?_ (x1.trans x2 rfl)
      rw [e2, rowQ_succ, if_pos hb, List.map_append, List.append_assoc]; rfl
    · rw [if_neg hb, if_neg hb] at x1 G1
      refine ih (i + 1) _ _ _ h1 t1 (by omega) (fun _ => ⟨_, rfl⟩) (by omega) T1 G1 fun h2 t2 q2 ep2 oi ox2 e2 x2 => ?_
      refine kk h2 t2 q2 ep2 oi ox2 ?_ (x1.trans x2 rfl)
      rw [e2, rowQ_succ, if_neg hb]
noncomputable abbrev eBo12 (P : Params) : Expr := lawE P 12 []
noncomputable abbrev cBo12 (P : Params) (it acc loc ck : Addr) : Code := cComp P (eBo12 P) it acc loc [(sK, ck), (sTold, 165)] 159
theorem bo12_turn {it acc loc ck td : Addr} {i m : Nat} {zs : List Value} {ep : Nat} {oc : Option Value} {qs : List Value} {etd : Nat} {B : Nat → Bool} (hB : ∀ j, j < 16 → ∃ t, qs[j]? = some (.str (tokStr (B j)) t)) (hi : i < 4) (hA : Okk A 450) (T : Tp (kP w b1 b2) h)
    (G : Giv (kP w b1 b2) h (bdoL it acc loc ck td i (m + 1) zs ep ⟨.type "cell", none, .cell oc, #[]⟩ qs etd)) (hz : zs.length ≤ 1000)
    (kk : ∀ h' t' a q ep' tk', q.map (·.1) = rowQ (fun c => B (4 * i + c)) false 0 4 → Af h (bdoL it acc loc ck td (i + 1) m (zs ++ [.ref a]) (ep + 1) (oCell (.int (i : Int) tk')) qs etd) [(a, oList (colV q) ep')] h' → Tp (kP w b1 b2) h' → Giv (kP w b1 b2) h' (bdoL it acc loc ck td (i + 1) m (zs ++ [.ref a]) (ep + 1) (oCell (.int (i : Int) tk')) qs etd) →
      CA w b1 b2 A (cBo12 (PP w b1 b2) it acc loc ck) R ⟨h', gs, dr, t', os⟩) :
    CA w b1 b2 A (cBo12 (PP w b1 b2) it acc loc ck) R ⟨h, gs, dr, t0, os⟩ := by
  revert b1
  refine @bothB _ ?_ ?_ <;> set_option tactic.hygienic false in intros
  all_goals (
  refine goC hA T G (by kernel_rfl) ?_; intro _ _ r
  obtain ⟨N, hN⟩ : ∃ N, h.objs.size = N := ⟨_, rfl⟩
  rw [hN] at r
  refine cutS 500 4 (n := 57) (hs := [1,1,1,1,1,1,1,1,1,4,4,0,0,1,1,1,1,1,1,1,1,1,1,1]) (c := (.compStart (eBd12 (PP w b1 b2)) 0 (.ref (N + 1)) (.ref (N + 2)) (envL (PP w b1 b2) (eBd12 (PP w b1 b2)) (N + 3) ([(sTold, 165), (sK, ck)]) (159)))) (idx := [2,1,0,7,8,9]) (Lf := fun F => [((N + 1), ⟨(.type "range_iterator"), Option.none, (.fields #[(.int 0 0), (.int 4 0), (.int 1 0)]), #[]⟩), ((N + 2), oList [] 0), ((N + 3), oD [] 0), (ck, ⟨(.type "cell"), Option.none, (.cell (Option.some (.int (i : Int) t0))), #[]⟩), (165, ⟨(.type "cell"), Option.none, (.cell (Option.some (.ref td))), #[]⟩), (td, oList qs etd)]) r (by decide) (by kernel_rfl) ?_; intro h1 t1 r1 T1 G1 o1 z1
  refine comp_start (by kernel_rfl) (.range ⟨_, G1.nw _ (.head _), rfl⟩) ?_
  refine bd12_loop hB hi o1 4 0 [] 0 none h1 _ rfl (fun e => (nomatch e)) (Nat.zero_le _) T1 G1 ?_
  intro h2 t2 q ep2 oi ox hq x2
  have z2 : h2.objs.size = h2.objs.size := rfl
  refine goS r1 _ [2,1,0,7,8,9] x2 z2 (by kernel_rfl) ?_; intro _ r2
  obtain ⟨u1, u2, u3⟩ := ox
  refine cutS 550 0 (n := 5) (hs := [1,1,1]) (c := (.call (.builtin "list.append") ⟨[(.ref acc), (.ref (N + 2))], []⟩)) (idx := [5]) (Lf := fun F => [(acc, oList zs ep)]) r2 (by decide) (by kernel_rfl) ?_; intro h3 t3 r3 T3 G3 o3 z3
  refine lf_append (G3.nw _ (.head _)) hz z3 ?_
  intro h4 x4 z4
  refine goS r3 _ [5] x4 z4 (by kernel_rfl) ?_; intro _ r4
  refine agS 0 (n := 0) (hs := []) (c := (cBo12 (PP w b1 b2) it acc loc ck)) (q := 4) (idx := [4,5,6,7,8,9]) (idn := [1]) (Lf := fun F => [(it, ⟨(.type "range_iterator"), Option.none, (.fields #[(.int ((i + 1) : Int) 0), (.int ((↑(m + 1) : Int) - 1) 0), (.int 1 0)]), #[]⟩), (acc, oList (zs ++ [Value.ref (N + 2)]) (ep + 1)), (loc, oD [] 0), (ck, ⟨(.type "cell"), Option.none, (.cell (Option.some (.int (i : Int) t0))), #[]⟩), (165, ⟨(.type "cell"), Option.none, (.cell (Option.some (.ref td))), #[]⟩), (td, oList qs etd)]) (Nf := fun F => [((N + 2), oList (colV q) ep2)]) r4 (by decide) (by kernel_rfl) ?_; intro h5 t5 x5 z5 T5 G5
  rw [show ((↑(m + 1) : Int) - 1) = (m : Int) by omega] at x5 G5
  exact kk h5 t5 _ q _ _ hq x5 T5 ⟨fun p hp => G5.nw p (.tail _ hp), (List.nodup_cons.mp G5.nd).2, fun p hp => G5.sep p (.tail _ hp)⟩)
end
end Mine
end
section
open PySem PySem.W PyProof.Rows PySem.W.X
namespace Mine
noncomputable abbrev Row := Nat → Addr × List (Nat × Tok) × Nat
noncomputable abbrev rwL (ρ : Row) : List (Addr × Obj) := [((ρ 0).1, oList (colV (ρ 0).2.1) (ρ 0).2.2), ((ρ 1).1, oList (colV (ρ 1).2.1) (ρ 1).2.2), ((ρ 2).1, oList (colV (ρ 2).2.1) (ρ 2).2.2), ((ρ 3).1, oList (colV (ρ 3).2.1) (ρ 3).2.2)]
noncomputable abbrev refR (ρ : Row) : List Value := [.ref (ρ 0).1, .ref (ρ 1).1, .ref (ρ 2).1, .ref (ρ 3).1]
noncomputable def RowsB (B : Nat → Bool) (inc : Bool) (ρ : Row) : Prop := ∀ k, k < 4 → (ρ k).2.1.map (·.1) = rowQ (fun c => B (4 * k + c)) inc 0 4
noncomputable abbrev es4 (hd hc : Int) (kd kc : Tok) (D C : Value) (hp : Int) (kp : Tok) (pl : Addr) (hn : Int) (kn : Tok) (nl : Addr) : List DictEntry := esL hd hc kd kc D C hp kp pl ++ [⟨hn, .str sNames kn, .ref nl⟩]
section
variable {w : World} {b1 b2 : Bool} {A : Around} {R : Result → Shared → Prop} {hB h : Heap} {gs : Array GenState} {dr : Drawn} {t0 N : Nat} {os : OsState}
theorem bo11_all {it acc loc ck td : Addr} {ep : Nat} {qs : List Value} {etd : Nat} {B : Nat → Bool} (hB : ∀ j, j < 16 → ∃ t, qs[j]? = some (.str (tokStr (B j)) t)) (hA : Okk A 450) (T : Tp (kP w b1 b2) h)
    (G : Giv (kP w b1 b2) h (bdoL it acc loc ck td 0 4 [] ep oCell0 qs etd))
    (kk : ∀ h' t' ρ ep' oi oc', RowsB B true ρ → Af h [(it, oi), (acc, oList (refR ρ) ep'), (loc, oD [] 0), (ck, oc'), (165, oCell (.ref td)), (td, oList qs etd)] (rwL ρ) h' → R (.ok .next) ⟨h', gs, dr, t', os⟩) :
    CA w b1 b2 A (cBo11 (PP w b1 b2) it acc loc ck) R ⟨h, gs, dr, t0, os⟩ := by
  refine bo11_turn hB (by decide) hA T G (by decide) fun h1 t1 a1 q1 e1 k1 r1 x1 T1 G1 => ?_
  refine bo11_turn hB (by decide) hA T1 G1 (by simp) fun h2 t2 a2 q2 e2 k2 r2 x2 T2 G2 => ?_
  refine bo11_turn hB (by decide) hA T2 G2 (by simp) fun h3 t3 a3 q3 e3 k3 r3 x3 T3 G3 => ?_
  refine bo11_turn hB (by decide) hA T3 G3 (by simp) fun h4 t4 a4 q4 e4 k4 r4 x4 T4 G4 => ?_
  have x := ((x1.transN x2 rfl (G.ltk rfl)).transN x3 rfl (G.ltk rfl)).transN x4 rfl (G.ltk rfl)
  revert b1
  refine @bothB _ ?_ ?_ <;> set_option tactic.hygienic false in intros
  all_goals (
  refine goC hA T4 G4 (by kernel_rfl) ?_; intro _ _ r
  refine endS 2 (n := 14) (hs := [1,1,1,1,1,1]) (fl := .next) (q := 2) (idx := [2,3,4,5,6,7]) (idn := []) (Lf := fun F => [(it, ⟨(.type "range_iterator"), Option.none, (.fields #[(.int 4 0), (.int 0 0), (.int 1 0)]), #[]⟩), (acc, oList [(.ref a1), (.ref a2), (.ref a3), (.ref a4)] (ep + 4)), (loc, oD [] 0), (ck, ⟨(.type "cell"), Option.none, (.cell (Option.some (.int 3 k4))), #[]⟩), (165, ⟨(.type "cell"), Option.none, (.cell (Option.some (.ref td))), #[]⟩), (td, oList qs etd)]) (Nf := fun F => []) r (by decide) (by kernel_rfl) ?_; intro h5 t5 x5 z5
  refine kk h5 t5 (atNo (0, [], 0) [(a1, q1, e1), (a2, q2, e2), (a3, q3, e3), (a4, q4, e4)]) _ _ _ ?_ (x.transN x5 rfl (G.ltk rfl))
  intro k hk
  match k, hk with
  | 0, _ => exact r1
  | 1, _ => exact r2
  | 2, _ => exact r3
  | 3, _ => exact r4)
theorem bo12_all {it acc loc ck td : Addr} {ep : Nat} {qs : List Value} {etd : Nat} {B : Nat → Bool} (hB : ∀ j, j < 16 → ∃ t, qs[j]? = some (.str (tokStr (B j)) t)) (hA : Okk A 450) (T : Tp (kP w b1 b2) h)
    (G : Giv (kP w b1 b2) h (bdoL it acc loc ck td 0 4 [] ep oCell0 qs etd))
    (kk : ∀ h' t' ρ ep' oi oc', RowsB B false ρ → Af h [(it, oi), (acc, oList (refR ρ) ep'), (loc, oD [] 0), (ck, oc'), (165, oCell (.ref td)), (td, oList qs etd)] (rwL ρ) h' → R (.ok .next) ⟨h', gs, dr, t', os⟩) :
    CA w b1 b2 A (cBo12 (PP w b1 b2) it acc loc ck) R ⟨h, gs, dr, t0, os⟩ := by
  refine bo12_turn hB (by decide) hA T G (by decide) fun h1 t1 a1 q1 e1 k1 r1 x1 T1 G1 => ?_
  refine bo12_turn hB (by decide) hA T1 G1 (by simp) fun h2 t2 a2 q2 e2 k2 r2 x2 T2 G2 => ?_
  refine bo12_turn hB (by decide) hA T2 G2 (by simp) fun h3 t3 a3 q3 e3 k3 r3 x3 T3 G3 => ?_
  refine bo12_turn hB (by decide) hA T3 G3 (by simp) fun h4 t4 a4 q4 e4 k4 r4 x4 T4 G4 => ?_
  have x := ((x1.transN x2 rfl (G.ltk rfl)).transN x3 rfl (G.ltk rfl)).transN x4 rfl (G.ltk rfl)
  revert b1
  refine @bothB _ ?_ ?_ <;> set_option tactic.hygienic false in intros
  all_goals (
  refine goC hA T4 G4 (by kernel_rfl) ?_; intro _ _ r
  refine endS 2 (n := 14) (hs := [1,1,1,1,1,1]) (fl := .next) (q := 2) (idx := [2,3,4,5,6,7]) (idn := []) (Lf := fun F => [(it, ⟨(.type "range_iterator"), Option.none, (.fields #[(.int 4 0), (.int 0 0), (.int 1 0)]), #[]⟩), (acc, oList [(.ref a1), (.ref a2), (.ref a3), (.ref a4)] (ep + 4)), (loc, oD [] 0), (ck, ⟨(.type "cell"), Option.none, (.cell (Option.some (.int 3 k4))), #[]⟩), (165, ⟨(.type "cell"), Option.none, (.cell (Option.some (.ref td))), #[]⟩), (td, oList qs etd)]) (Nf := fun F => []) r (by decide) (by kernel_rfl) ?_; intro h5 t5 x5 z5
  refine kk h5 t5 (atNo (0, [], 0) [(a1, q1, e1), (a2, q2, e2), (a3, q3, e3), (a4, q4, e4)]) _ _ _ ?_ (x.transN x5 rfl (G.ltk rfl))
  intro k hk
  match k, hk with
  | 0, _ => exact r1
  | 1, _ => exact r2
  | 2, _ => exact r3
  | 3, _ => exact r4)
theorem st11 {cE cD cS cRd occ ocx tab : Obj} {s : Nat} {xs : List Value} {ep : Nat} {td cd cx pl nl : Addr} {f : Nat → Addr × Tok} {epl etd : Nat} {qs : List Value} {B : Nat → Bool} {D C : Value} {hd hc hp hn : Int} {kd kc kp kn : Tok} (hB' : ∀ j, j < 16 → ∃ t, qs[j]? = some (.str (tokStr (B j)) t))
    (r : OkL w b1 b2 A R hB 11 ((pl, oList (refsOf (fl f)) epl) :: (tupL s 0 (fl f) ++ (td, oList qs etd) :: (cd, occ) :: (cx, ocx) :: lawL tab (es4 hd hc kd kc D C hp kp pl hn kn nl) 4 oCell0 oCell0 (oCell (.ref td)) cRd cS cE cD xs ep)) h N t0)
    (k : ∀ h' N' t' bl ρ epb hb kb, RowsB B true ρ → OkL w b1 b2 A R hB 12 ((bl, oList (refR ρ) epb) :: (rwL ρ ++ (pl, oList (refsOf (fl f)) epl) :: (tupL s 0 (fl f) ++ (td, oList qs etd) :: (cd, occ) :: (cx, ocx) :: lawL tab (es4 hd hc kd kc D C hp kp pl hn kn nl ++ [⟨hb, .str sBoard kb, .ref bl⟩]) 5 oCell0 oCell0 (oCell (.ref td)) cRd cS cE cD xs ep))) h' N' t' → GoL w b1 b2 A R 12 ((bl, oList (refR ρ) epb) :: (rwL ρ ++ (pl, oList (refsOf (fl f)) epl) :: (tupL s 0 (fl f) ++ (td, oList qs etd) :: (cd, occ) :: (cx, ocx) :: lawL tab (es4 hd hc kd kc D C hp kp pl hn kn nl ++ [⟨hb, .str sBoard kb, .ref bl⟩]) 5 oCell0 oCell0 (oCell (.ref td)) cRd cS cE cD xs ep))) ⟨h', gs, dr, t', os⟩) :
    GoL w b1 b2 A R 11 ((pl, oList (refsOf (fl f)) epl) :: (tupL s 0 (fl f) ++ (td, oList qs etd) :: (cd, occ) :: (cx, ocx) :: lawL tab (es4 hd hc kd kc D C hp kp pl hn kn nl) 4 oCell0 oCell0 (oCell (.ref td)) cRd cS cE cD xs ep)) ⟨h, gs, dr, t0, os⟩ := by
  revert b1
  refine @bothB _ ?_ ?_ <;> set_option tactic.hygienic false in intros
  all_goals (
  refine cutS 450 5 (n := 41) (hs := [0,0,1,1,1,1,1,1,1,1,1,1,1]) (c := (.compStart (eBo11 (PP w b1 b2)) 0 (.ref (N + 1)) (.ref (N + 2)) (envL (PP w b1 b2) (eBo11 (PP w b1 b2)) (N + 3) ([(sK, N + 4), (sTold, 165)]) (159)))) (idx := [3,2,1,0,28,22]) (Lf := fun F => [((N + 1), ⟨(.type "range_iterator"), Option.none, (.fields #[(.int 0 0), (.int 4 0), (.int 1 0)]), #[]⟩), ((N + 2), oList [] 0), ((N + 3), oD [] 0), ((N + 4), ⟨(.type "cell"), Option.none, (.cell Option.none), #[]⟩), (165, ⟨(.type "cell"), Option.none, (.cell (Option.some (.ref td))), #[]⟩), (td, oList qs etd)]) r (by decide) (by kernel_rfl) ?_; intro h1 t1 r1 T1 G1 o1 z1
  refine comp_start (by kernel_rfl) (.range ⟨_, G1.nw _ (.head _), rfl⟩) ?_
  refine bo11_all hB' o1 T1 G1 ?_
  intro h2 t2 ρ ep2 oi oc hρ x2
  have z2 : h2.objs.size = h2.objs.size := rfl
  refine goS r1 _ [3,2,1,0,28,22] x2 z2 (by kernel_rfl) ?_; intro _ r2
  refine toL 0 (n := 9) (hs := [30,30]) (T := restT (lawC (PP w b1 b2) 12)) (c := lawC (PP w b1 b2) 0) (dp := 351) (q := 38) (idx := [38,39]) (idn := [6,0,1,2,3,9,10,11,12,13,14,15,16,17,18,19,20,21,22,23,24,25,26,27,28,29,30,31,32,33,34,35,36,37]) (Lf := fun F => ([(130, tab), (158, oList xs ep)])) (Nf := fun F => ((N + 2, oList (refR ρ) ep2) :: (rwL ρ ++ (pl, oList (refsOf (fl f)) epl) :: (tupL s 0 (fl f) ++ (td, oList qs etd) :: (cd, occ) :: (cx, ocx) :: tlL (es4 hd hc kd kc D C hp kp pl hn kn nl ++ [⟨hOf F 29 4, .str sBoard (kOf F 29 4), .ref (N + 2)⟩]) 5 oCell0 oCell0 (oCell (.ref td)) cRd cS cE cD)))) r2 (by decide) (by kernel_rfl) (by kernel_rfl) ?_; intro h3 t3 r3
  exact k _ _ _ (N + 2) ρ ep2 _ _ hρ r3)
theorem st12 {cE cD cS cRd occ ocx tab : Obj} {s : Nat} {xs : List Value} {ep : Nat} {td cd cx pl nl bl : Addr} {f : Nat → Addr × Tok} {epl etd epb : Nat} {qs : List Value} {B : Nat → Bool} {ρ : Row} {D C : Value} {hd hc hp hn hb : Int} {kd kc kp kn kb : Tok} (hB' : ∀ j, j < 16 → ∃ t, qs[j]? = some (.str (tokStr (B j)) t))
    (r : OkL w b1 b2 A R hB 12 ((bl, oList (refR ρ) epb) :: (rwL ρ ++ (pl, oList (refsOf (fl f)) epl) :: (tupL s 0 (fl f) ++ (td, oList qs etd) :: (cd, occ) :: (cx, ocx) :: lawL tab (es4 hd hc kd kc D C hp kp pl hn kn nl ++ [⟨hb, .str sBoard kb, .ref bl⟩]) 5 oCell0 oCell0 (oCell (.ref td)) cRd cS cE cD xs ep))) h N t0)
    (k : ∀ h' N' t' rl σ epr hr kr, RowsB B false σ → OkL w b1 b2 A R hB 13 ((rl, oList (refR σ) epr) :: (rwL σ ++ (bl, oList (refR ρ) epb) :: (rwL ρ ++ (pl, oList (refsOf (fl f)) epl) :: (tupL s 0 (fl f) ++ (td, oList qs etd) :: (cd, occ) :: (cx, ocx) :: lawL tab (es4 hd hc kd kc D C hp kp pl hn kn nl ++ [⟨hb, .str sBoard kb, .ref bl⟩] ++ [⟨hr, .str sRest kr, .ref rl⟩]) 6 oCell0 oCell0 (oCell (.ref td)) cRd cS cE cD xs ep)))) h' N' t' → GoL w b1 b2 A R 13 ((rl, oList (refR σ) epr) :: (rwL σ ++ (bl, oList (refR ρ) epb) :: (rwL ρ ++ (pl, oList (refsOf (fl f)) epl) :: (tupL s 0 (fl f) ++ (td, oList qs etd) :: (cd, occ) :: (cx, ocx) :: lawL tab (es4 hd hc kd kc D C hp kp pl hn kn nl ++ [⟨hb, .str sBoard kb, .ref bl⟩] ++ [⟨hr, .str sRest kr, .ref rl⟩]) 6 oCell0 oCell0 (oCell (.ref td)) cRd cS cE cD xs ep)))) ⟨h', gs, dr, t', os⟩) :
    GoL w b1 b2 A R 12 ((bl, oList (refR ρ) epb) :: (rwL ρ ++ (pl, oList (refsOf (fl f)) epl) :: (tupL s 0 (fl f) ++ (td, oList qs etd) :: (cd, occ) :: (cx, ocx) :: lawL tab (es4 hd hc kd kc D C hp kp pl hn kn nl ++ [⟨hb, .str sBoard kb, .ref bl⟩]) 5 oCell0 oCell0 (oCell (.ref td)) cRd cS cE cD xs ep))) ⟨h, gs, dr, t0, os⟩ := by
  revert b1
  refine @bothB _ ?_ ?_ <;> set_option tactic.hygienic false in intros
  all_goals (
  refine cutS 450 5 (n := 41) (hs := [0,0,1,1,1,1,1,1,1,1,1,1,1]) (c := (.compStart (eBo12 (PP w b1 b2)) 0 (.ref (N + 1)) (.ref (N + 2)) (envL (PP w b1 b2) (eBo12 (PP w b1 b2)) (N + 3) ([(sK, N + 4), (sTold, 165)]) (159)))) (idx := [3,2,1,0,33,27]) (Lf := fun F => [((N + 1), ⟨(.type "range_iterator"), Option.none, (.fields #[(.int 0 0), (.int 4 0), (.int 1 0)]), #[]⟩), ((N + 2), oList [] 0), ((N + 3), oD [] 0), ((N + 4), ⟨(.type "cell"), Option.none, (.cell Option.none), #[]⟩), (165, ⟨(.type "cell"), Option.none, (.cell (Option.some (.ref td))), #[]⟩), (td, oList qs etd)]) r (by decide) (by kernel_rfl) ?_; intro h1 t1 r1 T1 G1 o1 z1
  refine comp_start (by kernel_rfl) (.range ⟨_, G1.nw _ (.head _), rfl⟩) ?_
  refine bo12_all hB' o1 T1 G1 ?_
  intro h2 t2 σ ep2 oi oc hσ x2
  have z2 : h2.objs.size = h2.objs.size := rfl
  refine goS r1 _ [3,2,1,0,33,27] x2 z2 (by kernel_rfl) ?_; intro _ r2
  refine toL 0 (n := 9) (hs := [35,35]) (T := restT (lawC (PP w b1 b2) 13)) (c := lawC (PP w b1 b2) 0) (dp := 351) (q := 43) (idx := [43,44]) (idn := [6,0,1,2,3,9,10,11,12,13,14,15,16,17,18,19,20,21,22,23,24,25,26,27,28,29,30,31,32,33,34,35,36,37,38,39,40,41,42]) (Lf := fun F => ([(130, tab), (158, oList xs ep)])) (Nf := fun F => ((N + 2, oList (refR σ) ep2) :: (rwL σ ++ (bl, oList (refR ρ) epb) :: (rwL ρ ++ (pl, oList (refsOf (fl f)) epl) :: (tupL s 0 (fl f) ++ (td, oList qs etd) :: (cd, occ) :: (cx, ocx) :: tlL (es4 hd hc kd kc D C hp kp pl hn kn nl ++ [⟨hb, .str sBoard kb, .ref bl⟩] ++ [⟨hOf F 34 5, .str sRest (kOf F 34 5), .ref (N + 2)⟩]) 6 oCell0 oCell0 (oCell (.ref td)) cRd cS cE cD))))) r2 (by decide) (by kernel_rfl) (by kernel_rfl) ?_; intro h3 t3 r3
  exact k _ _ _ (N + 2) σ ep2 _ _ hσ r3)
end
end Mine
end
section
open PySem PySem.W PyProof.Rows PySem.W.X
namespace Mine
/-! ## the table of names -/
noncomputable def qRk : Str := ⟨#[95,108,97,119,95,114,111,111,107,115,46,60,108,111,99,97,108,115,62,46]⟩
noncomputable def sMask : Str := ⟨#[109,97,115,107]⟩
noncomputable def dsT (acc : Addr) (kv vv : Value) (c : Code) (env : Env) : Sem PySem.Fin := W.R.onRaiseR (W.R.bindR (Fast.tw17359229931016689406 [kv, vv] (Fast.tw11925912800584824493 acc kv vv)) fun _ => Fast.tw12377390311714414960 c) fun x => W.R.bindR (Fast.tw17872113653443481271 x env) fun _ => Fast.tw1623429502029203251 x
theorem dsT_eq (acc : Addr) (kv vv : Value) (c : Code) (env : Env) : dsT acc kv vv c env = (Sem.bind (holding [kv, vv] (dictSet acc kv vv)) fun _ => PySem.«again» c).onRaise fun x => Sem.bind (noteFrame x env) fun _ => theTreesLotGoes x := by
  unfold dsT
  rw [← W.R.bindR_eq, ← W.R.onRaiseR_eq, ← Fast.te17359229931016689406, ← Fast.te11925912800584824493, ← Fast.te12377390311714414960, ← Fast.te17872113653443481271, ← Fast.te1623429502029203251]
section
variable {w : World} {b1 b2 : Bool} {A : Around} {R : Result → Shared → Prop} {hB h : Heap} {gs : Array GenState} {dr : Drawn} {t0 N : Nat} {os : OsState}
noncomputable abbrev eMasks (P : Params) : Expr := exprOf (stmtNo (bodyAt P 145) 0)
noncomputable abbrev cMasks (P : Params) (it acc loc fr cn : Addr) : Code := .compLoop (eMasks P) 0 (.ref it) (.ref acc) (envC (eMasks P) qRk loc [(sNames, cn)] (.ref 144) fr)
noncomputable abbrev msL (it acc loc cn nl : Addr) (i m : Nat) (es : List DictEntry) (ep : Nat) (ox : Option (Int × Tok × Value)) (ns : List Value) (en : Nat) : List (Addr × Obj) :=
  [(it, oRit i m), (acc, oD es ep), (loc, oX sMask ox), (cn, oCell (.ref nl)), (nl, oList ns en)]
noncomputable abbrev sK' (w : World) (b1 b2 : Bool) : KeyKind pw (Wf w b1 b2) Str := strKind pw (Wf w b1 b2)
theorem set_turn {acc : Addr} {S : Str} {tS : Tok} {v : Value} {c : Code} {env : Env} {kvs : List (Str × Value)} {dp : Nat} {L : List (Addr × Obj)} (T : Tp (kP w b1 b2) h) (ha : kP w b1 b2 acc = none) (hm : h.DictOf (sK' w b1 b2) acc kvs) (hsz : kvs.length ≤ 1000) (hq : c.quiet = true)
    (k : ∀ h', h'.DictOf (sK' w b1 b2) acc (stored kvs S v) → Heap.SameBut acc h h' → CA w b1 b2 A c R ⟨h', gs, dr, t0 + 1, os⟩) :
    MnS w b1 b2 A R ⟨c, [], dsT acc (.str S tS) v c env, dp, 0, 0, L⟩ ⟨h, gs, dr, t0, os⟩ := by
  show wpAny (model pw (Wf w b1 b2)) (A.under c) (dsT acc (.str S tS) v c env) (gC pw (Wf w b1 b2) A R) (eC R) ⟨h, gs, dr, t0, os⟩
  rw [dsT_eq]
  have sl : 1000 ≤ sizeLine := by decide
  refine wpAny_noted (wpAny_bind (wpAny_holding (wpAny_dictSet_pairs (knd := sK' w b1 b2) (k := S) (show Value.isStrOf S (.str S tS) = true by simp [Value.isStrOf]) hm (fun h' hm' hs => wpAny_pure ⟨?_, hq, k h' hm' hs⟩) (by omega))))
  obtain ⟨o, es, ep, ho, _⟩ := hm'
  exact (T.aft (Aft.of_same hs ho) (kt_two _) (fun p hp => by rcases List.mem_singleton.mp hp with rfl; exact ha)).lim
theorem Ok.gv {d : Nat} {ks : List Addr} {F : Cf} {N t : Nat} (r : Ok w b1 b2 A R d hB ks F h N t) : Giv (kP w b1 b2) h F.news := ⟨r.R.nw, r.R.nd, r.R.sep⟩
theorem Ok.afA {d : Nat} {ks : List Addr} {F : Cf} {N t : Nat} (r : Ok w b1 b2 A R d hB ks F h N t) (e : F.news.map (·.1) = ks) : Af hB F.news [] h := af_of (r.R.aft r.R.nw fun a ha => by
  rw [← e] at ha
  obtain ⟨p, hp, ep⟩ := List.mem_map.mp ha
  exact ⟨p, hp, ep⟩)
theorem upd_af {h3 h6 : Heap} {a : Addr} {o : Obj} {L1 L2 : List (Addr × Obj)} {a0 : Obj} (hs : Heap.SameBut a h3 h6) (ho : h6.get? a = some o) (G : Giv (kP w b1 b2) h3 (L1 ++ (a, a0) :: L2)) : Af h3 (L1 ++ (a, o) :: L2) [] h6 ∧ Giv (kP w b1 b2) h6 (L1 ++ (a, o) :: L2) := by
  have nd := G.nd
  rw [List.map_append, List.map_cons] at nd
  have nm : ∀ p ∈ L1 ++ L2, p.1 ≠ a := by
    intro p hp e
    rw [List.nodup_append] at nd
    obtain ⟨n1, n2, n3⟩ := nd
    rcases List.mem_append.mp hp with hp | hp
    · exact n3 p.1 (List.mem_map_of_mem hp) a (.head _) e
    · exact (List.nodup_cons.mp n2).1 (by rw [← e]; exact List.mem_map_of_mem (f := (·.1)) hp)
  have nw : ∀ p ∈ L1 ++ (a, o) :: L2, h6.get? p.1 = some p.2 := by
    intro p hp
    rcases List.mem_append.mp hp with hp | hp
    · exact (hs.2 p.1 (nm p (List.mem_append.mpr (.inl hp)))).trans (G.nw p (List.mem_append.mpr (.inl hp)))
    · rcases List.mem_cons.mp hp with rfl | hp
      · exact ho
      · exact (hs.2 p.1 (nm p (List.mem_append.mpr (.inr hp)))).trans (G.nw p (List.mem_append.mpr (.inr (.tail _ hp))))
  refine ⟨af_of ⟨Nat.le_of_eq hs.1.symm, nw, fun b ob eb z => (hs.2 b fun e => z (a, o) (List.mem_append.mpr (.inr (.head _))) e.symm).trans eb⟩, nw, ?_, fun p hp => ?_⟩
  · rw [List.map_append, List.map_cons]; exact nd
  · rcases List.mem_append.mp hp with hp | hp
    · exact G.sep p (List.mem_append.mpr (.inl hp))
    · rcases List.mem_cons.mp hp with rfl | hp
      · exact G.sep (a, a0) (List.mem_append.mpr (.inr (.head _)))
      · exact G.sep p (List.mem_append.mpr (.inr (.tail _ hp)))
theorem dict_obj {a : Addr} {kvs : List (Str × Value)} (hm : h.DictOf (sK' w b1 b2) a kvs) : ∃ es ep, h.get? a = some (oD es ep) := by
  obtain ⟨⟨c, dd, da, sl⟩, es, ep, ho, ⟨hc, hd, hsl⟩, hda, _⟩ := hm
  refine ⟨es.toList, ep, ?_⟩
  simp only at hc hd hsl hda
  subst hc hd hsl hda
  exact ho
theorem masks_turn {it acc loc fr cn nl : Addr} {i m : Nat} {es : List DictEntry} {ep : Nat} {ox : Option (Int × Tok × Value)} {ns : List Value} {en : Nat} {S : Str} {tS : Tok} {kvs : List (Str × Value)} (hx : ns[i]? = some (.str S tS)) (hi : i < 16) (hA : Okk A 600) (T : Tp (kP w b1 b2) h)
    (G : Giv (kP w b1 b2) h (msL it acc loc cn nl i (m + 1) es ep ox ns en)) (hm : h.DictOf (sK' w b1 b2) acc kvs) (hz : kvs.length ≤ 1000)
    (k : ∀ h' t' es' ep' tk ox', Af h (msL it acc loc cn nl (i + 1) m es' ep' (some ox') ns en) [] h' → Tp (kP w b1 b2) h' → Giv (kP w b1 b2) h' (msL it acc loc cn nl (i + 1) m es' ep' (some ox') ns en) → h'.DictOf (sK' w b1 b2) acc (stored kvs S (.int (i : Int) tk)) →
      CA w b1 b2 A (cMasks (PP w b1 b2) it acc loc fr cn) R ⟨h', gs, dr, t', os⟩) :
    CA w b1 b2 A (cMasks (PP w b1 b2) it acc loc fr cn) R ⟨h, gs, dr, t0, os⟩ := by
  revert b1
  refine @bothB _ ?_ ?_ <;> set_option tactic.hygienic false in intros
  all_goals (
  refine goC hA T G (by kernel_rfl) ?_; intro _ _ r
  obtain _ | ⟨u1, u2, u3⟩ := ox
  · refine cutS 650 0 (n := 29) (hs := [1,1,1,1,1,1,1,1,1,3,3,4,3,5,5,5]) (c := (.call (.builtin "list.__getitem__") ⟨[(.ref nl), (.int (i : Int) t0)], []⟩)) (idx := [4]) (Lf := fun F => [(nl, oList ns en)]) r (by decide) (by kernel_rfl) ?_; intro h1 t1 r1 T1 G1 o1 z1
    refine lf_getitem (i := i) (G1.nw _ (.head _)) hx (by omega) z1 ?_
    intro h2 t2 x2 z2
    refine goS r1 _ [] x2 z2 (by kernel_rfl) ?_; intro _ r2
    refine toL 0 (n := 3) (hs := [3]) (T := (dsT acc (.str S tS) (.int (i : Int) t0) (cMasks (PP w b1 b2) it acc loc fr cn) (envC (eMasks (PP w b1 b2)) qRk loc [(sNames, cn)] (.ref 144) fr))) (c := (cMasks (PP w b1 b2) it acc loc fr cn)) (dp := 600) (q := 0) (idx := [0,1,2,3,4]) (idn := []) (Lf := fun F => ([(it, ⟨.type "range_iterator", none, .fields #[.int ((i + 1 : Nat) : Int) 0, .int (((m + 1 : Nat) : Int) - 1) 0, .int 1 0], #[]⟩), (acc, oD es ep), (loc, oD [⟨hOf F 2 0, .str sMask (kOf F 2 0), .int (i : Int) t0⟩] 1), (cn, oCell (.ref nl)), (nl, oList ns en)])) (Nf := fun F => ([])) r2 (by decide) (by kernel_rfl) (by kernel_rfl) ?_; intro h3 t3 r3
    have em : (((m + 1 : Nat) : Int) - 1) = (m : Int) := by omega
    have G3 := r3.gv
    have x3 := r3.afA rfl
    simp only [List.nil_append] at G3 x3
    have T3 := r3.R.tp r3.D
    rw [em] at G3 x3
    refine set_turn (kvs := kvs) T3 (G.sep (acc, oD es ep) (.tail _ (.head _))) (hm.at fun o e => ?_) hz rfl fun h6 hm6 hs6 => ?_
    · have e0 := G.nw (acc, oD es ep) (.tail _ (.head _))
      have e1 := G3.nw (acc, oD es ep) (.tail _ (.head _))
      rw [← e, e0]
      exact e1
    · obtain ⟨es6, ep6, ho6⟩ := dict_obj hm6
      have u := upd_af (L1 := [_]) (L2 := [_, _, _]) hs6 ho6 G3
      have x6 := x3.trans u.1 rfl
      exact k h6 _ es6 ep6 t0 (_, _, _) x6 (T.aft x6.a (kt_two _) (fun p hp => u.2.sep p hp)) u.2 hm6
  · refine cutS 650 0 (n := 29) (hs := [1,1,1,1,1,1,1,1,1,3,3,4,3,5,5,5]) (c := (.call (.builtin "list.__getitem__") ⟨[(.ref nl), (.int (i : Int) t0)], []⟩)) (idx := [4]) (Lf := fun F => [(nl, oList ns en)]) r (by decide) (by kernel_rfl) ?_; intro h1 t1 r1 T1 G1 o1 z1
    refine lf_getitem (i := i) (G1.nw _ (.head _)) hx (by omega) z1 ?_
    intro h2 t2 x2 z2
    refine goS r1 _ [] x2 z2 (by kernel_rfl) ?_; intro _ r2
    refine toL 0 (n := 3) (hs := [3]) (T := (dsT acc (.str S tS) (.int (i : Int) t0) (cMasks (PP w b1 b2) it acc loc fr cn) (envC (eMasks (PP w b1 b2)) qRk loc [(sNames, cn)] (.ref 144) fr))) (c := (cMasks (PP w b1 b2) it acc loc fr cn)) (dp := 600) (q := 0) (idx := [0,1,2,3,4]) (idn := []) (Lf := fun F => ([(it, ⟨.type "range_iterator", none, .fields #[.int ((i + 1 : Nat) : Int) 0, .int (((m + 1 : Nat) : Int) - 1) 0, .int 1 0], #[]⟩), (acc, oD es ep), (loc, oD [⟨u1, .str sMask u2, .int (i : Int) t0⟩] 1), (cn, oCell (.ref nl)), (nl, oList ns en)])) (Nf := fun F => ([])) r2 (by decide) (by kernel_rfl) (by kernel_rfl) ?_; intro h3 t3 r3
    have em : (((m + 1 : Nat) : Int) - 1) = (m : Int) := by omega
    have G3 := r3.gv
    have x3 := r3.afA rfl
    simp only [List.nil_append] at G3 x3
    have T3 := r3.R.tp r3.D
    rw [em] at G3 x3
    refine set_turn (kvs := kvs) T3 (G.sep (acc, oD es ep) (.tail _ (.head _))) (hm.at fun o e => ?_) hz rfl fun h6 hm6 hs6 => ?_
    · have e0 := G.nw (acc, oD es ep) (.tail _ (.head _))
      have e1 := G3.nw (acc, oD es ep) (.tail _ (.head _))
      rw [← e, e0]
      exact e1
    · obtain ⟨es6, ep6, ho6⟩ := dict_obj hm6
      have u := upd_af (L1 := [_]) (L2 := [_, _, _]) hs6 ho6 G3
      have x6 := x3.trans u.1 rfl
      exact k h6 _ es6 ep6 t0 (_, _, _) x6 (T.aft x6.a (kt_two _) (fun p hp => u.2.sep p hp)) u.2 hm6)
end
end Mine
end
section
open PySem PySem.W PyProof.Rows PySem.W.X
namespace Mine
noncomputable def mkKv (s : Nat) : Nat → List Tok → List (Str × Value)
  | _, [] => []
  | j, t :: q => (nm s j, .int (j : Int) t) :: mkKv s (j + 1) q
theorem mkKv_len (s : Nat) : ∀ (q : List Tok) (j : Nat), (mkKv s j q).length = q.length
  | [], _ => rfl
  | _ :: q, j => congrArg Nat.succ (mkKv_len s q (j + 1))
theorem mkKv_app (s : Nat) (t : Tok) : ∀ (q : List Tok) (j : Nat), mkKv s j (q ++ [t]) = mkKv s j q ++ [(nm s (j + q.length), .int ((j + q.length : Nat) : Int) t)]
  | [], _ => rfl
  | a :: q, j => by
    have := mkKv_app s t q (j + 1)
    show _ :: mkKv s (j + 1) (q ++ [t]) = _ :: (mkKv s (j + 1) q ++ _)
    rw [this, List.length_cons, show j + 1 + q.length = j + (q.length + 1) by omega]
theorem mkKv_mem (s : Nat) : ∀ (q : List Tok) (j : Nat), ∀ kv ∈ mkKv s j q, ∃ i, j ≤ i ∧ i < j + q.length ∧ kv.1 = nm s i
  | [], _, _, h => nomatch h
  | a :: q, j, kv, h => by
    rcases List.mem_cons.mp h with rfl | h
    · exact ⟨j, Nat.le_refl _, by rw [List.length_cons]; omega, rfl⟩
    · obtain ⟨i, h1, h2, h3⟩ := mkKv_mem s q (j + 1) kv h
      exact ⟨i, by omega, by rw [List.length_cons]; omega, h3⟩
theorem mkKv_at (s : Nat) : ∀ (q : List Tok) (j i : Nat), i < q.length → ∃ t, (mkKv s j q)[i]? = some (nm s (j + i), .int ((j + i : Nat) : Int) t)
  | t :: q, j, 0, _ => ⟨t, rfl⟩
  | t :: q, j, i + 1, h => by
    obtain ⟨u, hu⟩ := mkKv_at s q (j + 1) i (by rw [List.length_cons] at h; omega)
    refine ⟨u, ?_⟩
    rw [show j + (i + 1) = j + 1 + i by omega]
    exact hu
/-- a name's signs, as a list -/
noncomputable def joinL : List Str → List Nat
  | [] => []
  | [x] => x.cps.toList
  | x :: y :: r => x.cps.toList ++ (44 :: 32 :: joinL (y :: r))
theorem join_toList : ∀ l : List Str, (Str.join sCS l).cps.toList = joinL l
  | [] => rfl
  | [x] => rfl
  | x :: y :: r => by
    have ih := join_toList (y :: r)
    show (x.cps ++ sCS.cps ++ (Str.join sCS (y :: r)).cps).toList = x.cps.toList ++ (44 :: 32 :: joinL (y :: r))
    rw [Array.toList_append, Array.toList_append, ih, List.append_assoc]
    rfl
noncomputable def nmL (s c : Nat) : List Nat := match c with
  | 0 => [48,120,48]
  | _ => joinL (nmF 4 s c)
theorem nm_toList (s c : Nat) : (nm s c).cps.toList = nmL s c := by
  unfold nm nmL
  cases c with
  | zero => rw [if_pos rfl]; rfl
  | succ c =>
    rw [if_neg (by omega), StrLaws.glued_eq_join]
    exact join_toList _
noncomputable def fpL (l : List Nat) : Nat := l.foldl (fun v c => (v * 31 + c) % 1000003) 7
theorem nm_fp : ∀ s, s < 8 → ((List.range 16).map fun a => fpL (nmL s a)).Nodup := by decide +kernel
theorem nm_inj : ∀ s, s < 8 → ∀ a, a < 16 → ∀ b, b < 16 → nm s a = nm s b → a = b := by
  intro s hs a ha b hb e
  have q := List.pairwise_iff_getElem.mp (nm_fp s hs)
  have f : fpL (nmL s a) = fpL (nmL s b) := by rw [← nm_toList, ← nm_toList, e]
  rcases Nat.lt_trichotomy a b with h | h | h
  · exact (q a b (by simpa using ha) (by simpa using hb) h (by simp only [List.getElem_map, List.getElem_range]; exact f)).elim
  · exact h
  · exact (q b a (by simpa using hb) (by simpa using ha) h (by simp only [List.getElem_map, List.getElem_range]; exact f.symm)).elim
theorem mkKv_new {s : Nat} (hs : s < 8) {q : List Tok} (hq : q.length < 16) (t : Tok) : stored (mkKv s 0 q) (nm s q.length) (.int (q.length : Int) t) = mkKv s 0 (q ++ [t]) := by
  have hn : ((mkKv s 0 q).any fun kv => kv.1 = nm s q.length) = false := by
    rw [List.any_eq_false]
    intro kv hkv
    obtain ⟨i, _, h2, h3⟩ := mkKv_mem s q 0 kv hkv
    rw [h3]
    intro e
    have := nm_inj s hs i (by omega) q.length hq (by simpa using e)
    omega
  unfold stored
  rw [hn, mkKv_app, Nat.zero_add]
  rfl
section
variable {w : World} {b1 b2 : Bool} {A : Around} {R : Result → Shared → Prop} {hB h : Heap} {gs : Array GenState} {dr : Drawn} {t0 N : Nat} {os : OsState}
theorem dictOf_obj {a : Addr} {o : Obj} {h h' : Heap} {kvs : List (Str × Value)} (hm : h.DictOf (sK' w b1 b2) a kvs) (e : h.get? a = some o) (e' : h'.get? a = some o) : h'.DictOf (sK' w b1 b2) a kvs :=
  hm.at fun o' q => by rw [e] at q; rw [← q]; exact e'
theorem lf_mget {d : Addr} {S : Str} {t : Tok} {v : Value} {kvs : List (Str × Value)} (hm : h.DictOf (sK' w b1 b2) d kvs) (hv : valueAt kvs S = some v) (hN : h.objs.size = N)
    (k : ∀ h' tk, Af h [] [] h' → h'.objs.size = N → R (.ok (.ret v)) ⟨h', gs, dr, tk, os⟩) :
    CA w b1 b2 A (.call (.builtin "dict.__getitem__") ⟨[.ref d, .str S t], []⟩) R ⟨h, gs, dr, t0, os⟩ := by
  have hk : (sK' w b1 b2).is S (.str S t) = true := show Value.isStrOf S (.str S t) = true by simp [Value.isStrOf]
  refine codeAny_call_builtin F.slot_dict_getitem.plain F.entry_dict_getitem (F.slot_dict_getitem.check _ _ _ _ _ _ _ _ hm.typeIs (F.args_dict_getitem_2 _ _) (meets_dict_getitem (prog := pw) (w := Wf w b1 b2) (sK' w b1 b2) d hk A R ⟨h, gs, dr, t0, os⟩ ⟨valueAt kvs, v, hm.mapOf, hv, ?_⟩))
  exact k h _ (af_refl h) hN
theorem masks_val {s : Nat} (hs : s < 8) {q : List Tok} (hq : q.length = 16) {m : Nat} (hm : m < 16) : ∃ t, valueAt (mkKv s 0 q) (nm s m) = some (.int (m : Int) t) := by
  obtain ⟨t, ht⟩ := mkKv_at s q 0 m (by omega)
  rw [Nat.zero_add] at ht
  refine ⟨t, valueAt_of_get ?_ ht⟩
  rw [List.nodup_iff_pairwise_ne, List.pairwise_iff_getElem]
  intro i j hi hj hij e
  rw [List.length_map, mkKv_len] at hi hj
  obtain ⟨u, hu⟩ := mkKv_at s q 0 i hi
  obtain ⟨v, hv⟩ := mkKv_at s q 0 j hj
  rw [List.getElem?_eq_some_iff] at hu hv
  obtain ⟨_, hu⟩ := hu
  obtain ⟨_, hv⟩ := hv
  rw [List.getElem_map, List.getElem_map, hu, hv] at e
  have := nm_inj s hs (0 + i) (by omega) (0 + j) (by omega) e
  omega
theorem masks_loop {it acc loc fr cn nl : Addr} {s : Nat} {q : List Tok} {en : Nat} (hs : s < 8) (hq : q.length = 16) (hA : Okk A 600) :
    ∀ (n i : Nat) (ts : List Tok) (es : List DictEntry) (ep : Nat) (ox : Option (Int × Tok × Value)) (h : Heap) (t0 : Nat), i + n = 16 → (n = 0 → ∃ p, ox = some p) → ts.length = i → h.DictOf (sK' w b1 b2) acc (mkKv s 0 ts) → Tp (kP w b1 b2) h → Giv (kP w b1 b2) h (msL it acc loc cn nl i n es ep ox (namesV s 0 q) en) →
    (∀ h' t' es' ep' ts' oi ox', ts'.length = 16 → h'.DictOf (sK' w b1 b2) acc (mkKv s 0 ts') → Af h [(it, oi), (acc, oD es' ep'), (loc, oX sMask (some ox')), (cn, oCell (.ref nl)), (nl, oList (namesV s 0 q) en)] [] h' → R (.ok .next) ⟨h', gs, dr, t', os⟩) →
    CA w b1 b2 A (cMasks (PP w b1 b2) it acc loc fr cn) R ⟨h, gs, dr, t0, os⟩ := by
  intro n
  induction n with
  | zero =>
    intro i ts es ep ox h t0 hin hp hts hm T G kk
    revert b1
    refine @bothB _ ?_ ?_ <;> set_option tactic.hygienic false in intros
    all_goals (
    refine goC hA T G (by kernel_rfl) ?_; intro _ _ r
    obtain ⟨⟨u1, u2, u3⟩, rfl⟩ := hp rfl
    refine endS 2 (n := 14) (hs := [1,1,1,1,1,1]) (fl := .next) (q := 2) (idx := [2,3,4,5,6]) (idn := []) (Lf := fun F => [(it, ⟨(.type "range_iterator"), Option.none, (.fields #[(.int (i : Int) 0), (.int 0 0), (.int 1 0)]), #[]⟩), (acc, oD es ep), (loc, oD [⟨u1, .str ⟨#[109,97,115,107]⟩ u2, u3⟩] 1), (cn, ⟨(.type "cell"), Option.none, (.cell (Option.some (.ref nl))), #[]⟩), (nl, oList (namesV s 0 q) en)]) (Nf := fun F => []) r (by decide) (by kernel_rfl) ?_; intro h3 t3 x3 z3
    exact kk h3 t3 es ep ts _ (u1, u2, u3) (by omega) (dictOf_obj hm (G.nw (acc, oD es ep) (.tail _ (.head _))) (x3.a.nw (acc, oD es ep) (.tail _ (.head _)))) x3)
  | succ n ih =>
    intro i ts es ep ox h t0 hin hp hts hm T G kk
    obtain ⟨tk, hx⟩ := namesV_at (s := s) q 0 i (by omega)
    rw [Nat.zero_add] at hx
    refine masks_turn hx (by omega) hA T G hm (by rw [mkKv_len]; omega) fun h1 t1 es1 ep1 tk1 ox1 x1 T1 G1 hm1 => ?_
    rw [← hts, mkKv_new hs (by omega)] at hm1
    refine ih (i + 1) (ts ++ [tk1]) _ _ _ h1 t1 (by omega) (fun _ => ⟨_, rfl⟩) (by rw [List.length_append, List.length_singleton]; omega) hm1 T1 G1 fun h2 t2 es2 ep2 ts2 oi ox2 h16 hm2 x2 => ?_
    exact kk h2 t2 es2 ep2 ts2 oi ox2 h16 hm2 (x1.trans x2 rfl)
end
end Mine
end
section
open PySem PySem.W PyProof.Rows PySem.W.X
namespace Mine
/-! ## the rooks' loops -/
noncomputable def sMasks : Str := ⟨#[109,97,115,107,115]⟩
noncomputable def sLexer : Str := ⟨#[108,101,120,101,114]⟩
noncomputable def sWaiting : Str := ⟨#[119,97,105,116,105,110,103]⟩
noncomputable def sRow : Str := ⟨#[114,111,119]⟩
noncomputable def sCome : Str := ⟨#[99,111,109,101]⟩
noncomputable def sHeld : Str := ⟨#[104,101,108,100]⟩
/-- hashes and tokens of the frame's names -/
structure RkN where
  h0 : Int
  k0 : Tok
  h1 : Int
  k1 : Tok
  h2 : Int
  k2 : Tok
  h3 : Int
  k3 : Tok
  h4 : Int
  k4 : Tok
  h5 : Int
  k5 : Tok
  h6 : Int
  k6 : Tok
  h7 : Int
  k7 : Tok
  h8 : Int
  k8 : Tok
noncomputable abbrev rkE4 (o : RkN) (bl dm x : Addr) (vw : Value) : List DictEntry := [⟨o.h0, .str sBoard o.k0, .ref bl⟩, ⟨o.h1, .str sMasks o.k1, .ref dm⟩, ⟨o.h2, .str sLexer o.k2, .ref x⟩, ⟨o.h3, .str sWaiting o.k3, vw⟩]
noncomputable abbrev rkE6 (o : RkN) (bl dm x : Addr) (vw vr vc : Value) : List DictEntry := [⟨o.h0, .str sBoard o.k0, .ref bl⟩, ⟨o.h1, .str sMasks o.k1, .ref dm⟩, ⟨o.h2, .str sLexer o.k2, .ref x⟩, ⟨o.h3, .str sWaiting o.k3, vw⟩, ⟨o.h4, .str sRow o.k4, vr⟩, ⟨o.h5, .str sCome o.k5, vc⟩]
noncomputable abbrev rkE (o : RkN) (bl dm x : Addr) (vw vr vc vt vd vh : Value) : List DictEntry := [⟨o.h0, .str sBoard o.k0, .ref bl⟩, ⟨o.h1, .str sMasks o.k1, .ref dm⟩, ⟨o.h2, .str sLexer o.k2, .ref x⟩, ⟨o.h3, .str sWaiting o.k3, vw⟩, ⟨o.h4, .str sRow o.k4, vr⟩, ⟨o.h5, .str sCome o.k5, vc⟩, ⟨o.h6, .str sTurn o.k6, vt⟩, ⟨o.h7, .str sWord o.k7, vd⟩, ⟨o.h8, .str sHeld o.k8, vh⟩]
noncomputable def rkF (o : RkN) (bl dm x : Addr) (vw vr vc vt vd vh : Value) : Option (Int × Tok × Value) → Obj
  | none => oFr (rkE o bl dm x vw vr vc vt vd vh) 9
  | some (hc, kc, v) => oFr (rkE o bl dm x vw vr vc vt vd vh ++ [⟨hc, .str sColumn kc, v⟩]) 10
noncomputable abbrev lx3 (x dx pb fs : Addr) (l : Lx) (tl : Tok) (qs : List Value) (ep : Nat) : List (Addr × Obj) := [
  (x, ⟨.ref 107, some dx, .plain, #[]⟩),
  (dx, ⟨.type "dict", none, .dict #[⟨l.hl, .str sLineno l.kl, .int 1 tl⟩, ⟨l.hi, .str sInstream l.ki, .ref fs⟩, ⟨l.hw, .str sWhitespace l.kw, .str ⟨#[10,9,13,32]⟩ l.tw⟩, ⟨l.hp, .str sPushback l.kp, .ref pb⟩] 4, #[]⟩),
  (pb, oList qs ep)]
noncomputable abbrev envRk (P : Params) (N cn : Addr) : Env := { scope := scopeAt P 145, locals := N, globals := 3, cells := [(sNames, cn)], qual := qRk, func := some 145, code := .ref 144, frame := some N }
noncomputable abbrev sRowS (P : Params) : Stmt := stmtNo (bodyAt P 145) 4
noncomputable abbrev sTurnS (P : Params) : Stmt := stmtNo (forB (sRowS P)) 1
noncomputable abbrev sColS (P : Params) : Stmt := stmtNo (forB (sTurnS P)) 4
noncomputable abbrev cFor (P : Params) (s : Stmt) (it N cn : Addr) : Code := .forLoop (forT s) (.ref it) (forB s) (forE s) (envRk P N cn)
section
variable {w : World} {b1 b2 : Bool} {A : Around} {R : Result → Shared → Prop} {hB h : Heap} {gs : Array GenState} {dr : Drawn} {t0 : Nat} {os : OsState}
noncomputable abbrev clL (it N cn rw nl : Addr) (i : Nat) (fo : Obj) (rq : List Value) (re : Nat) (ns : List Value) (en : Nat) : List (Addr × Obj) := [(it, oLit rw i), (N, fo), (rw, oList rq re), (cn, oCell (.ref nl)), (nl, oList ns en)]
theorem col_free {it N cn rw nl x dx pb fs bl dm : Addr} {o : RkN} {l : Lx} {tl : Tok} {i c m d cv : Nat} {ct tc th : Tok} {vw vr vt vd : Value} {xc : Option (Int × Tok × Value)} {rq ns qs : List Value} {re en ep : Nat} {S : Str} {tS : Tok} (hx : rq[i]? = some (.int (c : Int) tc)) (hc : c < 4) (hm : m < 16) (hd : m / 2 ^ c = d) (hb : d % 2 = 0) (hn : ns[m + 1 * 2 ^ c]? = some (.str S tS)) (hl : m + 1 * 2 ^ c < 1000) (hz : qs.length ≤ 1000) (hA : Okk A 650) (T : Tp (kP w b1 b2) h)
    (G : Giv (kP w b1 b2) h (clL it N cn rw nl i (rkF o bl dm x vw vr (.int (cv : Int) ct) vt vd (.int (m : Int) th) xc) rq re ns en ++ lx3 x dx pb fs l tl qs ep))
    (k : ∀ h' t' ct' xc', Af h (clL it N cn rw nl (i + 1) (rkF o bl dm x vw vr (.int ((cv + 1 : Nat) : Int) ct') vt vd (.int (m : Int) th) xc') rq re ns en ++ lx3 x dx pb fs l tl (qs ++ [.str S tS]) (ep + 1)) [] h' → Tp (kP w b1 b2) h' → Giv (kP w b1 b2) h' (clL it N cn rw nl (i + 1) (rkF o bl dm x vw vr (.int ((cv + 1 : Nat) : Int) ct') vt vd (.int (m : Int) th) xc') rq re ns en ++ lx3 x dx pb fs l tl (qs ++ [.str S tS]) (ep + 1)) → CA w b1 b2 A (cFor (PP w b1 b2) (sColS (PP w b1 b2)) it N cn) R ⟨h', gs, dr, t', os⟩) :
    CA w b1 b2 A (cFor (PP w b1 b2) (sColS (PP w b1 b2)) it N cn) R ⟨h, gs, dr, t0, os⟩ := by
  revert b1
  refine @bothB _ ?_ ?_ <;> set_option tactic.hygienic false in intros
  all_goals (
  refine goC hA T G (by kernel_rfl) ?_; intro _ _ r
  obtain _ | ⟨u1, u2, u3⟩ := xc
  · refine cutS 700 0 (n := 2) (hs := [1]) (c := (.call (.builtin "list_iterator.__next__") ⟨[(.ref it)], []⟩)) (idx := [0,2]) (Lf := fun F => [(it, oLit rw i), (rw, oList rq re)]) r (by decide) (by kernel_rfl) ?_; intro h1 t1 r1 T1 G1 o1 z1
    refine lf_next (G1.nw _ (.head _)) (G1.nw _ (.tail _ (.head _))) hx z1 ?_
    intro h2 x2 z2
    refine goS r1 _ [0] x2 z2 (by kernel_rfl) ?_; intro _ r2
    refine cutS 700 0 (n := 13) (hs := [2,2,2,2]) (c := (.call (.builtin "int.__rshift__") ⟨[(.int (m : Int) th), (.int (c : Int) tc)], []⟩)) (idx := []) (Lf := fun F => []) r2 (by decide) (by kernel_rfl) ?_; intro h3 t3 r3 T3 G3 o3 z3
    refine lf_rshiftD (a := m) (c := c) hd z3 ?_
    intro h4 a4 t4 x4 z4
    refine goS r3 _ [] x4 z4 (by kernel_rfl) ?_; intro _ r4
    refine cutS 700 0 (n := 2) (hs := []) (c := (.call (.builtin "int.__and__") ⟨[(.int (d : Int) a4), (.int 1 t4)], []⟩)) (idx := []) (Lf := fun F => []) r4 (by decide) (by kernel_rfl) ?_; intro h5 t5 r5 T5 G5 o5 z5
    refine lf_and (v := 0) (by rw [and_one, hb]; rfl) z5 ?_
    intro h6 a6 t6 x6 z6
    refine goS r5 _ [] x6 z6 (by kernel_rfl) ?_; intro _ r6
    refine cutS 700 0 (n := 34) (hs := [2,6,0,0,0,6,0,0,0,6,0,0,0,0,6,7,4,2,2]) (c := (.call (.builtin "int.__lshift__") ⟨[(.int 1 (t6 + 1)), (.int (c : Int) tc)], []⟩)) (idx := []) (Lf := fun F => []) r6 (by decide) (by kernel_rfl) ?_; intro h7 t7 r7 T7 G7 o7 z7
    refine lf_lshift (a := 1) (n := c) (by decide) (by omega) z7 ?_
    intro h8 a8 t8 x8 z8
    refine goS r7 _ [] x8 z8 (by kernel_rfl) ?_; intro _ r8
    refine cutS 700 0 (n := 9) (hs := [5,5,5]) (c := ((.call (.builtin "list.__getitem__") ⟨[.ref nl, .int ((m + 1 * 2 ^ c : Nat) : Int) t8], []⟩))) (idx := [4]) (Lf := fun F => ([(nl, oList ns en)])) r8 (by decide) (by kernel_rfl) ?_; intro h9 t9 r9 T9 G9 o9 z9
    refine lf_getitem (i := m + 1 * 2 ^ c) (G9.nw _ (.head _)) hn hl z9 ?_
    intro h10 t10 x10 z10
    refine goS r9 _ [] x10 z10 (by kernel_rfl) ?_; intro _ r10
    refine cutS 700 1 (n := 45) (hs := [0,0,0,1,1,1,1,1,7,0,0,0,7,0,0,0,7,7,0,8,9,9,9,9,1]) (c := (.call (.builtin "list.append") ⟨[(.ref pb), (.str S tS)], []⟩)) (idx := [8]) (Lf := fun F => [(pb, oList qs ep)]) r10 (by decide) (by kernel_rfl) ?_; intro h11 t11 r11 T11 G11 o11 z11
    refine lf_append (G11.nw _ (.head _)) hz z11 ?_
    intro h12 x12 z12
    refine goS r11 _ [8] x12 z12 (by kernel_rfl) ?_; intro _ r12
    refine agS 0 (n := 18) (hs := [3,3,3]) (c := (cFor (PP w b1 b2) (sColS (PP w b1 b2)) it N cn)) (q := 1) (idx := [1,2,3,4,5,6,7,8]) (idn := []) (Lf := fun F => (clL it N cn rw nl (i + 1) (rkF o bl dm x vw vr (.int ((cv + 1 : Nat) : Int) (tokE F 2 5)) vt vd (.int (m : Int) th) (some (hOf F 2 9, kOf F 2 9, .int (c : Int) tc))) rq re ns en ++ lx3 x dx pb fs l tl (qs ++ [.str S tS]) (ep + 1))) (Nf := fun F => ([])) r12 (by decide) (by kernel_rfl) ?_; intro h13 t13 x13 z13 T13 G13
    exact k h13 t13 _ (some (_, _, _)) x13 T13 G13
  · refine cutS 700 0 (n := 2) (hs := [1]) (c := (.call (.builtin "list_iterator.__next__") ⟨[(.ref it)], []⟩)) (idx := [0,2]) (Lf := fun F => [(it, oLit rw i), (rw, oList rq re)]) r (by decide) (by kernel_rfl) ?_; intro h1 t1 r1 T1 G1 o1 z1
    refine lf_next (G1.nw _ (.head _)) (G1.nw _ (.tail _ (.head _))) hx z1 ?_
    intro h2 x2 z2
    refine goS r1 _ [0] x2 z2 (by kernel_rfl) ?_; intro _ r2
    refine cutS 700 0 (n := 13) (hs := [2,2,2,2]) (c := (.call (.builtin "int.__rshift__") ⟨[(.int (m : Int) th), (.int (c : Int) tc)], []⟩)) (idx := []) (Lf := fun F => []) r2 (by decide) (by kernel_rfl) ?_; intro h3 t3 r3 T3 G3 o3 z3
    refine lf_rshiftD (a := m) (c := c) hd z3 ?_
    intro h4 a4 t4 x4 z4
    refine goS r3 _ [] x4 z4 (by kernel_rfl) ?_; intro _ r4
    refine cutS 700 0 (n := 2) (hs := []) (c := (.call (.builtin "int.__and__") ⟨[(.int (d : Int) a4), (.int 1 t4)], []⟩)) (idx := []) (Lf := fun F => []) r4 (by decide) (by kernel_rfl) ?_; intro h5 t5 r5 T5 G5 o5 z5
    refine lf_and (v := 0) (by rw [and_one, hb]; rfl) z5 ?_
    intro h6 a6 t6 x6 z6
    refine goS r5 _ [] x6 z6 (by kernel_rfl) ?_; intro _ r6
    refine cutS 700 0 (n := 34) (hs := [2,6,0,0,0,6,0,0,0,6,0,0,0,0,6,7,4,2,2]) (c := (.call (.builtin "int.__lshift__") ⟨[(.int 1 (t6 + 1)), (.int (c : Int) tc)], []⟩)) (idx := []) (Lf := fun F => []) r6 (by decide) (by kernel_rfl) ?_; intro h7 t7 r7 T7 G7 o7 z7
    refine lf_lshift (a := 1) (n := c) (by decide) (by omega) z7 ?_
    intro h8 a8 t8 x8 z8
    refine goS r7 _ [] x8 z8 (by kernel_rfl) ?_; intro _ r8
    refine cutS 700 0 (n := 9) (hs := [5,5,5]) (c := ((.call (.builtin "list.__getitem__") ⟨[.ref nl, .int ((m + 1 * 2 ^ c : Nat) : Int) t8], []⟩))) (idx := [4]) (Lf := fun F => ([(nl, oList ns en)])) r8 (by decide) (by kernel_rfl) ?_; intro h9 t9 r9 T9 G9 o9 z9
    refine lf_getitem (i := m + 1 * 2 ^ c) (G9.nw _ (.head _)) hn hl z9 ?_
    intro h10 t10 x10 z10
    refine goS r9 _ [] x10 z10 (by kernel_rfl) ?_; intro _ r10
    refine cutS 700 1 (n := 45) (hs := [0,0,0,1,1,1,1,1,7,0,0,0,7,0,0,0,7,7,0,8,9,9,9,9,1]) (c := (.call (.builtin "list.append") ⟨[(.ref pb), (.str S tS)], []⟩)) (idx := [8]) (Lf := fun F => [(pb, oList qs ep)]) r10 (by decide) (by kernel_rfl) ?_; intro h11 t11 r11 T11 G11 o11 z11
    refine lf_append (G11.nw _ (.head _)) hz z11 ?_
    intro h12 x12 z12
    refine goS r11 _ [8] x12 z12 (by kernel_rfl) ?_; intro _ r12
    refine agS 0 (n := 18) (hs := [3,3,3]) (c := (cFor (PP w b1 b2) (sColS (PP w b1 b2)) it N cn)) (q := 1) (idx := [1,2,3,4,5,6,7,8]) (idn := []) (Lf := fun F => (clL it N cn rw nl (i + 1) (rkF o bl dm x vw vr (.int ((cv + 1 : Nat) : Int) (tokE F 2 5)) vt vd (.int (m : Int) th) (some (u1, u2, .int (c : Int) tc))) rq re ns en ++ lx3 x dx pb fs l tl (qs ++ [.str S tS]) (ep + 1))) (Nf := fun F => ([])) r12 (by decide) (by kernel_rfl) ?_; intro h13 t13 x13 z13 T13 G13
    exact k h13 t13 _ (some (_, _, _)) x13 T13 G13)
theorem col_held {it N cn rw nl x dx pb fs bl dm : Addr} {o : RkN} {l : Lx} {tl : Tok} {i c m d cv : Nat} {ct tc th : Tok} {vw vr vt vd : Value} {xc : Option (Int × Tok × Value)} {rq ns qs : List Value} {re en ep : Nat} (hx : rq[i]? = some (.int (c : Int) tc)) (hc : c < 4) (hm : m < 16) (hd : m / 2 ^ c = d) (hb : d % 2 = 1) (hA : Okk A 650) (T : Tp (kP w b1 b2) h)
    (G : Giv (kP w b1 b2) h (clL it N cn rw nl i (rkF o bl dm x vw vr (.int (cv : Int) ct) vt vd (.int (m : Int) th) xc) rq re ns en ++ lx3 x dx pb fs l tl qs ep))
    (k : ∀ h' t' ct' xc', Af h (clL it N cn rw nl (i + 1) (rkF o bl dm x vw vr (.int (cv : Int) ct') vt vd (.int (m : Int) th) xc') rq re ns en ++ lx3 x dx pb fs l tl qs ep) [] h' → Tp (kP w b1 b2) h' → Giv (kP w b1 b2) h' (clL it N cn rw nl (i + 1) (rkF o bl dm x vw vr (.int (cv : Int) ct') vt vd (.int (m : Int) th) xc') rq re ns en ++ lx3 x dx pb fs l tl qs ep) → CA w b1 b2 A (cFor (PP w b1 b2) (sColS (PP w b1 b2)) it N cn) R ⟨h', gs, dr, t', os⟩) :
    CA w b1 b2 A (cFor (PP w b1 b2) (sColS (PP w b1 b2)) it N cn) R ⟨h, gs, dr, t0, os⟩ := by
  revert b1
  refine @bothB _ ?_ ?_ <;> set_option tactic.hygienic false in intros
  all_goals (
  refine goC hA T G (by kernel_rfl) ?_; intro _ _ r
  obtain _ | ⟨u1, u2, u3⟩ := xc
  · refine cutS 700 0 (n := 2) (hs := [1]) (c := (.call (.builtin "list_iterator.__next__") ⟨[(.ref it)], []⟩)) (idx := [0,2]) (Lf := fun F => [(it, oLit rw i), (rw, oList rq re)]) r (by decide) (by kernel_rfl) ?_; intro h1 t1 r1 T1 G1 o1 z1
    refine lf_next (G1.nw _ (.head _)) (G1.nw _ (.tail _ (.head _))) hx z1 ?_
    intro h2 x2 z2
    refine goS r1 _ [0] x2 z2 (by kernel_rfl) ?_; intro _ r2
    refine cutS 700 0 (n := 13) (hs := [2,2,2,2]) (c := (.call (.builtin "int.__rshift__") ⟨[(.int (m : Int) th), (.int (c : Int) tc)], []⟩)) (idx := []) (Lf := fun F => []) r2 (by decide) (by kernel_rfl) ?_; intro h3 t3 r3 T3 G3 o3 z3
    refine lf_rshiftD (a := m) (c := c) hd z3 ?_
    intro h4 a4 t4 x4 z4
    refine goS r3 _ [] x4 z4 (by kernel_rfl) ?_; intro _ r4
    refine cutS 700 0 (n := 2) (hs := []) (c := (.call (.builtin "int.__and__") ⟨[(.int (d : Int) a4), (.int 1 t4)], []⟩)) (idx := []) (Lf := fun F => []) r4 (by decide) (by kernel_rfl) ?_; intro h5 t5 r5 T5 G5 o5 z5
    refine lf_and (v := 1) (by rw [and_one, hb]; rfl) z5 ?_
    intro h6 a6 t6 x6 z6
    refine goS r5 _ [] x6 z6 (by kernel_rfl) ?_; intro _ r6
    refine agS 0 (n := 6) (hs := []) (c := (cFor (PP w b1 b2) (sColS (PP w b1 b2)) it N cn)) (q := 0) (idx := [0,1,2,3,4,5,6,7]) (idn := []) (Lf := fun F => (clL it N cn rw nl (i + 1) (rkF o bl dm x vw vr (.int (cv : Int) ct) vt vd (.int (m : Int) th) (some (hOf F 1 9, kOf F 1 9, .int (c : Int) tc))) rq re ns en ++ lx3 x dx pb fs l tl qs ep)) (Nf := fun F => ([])) r6 (by decide) (by kernel_rfl) ?_; intro h13 t13 x13 z13 T13 G13
    exact k h13 t13 _ (some (_, _, _)) x13 T13 G13
  · refine cutS 700 0 (n := 2) (hs := [1]) (c := (.call (.builtin "list_iterator.__next__") ⟨[(.ref it)], []⟩)) (idx := [0,2]) (Lf := fun F => [(it, oLit rw i), (rw, oList rq re)]) r (by decide) (by kernel_rfl) ?_; intro h1 t1 r1 T1 G1 o1 z1
    refine lf_next (G1.nw _ (.head _)) (G1.nw _ (.tail _ (.head _))) hx z1 ?_
    intro h2 x2 z2
    refine goS r1 _ [0] x2 z2 (by kernel_rfl) ?_; intro _ r2
    refine cutS 700 0 (n := 13) (hs := [2,2,2,2]) (c := (.call (.builtin "int.__rshift__") ⟨[(.int (m : Int) th), (.int (c : Int) tc)], []⟩)) (idx := []) (Lf := fun F => []) r2 (by decide) (by kernel_rfl) ?_; intro h3 t3 r3 T3 G3 o3 z3
    refine lf_rshiftD (a := m) (c := c) hd z3 ?_
    intro h4 a4 t4 x4 z4
    refine goS r3 _ [] x4 z4 (by kernel_rfl) ?_; intro _ r4
    refine cutS 700 0 (n := 2) (hs := []) (c := (.call (.builtin "int.__and__") ⟨[(.int (d : Int) a4), (.int 1 t4)], []⟩)) (idx := []) (Lf := fun F => []) r4 (by decide) (by kernel_rfl) ?_; intro h5 t5 r5 T5 G5 o5 z5
    refine lf_and (v := 1) (by rw [and_one, hb]; rfl) z5 ?_
    intro h6 a6 t6 x6 z6
    refine goS r5 _ [] x6 z6 (by kernel_rfl) ?_; intro _ r6
    refine agS 0 (n := 6) (hs := []) (c := (cFor (PP w b1 b2) (sColS (PP w b1 b2)) it N cn)) (q := 0) (idx := [0,1,2,3,4,5,6,7]) (idn := []) (Lf := fun F => (clL it N cn rw nl (i + 1) (rkF o bl dm x vw vr (.int (cv : Int) ct) vt vd (.int (m : Int) th) (some (u1, u2, .int (c : Int) tc))) rq re ns en ++ lx3 x dx pb fs l tl qs ep)) (Nf := fun F => ([])) r6 (by decide) (by kernel_rfl) ?_; intro h13 t13 x13 z13 T13 G13
    exact k h13 t13 _ (some (_, _, _)) x13 T13 G13)
end
end Mine
end
section
namespace Mine
/-- what a waiting set of columns lets be pushed, by the row's own list -/
noncomputable def colP (cs : List Nat) (m : Nat) : List Nat := (cs.filter fun c => m / 2 ^ c % 2 == 0).map fun c => m + 2 ^ c
theorem colP_cons0 {cs : List Nat} {c m : Nat} (h : m / 2 ^ c % 2 = 0) : colP (c :: cs) m = (m + 2 ^ c) :: colP cs m := by
  unfold colP
  rw [List.filter_cons, if_pos (by rw [h]; rfl)]
  rfl
theorem colP_cons1 {cs : List Nat} {c m : Nat} (h : m / 2 ^ c % 2 = 1) : colP (c :: cs) m = colP cs m := by
  unfold colP
  rw [List.filter_cons, if_neg (by rw [h]; decide)]
theorem rowQ_eq (g : Nat → Bool) (inc : Bool) : ∀ m i, rowQ g inc i m = (List.range' i m).filter fun c => g c == inc
  | 0, _ => rfl
  | m + 1, i => by
    rw [rowQ_succ, rowQ_eq g inc m (i + 1), List.range'_succ, List.filter_cons]
    by_cases h : g i = inc
    · rw [if_pos h, if_pos (by rw [h]; exact beq_self_eq_true inc)]
    · rw [if_neg h, if_neg (by simpa using h)]
theorem rowQ_lt {g : Nat → Bool} {inc : Bool} {c : Nat} (h : c ∈ rowQ g inc 0 4) : c < 4 := by
  rw [rowQ_eq] at h
  have := (List.mem_filter.mp h).1
  simp only [List.mem_range', ] at this
  omega
theorem rowQ_len (g : Nat → Bool) (inc : Bool) : (rowQ g inc 0 4).length ≤ 4 := by
  rw [rowQ_eq]
  exact Nat.le_trans (List.length_filter_le _ _) (by simp)
theorem bit0 {m c : Nat} : (m / 2 ^ c % 2 == 0) = !m.testBit c := by
  rw [Nat.testBit_eq_decide_div_mod_eq]
  have : m / 2 ^ c % 2 = 0 ∨ m / 2 ^ c % 2 = 1 := by omega
  rcases this with h | h <;> rw [h] <;> rfl
theorem cols_eq (g : Nat → Bool) (inc : Bool) (m : Nat) : cols (fun c => g c == inc) m = colP (rowQ g inc 0 4) m := by
  unfold cols colP
  rw [rowQ_eq, List.filter_filter, List.range_eq_range']
  congr 1
  apply List.filter_congr
  intro c _
  rw [bit0, Bool.and_comm]
noncomputable def stepP (cs : List Nat) (q : List Nat) : List Nat := q.flatMap fun m => m :: colP cs m
theorem stepP_eq (g : Nat → Bool) (inc : Bool) (q : List Nat) : stepQ (fun c => g c == inc) q = stepP (rowQ g inc 0 4) q := by
  unfold stepQ stepP
  congr 1
  funext m
  rw [cols_eq]
theorem colP_len {cs : List Nat} {m : Nat} : (colP cs m).length ≤ cs.length := by
  unfold colP
  rw [List.length_map]
  exact List.length_filter_le _ _
theorem stepP_len {cs : List Nat} (hc : cs.length ≤ 4) : ∀ q : List Nat, (stepP cs q).length ≤ 5 * q.length
  | [] => Nat.le_refl _
  | m :: q => by
    have := stepP_len hc q
    have := colP_len (cs := cs) (m := m)
    unfold stepP at *
    rw [List.flatMap_cons, List.length_append, List.length_cons, List.length_cons]
    omega
theorem stepP_cons (cs : List Nat) (m : Nat) (q : List Nat) : stepP cs (m :: q) = (m :: colP cs m) ++ stepP cs q := by
  unfold stepP
  rw [List.flatMap_cons]
theorem colP_lt {cs : List Nat} (hc : ∀ c ∈ cs, c < 4) {m a : Nat} (hm : m < 16) (ha : a ∈ colP cs m) : a < 16 := by
  unfold colP at ha
  obtain ⟨c, hc', rfl⟩ := List.mem_map.mp ha
  obtain ⟨h1, h2⟩ := List.mem_filter.mp hc'
  rw [bit0] at h2
  exact add_lt ⟨m, hm⟩ ⟨c, hc c h1⟩ (by simpa using h2)
theorem add_lt' {m c : Nat} (hm : m < 16) (hc : c < 4) (h : m / 2 ^ c % 2 = 0) : m + 2 ^ c < 16 := by
  refine add_lt ⟨m, hm⟩ ⟨c, hc⟩ ?_
  have := bit0 (m := m) (c := c)
  rw [h] at this
  show m.testBit c = false
  cases hb : m.testBit c with
  | false => rfl
  | true => rw [hb] at this; cases this
theorem stepP_lt {cs : List Nat} (hc : ∀ c ∈ cs, c < 4) {q : List Nat} (hq : ∀ m ∈ q, m < 16) : ∀ m ∈ stepP cs q, m < 16 := by
  intro a ha
  unfold stepP at ha
  obtain ⟨m, hm, ha⟩ := List.mem_flatMap.mp ha
  rcases List.mem_cons.mp ha with rfl | ha
  · exact hq _ hm
  · exact colP_lt hc (hq m hm) ha
theorem lineP_eq (g : Nat → Nat → Bool) (inc : Bool) : lineQ (fun c => g 0 c == inc) (fun c => g 1 c == inc) (fun c => g 2 c == inc) (fun c => g 3 c == inc) = stepP (rowQ (g 3) inc 0 4) (stepP (rowQ (g 2) inc 0 4) (stepP (rowQ (g 1) inc 0 4) (stepP (rowQ (g 0) inc 0 4) [0]))) := by
  unfold lineQ
  rw [stepP_eq, stepP_eq, stepP_eq, stepP_eq]
end Mine
end
section
open PySem PySem.W PyProof.Rows PySem.W.X
namespace Mine
/-- the line of waiting names -/
noncomputable def wV (s : Nat) (ws : List (Nat × Tok)) : List Value := ws.map fun p => .str (nm s p.1) p.2
theorem wV_len (s : Nat) (ws : List (Nat × Tok)) : (wV s ws).length = ws.length := List.length_map ..
section
variable {w : World} {b1 b2 : Bool} {A : Around} {R : Result → Shared → Prop} {hB h : Heap} {gs : Array GenState} {dr : Drawn} {t0 : Nat} {os : OsState}
theorem col_loop {it N cn rw nl x dx pb fs bl dm : Addr} {o : RkN} {l : Lx} {tl : Tok} {m s : Nat} {th : Tok} {vw vr vt vd : Value} {q : List (Nat × Tok)} {nq : List Tok} {re en : Nat} (hq : ∀ p ∈ q, p.1 < 4) (hm : m < 16) (hn : nq.length = 16) (hA : Okk A 650) :
    ∀ (n i : Nat) (ws : List (Nat × Tok)) (cv : Nat) (ct : Tok) (xc : Option (Int × Tok × Value)) (ep : Nat) (h : Heap) (t0 : Nat), i + n = q.length → ws.length + n ≤ 1000 → Tp (kP w b1 b2) h →
    Giv (kP w b1 b2) h (clL it N cn rw nl i (rkF o bl dm x vw vr (.int (cv : Int) ct) vt vd (.int (m : Int) th) xc) (colV q) re (namesV s 0 nq) en ++ lx3 x dx pb fs l tl (wV s ws) ep) →
    (∀ h' t' oi ct' xc' ws' ep', ws'.map (·.1) = colP ((q.drop i).map (·.1)) m → Af h ((it, oi) :: (N, rkF o bl dm x vw vr (.int ((cv + ws'.length : Nat) : Int) ct') vt vd (.int (m : Int) th) xc') :: (rw, oList (colV q) re) :: (cn, oCell (.ref nl)) :: (nl, oList (namesV s 0 nq) en) :: lx3 x dx pb fs l tl (wV s (ws ++ ws')) ep') [] h' → R (.ok .next) ⟨h', gs, dr, t', os⟩) →
    CA w b1 b2 A (cFor (PP w b1 b2) (sColS (PP w b1 b2)) it N cn) R ⟨h, gs, dr, t0, os⟩ := by
  intro n
  induction n with
  | zero =>
    intro i ws cv ct xc ep h t0 hin hz T G kk
    have ed : (q.drop i).map (·.1) = [] := by rw [List.drop_of_length_le (by omega)]; rfl
    have e0 : ws ++ [] = ws := List.append_nil _
    revert b1
    refine @bothB _ ?_ ?_ <;> set_option tactic.hygienic false in intros
    all_goals (
    refine goC hA T G (by kernel_rfl) ?_; intro _ _ r
    obtain _ | ⟨u1, u2, u3⟩ := xc
    · refine cutS 700 0 (n := 2) (hs := [1]) (c := (.call (.builtin "list_iterator.__next__") ⟨[(.ref it)], []⟩)) (idx := [0,2]) (Lf := fun F => [(it, oLit rw i), (rw, oList (colV q) re)]) r (by decide) (by kernel_rfl) ?_; intro h1 t1 r1 T1 G1 o1 z1
      refine lf_next_end o1.hd (G1.nw _ (.head _)) (G1.nw _ (.tail _ (.head _))) (List.getElem?_eq_none (by unfold colV; rw [List.length_map]; omega)) z1 ?_
      intro h2 x2 z2
      refine goS r1 _ [0] x2 z2 (by kernel_rfl) ?_; intro _ r2
      refine endS 0 (n := 2) (hs := [1]) (fl := (.next)) (q := 2) (idx := [2,3,4,5,6,7,8,9]) (idn := []) (Lf := fun F => ((it, oLitX i) :: (N, rkF o bl dm x vw vr (.int (cv : Int) ct) vt vd (.int (m : Int) th) none) :: (rw, oList (colV q) re) :: (cn, oCell (.ref nl)) :: (nl, oList (namesV s 0 nq) en) :: lx3 x dx pb fs l tl (wV s ws) ep)) (Nf := fun F => ([])) r2 (by decide) (by kernel_rfl) ?_; intro h3 t3 x3 z3
      exact kk h3 t3 _ ct none [] ep (by rw [ed]; rfl) (by rw [e0]; exact x3)
    · refine cutS 700 0 (n := 2) (hs := [1]) (c := (.call (.builtin "list_iterator.__next__") ⟨[(.ref it)], []⟩)) (idx := [0,2]) (Lf := fun F => [(it, oLit rw i), (rw, oList (colV q) re)]) r (by decide) (by kernel_rfl) ?_; intro h1 t1 r1 T1 G1 o1 z1
      refine lf_next_end o1.hd (G1.nw _ (.head _)) (G1.nw _ (.tail _ (.head _))) (List.getElem?_eq_none (by unfold colV; rw [List.length_map]; omega)) z1 ?_
      intro h2 x2 z2
      refine goS r1 _ [0] x2 z2 (by kernel_rfl) ?_; intro _ r2
      refine endS 0 (n := 2) (hs := [1]) (fl := (.next)) (q := 2) (idx := [2,3,4,5,6,7,8,9]) (idn := []) (Lf := fun F => ((it, oLitX i) :: (N, rkF o bl dm x vw vr (.int (cv : Int) ct) vt vd (.int (m : Int) th) (some (u1, u2, u3))) :: (rw, oList (colV q) re) :: (cn, oCell (.ref nl)) :: (nl, oList (namesV s 0 nq) en) :: lx3 x dx pb fs l tl (wV s ws) ep)) (Nf := fun F => ([])) r2 (by decide) (by kernel_rfl) ?_; intro h3 t3 x3 z3
      exact kk h3 t3 _ ct (some (u1, u2, u3)) [] ep (by rw [ed]; rfl) (by rw [e0]; exact x3))
  | succ n ih =>
    intro i ws cv ct xc ep h t0 hin hz T G kk
    have hi : i < q.length := by omega
    have hc : q[i].1 < 4 := hq _ (List.getElem_mem hi)
    have hx : (colV q)[i]? = some (.int (q[i].1 : Int) q[i].2) := by unfold colV; rw [List.getElem?_map, List.getElem?_eq_getElem hi]; rfl
    have ed : (q.drop i).map (·.1) = q[i].1 :: (q.drop (i + 1)).map (·.1) := by rw [List.drop_eq_getElem_cons hi]; rfl
    generalize q[i] = p at hc hx ed
    obtain ⟨c, tc⟩ := p
    dsimp only at hc hx ed
    have hwl := wV_len s ws
    have hb2 : m / 2 ^ c % 2 = 0 ∨ m / 2 ^ c % 2 = 1 := by omega
    rcases hb2 with hb | hb
    · have hlt := add_lt' hm hc hb
      obtain ⟨tS, hS⟩ := namesV_at (s := s) nq 0 (m + 1 * 2 ^ c) (by rw [hn, Nat.one_mul]; exact hlt)
      rw [Nat.zero_add] at hS
      refine col_free hx hc hm rfl hb hS (by omega) (by omega) hA T G fun h1 t1 ct1 xc1 x1 T1 G1 => ?_
      have e : wV s ws ++ [.str (nm s (m + 1 * 2 ^ c)) tS] = wV s (ws ++ [(m + 2 ^ c, tS)]) := by rw [Nat.one_mul]; unfold wV; rw [List.map_append]; rfl
      rw [e] at x1 G1
      refine ih (i + 1) _ (cv + 1) ct1 xc1 _ h1 t1 (by omega) (by rw [List.length_append, List.length_singleton]; omega) T1 G1 fun h2 t2 oi ct2 xc2 ws2 ep2 e2 x2 => ?_
      have x3 := x1.trans x2 rfl
      rw [List.append_assoc, show cv + 1 + ws2.length = cv + ((m + 2 ^ c, tS) :: ws2).length by rw [List.length_cons]; omega] at x3
      exact kk h2 t2 oi ct2 xc2 ((m + 2 ^ c, tS) :: ws2) ep2 (by rw [List.map_cons, e2, ed, colP_cons0 hb]) x3
    · refine col_held hx hc hm rfl hb hA T G fun h1 t1 ct1 xc1 x1 T1 G1 => ?_
      refine ih (i + 1) _ cv ct1 xc1 _ h1 t1 (by omega) (by omega) T1 G1 fun h2 t2 oi ct2 xc2 ws2 ep2 e2 x2 => ?_
      exact kk h2 t2 oi ct2 xc2 ws2 ep2 (by rw [e2, ed, colP_cons1 hb]) (x1.trans x2 rfl)
end
end Mine
end
section
open PySem PySem.W PyProof.Rows PySem.W.X
namespace Mine
section
variable {w : World} {b1 b2 : Bool} {A : Around} {R : Result → Shared → Prop} {hB h : Heap} {gs : Array GenState} {dr : Drawn} {t0 : Nat} {os : OsState}
theorem lf_blen {l : Addr} {xs : List Value} {ep n N : Nat} (hl : h.get? l = some (oList xs ep)) (hn : xs.length = n) (hz : n ≤ 1000) (hN : h.objs.size = N)
    (k : ∀ h' tok tk, Af h [] [] h' → h'.objs.size = N → R (.ok (.ret (.int (n : Int) tok))) ⟨h', gs, dr, tk, os⟩) :
    CA w b1 b2 A (.builtin "len" ⟨[.ref l], []⟩) R ⟨h, gs, dr, t0, os⟩ := by
  have hl' : Heap.IsList h l xs.toArray := ⟨_, hl, rfl, ep, rfl⟩
  have hs : xs.toArray.size = n := by simpa using hn
  refine codeAny_builtin entry_len ?_
  rw [Around.under_plainId plain_len _]
  refine wpAny_mono (wpAny_len_body_list (s := ⟨h, gs, dr, t0, os⟩) (Q := fun r s' => R (.ok (.ret r)) s') hl' ?_ ?_) (fun fin s' h' => ?_) fun _ _ e => e
  · rw [hs]
    have : (n : Int) ≤ 1000 := by omega
    exact Int.lt_of_le_of_lt this (by decide)
  · rw [hs]
    exact k h _ _ (af_refl h) hN
  · obtain ⟨r, rfl, hq⟩ := h'
    exact hq
noncomputable abbrev tnL (it N dm rw cn nl : Addr) (i n : Nat) (fo : Obj) (es : List DictEntry) (de : Nat) (rq : List Value) (re : Nat) (ns : List Value) (en : Nat) : List (Addr × Obj) := [(it, oRit i n), (N, fo), (dm, oD es de), (rw, oList rq re), (cn, oCell (.ref nl)), (nl, oList ns en)]
theorem turn_first {it N dm rw cn nl x dx pb fs bl : Addr} {o : RkN} {l : Lx} {tl : Tok} {i n m s cv : Nat} {ct tm tkm : Tok} {vw : Value} {q : List (Nat × Tok)} {nq : List Tok} {es : List DictEntry} {de re en ep : Nat} {ws : List (Nat × Tok)} {kvs : List (Str × Value)}
    (hq : ∀ p ∈ q, p.1 < 4) (hm : m < 16) (hn : nq.length = 16) (hmv : valueAt kvs (nm s m) = some (.int (m : Int) tkm)) (hdm : h.DictOf (sK' w b1 b2) dm kvs) (hz : ws.length + 1 + q.length ≤ 1000) (hA : Okk A 600) (T : Tp (kP w b1 b2) h)
    (G : Giv (kP w b1 b2) h (tnL it N dm rw cn nl i (n + 1) (oFr (rkE6 o bl dm x vw (.ref rw) (.int (cv : Int) ct)) 6) es de (colV q) re (namesV s 0 nq) en ++ lx3 x dx pb fs l tl (.str (nm s m) tm :: wV s ws) ep))
    (k : ∀ h' t' o' ct' vt' vd' vh' xc' ws' ep', ws'.map (·.1) = colP (q.map (·.1)) m → Af h (tnL it N dm rw cn nl (i + 1) n (rkF o' bl dm x vw (.ref rw) (.int ((cv + 1 + ws'.length : Nat) : Int) ct') vt' vd' vh' xc') es de (colV q) re (namesV s 0 nq) en ++ lx3 x dx pb fs l tl (wV s (ws ++ (m, tm) :: ws')) ep') [] h' → Tp (kP w b1 b2) h' → Giv (kP w b1 b2) h' (tnL it N dm rw cn nl (i + 1) n (rkF o' bl dm x vw (.ref rw) (.int ((cv + 1 + ws'.length : Nat) : Int) ct') vt' vd' vh' xc') es de (colV q) re (namesV s 0 nq) en ++ lx3 x dx pb fs l tl (wV s (ws ++ (m, tm) :: ws')) ep') → CA w b1 b2 A (cFor (PP w b1 b2) (sTurnS (PP w b1 b2)) it N cn) R ⟨h', gs, dr, t', os⟩) :
    CA w b1 b2 A (cFor (PP w b1 b2) (sTurnS (PP w b1 b2)) it N cn) R ⟨h, gs, dr, t0, os⟩ := by
  revert b1
  refine @bothB _ ?_ ?_ <;> set_option tactic.hygienic false in intros
  all_goals (
  refine goC hA T G (by kernel_rfl) ?_; intro _ _ r
  obtain ⟨M, hM⟩ : ∃ M, h.objs.size = M := ⟨_, rfl⟩
  rw [hM] at r
  refine cutS 650 1 (n := 76) (hs := [1,1,1,1,1,1,1,1,1,2,2,2,7,0,0,0,7,0,0,0,7,0,0,0,0,7,8,0,0,0,1,1,1,8,0,0,0,8,0,0,0,8,8,0,9,10,10]) (c := (.builtin "len" ⟨[(.ref pb)], []⟩)) (idx := [9]) (Lf := fun F => [(pb, oList ((.str (nm s m) tm) :: (wV s ws)) ep)]) r (by decide) (by kernel_rfl) ?_; intro hl tl' rl Tl Gl ol zl
  refine lf_blen (n := ws.length + 1) (Gl.nw _ (.head _)) (by rw [List.length_cons, wV_len]) (by omega) zl ?_
  intro hl2 al tl2 xl2 zl2
  refine goS rl _ [] xl2 zl2 (by kernel_rfl) ?_; intro _ rl2
  refine cutS 650 0 (n := 28) (hs := [1,8,0,0,0,8,0,0,0,8,8,0,9,10,10,10,10]) (c := (.call (.builtin "list.pop") ⟨[(.ref pb), (.int 0 (tl2 + 1))], []⟩)) (idx := [9,3]) (Lf := fun F => [(pb, oList ((.str (nm s m) tm) :: (wV s ws)) ep), (dm, oD es de)]) rl2 (by decide) (by kernel_rfl) ?_; intro h1 t1 r1 T1 G1 o1 z1
  refine lf_pop0 (G1.nw _ (.head _)) (by rw [wV_len]; omega) z1 ?_
  intro h2 t2 x2 z2
  have hdm1 := dictOf_obj hdm (G.nw _ (.tail _ (.tail _ (.head _)))) (G1.nw _ (.tail _ (.head _)))
  refine goS r1 _ [9] x2 z2 (by kernel_rfl) ?_; intro _ r2
  refine cutS 650 0 (n := 19) (hs := [3,3,3,3,4,4,4]) (c := (.call (.builtin "dict.__getitem__") ⟨[(.ref dm), (.str (nm s m) tm)], []⟩)) (idx := [3]) (Lf := fun F => [(dm, oD es de)]) r2 (by decide) (by kernel_rfl) ?_; intro h3 t3 r3 T3 G3 o3 z3
  have hdm3 := dictOf_obj hdm (G.nw _ (.tail _ (.tail _ (.head _)))) (G3.nw _ (.head _))
  refine lf_mget hdm3 hmv z3 ?_
  intro h4 t4 x4 z4
  refine goS r3 _ [] x4 z4 (by kernel_rfl) ?_; intro _ r4
  refine cutS 650 1 (n := 74) (hs := [3,3,3,8,0,0,0,8,0,0,0,8,0,0,0,0,8,9,3,0,0,0,1,1,1,1,1,9,0,0,0,9,0,0,0,9,9,0,10,11,11,11,11,1]) (c := (.call (.builtin "list.append") ⟨[(.ref pb), (.str (nm s m) tm)], []⟩)) (idx := [10]) (Lf := fun F => [(pb, oList (wV s ws) (ep + 1))]) r4 (by decide) (by kernel_rfl) ?_; intro h5 t5 r5 T5 G5 o5 z5
  refine lf_append (G5.nw _ (.head _)) (by rw [wV_len]; omega) z5 ?_
  intro h6 x6 z6
  refine goS r5 _ [10] x6 z6 (by kernel_rfl) ?_; intro _ r6
  have ew : wV s ws ++ [.str (nm s m) tm] = wV s (ws ++ [(m, tm)]) := by unfold wV; rw [List.map_append]; rfl
  refine cutS 650 1 (n := 31) (hs := [4,4,4,4,6,6,6,1]) (c := ((cFor (PP w b1 b2) (sColS (PP w b1 b2)) (M + 2) N cn))) (idx := [0,4,6,7,8,9,10,11]) (Lf := fun F => ((M + 2, oLit rw 0) :: (N, rkF { o with h6 := hOf F 4 6, k6 := kOf F 4 6, h7 := hOf F 4 7, k7 := kOf F 4 7, h8 := hOf F 4 8, k8 := kOf F 4 8 } bl dm x vw (.ref rw) (.int ((cv + 1 : Nat) : Int) (tokE F 4 5)) (.int (i : Int) t0) (.str (nm s m) tm) (.int (m : Int) tkm) none) :: (rw, oList (colV q) re) :: (cn, oCell (.ref nl)) :: (nl, oList (namesV s 0 nq) en) :: lx3 x dx pb fs l tl (wV s ws ++ [.str (nm s m) tm]) (ep + 1 + 1))) r6 (by decide) (by kernel_rfl) ?_; intro h7 t7 r7 T7 G7 o7 z7
  rw [ew] at G7
  obtain ⟨oN, ct7, G7⟩ : ∃ (oN : RkN) (ct7 : Tok), Giv (kP w b1 b2) h7 (clL (M + 2) N cn rw nl 0 (rkF oN bl dm x vw (.ref rw) (.int ((cv + 1 : Nat) : Int) ct7) (.int (i : Int) t0) (.str (nm s m) tm) (.int (m : Int) tkm) none) (colV q) re (namesV s 0 nq) en ++ lx3 x dx pb fs l tl (wV s (ws ++ [(m, tm)])) (ep + 1 + 1)) := ⟨_, _, G7⟩
  refine col_loop hq hm hn o7 q.length 0 (ws ++ [(m, tm)]) (cv + 1) _ none _ h7 _ (Nat.zero_add _) (by rw [List.length_append, List.length_singleton]; omega) T7 G7 ?_
  intro h8 t8 oi ct8 xc8 ws8 ep8 e8 x8
  rw [List.append_assoc] at x8
  have z8 : h8.objs.size = h8.objs.size := rfl
  refine goS r7 _ [0,4,6,7,8,9,10,11] x8 z8 (by kernel_rfl) ?_; intro _ r8
  refine agS 0 (n := 0) (hs := []) (c := (cFor (PP w b1 b2) (sTurnS (PP w b1 b2)) it N cn)) (q := 3) (idx := [3,4,5,6,7,8,9,10,11]) (idn := []) (Lf := fun F => ((it, ⟨.type "range_iterator", none, .fields #[.int ((i + 1 : Nat) : Int) 0, .int (((n + 1 : Nat) : Int) - 1) 0, .int 1 0], #[]⟩) :: (N, rkF oN bl dm x vw (.ref rw) (.int ((cv + 1 + ws8.length : Nat) : Int) ct8) (.int (i : Int) t0) (.str (nm s m) tm) (.int (m : Int) tkm) xc8) :: (dm, oD es de) :: (rw, oList (colV q) re) :: (cn, oCell (.ref nl)) :: (nl, oList (namesV s 0 nq) en) :: lx3 x dx pb fs l tl (wV s (ws ++ ([(m, tm)] ++ ws8))) ep8)) (Nf := fun F => ([])) r8 (by decide) (by kernel_rfl) ?_; intro h9 t9 x9 z9 T9 G9
  rw [show (((n + 1 : Nat) : Int) - 1) = (n : Int) by omega] at x9 G9
  exact k h9 t9 oN _ _ _ _ _ ws8 _ e8 x9 T9 G9)
theorem turn_next {it N dm rw cn nl x dx pb fs bl : Addr} {o : RkN} {l : Lx} {tl : Tok} {i n m s cv : Nat} {ct tm tkm : Tok} {vw : Value} {vt vd vh : Value} {xc : Option (Int × Tok × Value)} {q : List (Nat × Tok)} {nq : List Tok} {es : List DictEntry} {de re en ep : Nat} {ws : List (Nat × Tok)} {kvs : List (Str × Value)}
    (hq : ∀ p ∈ q, p.1 < 4) (hm : m < 16) (hn : nq.length = 16) (hmv : valueAt kvs (nm s m) = some (.int (m : Int) tkm)) (hdm : h.DictOf (sK' w b1 b2) dm kvs) (hz : ws.length + 1 + q.length ≤ 1000) (hA : Okk A 600) (T : Tp (kP w b1 b2) h)
    (G : Giv (kP w b1 b2) h (tnL it N dm rw cn nl i (n + 1) (rkF o bl dm x vw (.ref rw) (.int (cv : Int) ct) vt vd vh xc) es de (colV q) re (namesV s 0 nq) en ++ lx3 x dx pb fs l tl (.str (nm s m) tm :: wV s ws) ep))
    (k : ∀ h' t' ct' vt' vd' vh' xc' ws' ep', ws'.map (·.1) = colP (q.map (·.1)) m → Af h (tnL it N dm rw cn nl (i + 1) n (rkF o bl dm x vw (.ref rw) (.int ((cv + 1 + ws'.length : Nat) : Int) ct') vt' vd' vh' xc') es de (colV q) re (namesV s 0 nq) en ++ lx3 x dx pb fs l tl (wV s (ws ++ (m, tm) :: ws')) ep') [] h' → Tp (kP w b1 b2) h' → Giv (kP w b1 b2) h' (tnL it N dm rw cn nl (i + 1) n (rkF o bl dm x vw (.ref rw) (.int ((cv + 1 + ws'.length : Nat) : Int) ct') vt' vd' vh' xc') es de (colV q) re (namesV s 0 nq) en ++ lx3 x dx pb fs l tl (wV s (ws ++ (m, tm) :: ws')) ep') → CA w b1 b2 A (cFor (PP w b1 b2) (sTurnS (PP w b1 b2)) it N cn) R ⟨h', gs, dr, t', os⟩) :
    CA w b1 b2 A (cFor (PP w b1 b2) (sTurnS (PP w b1 b2)) it N cn) R ⟨h, gs, dr, t0, os⟩ := by
  revert b1
  refine @bothB _ ?_ ?_ <;> set_option tactic.hygienic false in intros
  all_goals (
  refine goC hA T G (by kernel_rfl) ?_; intro _ _ r
  obtain ⟨M, hM⟩ : ∃ M, h.objs.size = M := ⟨_, rfl⟩
  rw [hM] at r
  obtain _ | ⟨u1, u2, u3⟩ := xc
  · refine cutS 650 1 (n := 76) (hs := [1,1,1,1,1,1,1,1,1,2,2,2,7,0,0,0,7,0,0,0,7,0,0,0,0,7,8,0,0,0,1,1,1,8,0,0,0,8,0,0,0,8,8,0,9,10,10]) (c := (.builtin "len" ⟨[(.ref pb)], []⟩)) (idx := [9]) (Lf := fun F => [(pb, oList ((.str (nm s m) tm) :: (wV s ws)) ep)]) r (by decide) (by kernel_rfl) ?_; intro hl tl' rl Tl Gl ol zl
    refine lf_blen (n := ws.length + 1) (Gl.nw _ (.head _)) (by rw [List.length_cons, wV_len]) (by omega) zl ?_
    intro hl2 al tl2 xl2 zl2
    refine goS rl _ [] xl2 zl2 (by kernel_rfl) ?_; intro _ rl2
    refine cutS 650 0 (n := 28) (hs := [1,8,0,0,0,8,0,0,0,8,8,0,9,10,10,10,10]) (c := (.call (.builtin "list.pop") ⟨[(.ref pb), (.int 0 (tl2 + 1))], []⟩)) (idx := [9,3]) (Lf := fun F => [(pb, oList ((.str (nm s m) tm) :: (wV s ws)) ep), (dm, oD es de)]) rl2 (by decide) (by kernel_rfl) ?_; intro h1 t1 r1 T1 G1 o1 z1
    refine lf_pop0 (G1.nw _ (.head _)) (by rw [wV_len]; omega) z1 ?_
    intro h2 t2 x2 z2
    have hdm1 := dictOf_obj hdm (G.nw _ (.tail _ (.tail _ (.head _)))) (G1.nw _ (.tail _ (.head _)))
    refine goS r1 _ [9] x2 z2 (by kernel_rfl) ?_; intro _ r2
    refine cutS 650 0 (n := 19) (hs := [3,3,3,3,4,4,4]) (c := (.call (.builtin "dict.__getitem__") ⟨[(.ref dm), (.str (nm s m) tm)], []⟩)) (idx := [3]) (Lf := fun F => [(dm, oD es de)]) r2 (by decide) (by kernel_rfl) ?_; intro h3 t3 r3 T3 G3 o3 z3
    have hdm3 := dictOf_obj hdm (G.nw _ (.tail _ (.tail _ (.head _)))) (G3.nw _ (.head _))
    refine lf_mget hdm3 hmv z3 ?_
    intro h4 t4 x4 z4
    refine goS r3 _ [] x4 z4 (by kernel_rfl) ?_; intro _ r4
    refine cutS 650 1 (n := 74) (hs := [3,3,3,8,0,0,0,8,0,0,0,8,0,0,0,0,8,9,3,0,0,0,1,1,1,1,1,9,0,0,0,9,0,0,0,9,9,0,10,11,11,11,11,1]) (c := (.call (.builtin "list.append") ⟨[(.ref pb), (.str (nm s m) tm)], []⟩)) (idx := [10]) (Lf := fun F => [(pb, oList (wV s ws) (ep + 1))]) r4 (by decide) (by kernel_rfl) ?_; intro h5 t5 r5 T5 G5 o5 z5
    refine lf_append (G5.nw _ (.head _)) (by rw [wV_len]; omega) z5 ?_
    intro h6 x6 z6
    refine goS r5 _ [10] x6 z6 (by kernel_rfl) ?_; intro _ r6
    have ew : wV s ws ++ [.str (nm s m) tm] = wV s (ws ++ [(m, tm)]) := by unfold wV; rw [List.map_append]; rfl
    refine cutS 650 1 (n := 31) (hs := [4,4,4,4,6,6,6,1]) (c := ((cFor (PP w b1 b2) (sColS (PP w b1 b2)) (M + 2) N cn))) (idx := [0,4,6,7,8,9,10,11]) (Lf := fun F => ((M + 2, oLit rw 0) :: (N, rkF o bl dm x vw (.ref rw) (.int ((cv + 1 : Nat) : Int) (tokE F 4 5)) (.int (i : Int) t0) (.str (nm s m) tm) (.int (m : Int) tkm) none) :: (rw, oList (colV q) re) :: (cn, oCell (.ref nl)) :: (nl, oList (namesV s 0 nq) en) :: lx3 x dx pb fs l tl (wV s ws ++ [.str (nm s m) tm]) (ep + 1 + 1))) r6 (by decide) (by kernel_rfl) ?_; intro h7 t7 r7 T7 G7 o7 z7
    rw [ew] at G7
    obtain ⟨ct7, G7⟩ : ∃ (ct7 : Tok), Giv (kP w b1 b2) h7 (clL (M + 2) N cn rw nl 0 (rkF o bl dm x vw (.ref rw) (.int ((cv + 1 : Nat) : Int) ct7) (.int (i : Int) t0) (.str (nm s m) tm) (.int (m : Int) tkm) none) (colV q) re (namesV s 0 nq) en ++ lx3 x dx pb fs l tl (wV s (ws ++ [(m, tm)])) (ep + 1 + 1)) := ⟨_, G7⟩
    refine col_loop hq hm hn o7 q.length 0 (ws ++ [(m, tm)]) (cv + 1) _ none _ h7 _ (Nat.zero_add _) (by rw [List.length_append, List.length_singleton]; omega) T7 G7 ?_
    intro h8 t8 oi ct8 xc8 ws8 ep8 e8 x8
    rw [List.append_assoc] at x8
    have z8 : h8.objs.size = h8.objs.size := rfl
    refine goS r7 _ [0,4,6,7,8,9,10,11] x8 z8 (by kernel_rfl) ?_; intro _ r8
    refine agS 0 (n := 0) (hs := []) (c := (cFor (PP w b1 b2) (sTurnS (PP w b1 b2)) it N cn)) (q := 3) (idx := [3,4,5,6,7,8,9,10,11]) (idn := []) (Lf := fun F => ((it, ⟨.type "range_iterator", none, .fields #[.int ((i + 1 : Nat) : Int) 0, .int (((n + 1 : Nat) : Int) - 1) 0, .int 1 0], #[]⟩) :: (N, rkF o bl dm x vw (.ref rw) (.int ((cv + 1 + ws8.length : Nat) : Int) ct8) (.int (i : Int) t0) (.str (nm s m) tm) (.int (m : Int) tkm) xc8) :: (dm, oD es de) :: (rw, oList (colV q) re) :: (cn, oCell (.ref nl)) :: (nl, oList (namesV s 0 nq) en) :: lx3 x dx pb fs l tl (wV s (ws ++ ([(m, tm)] ++ ws8))) ep8)) (Nf := fun F => ([])) r8 (by decide) (by kernel_rfl) ?_; intro h9 t9 x9 z9 T9 G9
    rw [show (((n + 1 : Nat) : Int) - 1) = (n : Int) by omega] at x9 G9
    exact k h9 t9 _ _ _ _ _ ws8 _ e8 x9 T9 G9
  · refine cutS 650 1 (n := 76) (hs := [1,1,1,1,1,1,1,1,1,2,2,2,7,0,0,0,7,0,0,0,7,0,0,0,0,7,8,0,0,0,1,1,1,8,0,0,0,8,0,0,0,8,8,0,9,10,10]) (c := (.builtin "len" ⟨[(.ref pb)], []⟩)) (idx := [9]) (Lf := fun F => [(pb, oList ((.str (nm s m) tm) :: (wV s ws)) ep)]) r (by decide) (by kernel_rfl) ?_; intro hl tl' rl Tl Gl ol zl
    refine lf_blen (n := ws.length + 1) (Gl.nw _ (.head _)) (by rw [List.length_cons, wV_len]) (by omega) zl ?_
    intro hl2 al tl2 xl2 zl2
    refine goS rl _ [] xl2 zl2 (by kernel_rfl) ?_; intro _ rl2
    refine cutS 650 0 (n := 28) (hs := [1,8,0,0,0,8,0,0,0,8,8,0,9,10,10,10,10]) (c := (.call (.builtin "list.pop") ⟨[(.ref pb), (.int 0 (tl2 + 1))], []⟩)) (idx := [9,3]) (Lf := fun F => [(pb, oList ((.str (nm s m) tm) :: (wV s ws)) ep), (dm, oD es de)]) rl2 (by decide) (by kernel_rfl) ?_; intro h1 t1 r1 T1 G1 o1 z1
    refine lf_pop0 (G1.nw _ (.head _)) (by rw [wV_len]; omega) z1 ?_
    intro h2 t2 x2 z2
    have hdm1 := dictOf_obj hdm (G.nw _ (.tail _ (.tail _ (.head _)))) (G1.nw _ (.tail _ (.head _)))
    refine goS r1 _ [9] x2 z2 (by kernel_rfl) ?_; intro _ r2
    refine cutS 650 0 (n := 19) (hs := [3,3,3,3,4,4,4]) (c := (.call (.builtin "dict.__getitem__") ⟨[(.ref dm), (.str (nm s m) tm)], []⟩)) (idx := [3]) (Lf := fun F => [(dm, oD es de)]) r2 (by decide) (by kernel_rfl) ?_; intro h3 t3 r3 T3 G3 o3 z3
    have hdm3 := dictOf_obj hdm (G.nw _ (.tail _ (.tail _ (.head _)))) (G3.nw _ (.head _))
    refine lf_mget hdm3 hmv z3 ?_
    intro h4 t4 x4 z4
    refine goS r3 _ [] x4 z4 (by kernel_rfl) ?_; intro _ r4
    refine cutS 650 1 (n := 74) (hs := [3,3,3,8,0,0,0,8,0,0,0,8,0,0,0,0,8,9,3,0,0,0,1,1,1,1,1,9,0,0,0,9,0,0,0,9,9,0,10,11,11,11,11,1]) (c := (.call (.builtin "list.append") ⟨[(.ref pb), (.str (nm s m) tm)], []⟩)) (idx := [10]) (Lf := fun F => [(pb, oList (wV s ws) (ep + 1))]) r4 (by decide) (by kernel_rfl) ?_; intro h5 t5 r5 T5 G5 o5 z5
    refine lf_append (G5.nw _ (.head _)) (by rw [wV_len]; omega) z5 ?_
    intro h6 x6 z6
    refine goS r5 _ [10] x6 z6 (by kernel_rfl) ?_; intro _ r6
    have ew : wV s ws ++ [.str (nm s m) tm] = wV s (ws ++ [(m, tm)]) := by unfold wV; rw [List.map_append]; rfl
    refine cutS 650 1 (n := 31) (hs := [4,4,4,4,6,6,6,1]) (c := ((cFor (PP w b1 b2) (sColS (PP w b1 b2)) (M + 2) N cn))) (idx := [0,4,6,7,8,9,10,11]) (Lf := fun F => ((M + 2, oLit rw 0) :: (N, rkF o bl dm x vw (.ref rw) (.int ((cv + 1 : Nat) : Int) (tokE F 4 5)) (.int (i : Int) t0) (.str (nm s m) tm) (.int (m : Int) tkm) (some (u1, u2, u3))) :: (rw, oList (colV q) re) :: (cn, oCell (.ref nl)) :: (nl, oList (namesV s 0 nq) en) :: lx3 x dx pb fs l tl (wV s ws ++ [.str (nm s m) tm]) (ep + 1 + 1))) r6 (by decide) (by kernel_rfl) ?_; intro h7 t7 r7 T7 G7 o7 z7
    rw [ew] at G7
    obtain ⟨ct7, G7⟩ : ∃ (ct7 : Tok), Giv (kP w b1 b2) h7 (clL (M + 2) N cn rw nl 0 (rkF o bl dm x vw (.ref rw) (.int ((cv + 1 : Nat) : Int) ct7) (.int (i : Int) t0) (.str (nm s m) tm) (.int (m : Int) tkm) (some (u1, u2, u3))) (colV q) re (namesV s 0 nq) en ++ lx3 x dx pb fs l tl (wV s (ws ++ [(m, tm)])) (ep + 1 + 1)) := ⟨_, G7⟩
    refine col_loop hq hm hn o7 q.length 0 (ws ++ [(m, tm)]) (cv + 1) _ (some (u1, u2, u3)) _ h7 _ (Nat.zero_add _) (by rw [List.length_append, List.length_singleton]; omega) T7 G7 ?_
    intro h8 t8 oi ct8 xc8 ws8 ep8 e8 x8
    rw [List.append_assoc] at x8
    have z8 : h8.objs.size = h8.objs.size := rfl
    refine goS r7 _ [0,4,6,7,8,9,10,11] x8 z8 (by kernel_rfl) ?_; intro _ r8
    refine agS 0 (n := 0) (hs := []) (c := (cFor (PP w b1 b2) (sTurnS (PP w b1 b2)) it N cn)) (q := 3) (idx := [3,4,5,6,7,8,9,10,11]) (idn := []) (Lf := fun F => ((it, ⟨.type "range_iterator", none, .fields #[.int ((i + 1 : Nat) : Int) 0, .int (((n + 1 : Nat) : Int) - 1) 0, .int 1 0], #[]⟩) :: (N, rkF o bl dm x vw (.ref rw) (.int ((cv + 1 + ws8.length : Nat) : Int) ct8) (.int (i : Int) t0) (.str (nm s m) tm) (.int (m : Int) tkm) xc8) :: (dm, oD es de) :: (rw, oList (colV q) re) :: (cn, oCell (.ref nl)) :: (nl, oList (namesV s 0 nq) en) :: lx3 x dx pb fs l tl (wV s (ws ++ ([(m, tm)] ++ ws8))) ep8)) (Nf := fun F => ([])) r8 (by decide) (by kernel_rfl) ?_; intro h9 t9 x9 z9 T9 G9
    rw [show (((n + 1 : Nat) : Int) - 1) = (n : Int) by omega] at x9 G9
    exact k h9 t9 _ _ _ _ _ ws8 _ e8 x9 T9 G9)
end
end Mine
end
section
open PySem PySem.W PyProof.Rows PySem.W.X
namespace Mine
theorem Giv.af {K : Nat → Option Obj} {h h' : Heap} {L0 L Nw : List (Addr × Obj)} (G : Giv K h L0) (x : Af h L Nw h') (e : L.map (·.1) = L0.map (·.1)) : Giv K h' L := by
  refine ⟨x.a.nw, e ▸ G.nd, fun p hp => ?_⟩
  have : p.1 ∈ L0.map (·.1) := by rw [← e]; exact List.mem_map_of_mem hp
  obtain ⟨q, hq, eq⟩ := List.mem_map.mp this
  rw [← eq]
  exact G.sep q hq
theorem Giv.sub {K : Nat → Option Obj} {h : Heap} {L0 L : List (Addr × Obj)} (G : Giv K h L0) (hs : ∀ p ∈ L, p ∈ L0) (nd : (L.map (·.1)).Nodup) : Giv K h L :=
  ⟨fun p hp => G.nw p (hs p hp), nd, fun p hp => G.sep p (hs p hp)⟩
/-- the same, told over more objects -/
theorem Af.wide {h h' : Heap} {L Y Nw : List (Addr × Obj)} (x : Af h L Nw h') (hX : ∀ p ∈ Y, p ∈ L ∨ (h.get? p.1 = some p.2 ∧ ∀ q ∈ L, q.1 ≠ p.1)) (hk : ∀ p ∈ L, ∃ q ∈ Y, q.1 = p.1) : Af h Y Nw h' := by
  refine ⟨⟨x.a.le, fun p hp => ?_, fun b o e z => x.a.keep b o e fun p hp e' => ?_⟩, x.nw, x.ge, x.nd⟩
  · rcases hX p hp with hp | ⟨e, hn⟩
    · exact x.a.nw p hp
    · exact x.a.keep p.1 p.2 e fun q hq e' => hn q hq e'
  · obtain ⟨q, hq, eq⟩ := hk p hp
    exact z q hq (eq.trans e')
section
variable {w : World} {b1 b2 : Bool} {A : Around} {R : Result → Shared → Prop} {hB h : Heap} {gs : Array GenState} {dr : Drawn} {t0 : Nat} {os : OsState}
theorem turn_loop {it N dm rw cn nl x dx pb fs bl : Addr} {o : RkN} {l : Lx} {tl : Tok} {s : Nat} {vw : Value} {q : List (Nat × Tok)} {nq : List Tok} {es : List DictEntry} {de re en : Nat} {kvs : List (Str × Value)}
    (hq : ∀ p ∈ q, p.1 < 4) (hql : q.length ≤ 4) (hn : nq.length = 16) (hmv : ∀ m, m < 16 → ∃ t, valueAt kvs (nm s m) = some (.int (m : Int) t)) (hA : Okk A 600) :
    ∀ (n i : Nat) (us ps : List (Nat × Tok)) (cv : Nat) (ct : Tok) (vt vd vh : Value) (xc : Option (Int × Tok × Value)) (ep : Nat) (h : Heap) (t0 : Nat), us.length = n → ps.length + 5 * n ≤ 990 → (∀ p ∈ us, p.1 < 16) → h.DictOf (sK' w b1 b2) dm kvs → Tp (kP w b1 b2) h →
    Giv (kP w b1 b2) h (tnL it N dm rw cn nl i n (rkF o bl dm x vw (.ref rw) (.int (cv : Int) ct) vt vd vh xc) es de (colV q) re (namesV s 0 nq) en ++ lx3 x dx pb fs l tl (wV s (us ++ ps)) ep) →
    (∀ h' t' oi ct' vt' vd' vh' xc' ws' ep', ws'.map (·.1) = stepP (q.map (·.1)) (us.map (·.1)) → Af h ((it, oi) :: (N, rkF o bl dm x vw (.ref rw) (.int ((cv + ws'.length : Nat) : Int) ct') vt' vd' vh' xc') :: (dm, oD es de) :: (rw, oList (colV q) re) :: (cn, oCell (.ref nl)) :: (nl, oList (namesV s 0 nq) en) :: lx3 x dx pb fs l tl (wV s (ps ++ ws')) ep') [] h' → R (.ok .next) ⟨h', gs, dr, t', os⟩) →
    CA w b1 b2 A (cFor (PP w b1 b2) (sTurnS (PP w b1 b2)) it N cn) R ⟨h, gs, dr, t0, os⟩ := by
  intro n
  induction n with
  | zero =>
    intro i us ps cv ct vt vd vh xc ep h t0 hu hz hlt hdm T G kk
    have hu0 : us = [] := List.length_eq_zero_iff.mp hu
    subst hu0
    have e0 : ps ++ [] = ps := List.append_nil _
    revert b1
    refine @bothB _ ?_ ?_ <;> set_option tactic.hygienic false in intros
    all_goals (
    refine goC hA T G (by kernel_rfl) ?_; intro _ _ r
    refine endS 2 (n := 15) (hs := [1,1,1,1,1,1]) (fl := (.next)) (q := 2) (idx := [2,3,4,5,6,7,8,9,10]) (idn := []) (Lf := fun F => ((it, objOf F 2) :: (N, rkF o bl dm x vw (.ref rw) (.int (cv : Int) ct) vt vd vh xc) :: (dm, oD es de) :: (rw, oList (colV q) re) :: (cn, oCell (.ref nl)) :: (nl, oList (namesV s 0 nq) en) :: lx3 x dx pb fs l tl (wV s ([] ++ ps)) ep)) (Nf := fun F => ([])) r (by decide) (by kernel_rfl) ?_; intro h3 t3 x3 z3
    exact kk h3 t3 _ ct vt vd vh xc [] ep rfl (by rw [e0]; exact x3))
  | succ n ih =>
    intro i us ps cv ct vt vd vh xc ep h t0 hu hz hlt hdm T G kk
    obtain _ | ⟨⟨m, tm⟩, us⟩ := us
    · cases hu
    have hu' : us.length = n := by rw [List.length_cons] at hu; omega
    have hm : m < 16 := hlt _ (.head _)
    obtain ⟨tkm, hv⟩ := hmv m hm
    refine turn_next (ws := us ++ ps) hq hm hn hv hdm (by rw [List.length_append]; omega) hA T G fun h1 t1 ct1 vt1 vd1 vh1 xc1 ws1 ep1 e1 x1 T1 G1 => ?_
    have hdm1 := dictOf_obj hdm (G.nw _ (.tail _ (.tail _ (.head _)))) (G1.nw _ (.tail _ (.tail _ (.head _))))
    have hl1 : ws1.length ≤ 4 := by
      have := congrArg List.length e1
      rw [List.length_map] at this
      have h2 := colP_len (cs := q.map (·.1)) (m := m)
      rw [List.length_map] at h2
      omega
    rw [List.append_assoc] at x1 G1
    refine ih (i + 1) us (ps ++ (m, tm) :: ws1) (cv + 1 + ws1.length) ct1 vt1 vd1 vh1 xc1 ep1 h1 t1 hu' (by rw [List.length_append, List.length_cons]; omega) (fun p hp => hlt p (.tail _ hp)) hdm1 T1 G1 fun h2 t2 oi ct2 vt2 vd2 vh2 xc2 ws2 ep2 e2 x2 => ?_
    have x3 := x1.trans x2 rfl
    rw [List.append_assoc, show cv + 1 + ws1.length + ws2.length = cv + ((m, tm) :: ws1 ++ ws2).length by rw [List.length_append, List.length_cons]; omega] at x3
    exact kk h2 t2 oi ct2 vt2 vd2 vh2 xc2 ((m, tm) :: ws1 ++ ws2) ep2 (by rw [List.map_append, List.map_cons, e1, e2, List.map_cons, stepP_cons]) x3
end
end Mine
end
section
open PySem PySem.W PyProof.Rows PySem.W.X
namespace Mine
section
variable {w : World} {b1 b2 : Bool} {A : Around} {R : Result → Shared → Prop} {hB h : Heap} {gs : Array GenState} {dr : Drawn} {t0 : Nat} {os : OsState}
theorem fits_small {i : Int} (h0 : 0 ≤ i) (h1 : i ≤ 1001) : Builtin.Range.rangeFitsLong i = true := by
  have e : (2 : Int) ^ 63 = 9223372036854775808 := by decide
  unfold Builtin.Range.rangeFitsLong
  rw [e, Bool.and_eq_true, decide_eq_true_eq, decide_eq_true_eq]
  omega
theorem lf_riter {rg : Addr} {n N : Nat} {t u v : Tok} (hl : h.get? rg = some ⟨.type "range", none, .fields #[.int 0 t, .int (n : Int) u, .int 1 v], #[]⟩) (hn : n ≤ 1000) (hN : h.objs.size = N)
    (k : ∀ h' tk, Af h [] [(N, oRit 0 n)] h' → h'.objs.size = N + 1 → R (.ok (.ret (.ref N))) ⟨h', gs, dr, tk, os⟩) :
    CA w b1 b2 A (.call (.builtin "range.__iter__") ⟨[.ref rg], []⟩) R ⟨h, gs, dr, t0, os⟩ := by
  have es : Builtin.Range.rangeSize 0 (n : Int) 1 = (n : Int) := by
    unfold Builtin.Range.rangeSize
    rw [if_pos (by decide)]
    split
    · rw [Int.ediv_one]; omega
    · omega
  have hb : (Builtin.Range.rangeFitsLong 0 && Builtin.Range.rangeFitsLong (n : Int) && Builtin.Range.rangeFitsLong 1 && Builtin.Range.rangeFitsLong (Builtin.Range.rangeSize 0 (n : Int) 1) && (Builtin.Range.rangeSize 0 (n : Int) 1 == 0 || if (1 : Int) > 0 then Builtin.Range.rangeFitsLong ((n : Int) + (1 - 1)) else Builtin.Range.rangeFitsLong ((n : Int) + (1 + 1)))) = true := by
    rw [es, if_pos (by decide), fits_small (i := 0) (by decide) (by decide), fits_small (i := 1) (by decide) (by decide), fits_small (i := (n : Int)) (by omega) (by omega), fits_small (i := (n : Int) + (1 - 1)) (by omega) (by omega)]
    simp
  subst hN
  have hc0 : ¬ (!(Builtin.Range.rangeFitsLong 0 && Builtin.Range.rangeFitsLong (n : Int) && Builtin.Range.rangeFitsLong 1 && Builtin.Range.rangeFitsLong (Builtin.Range.rangeSize 0 (n : Int) 1) && (Builtin.Range.rangeSize 0 (n : Int) 1 == 0 || if (1 : Int) > 0 then Builtin.Range.rangeFitsLong ((n : Int) + (1 - 1)) else Builtin.Range.rangeFitsLong ((n : Int) + (1 + 1))))) = true := by
    rw [hb]; decide
  refine cut_meets F.slot_range_iter ⟨_, hl, rfl⟩ F.entry_range_iter (F.args_range_iter_1 _) (PySem.AutoRange.range___iter___range_1 rg 0 (n : Int) 1 t u v hc0) ⟨hl, ?_⟩
  rw [hb, if_pos rfl, es]
  exact k _ _ (af_push (h := h) (o := oRit 0 n) rfl) (Heap.size_push ..)
theorem turn_loop1 {it N dm rw cn nl x dx pb fs bl : Addr} {o : RkN} {l : Lx} {tl : Tok} {s : Nat} {vw : Value} {q : List (Nat × Tok)} {nq : List Tok} {es : List DictEntry} {de re en ep : Nat} {ct tm : Tok} {kvs : List (Str × Value)}
    (hq : ∀ p ∈ q, p.1 < 4) (hql : q.length ≤ 4) (hn : nq.length = 16) (hmv : ∀ m, m < 16 → ∃ t, valueAt kvs (nm s m) = some (.int (m : Int) t)) (hA : Okk A 600) (hdm : h.DictOf (sK' w b1 b2) dm kvs) (T : Tp (kP w b1 b2) h)
    (G : Giv (kP w b1 b2) h (tnL it N dm rw cn nl 0 1 (oFr (rkE6 o bl dm x vw (.ref rw) (.int ((0 : Nat) : Int) ct)) 6) es de (colV q) re (namesV s 0 nq) en ++ lx3 x dx pb fs l tl (wV s [(0, tm)]) ep))
    (kk : ∀ h' t' oN oi ct' vt' vd' vh' xc' ws' ep', ws'.map (·.1) = stepP (q.map (·.1)) ([(0, tm)].map (·.1)) → Af h ((it, oi) :: (N, rkF oN bl dm x vw (.ref rw) (.int ((0 + ws'.length : Nat) : Int) ct') vt' vd' vh' xc') :: (dm, oD es de) :: (rw, oList (colV q) re) :: (cn, oCell (.ref nl)) :: (nl, oList (namesV s 0 nq) en) :: lx3 x dx pb fs l tl (wV s ws') ep') [] h' → R (.ok .next) ⟨h', gs, dr, t', os⟩) :
    CA w b1 b2 A (cFor (PP w b1 b2) (sTurnS (PP w b1 b2)) it N cn) R ⟨h, gs, dr, t0, os⟩ := by
  obtain ⟨tkm, hv⟩ := hmv 0 (by decide)
  refine turn_first (ws := []) hq (by decide) hn hv hdm (by rw [List.length_nil]; omega) hA T G fun h1 t1 oN ct1 vt1 vd1 vh1 xc1 ws1 ep1 e1 x1 T1 G1 => ?_
  have hdm1 := dictOf_obj hdm (G.nw _ (.tail _ (.tail _ (.head _)))) (G1.nw _ (.tail _ (.tail _ (.head _))))
  have hl1 : ws1.length ≤ 4 := by
    have := congrArg List.length e1
    rw [List.length_map] at this
    have h2 := colP_len (cs := q.map (·.1)) (m := 0)
    rw [List.length_map] at h2
    omega
  refine turn_loop hq hql hn hmv hA 0 (0 + 1) [] ((0, tm) :: ws1) (0 + 1 + ws1.length) ct1 vt1 vd1 vh1 xc1 ep1 h1 t1 rfl (by rw [List.length_cons]; omega) (fun p hp => nomatch hp) hdm1 T1 G1 fun h2 t2 oi ct2 vt2 vd2 vh2 xc2 ws2 ep2 e2 x2 => ?_
  have x3 := x1.trans x2 rfl
  rw [show 0 + 1 + ws1.length + ws2.length = 0 + ((0, tm) :: ws1 ++ ws2).length by rw [List.length_append, List.length_cons]; omega] at x3
  exact kk h2 t2 oN oi ct2 vt2 vd2 vh2 xc2 ((0, tm) :: ws1 ++ ws2) ep2 (by rw [List.map_append, List.map_cons, e1, e2, List.map_cons, stepP_cons]) x3
noncomputable abbrev rnL (it N dm bl rw cn nl : Addr) (i : Nat) (fo : Obj) (es : List DictEntry) (de : Nat) (bq : List Value) (be : Nat) (rq : List Value) (re : Nat) (ns : List Value) (en : Nat) : List (Addr × Obj) := [(it, oLit bl i), (N, fo), (dm, oD es de), (bl, oList bq be), (rw, oList rq re), (cn, oCell (.ref nl)), (nl, oList ns en)]
theorem row_first {it N dm bl rw cn nl x dx pb fs : Addr} {o : RkN} {l : Lx} {tl : Tok} {i s : Nat} {tw tm : Tok} {q : List (Nat × Tok)} {nq : List Tok} {es : List DictEntry} {de be re en ep : Nat} {bq : List Value} {kvs : List (Str × Value)}
    (hq : ∀ p ∈ q, p.1 < 4) (hql : q.length ≤ 4) (hn : nq.length = 16) (hmv : ∀ m, m < 16 → ∃ t, valueAt kvs (nm s m) = some (.int (m : Int) t)) (hdm : h.DictOf (sK' w b1 b2) dm kvs) (hx : bq[i]? = some (.ref rw)) (hA : Okk A 570) (T : Tp (kP w b1 b2) h)
    (G : Giv (kP w b1 b2) h (rnL it N dm bl rw cn nl i (oFr (rkE4 o bl dm x (.int 1 tw)) 4) es de bq be (colV q) re (namesV s 0 nq) en ++ lx3 x dx pb fs l tl (wV s [(0, tm)]) ep))
    (k : ∀ h' t' o' tw' vc' vt' vd' vh' xc' ws' ep', ws'.map (·.1) = stepP (q.map (·.1)) ([(0, tm)].map (·.1)) → Af h (rnL it N dm bl rw cn nl (i + 1) (rkF o' bl dm x (.int (ws'.length : Int) tw') (.ref rw) vc' vt' vd' vh' xc') es de bq be (colV q) re (namesV s 0 nq) en ++ lx3 x dx pb fs l tl (wV s ws') ep') [] h' → Tp (kP w b1 b2) h' → CA w b1 b2 A (cFor (PP w b1 b2) (sRowS (PP w b1 b2)) it N cn) R ⟨h', gs, dr, t', os⟩) :
    CA w b1 b2 A (cFor (PP w b1 b2) (sRowS (PP w b1 b2)) it N cn) R ⟨h, gs, dr, t0, os⟩ := by
  revert b1
  refine @bothB _ ?_ ?_ <;> set_option tactic.hygienic false in intros
  all_goals (
  refine goC hA T G (by kernel_rfl) ?_; intro _ _ r
  obtain ⟨M, hM⟩ : ∃ M, h.objs.size = M := ⟨_, rfl⟩
  rw [hM] at r
  refine cutS 600 0 (n := 2) (hs := [1]) (c := (.call (.builtin "list_iterator.__next__") ⟨[(.ref it)], []⟩)) (idx := [0,3]) (Lf := fun F => [(it, oLit bl i), (bl, oList bq be)]) r (by decide) (by kernel_rfl) ?_; intro h1 t1 r1 T1 G1 o1 z1
  refine lf_next (G1.nw _ (.head _)) (G1.nw _ (.tail _ (.head _))) hx z1 ?_
  intro h2 x2 z2
  refine goS r1 _ [0] x2 z2 (by kernel_rfl) ?_; intro _ r2
  refine cutS 600 1 (n := 45) (hs := [2,2,2,2,0,0,2,1,1,1,1,1,1]) (c := (.call (.builtin "range.__iter__") ⟨[(.ref M)], []⟩)) (idx := [0]) (Lf := fun F => [(M, ⟨(.type "range"), Option.none, (.fields #[(.int 0 (t1 + 3)), (.int 1 tw), (.int 1 (t1 + 4))]), #[]⟩)]) r2 (by decide) (by kernel_rfl) ?_; intro h3 t3 r3 T3 G3 o3 z3
  refine lf_riter (n := 1) (G3.nw _ (.head _)) (by omega) z3 ?_
  intro h4 t4 x4 z4
  refine goS r3 _ [] x4 z4 (by kernel_rfl) ?_; intro _ r4
  refine cutS 600 0 (n := 1) (hs := [1]) (c := ((cFor (PP w b1 b2) (sTurnS (PP w b1 b2)) (M + 1) N cn))) (idx := [0,3,4,6,7,8,9,10,11]) (Lf := fun F => (tnL (M + 1) N dm rw cn nl 0 (1) (oFr (rkE6 { o with h4 := hOf F 3 4, k4 := kOf F 3 4, h5 := hOf F 3 5, k5 := kOf F 3 5 } bl dm x (.int 1 tw) (.ref rw) (.int ((0 : Nat) : Int) (tokE F 3 5))) 6) es de (colV q) re (namesV s 0 nq) en ++ lx3 x dx pb fs l tl (wV s [(0, tm)]) ep)) r4 (by decide) (by kernel_rfl) ?_; intro h5 t5 r5 T5 G5 o5 z5
  obtain ⟨o5n, ct5, G5⟩ : ∃ (o5n : RkN) (ct5 : Tok), Giv (kP w b1 b2) h5 (tnL (M + 1) N dm rw cn nl 0 (1) (oFr (rkE6 o5n bl dm x (.int 1 tw) (.ref rw) (.int ((0 : Nat) : Int) ct5)) 6) es de (colV q) re (namesV s 0 nq) en ++ lx3 x dx pb fs l tl (wV s [(0, tm)]) ep) := ⟨_, _, G5⟩
  have hdm5 := dictOf_obj hdm (G.nw _ (.tail _ (.tail _ (.head _)))) (G5.nw _ (.tail _ (.tail _ (.head _))))
  refine turn_loop1 hq hql hn hmv o5 hdm5 T5 G5 ?_
  intro h6 t6 oN oi ct6 vt6 vd6 vh6 xc6 ws6 ep6 e6 x6
  rw [Nat.zero_add] at x6
  have z6 : h6.objs.size = h6.objs.size := rfl
  refine goS r5 _ [0,3,4,6,7,8,9,10,11] x6 z6 (by kernel_rfl) ?_; intro _ r6
  obtain _ | ⟨v1, v2, v3⟩ := xc6
  · refine agS 0 (n := 10) (hs := [4,4,4]) (c := (cFor (PP w b1 b2) (sRowS (PP w b1 b2)) it N cn)) (q := 2) (idx := [2,3,4,5,6,7,8,9,10,11]) (idn := []) (Lf := fun F => (rnL it N dm bl rw cn nl (i + 1) (rkF oN bl dm x (.int (ws6.length : Int) ct6) (.ref rw) (.int (ws6.length : Int) ct6) vt6 vd6 vh6 none) es de bq be (colV q) re (namesV s 0 nq) en ++ lx3 x dx pb fs l tl (wV s ws6) ep6)) (Nf := fun F => ([])) r6 (by decide) (by kernel_rfl) ?_; intro h7 t7 x7 z7 T7 G7
    exact k h7 t7 oN _ _ _ _ _ _ ws6 ep6 e6 x7 T7
  · refine agS 0 (n := 10) (hs := [4,4,4]) (c := (cFor (PP w b1 b2) (sRowS (PP w b1 b2)) it N cn)) (q := 2) (idx := [2,3,4,5,6,7,8,9,10,11]) (idn := []) (Lf := fun F => (rnL it N dm bl rw cn nl (i + 1) (rkF oN bl dm x (.int (ws6.length : Int) ct6) (.ref rw) (.int (ws6.length : Int) ct6) vt6 vd6 vh6 (some (v1, v2, v3))) es de bq be (colV q) re (namesV s 0 nq) en ++ lx3 x dx pb fs l tl (wV s ws6) ep6)) (Nf := fun F => ([])) r6 (by decide) (by kernel_rfl) ?_; intro h7 t7 x7 z7 T7 G7
    exact k h7 t7 oN _ _ _ _ _ _ ws6 ep6 e6 x7 T7)
theorem row_next {it N dm bl rw cn nl x dx pb fs : Addr} {o : RkN} {l : Lx} {tl : Tok} {i s : Nat} {cw : Nat} {tw : Tok} {vr vc vt vd vh : Value} {xc : Option (Int × Tok × Value)} {us : List (Nat × Tok)} {q : List (Nat × Tok)} {nq : List Tok} {es : List DictEntry} {de be re en ep : Nat} {bq : List Value} {kvs : List (Str × Value)}
    (hq : ∀ p ∈ q, p.1 < 4) (hql : q.length ≤ 4) (hn : nq.length = 16) (hmv : ∀ m, m < 16 → ∃ t, valueAt kvs (nm s m) = some (.int (m : Int) t)) (hdm : h.DictOf (sK' w b1 b2) dm kvs) (hx : bq[i]? = some (.ref rw)) (hus : us.length = cw + 1) (hu : ∀ p ∈ us, p.1 < 16) (hz : 5 * (cw + 1) ≤ 990) (hA : Okk A 570) (T : Tp (kP w b1 b2) h)
    (G : Giv (kP w b1 b2) h (rnL it N dm bl rw cn nl i (rkF o bl dm x (.int ((cw + 1 : Nat) : Int) tw) vr vc vt vd vh xc) es de bq be (colV q) re (namesV s 0 nq) en ++ lx3 x dx pb fs l tl (wV s us) ep))
    (k : ∀ h' t' tw' vc' vt' vd' vh' xc' ws' ep', ws'.map (·.1) = stepP (q.map (·.1)) (us.map (·.1)) → Af h (rnL it N dm bl rw cn nl (i + 1) (rkF o bl dm x (.int (ws'.length : Int) tw') (.ref rw) vc' vt' vd' vh' xc') es de bq be (colV q) re (namesV s 0 nq) en ++ lx3 x dx pb fs l tl (wV s ws') ep') [] h' → Tp (kP w b1 b2) h' → CA w b1 b2 A (cFor (PP w b1 b2) (sRowS (PP w b1 b2)) it N cn) R ⟨h', gs, dr, t', os⟩) :
    CA w b1 b2 A (cFor (PP w b1 b2) (sRowS (PP w b1 b2)) it N cn) R ⟨h, gs, dr, t0, os⟩ := by
  revert b1
  refine @bothB _ ?_ ?_ <;> set_option tactic.hygienic false in intros
  all_goals (
  refine goC hA T G (by kernel_rfl) ?_; intro _ _ r
  obtain ⟨M, hM⟩ : ∃ M, h.objs.size = M := ⟨_, rfl⟩
  rw [hM] at r
  obtain _ | ⟨u1, u2, u3⟩ := xc
  · refine cutS 600 0 (n := 2) (hs := [1]) (c := (.call (.builtin "list_iterator.__next__") ⟨[(.ref it)], []⟩)) (idx := [0,3]) (Lf := fun F => [(it, oLit bl i), (bl, oList bq be)]) r (by decide) (by kernel_rfl) ?_; intro h1 t1 r1 T1 G1 o1 z1
    refine lf_next (G1.nw _ (.head _)) (G1.nw _ (.tail _ (.head _))) hx z1 ?_
    intro h2 x2 z2
    refine goS r1 _ [0] x2 z2 (by kernel_rfl) ?_; intro _ r2
    refine cutS 600 1 (n := 45) (hs := [2,2,2,2,0,0,2,1,1,1,1,1,1]) (c := (.call (.builtin "range.__iter__") ⟨[(.ref M)], []⟩)) (idx := [0]) (Lf := fun F => [(M, ⟨(.type "range"), Option.none, (.fields #[(.int 0 (t1 + 3)), (.int ((cw + 1) : Int) tw), (.int 1 (t1 + 4))]), #[]⟩)]) r2 (by decide) (by kernel_rfl) ?_; intro h3 t3 r3 T3 G3 o3 z3
    refine lf_riter (n := cw + 1) (G3.nw _ (.head _)) (by omega) z3 ?_
    intro h4 t4 x4 z4
    refine goS r3 _ [] x4 z4 (by kernel_rfl) ?_; intro _ r4
    refine cutS 600 0 (n := 1) (hs := [1]) (c := ((cFor (PP w b1 b2) (sTurnS (PP w b1 b2)) (M + 1) N cn))) (idx := [0,3,4,6,7,8,9,10,11]) (Lf := fun F => (tnL (M + 1) N dm rw cn nl 0 (cw + 1) (rkF o bl dm x (.int ((cw + 1 : Nat) : Int) tw) (.ref rw) (.int ((0 : Nat) : Int) (tokE F 3 5)) vt vd vh none) es de (colV q) re (namesV s 0 nq) en ++ lx3 x dx pb fs l tl (wV s us) ep)) r4 (by decide) (by kernel_rfl) ?_; intro h5 t5 r5 T5 G5 o5 z5
    obtain ⟨ct5, G5⟩ : ∃ (ct5 : Tok), Giv (kP w b1 b2) h5 (tnL (M + 1) N dm rw cn nl 0 (cw + 1) (rkF o bl dm x (.int ((cw + 1 : Nat) : Int) tw) (.ref rw) (.int ((0 : Nat) : Int) ct5) vt vd vh none) es de (colV q) re (namesV s 0 nq) en ++ lx3 x dx pb fs l tl (wV s us) ep) := ⟨_, G5⟩
    have hdm5 := dictOf_obj hdm (G.nw _ (.tail _ (.tail _ (.head _)))) (G5.nw _ (.tail _ (.tail _ (.head _))))
    rw [← List.append_nil us] at G5
    refine turn_loop hq hql hn hmv o5 (cw + 1) 0 us [] 0 ct5 vt vd vh none ep h5 _ hus (by rw [List.length_nil]; omega) hu hdm5 T5 G5 ?_
    intro h6 t6 oi ct6 vt6 vd6 vh6 xc6 ws6 ep6 e6 x6
    rw [Nat.zero_add] at x6
    have z6 : h6.objs.size = h6.objs.size := rfl
    refine goS r5 _ [0,3,4,6,7,8,9,10,11] x6 z6 (by kernel_rfl) ?_; intro _ r6
    obtain _ | ⟨v1, v2, v3⟩ := xc6
    · refine agS 0 (n := 10) (hs := [4,4,4]) (c := (cFor (PP w b1 b2) (sRowS (PP w b1 b2)) it N cn)) (q := 2) (idx := [2,3,4,5,6,7,8,9,10,11]) (idn := []) (Lf := fun F => (rnL it N dm bl rw cn nl (i + 1) (rkF o bl dm x (.int (ws6.length : Int) ct6) (.ref rw) (.int (ws6.length : Int) ct6) vt6 vd6 vh6 none) es de bq be (colV q) re (namesV s 0 nq) en ++ lx3 x dx pb fs l tl (wV s ws6) ep6)) (Nf := fun F => ([])) r6 (by decide) (by kernel_rfl) ?_; intro h7 t7 x7 z7 T7 G7
      exact k h7 t7 _ _ _ _ _ _ ws6 ep6 e6 x7 T7
    · refine agS 0 (n := 10) (hs := [4,4,4]) (c := (cFor (PP w b1 b2) (sRowS (PP w b1 b2)) it N cn)) (q := 2) (idx := [2,3,4,5,6,7,8,9,10,11]) (idn := []) (Lf := fun F => (rnL it N dm bl rw cn nl (i + 1) (rkF o bl dm x (.int (ws6.length : Int) ct6) (.ref rw) (.int (ws6.length : Int) ct6) vt6 vd6 vh6 (some (v1, v2, v3))) es de bq be (colV q) re (namesV s 0 nq) en ++ lx3 x dx pb fs l tl (wV s ws6) ep6)) (Nf := fun F => ([])) r6 (by decide) (by kernel_rfl) ?_; intro h7 t7 x7 z7 T7 G7
      exact k h7 t7 _ _ _ _ _ _ ws6 ep6 e6 x7 T7
  · refine cutS 600 0 (n := 2) (hs := [1]) (c := (.call (.builtin "list_iterator.__next__") ⟨[(.ref it)], []⟩)) (idx := [0,3]) (Lf := fun F => [(it, oLit bl i), (bl, oList bq be)]) r (by decide) (by kernel_rfl) ?_; intro h1 t1 r1 T1 G1 o1 z1
    refine lf_next (G1.nw _ (.head _)) (G1.nw _ (.tail _ (.head _))) hx z1 ?_
    intro h2 x2 z2
    refine goS r1 _ [0] x2 z2 (by kernel_rfl) ?_; intro _ r2
    refine cutS 600 1 (n := 45) (hs := [2,2,2,2,0,0,2,1,1,1,1,1,1]) (c := (.call (.builtin "range.__iter__") ⟨[(.ref M)], []⟩)) (idx := [0]) (Lf := fun F => [(M, ⟨(.type "range"), Option.none, (.fields #[(.int 0 (t1 + 3)), (.int ((cw + 1) : Int) tw), (.int 1 (t1 + 4))]), #[]⟩)]) r2 (by decide) (by kernel_rfl) ?_; intro h3 t3 r3 T3 G3 o3 z3
    refine lf_riter (n := cw + 1) (G3.nw _ (.head _)) (by omega) z3 ?_
    intro h4 t4 x4 z4
    refine goS r3 _ [] x4 z4 (by kernel_rfl) ?_; intro _ r4
    refine cutS 600 0 (n := 1) (hs := [1]) (c := ((cFor (PP w b1 b2) (sTurnS (PP w b1 b2)) (M + 1) N cn))) (idx := [0,3,4,6,7,8,9,10,11]) (Lf := fun F => (tnL (M + 1) N dm rw cn nl 0 (cw + 1) (rkF o bl dm x (.int ((cw + 1 : Nat) : Int) tw) (.ref rw) (.int ((0 : Nat) : Int) (tokE F 3 5)) vt vd vh (some (u1, u2, u3))) es de (colV q) re (namesV s 0 nq) en ++ lx3 x dx pb fs l tl (wV s us) ep)) r4 (by decide) (by kernel_rfl) ?_; intro h5 t5 r5 T5 G5 o5 z5
    obtain ⟨ct5, G5⟩ : ∃ (ct5 : Tok), Giv (kP w b1 b2) h5 (tnL (M + 1) N dm rw cn nl 0 (cw + 1) (rkF o bl dm x (.int ((cw + 1 : Nat) : Int) tw) (.ref rw) (.int ((0 : Nat) : Int) ct5) vt vd vh (some (u1, u2, u3))) es de (colV q) re (namesV s 0 nq) en ++ lx3 x dx pb fs l tl (wV s us) ep) := ⟨_, G5⟩
    have hdm5 := dictOf_obj hdm (G.nw _ (.tail _ (.tail _ (.head _)))) (G5.nw _ (.tail _ (.tail _ (.head _))))
    rw [← List.append_nil us] at G5
    refine turn_loop hq hql hn hmv o5 (cw + 1) 0 us [] 0 ct5 vt vd vh (some (u1, u2, u3)) ep h5 _ hus (by rw [List.length_nil]; omega) hu hdm5 T5 G5 ?_
    intro h6 t6 oi ct6 vt6 vd6 vh6 xc6 ws6 ep6 e6 x6
    rw [Nat.zero_add] at x6
    have z6 : h6.objs.size = h6.objs.size := rfl
    refine goS r5 _ [0,3,4,6,7,8,9,10,11] x6 z6 (by kernel_rfl) ?_; intro _ r6
    obtain _ | ⟨v1, v2, v3⟩ := xc6
    · refine agS 0 (n := 10) (hs := [4,4,4]) (c := (cFor (PP w b1 b2) (sRowS (PP w b1 b2)) it N cn)) (q := 2) (idx := [2,3,4,5,6,7,8,9,10,11]) (idn := []) (Lf := fun F => (rnL it N dm bl rw cn nl (i + 1) (rkF o bl dm x (.int (ws6.length : Int) ct6) (.ref rw) (.int (ws6.length : Int) ct6) vt6 vd6 vh6 none) es de bq be (colV q) re (namesV s 0 nq) en ++ lx3 x dx pb fs l tl (wV s ws6) ep6)) (Nf := fun F => ([])) r6 (by decide) (by kernel_rfl) ?_; intro h7 t7 x7 z7 T7 G7
      exact k h7 t7 _ _ _ _ _ _ ws6 ep6 e6 x7 T7
    · refine agS 0 (n := 10) (hs := [4,4,4]) (c := (cFor (PP w b1 b2) (sRowS (PP w b1 b2)) it N cn)) (q := 2) (idx := [2,3,4,5,6,7,8,9,10,11]) (idn := []) (Lf := fun F => (rnL it N dm bl rw cn nl (i + 1) (rkF o bl dm x (.int (ws6.length : Int) ct6) (.ref rw) (.int (ws6.length : Int) ct6) vt6 vd6 vh6 (some (v1, v2, v3))) es de bq be (colV q) re (namesV s 0 nq) en ++ lx3 x dx pb fs l tl (wV s ws6) ep6)) (Nf := fun F => ([])) r6 (by decide) (by kernel_rfl) ?_; intro h7 t7 x7 z7 T7 G7
      exact k h7 t7 _ _ _ _ _ _ ws6 ep6 e6 x7 T7)
end
end Mine
end
section
open PySem PySem.W PyProof.Rows PySem.W.X
namespace Mine
section
variable {K : Nat → Option Obj} {h h' : Heap} {A A' B B' R1 R2 : List (Addr × Obj)} {r : Addr × Obj}
theorem Giv.row (G : Giv K h (A ++ (R1 ++ r :: R2) ++ B)) : Giv K h (A ++ r :: B) := by
  have hs : (A ++ r :: B).Sublist (A ++ (R1 ++ r :: R2) ++ B) := by
    rw [List.append_assoc]
    refine List.Sublist.append (List.Sublist.refl A) ?_
    rw [List.append_assoc, List.cons_append]
    exact (List.Sublist.cons_cons r (List.sublist_append_right R2 B)).trans (List.sublist_append_right R1 _)
  exact ⟨fun p hp => G.nw p (hs.subset hp), List.Pairwise.sublist (hs.map _) G.nd, fun p hp => G.sep p (hs.subset hp)⟩
theorem Af.row (x : Af h (A' ++ r :: B') [] h') (G : Giv K h (A ++ (R1 ++ r :: R2) ++ B)) (eA : A'.map (·.1) = A.map (·.1)) (eB : B'.map (·.1) = B.map (·.1)) : Af h (A' ++ (R1 ++ r :: R2) ++ B') [] h' := by
  have nd := G.nd
  rw [List.map_append, List.map_append, List.map_append, List.map_cons, List.append_assoc, List.nodup_append] at nd
  obtain ⟨_, n2, n3⟩ := nd
  rw [List.append_assoc, List.nodup_append] at n2
  obtain ⟨_, n5, n6⟩ := n2
  rw [List.cons_append, List.nodup_cons, List.nodup_append] at n5
  obtain ⟨n7, _, _, n8⟩ := n5
  have f1 : ∀ p, p ∈ R1 ∨ p ∈ R2 → ∀ q ∈ A' ++ r :: B', q.1 ≠ p.1 := by
    intro p hp q hq e
    rcases List.mem_append.mp hq with hq | hq
    · have hA : q.1 ∈ A.map (·.1) := by rw [← eA]; exact List.mem_map_of_mem hq
      refine n3 q.1 hA p.1 ?_ e
      rcases hp with hp | hp
      · exact List.mem_append_left _ (List.mem_append_left _ (List.mem_map_of_mem (f := (·.1)) hp))
      · exact List.mem_append_left _ (List.mem_append_right _ (.tail _ (List.mem_map_of_mem (f := (·.1)) hp)))
    · have hb : q.1 = r.1 ∨ q.1 ∈ B.map (·.1) := by
        rcases List.mem_cons.mp hq with rfl | hq
        · exact .inl rfl
        · exact .inr (by rw [← eB]; exact List.mem_map_of_mem hq)
      rcases hp with hp | hp
      · refine n6 p.1 (List.mem_map_of_mem (f := (·.1)) hp) q.1 ?_ e.symm
        rcases hb with hb | hb
        · rw [hb]; exact .head _
        · exact .tail _ (List.mem_append_right _ hb)
      · rcases hb with hb | hb
        · refine n7 ?_
          rw [← hb, e]
          exact List.mem_append_left _ (List.mem_map_of_mem (f := (·.1)) hp)
        · exact n8 p.1 (List.mem_map_of_mem (f := (·.1)) hp) q.1 hb e.symm
  refine x.wide (fun p hp => ?_) fun p hp => ⟨p, ?_, rfl⟩
  · rcases List.mem_append.mp hp with hp | hp
    · rcases List.mem_append.mp hp with hp | hp
      · exact .inl (List.mem_append_left _ hp)
      · rcases List.mem_append.mp hp with hp | hp
        · exact .inr ⟨G.nw p (List.mem_append_left _ (List.mem_append_right _ (List.mem_append_left _ hp))), f1 p (.inl hp)⟩
        · rcases List.mem_cons.mp hp with rfl | hp
          · exact .inl (List.mem_append_right _ (.head _))
          · exact .inr ⟨G.nw p (List.mem_append_left _ (List.mem_append_right _ (List.mem_append_right _ (.tail _ hp)))), f1 p (.inr hp)⟩
    · exact .inl (List.mem_append_right _ (.tail _ hp))
  · rcases List.mem_append.mp hp with hp | hp
    · exact List.mem_append_left _ (List.mem_append_left _ hp)
    · rcases List.mem_cons.mp hp with rfl | hp
      · exact List.mem_append_left _ (List.mem_append_right _ (List.mem_append_right _ (.head _)))
      · exact List.mem_append_right _ hp
end
theorem stepP_ge (cs : List Nat) : ∀ q : List Nat, q.length ≤ (stepP cs q).length
  | [] => Nat.le_refl _
  | m :: q => by
    have := stepP_ge cs q
    rw [stepP_cons, List.length_append, List.length_cons, List.length_cons]
    omega
theorem row_facts {ws us q : List (Nat × Tok)} (e : ws.map (·.1) = stepP (q.map (·.1)) (us.map (·.1))) (hq : ∀ p ∈ q, p.1 < 4) (hql : q.length ≤ 4) (hu : ∀ p ∈ us, p.1 < 16) : us.length ≤ ws.length ∧ ws.length ≤ 5 * us.length ∧ ∀ p ∈ ws, p.1 < 16 := by
  have l := congrArg List.length e
  rw [List.length_map] at l
  have h1 := stepP_ge (q.map (·.1)) (us.map (·.1))
  have h2 := stepP_len (cs := q.map (·.1)) (by rw [List.length_map]; exact hql) (us.map (·.1))
  rw [List.length_map] at h1 h2
  refine ⟨by omega, by omega, fun p hp => ?_⟩
  have : p.1 ∈ stepP (q.map (·.1)) (us.map (·.1)) := by rw [← e]; exact List.mem_map_of_mem hp
  refine stepP_lt (fun c hc => ?_) (fun m hm => ?_) _ this
  · obtain ⟨p, hp, rfl⟩ := List.mem_map.mp hc; exact hq p hp
  · obtain ⟨p, hp, rfl⟩ := List.mem_map.mp hm; exact hu p hp
section
variable {w : World} {b1 b2 : Bool} {A : Around} {R : Result → Shared → Prop} {hB h : Heap} {gs : Array GenState} {dr : Drawn} {t0 : Nat} {os : OsState}
noncomputable abbrev rowO (ρ : Row) (k : Nat) : Addr × Obj := ((ρ k).1, oList (colV (ρ k).2.1) (ρ k).2.2)
noncomputable abbrev rkA (it N dm bl : Addr) (oi fo : Obj) (es : List DictEntry) (de : Nat) (ρ : Row) (be : Nat) : List (Addr × Obj) := [(it, oi), (N, fo), (dm, oD es de), (bl, oList (refR ρ) be)]
noncomputable abbrev rkB (cn nl x dx pb fs : Addr) (l : Lx) (tl : Tok) (ns : List Value) (en : Nat) (qs : List Value) (ep : Nat) : List (Addr × Obj) := (cn, oCell (.ref nl)) :: (nl, oList ns en) :: lx3 x dx pb fs l tl qs ep
noncomputable abbrev bigL (it N dm bl cn nl x dx pb fs : Addr) (l : Lx) (tl : Tok) (oi fo : Obj) (es : List DictEntry) (de : Nat) (ρ : Row) (be : Nat) (ns : List Value) (en : Nat) (qs : List Value) (ep : Nat) : List (Addr × Obj) := rkA it N dm bl oi fo es de ρ be ++ rwL ρ ++ rkB cn nl x dx pb fs l tl ns en qs ep
theorem rook_rows {it N dm bl cn nl x dx pb fs : Addr} {o : RkN} {l : Lx} {tl : Tok} {s : Nat} {tw tm : Tok} {ρ : Row} {Bd : Nat → Bool} {inc : Bool} {nq : List Tok} {es : List DictEntry} {de be en ep : Nat} {kvs : List (Str × Value)}
    (hρ : RowsB Bd inc ρ) (hn : nq.length = 16) (hmv : ∀ m, m < 16 → ∃ t, valueAt kvs (nm s m) = some (.int (m : Int) t)) (hdm : h.DictOf (sK' w b1 b2) dm kvs) (hA : Okk A 570) (T : Tp (kP w b1 b2) h)
    (G : Giv (kP w b1 b2) h (bigL it N dm bl cn nl x dx pb fs l tl (oLit bl 0) (oFr (rkE4 o bl dm x (.int 1 tw)) 4) es de ρ be (namesV s 0 nq) en (wV s [(0, tm)]) ep))
    (kk : ∀ h' t' oN oi tw' vr' vc' vt' vd' vh' xc' ws' ep', ws'.map (·.1) = lineQ (fun c => Bd (4 * 0 + c) == inc) (fun c => Bd (4 * 1 + c) == inc) (fun c => Bd (4 * 2 + c) == inc) (fun c => Bd (4 * 3 + c) == inc) → 1 ≤ ws'.length → ws'.length ≤ 625 → (∀ p ∈ ws', p.1 < 16) →
      Af h (bigL it N dm bl cn nl x dx pb fs l tl oi (rkF oN bl dm x (.int (ws'.length : Int) tw') vr' vc' vt' vd' vh' xc') es de ρ be (namesV s 0 nq) en (wV s ws') ep') [] h' → R (.ok .next) ⟨h', gs, dr, t', os⟩) :
    CA w b1 b2 A (cFor (PP w b1 b2) (sRowS (PP w b1 b2)) it N cn) R ⟨h, gs, dr, t0, os⟩ := by
  have q4 : ∀ k, k < 4 → ∀ p ∈ (ρ k).2.1, p.1 < 4 := fun k hk p hp => by
    have : p.1 ∈ (ρ k).2.1.map (·.1) := List.mem_map_of_mem hp
    rw [hρ k hk] at this
    exact rowQ_lt this
  have ql : ∀ k, k < 4 → (ρ k).2.1.length ≤ 4 := fun k hk => by
    have := congrArg List.length (hρ k hk)
    rw [List.length_map] at this
    rw [this]
    exact rowQ_len _ _
  have l0 : ∀ p ∈ [((0 : Nat), tm)], p.1 < 16 := fun p hp => by cases List.mem_singleton.mp hp; exact (by decide : 0 < 16)
  refine row_first (q4 0 (by decide)) (ql 0 (by decide)) hn hmv hdm rfl hA T (Giv.row (A := rkA it N dm bl (oLit bl 0) _ es de ρ be) (R1 := []) (R2 := [rowO ρ 1, rowO ρ 2, rowO ρ 3]) (r := rowO ρ 0) (B := rkB cn nl x dx pb fs l tl (namesV s 0 nq) en _ _) G) fun h1 t1 oN tw1 vc1 vt1 vd1 vh1 xc1 ws1 ep1 e1 x1 T1 => ?_
  have y1 := Af.row (A' := rkA it N dm bl (oLit bl 1) (rkF oN bl dm x (.int (ws1.length : Int) tw1) (.ref (ρ 0).1) vc1 vt1 vd1 vh1 xc1) es de ρ be) (R1 := []) (R2 := [rowO ρ 1, rowO ρ 2, rowO ρ 3]) (r := rowO ρ 0) (B' := rkB cn nl x dx pb fs l tl (namesV s 0 nq) en (wV s ws1) ep1) x1 (A := rkA it N dm bl (oLit bl 0) _ es de ρ be) (B := rkB cn nl x dx pb fs l tl (namesV s 0 nq) en _ _) G rfl rfl
  have g1 : Giv (kP w b1 b2) h1 (bigL it N dm bl cn nl x dx pb fs l tl (oLit bl 1) (rkF oN bl dm x (.int (ws1.length : Int) tw1) (.ref (ρ 0).1) vc1 vt1 vd1 vh1 xc1) es de ρ be (namesV s 0 nq) en (wV s ws1) ep1) := G.af y1 rfl
  have d1 := dictOf_obj hdm (G.nw _ (.tail _ (.tail _ (.head _)))) (g1.nw _ (.tail _ (.tail _ (.head _))))
  have f1 := row_facts e1 (q4 0 (by decide)) (ql 0 (by decide)) l0
  obtain ⟨cw1, hcw1⟩ : ∃ cw, ws1.length = cw + 1 := ⟨ws1.length - 1, by have := f1.1; have := f1.2.1; simp only [List.length_cons, List.length_nil] at *; omega⟩
  have g1' := g1
  rw [hcw1] at g1'
  refine row_next (q4 1 (by decide)) (ql 1 (by decide)) hn hmv d1 rfl hcw1 f1.2.2 (by have := f1.2.1; simp only [List.length_cons, List.length_nil] at *; omega) hA T1 (Giv.row (A := rkA it N dm bl (oLit bl 1) _ es de ρ be) (R1 := [rowO ρ 0]) (R2 := [rowO ρ 2, rowO ρ 3]) (r := rowO ρ 1) (B := rkB cn nl x dx pb fs l tl (namesV s 0 nq) en _ _) g1') fun h2 t2 tw2 vc2 vt2 vd2 vh2 xc2 ws2 ep2 e2 x2 T2 => ?_
  have y2 := Af.row (A' := rkA it N dm bl (oLit bl 2) (rkF oN bl dm x (.int (ws2.length : Int) tw2) (.ref (ρ 1).1) vc2 vt2 vd2 vh2 xc2) es de ρ be) (R1 := [rowO ρ 0]) (R2 := [rowO ρ 2, rowO ρ 3]) (r := rowO ρ 1) (B' := rkB cn nl x dx pb fs l tl (namesV s 0 nq) en (wV s ws2) ep2) x2 (A := rkA it N dm bl (oLit bl 1) _ es de ρ be) (B := rkB cn nl x dx pb fs l tl (namesV s 0 nq) en _ _) g1 rfl rfl
  have g2 : Giv (kP w b1 b2) h2 (bigL it N dm bl cn nl x dx pb fs l tl (oLit bl 2) (rkF oN bl dm x (.int (ws2.length : Int) tw2) (.ref (ρ 1).1) vc2 vt2 vd2 vh2 xc2) es de ρ be (namesV s 0 nq) en (wV s ws2) ep2) := g1.af y2 rfl
  have d2 := dictOf_obj d1 (g1.nw _ (.tail _ (.tail _ (.head _)))) (g2.nw _ (.tail _ (.tail _ (.head _))))
  have f2 := row_facts e2 (q4 1 (by decide)) (ql 1 (by decide)) f1.2.2
  obtain ⟨cw2, hcw2⟩ : ∃ cw, ws2.length = cw + 1 := ⟨ws2.length - 1, by have := f2.1; have := f2.2.1; simp only [List.length_cons, List.length_nil] at *; omega⟩
  have g2' := g2
  rw [hcw2] at g2'
  refine row_next (q4 2 (by decide)) (ql 2 (by decide)) hn hmv d2 rfl hcw2 f2.2.2 (by have := f2.2.1; simp only [List.length_cons, List.length_nil] at *; omega) hA T2 (Giv.row (A := rkA it N dm bl (oLit bl 2) _ es de ρ be) (R1 := [rowO ρ 0, rowO ρ 1]) (R2 := [rowO ρ 3]) (r := rowO ρ 2) (B := rkB cn nl x dx pb fs l tl (namesV s 0 nq) en _ _) g2') fun h3 t3 tw3 vc3 vt3 vd3 vh3 xc3 ws3 ep3 e3 x3 T3 => ?_
  have y3 := Af.row (A' := rkA it N dm bl (oLit bl 3) (rkF oN bl dm x (.int (ws3.length : Int) tw3) (.ref (ρ 2).1) vc3 vt3 vd3 vh3 xc3) es de ρ be) (R1 := [rowO ρ 0, rowO ρ 1]) (R2 := [rowO ρ 3]) (r := rowO ρ 2) (B' := rkB cn nl x dx pb fs l tl (namesV s 0 nq) en (wV s ws3) ep3) x3 (A := rkA it N dm bl (oLit bl 2) _ es de ρ be) (B := rkB cn nl x dx pb fs l tl (namesV s 0 nq) en _ _) g2 rfl rfl
  have g3 : Giv (kP w b1 b2) h3 (bigL it N dm bl cn nl x dx pb fs l tl (oLit bl 3) (rkF oN bl dm x (.int (ws3.length : Int) tw3) (.ref (ρ 2).1) vc3 vt3 vd3 vh3 xc3) es de ρ be (namesV s 0 nq) en (wV s ws3) ep3) := g2.af y3 rfl
  have d3 := dictOf_obj d2 (g2.nw _ (.tail _ (.tail _ (.head _)))) (g3.nw _ (.tail _ (.tail _ (.head _))))
  have f3 := row_facts e3 (q4 2 (by decide)) (ql 2 (by decide)) f2.2.2
  obtain ⟨cw3, hcw3⟩ : ∃ cw, ws3.length = cw + 1 := ⟨ws3.length - 1, by have := f3.1; have := f3.2.1; simp only [List.length_cons, List.length_nil] at *; omega⟩
  have g3' := g3
  rw [hcw3] at g3'
  refine row_next (q4 3 (by decide)) (ql 3 (by decide)) hn hmv d3 rfl hcw3 f3.2.2 (by have := f3.2.1; simp only [List.length_cons, List.length_nil] at *; omega) hA T3 (Giv.row (A := rkA it N dm bl (oLit bl 3) _ es de ρ be) (R1 := [rowO ρ 0, rowO ρ 1, rowO ρ 2]) (R2 := []) (r := rowO ρ 3) (B := rkB cn nl x dx pb fs l tl (namesV s 0 nq) en _ _) g3') fun h4 t4 tw4 vc4 vt4 vd4 vh4 xc4 ws4 ep4 e4 x4 T4 => ?_
  have y4 := Af.row (A' := rkA it N dm bl (oLit bl 4) (rkF oN bl dm x (.int (ws4.length : Int) tw4) (.ref (ρ 3).1) vc4 vt4 vd4 vh4 xc4) es de ρ be) (R1 := [rowO ρ 0, rowO ρ 1, rowO ρ 2]) (R2 := []) (r := rowO ρ 3) (B' := rkB cn nl x dx pb fs l tl (namesV s 0 nq) en (wV s ws4) ep4) x4 (A := rkA it N dm bl (oLit bl 3) _ es de ρ be) (B := rkB cn nl x dx pb fs l tl (namesV s 0 nq) en _ _) g3 rfl rfl
  have g4 : Giv (kP w b1 b2) h4 (bigL it N dm bl cn nl x dx pb fs l tl (oLit bl 4) (rkF oN bl dm x (.int (ws4.length : Int) tw4) (.ref (ρ 3).1) vc4 vt4 vd4 vh4 xc4) es de ρ be (namesV s 0 nq) en (wV s ws4) ep4) := g3.af y4 rfl
  have d4 := dictOf_obj d3 (g3.nw _ (.tail _ (.tail _ (.head _)))) (g4.nw _ (.tail _ (.tail _ (.head _))))
  have f4 := row_facts e4 (q4 3 (by decide)) (ql 3 (by decide)) f3.2.2
  have eL : ws4.map (·.1) = lineQ (fun c => Bd (4 * 0 + c) == inc) (fun c => Bd (4 * 1 + c) == inc) (fun c => Bd (4 * 2 + c) == inc) (fun c => Bd (4 * 3 + c) == inc) := by
    rw [e4, e3, e2, e1, hρ 0 (by decide), hρ 1 (by decide), hρ 2 (by decide), hρ 3 (by decide)]
    exact (lineP_eq (fun k c => Bd (4 * k + c)) inc).symm
  have xx := ((y1.trans y2 rfl).trans y3 rfl).trans y4 rfl
  revert b1
  refine @bothB _ ?_ ?_ <;> set_option tactic.hygienic false in intros
  all_goals (
  refine goC hA T4 g4 (by kernel_rfl) ?_; intro _ _ r
  refine cutS 600 0 (n := 2) (hs := [1]) (c := (.call (.builtin "list_iterator.__next__") ⟨[(.ref it)], []⟩)) (idx := [0,3]) (Lf := fun F => [(it, oLit bl 4), (bl, oList [(.ref ((ρ 0).1)), (.ref ((ρ 1).1)), (.ref ((ρ 2).1)), (.ref ((ρ 3).1))] be)]) r (by decide) (by kernel_rfl) ?_; intro h5 t5 r5 T5 G5 o5 z5
  refine lf_next_end o5.hd (G5.nw _ (.head _)) (G5.nw _ (.tail _ (.head _))) rfl z5 ?_
  intro h6 x6 z6
  refine goS r5 _ [0] x6 z6 (by kernel_rfl) ?_; intro _ r6
  refine endS 0 (n := 2) (hs := [1]) (fl := (.next)) (q := 2) (idx := [2,3,4,5,6,7,8,9,10,11,12,13,14]) (idn := []) (Lf := fun F => (bigL it N dm bl cn nl x dx pb fs l tl (oLitX 4) (rkF oN bl dm x (.int (ws4.length : Int) tw4) (.ref (ρ 3).1) vc4 vt4 vd4 vh4 xc4) es de ρ be (namesV s 0 nq) en (wV s ws4) ep4)) (Nf := fun F => ([])) r6 (by decide) (by kernel_rfl) ?_; intro h7 t7 x7 z7
  refine kk h7 t7 oN _ tw4 _ vc4 vt4 vd4 vh4 xc4 ws4 ep4 eL ?_ ?_ f4.2.2 (xx.trans x7 rfl)
  · have := f1.1; have := f2.1; have := f3.1; have := f4.1
    simp only [List.length_cons, List.length_nil] at *
    omega
  · have := f1.2.1; have := f2.2.1; have := f3.2.1; have := f4.2.1
    simp only [List.length_cons, List.length_nil] at *
    omega)
end
end Mine
end
section
open PySem PySem.W PyProof.Rows PySem.W.X PySem.Builtin.Str
namespace Mine
theorem occ_count (x : Str) (c limit : Nat) : ∀ (k lo free : Nat) (acc : Array Nat), free ≤ lo → acc.size + k ≤ limit → lo + k = x.length + 1 →
    (forIn (List.range' lo k) (acc, free) (StrLaws.occBody x ⟨#[c]⟩ x.length limit)).run.fst.size = acc.size + (x.cps.toList.drop lo).count c := by
  intro k
  have hl : x.length = x.cps.toList.length := (Array.length_toList).symm
  induction k with
  | zero =>
    intro lo free acc hf hs hk
    rw [List.drop_eq_nil_of_le (by omega)]
    rfl
  | succ k ih =>
    intro lo free acc hf hs hk
    rw [List.range'_succ, List.forIn_cons]
    unfold StrLaws.occBody
    have one := StrLaws.subAt_one x c lo
    by_cases hlo : lo < x.cps.toList.length
    · rw [List.drop_eq_getElem_cons hlo, List.count_cons]
      by_cases hc : x.cps.toList[lo] = c
      · have hg : subAt x ⟨#[c]⟩ lo = true ∧ lo + 1 ≤ x.length := ⟨(one.mpr (by rw [List.getElem?_eq_getElem hlo, hc])).2, by omega⟩
        rw [if_pos ⟨⟨⟨by dsimp only; omega, hf⟩, hg.2⟩, hg.1⟩]
        have := ih (lo + 1) (lo + 1) (acc.push lo) (Nat.le_refl _) (by rw [Array.size_push]; omega) (by omega)
        rw [Array.size_push] at this
        refine this.trans ?_
        rw [hc]; simp; omega
      · rw [if_neg (fun z => hc (by
          have := one.mp ⟨by have := z.1.2; exact this, z.2⟩
          rw [List.getElem?_eq_getElem hlo] at this
          exact Option.some.inj this))]
        refine (ih (lo + 1) free acc (by omega) (by omega) (by omega)).trans ?_
        rw [if_neg (by simpa using hc)]; omega
    · rw [if_neg (fun z => absurd (show lo + 1 ≤ x.length from z.1.2) (by omega))]
      refine (ih (lo + 1) free acc (by omega) (by omega) (by omega)).trans ?_
      rw [List.drop_eq_nil_of_le (by omega), List.drop_eq_nil_of_le (by omega)]
theorem nm_cnt : ∀ s, s < 8 → ∀ m, m < 16 → 0 < m → (nmL s m).count 44 + 1 = popc m := by decide +kernel
theorem nm_count : ∀ m, m < 16 → 0 < m → ∀ s, s < 8 → (occurrences (nm s m) ⟨#[44]⟩ 0 (nm s m).length ((nm s m).length + 1)).length + 1 = popc m := by
  intro m hm h0 s hs
  rw [← nm_cnt s hs m hm h0, StrLaws.occ_eq, Array.length_toList, Nat.sub_zero, occ_count _ 44 _ _ 0 0 #[] (Nat.le_refl _) (by simp) (by omega), ← nm_toList]
  simp
theorem nmL_eq0 : ∀ m, m < 16 → ∀ s, s < 8 → (nmL s m == [48,120,48]) = (m == 0) := by decide +kernel
theorem nm_eq0 : ∀ m, m < 16 → ∀ s, s < 8 → ((nm s m).cps.toList == s0x0.cps.toList) = (m == 0) := by
  intro m hm s hs
  rw [nm_toList]
  exact nmL_eq0 m hm s hs
noncomputable abbrev cV (c : Nat → Nat) (t : Nat → Tok) : List Value := [.int (c 0 : Int) (t 0), .int (c 1 : Int) (t 1), .int (c 2 : Int) (t 2), .int (c 3 : Int) (t 3), .int (c 4 : Int) (t 4)]
noncomputable def bump (j : Nat) (c : Nat → Nat) (i : Nat) : Nat := if i = j then c i + 1 else c i
noncomputable def rkG (o : RkN) (bl dm x : Addr) (vw vr vc vt vd vh : Value) (hr : Int) (kr : Tok) (rl : Addr) : Option (Int × Tok × Value) → Obj
  | none => oFr (rkE o bl dm x vw vr vc vt vd vh ++ [⟨hr, .str sRooks kr, .ref rl⟩]) 10
  | some (hc, kc, v) => oFr (rkE o bl dm x vw vr vc vt vd vh ++ [⟨hc, .str sColumn kc, v⟩] ++ [⟨hr, .str sRooks kr, .ref rl⟩]) 11
noncomputable abbrev sCntS (P : Params) : Stmt := stmtNo (bodyAt P 145) 6
section
variable {w : World} {b1 b2 : Bool} {A : Around} {R : Result → Shared → Prop} {hB h : Heap} {gs : Array GenState} {dr : Drawn} {t0 : Nat} {os : OsState}
theorem lf_streq {S1 S2 : Str} {t u : Tok} {v : Bool} {N : Nat} (hv : (S1.cps.toList == S2.cps.toList) = v) (hN : h.objs.size = N)
    (k : ∀ h' tk, Af h [] [] h' → h'.objs.size = N → R (.ok (.ret (.bool v))) ⟨h', gs, dr, tk, os⟩) :
    CA w b1 b2 A (.call (.builtin "str.__eq__") ⟨[.str S1 t, .str S2 u], []⟩) R ⟨h, gs, dr, t0, os⟩ := by
  subst hv
  exact cut_meets F.slot_str_eq (typeIs_str _ _ _) F.entry_str_eq (F.args_str_eq_2 _ _) (gives_str_eq _ _ _ _).meets (k h _ (af_refl h) hN)
theorem lf_count {S1 S2 : Str} {t u : Tok} {c N : Nat} (hv : (occurrences S1 S2 0 S1.length (S1.length + 1)).length = c) (hN : h.objs.size = N)
    (k : ∀ h' tok tk, Af h [] [] h' → h'.objs.size = N → R (.ok (.ret (.int (c : Int) tok))) ⟨h', gs, dr, tk, os⟩) :
    CA w b1 b2 A (.call (.builtin "str.count") ⟨[.str S1 t, .str S2 u], []⟩) R ⟨h, gs, dr, t0, os⟩ := by
  subst hv
  exact cut_meets F.slot_str_count (typeIs_str _ _ _) F.entry_str_count (F.args_str_count_2 _ _) (gives_str_count _ _ _ _).meets (k h _ _ (af_refl h) hN)
noncomputable abbrev cnL (it N rl : Addr) (i n : Nat) (fo : Obj) (cs : List Value) (re : Nat) : List (Addr × Obj) := [(it, oRit i n), (N, fo), (rl, oList cs re)]
theorem count_turn {it N cn rl x dx pb fs bl dm : Addr} {o : RkN} {l : Lx} {tl : Tok} {i n m s : Nat} {tm : Tok} {vw vr vc vt vd vh : Value} {xc : Option (Int × Tok × Value)} {hr : Int} {kr : Tok} {c : Nat → Nat} {tk : Nat → Tok} {re ep : Nat} {ws : List (Nat × Tok)}
    (hm : m < 16) (hs : s < 8) (hz : ws.length + 1 ≤ 1000) (hA : Okk A 600) (T : Tp (kP w b1 b2) h)
    (G : Giv (kP w b1 b2) h (cnL it N rl i (n + 1) (rkG o bl dm x vw vr vc vt vd vh hr kr rl xc) (cV c tk) re ++ lx3 x dx pb fs l tl (.str (nm s m) tm :: wV s ws) ep))
    (k : ∀ h' t' vt' vd' tk' re' ep', Af h (cnL it N rl (i + 1) n (rkG o bl dm x vw vr vc vt' vd' vh hr kr rl xc) (cV (bump (popc m) c) tk') re' ++ lx3 x dx pb fs l tl (wV s ws) ep') [] h' → Tp (kP w b1 b2) h' → Giv (kP w b1 b2) h' (cnL it N rl (i + 1) n (rkG o bl dm x vw vr vc vt' vd' vh hr kr rl xc) (cV (bump (popc m) c) tk') re' ++ lx3 x dx pb fs l tl (wV s ws) ep') → CA w b1 b2 A (cFor (PP w b1 b2) (sCntS (PP w b1 b2)) it N cn) R ⟨h', gs, dr, t', os⟩) :
    CA w b1 b2 A (cFor (PP w b1 b2) (sCntS (PP w b1 b2)) it N cn) R ⟨h, gs, dr, t0, os⟩ := by
  revert b1
  refine @bothB _ ?_ ?_ <;> set_option tactic.hygienic false in intros
  all_goals (
  refine goC hA T G (by kernel_rfl) ?_; intro _ _ r
  obtain _ | ⟨u1, u2, u3⟩ := xc
  · refine cutS 650 1 (n := 76) (hs := [1,1,1,1,1,1,1,1,1,2,2,2,4,0,0,0,4,0,0,0,4,0,0,0,0,4,5,0,0,0,1,1,1,5,0,0,0,5,0,0,0,5,5,0,6,7,7]) (c := (.builtin "len" ⟨[(.ref pb)], []⟩)) (idx := [6]) (Lf := fun F => [(pb, oList ((.str (nm s m) tm) :: (wV s ws)) ep)]) r (by decide) (by kernel_rfl) ?_; intro h1 t1 r1 T1 G1 o1 z1
    refine lf_blen (n := ws.length + 1) (G1.nw _ (.head _)) (by rw [List.length_cons, wV_len]) (by omega) z1 ?_
    intro h2 a2 t2 x2 z2
    refine goS r1 _ [] x2 z2 (by kernel_rfl) ?_; intro _ r2
    refine cutS 650 0 (n := 28) (hs := [1,5,0,0,0,5,0,0,0,5,5,0,6,7,7,7,7]) (c := (.call (.builtin "list.pop") ⟨[(.ref pb), (.int 0 (t2 + 1))], []⟩)) (idx := [6]) (Lf := fun F => [(pb, oList ((.str (nm s m) tm) :: (wV s ws)) ep)]) r2 (by decide) (by kernel_rfl) ?_; intro h3 t3 r3 T3 G3 o3 z3
    refine lf_pop0 (G3.nw _ (.head _)) (by rw [wV_len]; omega) z3 ?_
    intro h4 t4 x4 z4
    refine goS r3 _ [6] x4 z4 (by kernel_rfl) ?_; intro _ r4
    refine cutS 650 0 (n := 18) (hs := [3,3,3,3]) (c := (.call (.builtin "str.__eq__") ⟨[(.str (nm s m) tm), (.str ⟨#[48,120,48]⟩ (t4 + 1))], []⟩)) (idx := []) (Lf := fun F => []) r4 (by decide) (by kernel_rfl) ?_; intro h5 t5 r5 T5 G5 o5 z5
    obtain ⟨bm, hbm⟩ : ∃ bm, (m == 0) = bm := ⟨_, rfl⟩
    refine lf_streq (v := bm) ((nm_eq0 m hm s hs).trans hbm) z5 ?_
    intro h6 t6 x6 z6
    refine goS r5 _ [] x6 z6 (by kernel_rfl) ?_; intro _ r6
    by_cases hm0 : m = 0
    · subst hm0
      subst hbm
      refine agS 0 (n := 25) (hs := [4,4,4,4,4,4,4,4,4,4]) (c := (cFor (PP w b1 b2) (sCntS (PP w b1 b2)) it N cn)) (q := 1) (idx := [1,2,3,4,5,6]) (idn := []) (Lf := fun F => ((it, ⟨.type "range_iterator", none, .fields #[.int ((i + 1 : Nat) : Int) 0, .int (((n + 1 : Nat) : Int) - 1) 0, .int 1 0], #[]⟩) :: (N, rkG o bl dm x vw vr vc (.int (i : Int) t0) (.str (nm s 0) tm) vh hr kr rl none) :: (rl, oList (cV (bump 0 c) (atNo 0 [(t6 + 2), tk 1, tk 2, tk 3, tk 4])) re) :: lx3 x dx pb fs l tl (wV s ws) (ep + 1))) (Nf := fun F => ([])) r6 (by decide) (by kernel_rfl) ?_; intro h9 t9 x9 z9 T9 G9
      rw [show (((n + 1 : Nat) : Int) - 1) = (n : Int) by omega] at x9 G9
      exact k h9 t9 _ _ _ re _ x9 T9 G9
    · have hb : (m == 0) = false := by simpa using hm0
      have hb' := hbm.symm.trans hb
      subst hb'
      refine cutS 650 0 (n := 7) (hs := [3]) (c := (.call (.builtin "str.count") ⟨[(.str (nm s m) tm), (.str ⟨#[44]⟩ (t6 + 1))], []⟩)) (idx := []) (Lf := fun F => []) r6 (by decide) (by kernel_rfl) ?_; intro h7 t7 r7 T7 G7 o7 z7
      obtain ⟨j, hj⟩ : ∃ j, popc m = j + 1 := ⟨popc m - 1, by have := nm_count m hm (by omega) s hs; omega⟩
      refine lf_count (c := j) (by have := nm_count m hm (by omega) s hs; omega) z7 ?_
      intro h8 a8 t8 x8 z8
      refine goS r7 _ [] x8 z8 (by kernel_rfl) ?_; intro _ r8
      rw [hj] at k
      have hj4 : j < 4 := by have := popc_le ⟨m, hm⟩; dsimp only at this; omega
      have hj5 : j = 0 ∨ j = 1 ∨ j = 2 ∨ j = 3 := by omega
      rcases hj5 with rfl | rfl | rfl | rfl
      · refine agS 0 (n := 30) (hs := [4,4,4,4,4,4,4,4,4,4]) (c := (cFor (PP w b1 b2) (sCntS (PP w b1 b2)) it N cn)) (q := 1) (idx := [1,2,3,4,5,6]) (idn := []) (Lf := fun F => ((it, ⟨.type "range_iterator", none, .fields #[.int ((i + 1 : Nat) : Int) 0, .int (((n + 1 : Nat) : Int) - 1) 0, .int 1 0], #[]⟩) :: (N, rkG o bl dm x vw vr vc (.int (i : Int) t0) (.str (nm s m) tm) vh hr kr rl none) :: (rl, oList (cV (bump 1 c) (atNo 0 [tk 0, (t8 + 2), tk 2, tk 3, tk 4])) re) :: lx3 x dx pb fs l tl (wV s ws) (ep + 1))) (Nf := fun F => ([])) r8 (by decide) (by kernel_rfl) ?_; intro h9 t9 x9 z9 T9 G9
        rw [show (((n + 1 : Nat) : Int) - 1) = (n : Int) by omega] at x9 G9
        exact k h9 t9 _ _ _ re _ x9 T9 G9
      · refine agS 0 (n := 30) (hs := [4,4,4,4,4,4,4,4,4,4]) (c := (cFor (PP w b1 b2) (sCntS (PP w b1 b2)) it N cn)) (q := 1) (idx := [1,2,3,4,5,6]) (idn := []) (Lf := fun F => ((it, ⟨.type "range_iterator", none, .fields #[.int ((i + 1 : Nat) : Int) 0, .int (((n + 1 : Nat) : Int) - 1) 0, .int 1 0], #[]⟩) :: (N, rkG o bl dm x vw vr vc (.int (i : Int) t0) (.str (nm s m) tm) vh hr kr rl none) :: (rl, oList (cV (bump 2 c) (atNo 0 [tk 0, tk 1, (t8 + 2), tk 3, tk 4])) re) :: lx3 x dx pb fs l tl (wV s ws) (ep + 1))) (Nf := fun F => ([])) r8 (by decide) (by kernel_rfl) ?_; intro h9 t9 x9 z9 T9 G9
        rw [show (((n + 1 : Nat) : Int) - 1) = (n : Int) by omega] at x9 G9
        exact k h9 t9 _ _ _ re _ x9 T9 G9
      · refine agS 0 (n := 30) (hs := [4,4,4,4,4,4,4,4,4,4]) (c := (cFor (PP w b1 b2) (sCntS (PP w b1 b2)) it N cn)) (q := 1) (idx := [1,2,3,4,5,6]) (idn := []) (Lf := fun F => ((it, ⟨.type "range_iterator", none, .fields #[.int ((i + 1 : Nat) : Int) 0, .int (((n + 1 : Nat) : Int) - 1) 0, .int 1 0], #[]⟩) :: (N, rkG o bl dm x vw vr vc (.int (i : Int) t0) (.str (nm s m) tm) vh hr kr rl none) :: (rl, oList (cV (bump 3 c) (atNo 0 [tk 0, tk 1, tk 2, (t8 + 2), tk 4])) re) :: lx3 x dx pb fs l tl (wV s ws) (ep + 1))) (Nf := fun F => ([])) r8 (by decide) (by kernel_rfl) ?_; intro h9 t9 x9 z9 T9 G9
        rw [show (((n + 1 : Nat) : Int) - 1) = (n : Int) by omega] at x9 G9
        exact k h9 t9 _ _ _ re _ x9 T9 G9
      · refine agS 0 (n := 30) (hs := [4,4,4,4,4,4,4,4,4,4]) (c := (cFor (PP w b1 b2) (sCntS (PP w b1 b2)) it N cn)) (q := 1) (idx := [1,2,3,4,5,6]) (idn := []) (Lf := fun F => ((it, ⟨.type "range_iterator", none, .fields #[.int ((i + 1 : Nat) : Int) 0, .int (((n + 1 : Nat) : Int) - 1) 0, .int 1 0], #[]⟩) :: (N, rkG o bl dm x vw vr vc (.int (i : Int) t0) (.str (nm s m) tm) vh hr kr rl none) :: (rl, oList (cV (bump 4 c) (atNo 0 [tk 0, tk 1, tk 2, tk 3, (t8 + 2)])) re) :: lx3 x dx pb fs l tl (wV s ws) (ep + 1))) (Nf := fun F => ([])) r8 (by decide) (by kernel_rfl) ?_; intro h9 t9 x9 z9 T9 G9
        rw [show (((n + 1 : Nat) : Int) - 1) = (n : Int) by omega] at x9 G9
        exact k h9 t9 _ _ _ re _ x9 T9 G9
  · refine cutS 650 1 (n := 76) (hs := [1,1,1,1,1,1,1,1,1,2,2,2,4,0,0,0,4,0,0,0,4,0,0,0,0,4,5,0,0,0,1,1,1,5,0,0,0,5,0,0,0,5,5,0,6,7,7]) (c := (.builtin "len" ⟨[(.ref pb)], []⟩)) (idx := [6]) (Lf := fun F => [(pb, oList ((.str (nm s m) tm) :: (wV s ws)) ep)]) r (by decide) (by kernel_rfl) ?_; intro h1 t1 r1 T1 G1 o1 z1
    refine lf_blen (n := ws.length + 1) (G1.nw _ (.head _)) (by rw [List.length_cons, wV_len]) (by omega) z1 ?_
    intro h2 a2 t2 x2 z2
    refine goS r1 _ [] x2 z2 (by kernel_rfl) ?_; intro _ r2
    refine cutS 650 0 (n := 28) (hs := [1,5,0,0,0,5,0,0,0,5,5,0,6,7,7,7,7]) (c := (.call (.builtin "list.pop") ⟨[(.ref pb), (.int 0 (t2 + 1))], []⟩)) (idx := [6]) (Lf := fun F => [(pb, oList ((.str (nm s m) tm) :: (wV s ws)) ep)]) r2 (by decide) (by kernel_rfl) ?_; intro h3 t3 r3 T3 G3 o3 z3
    refine lf_pop0 (G3.nw _ (.head _)) (by rw [wV_len]; omega) z3 ?_
    intro h4 t4 x4 z4
    refine goS r3 _ [6] x4 z4 (by kernel_rfl) ?_; intro _ r4
    refine cutS 650 0 (n := 18) (hs := [3,3,3,3]) (c := (.call (.builtin "str.__eq__") ⟨[(.str (nm s m) tm), (.str ⟨#[48,120,48]⟩ (t4 + 1))], []⟩)) (idx := []) (Lf := fun F => []) r4 (by decide) (by kernel_rfl) ?_; intro h5 t5 r5 T5 G5 o5 z5
    obtain ⟨bm, hbm⟩ : ∃ bm, (m == 0) = bm := ⟨_, rfl⟩
    refine lf_streq (v := bm) ((nm_eq0 m hm s hs).trans hbm) z5 ?_
    intro h6 t6 x6 z6
    refine goS r5 _ [] x6 z6 (by kernel_rfl) ?_; intro _ r6
    by_cases hm0 : m = 0
    · subst hm0
      subst hbm
      refine agS 0 (n := 25) (hs := [4,4,4,4,4,4,4,4,4,4]) (c := (cFor (PP w b1 b2) (sCntS (PP w b1 b2)) it N cn)) (q := 1) (idx := [1,2,3,4,5,6]) (idn := []) (Lf := fun F => ((it, ⟨.type "range_iterator", none, .fields #[.int ((i + 1 : Nat) : Int) 0, .int (((n + 1 : Nat) : Int) - 1) 0, .int 1 0], #[]⟩) :: (N, rkG o bl dm x vw vr vc (.int (i : Int) t0) (.str (nm s 0) tm) vh hr kr rl (some (u1, u2, u3))) :: (rl, oList (cV (bump 0 c) (atNo 0 [(t6 + 2), tk 1, tk 2, tk 3, tk 4])) re) :: lx3 x dx pb fs l tl (wV s ws) (ep + 1))) (Nf := fun F => ([])) r6 (by decide) (by kernel_rfl) ?_; intro h9 t9 x9 z9 T9 G9
      rw [show (((n + 1 : Nat) : Int) - 1) = (n : Int) by omega] at x9 G9
      exact k h9 t9 _ _ _ re _ x9 T9 G9
    · have hb : (m == 0) = false := by simpa using hm0
      have hb' := hbm.symm.trans hb
      subst hb'
      refine cutS 650 0 (n := 7) (hs := [3]) (c := (.call (.builtin "str.count") ⟨[(.str (nm s m) tm), (.str ⟨#[44]⟩ (t6 + 1))], []⟩)) (idx := []) (Lf := fun F => []) r6 (by decide) (by kernel_rfl) ?_; intro h7 t7 r7 T7 G7 o7 z7
      obtain ⟨j, hj⟩ : ∃ j, popc m = j + 1 := ⟨popc m - 1, by have := nm_count m hm (by omega) s hs; omega⟩
      refine lf_count (c := j) (by have := nm_count m hm (by omega) s hs; omega) z7 ?_
      intro h8 a8 t8 x8 z8
      refine goS r7 _ [] x8 z8 (by kernel_rfl) ?_; intro _ r8
      rw [hj] at k
      have hj4 : j < 4 := by have := popc_le ⟨m, hm⟩; dsimp only at this; omega
      have hj5 : j = 0 ∨ j = 1 ∨ j = 2 ∨ j = 3 := by omega
      rcases hj5 with rfl | rfl | rfl | rfl
      · refine agS 0 (n := 30) (hs := [4,4,4,4,4,4,4,4,4,4]) (c := (cFor (PP w b1 b2) (sCntS (PP w b1 b2)) it N cn)) (q := 1) (idx := [1,2,3,4,5,6]) (idn := []) (Lf := fun F => ((it, ⟨.type "range_iterator", none, .fields #[.int ((i + 1 : Nat) : Int) 0, .int (((n + 1 : Nat) : Int) - 1) 0, .int 1 0], #[]⟩) :: (N, rkG o bl dm x vw vr vc (.int (i : Int) t0) (.str (nm s m) tm) vh hr kr rl (some (u1, u2, u3))) :: (rl, oList (cV (bump 1 c) (atNo 0 [tk 0, (t8 + 2), tk 2, tk 3, tk 4])) re) :: lx3 x dx pb fs l tl (wV s ws) (ep + 1))) (Nf := fun F => ([])) r8 (by decide) (by kernel_rfl) ?_; intro h9 t9 x9 z9 T9 G9
        rw [show (((n + 1 : Nat) : Int) - 1) = (n : Int) by omega] at x9 G9
        exact k h9 t9 _ _ _ re _ x9 T9 G9
      · refine agS 0 (n := 30) (hs := [4,4,4,4,4,4,4,4,4,4]) (c := (cFor (PP w b1 b2) (sCntS (PP w b1 b2)) it N cn)) (q := 1) (idx := [1,2,3,4,5,6]) (idn := []) (Lf := fun F => ((it, ⟨.type "range_iterator", none, .fields #[.int ((i + 1 : Nat) : Int) 0, .int (((n + 1 : Nat) : Int) - 1) 0, .int 1 0], #[]⟩) :: (N, rkG o bl dm x vw vr vc (.int (i : Int) t0) (.str (nm s m) tm) vh hr kr rl (some (u1, u2, u3))) :: (rl, oList (cV (bump 2 c) (atNo 0 [tk 0, tk 1, (t8 + 2), tk 3, tk 4])) re) :: lx3 x dx pb fs l tl (wV s ws) (ep + 1))) (Nf := fun F => ([])) r8 (by decide) (by kernel_rfl) ?_; intro h9 t9 x9 z9 T9 G9
        rw [show (((n + 1 : Nat) : Int) - 1) = (n : Int) by omega] at x9 G9
        exact k h9 t9 _ _ _ re _ x9 T9 G9
      · refine agS 0 (n := 30) (hs := [4,4,4,4,4,4,4,4,4,4]) (c := (cFor (PP w b1 b2) (sCntS (PP w b1 b2)) it N cn)) (q := 1) (idx := [1,2,3,4,5,6]) (idn := []) (Lf := fun F => ((it, ⟨.type "range_iterator", none, .fields #[.int ((i + 1 : Nat) : Int) 0, .int (((n + 1 : Nat) : Int) - 1) 0, .int 1 0], #[]⟩) :: (N, rkG o bl dm x vw vr vc (.int (i : Int) t0) (.str (nm s m) tm) vh hr kr rl (some (u1, u2, u3))) :: (rl, oList (cV (bump 3 c) (atNo 0 [tk 0, tk 1, tk 2, (t8 + 2), tk 4])) re) :: lx3 x dx pb fs l tl (wV s ws) (ep + 1))) (Nf := fun F => ([])) r8 (by decide) (by kernel_rfl) ?_; intro h9 t9 x9 z9 T9 G9
        rw [show (((n + 1 : Nat) : Int) - 1) = (n : Int) by omega] at x9 G9
        exact k h9 t9 _ _ _ re _ x9 T9 G9
      · refine agS 0 (n := 30) (hs := [4,4,4,4,4,4,4,4,4,4]) (c := (cFor (PP w b1 b2) (sCntS (PP w b1 b2)) it N cn)) (q := 1) (idx := [1,2,3,4,5,6]) (idn := []) (Lf := fun F => ((it, ⟨.type "range_iterator", none, .fields #[.int ((i + 1 : Nat) : Int) 0, .int (((n + 1 : Nat) : Int) - 1) 0, .int 1 0], #[]⟩) :: (N, rkG o bl dm x vw vr vc (.int (i : Int) t0) (.str (nm s m) tm) vh hr kr rl (some (u1, u2, u3))) :: (rl, oList (cV (bump 4 c) (atNo 0 [tk 0, tk 1, tk 2, tk 3, (t8 + 2)])) re) :: lx3 x dx pb fs l tl (wV s ws) (ep + 1))) (Nf := fun F => ([])) r8 (by decide) (by kernel_rfl) ?_; intro h9 t9 x9 z9 T9 G9
        rw [show (((n + 1 : Nat) : Int) - 1) = (n : Int) by omega] at x9 G9
        exact k h9 t9 _ _ _ re _ x9 T9 G9)
end
end Mine
end
section
open PySem PySem.W PyProof.Rows PySem.W.X PySem.Builtin.Str
namespace Mine
noncomputable def cntF : List (Nat × Tok) → (Nat → Nat) → Nat → Nat
  | [], c => c
  | p :: us, c => cntF us (bump (popc p.1) c)
theorem cntF_eq : ∀ (us : List (Nat × Tok)) (c : Nat → Nat) (j : Nat), cntF us c j = c j + (us.map (·.1)).countP fun m => popc m == j
  | [], _, _ => rfl
  | p :: us, c, j => by
    show cntF us (bump (popc p.1) c) j = _
    rw [cntF_eq us, List.map_cons, List.countP_cons]
    unfold bump
    by_cases h : j = popc p.1
    · rw [if_pos h, if_pos (by rw [h]; exact beq_self_eq_true _)]; omega
    · rw [if_neg h, if_neg (by simpa using fun e => h e.symm)]; omega
section
variable {w : World} {b1 b2 : Bool} {A : Around} {R : Result → Shared → Prop} {hB h : Heap} {gs : Array GenState} {dr : Drawn} {t0 : Nat} {os : OsState}
theorem count_loop {it N cn rl x dx pb fs bl dm : Addr} {o : RkN} {l : Lx} {tl : Tok} {s : Nat} {vw vr vc vh : Value} {xc : Option (Int × Tok × Value)} {hr : Int} {kr : Tok} (hs : s < 8) (hA : Okk A 600) :
    ∀ (n i : Nat) (us : List (Nat × Tok)) (c : Nat → Nat) (tk : Nat → Tok) (vt vd : Value) (re ep : Nat) (h : Heap) (t0 : Nat), us.length = n → n ≤ 900 → (∀ p ∈ us, p.1 < 16) → Tp (kP w b1 b2) h →
    Giv (kP w b1 b2) h (cnL it N rl i n (rkG o bl dm x vw vr vc vt vd vh hr kr rl xc) (cV c tk) re ++ lx3 x dx pb fs l tl (wV s us) ep) →
    (∀ h' t' oi vt' vd' tk' re' ep', Af h ((it, oi) :: (N, rkG o bl dm x vw vr vc vt' vd' vh hr kr rl xc) :: (rl, oList (cV (cntF us c) tk') re') :: lx3 x dx pb fs l tl [] ep') [] h' → R (.ok .next) ⟨h', gs, dr, t', os⟩) →
    CA w b1 b2 A (cFor (PP w b1 b2) (sCntS (PP w b1 b2)) it N cn) R ⟨h, gs, dr, t0, os⟩ := by
  intro n
  induction n with
  | zero =>
    intro i us c tk vt vd re ep h t0 hu hz hlt T G kk
    have hu0 : us = [] := List.length_eq_zero_iff.mp hu
    subst hu0
    revert b1
    refine @bothB _ ?_ ?_ <;> set_option tactic.hygienic false in intros
    all_goals (
    refine goC hA T G (by kernel_rfl) ?_; intro _ _ r
    refine endS 2 (n := 15) (hs := [1,1,1,1,1,1]) (fl := (.next)) (q := 2) (idx := [2,3,4,5,6,7]) (idn := []) (Lf := fun F => ((it, objOf F 2) :: (N, rkG o bl dm x vw vr vc vt vd vh hr kr rl xc) :: (rl, oList (cV (cntF [] c) tk) re) :: lx3 x dx pb fs l tl [] ep)) (Nf := fun F => ([])) r (by decide) (by kernel_rfl) ?_; intro h3 t3 x3 z3
    exact kk h3 t3 _ vt vd tk re ep x3)
  | succ n ih =>
    intro i us c tk vt vd re ep h t0 hu hz hlt T G kk
    obtain _ | ⟨⟨m, tm⟩, us⟩ := us
    · cases hu
    have hu' : us.length = n := by rw [List.length_cons] at hu; omega
    refine count_turn (ws := us) (hlt _ (.head _)) hs (by omega) hA T G fun h1 t1 vt1 vd1 tk1 re1 ep1 x1 T1 G1 => ?_
    refine ih (i + 1) us (bump (popc m) c) tk1 vt1 vd1 re1 ep1 h1 t1 hu' (by omega) (fun p hp => hlt p (.tail _ hp)) T1 G1 fun h2 t2 oi vt2 vd2 tk2 re2 ep2 x2 => ?_
    exact kk h2 t2 oi vt2 vd2 tk2 re2 ep2 (x1.trans x2 rfl)
end
end Mine
end
section
open PySem PySem.W PyProof.Rows PySem.W.X
namespace Mine
section
variable {w : World} {b1 b2 : Bool} {A : Around} {R : Result → Shared → Prop} {hB h : Heap} {gs : Array GenState} {dr : Drawn} {t0 : Nat} {os : OsState}
/-- the run stands behind the reading of a sign, at the look whether it is the last -/
theorem ciS {f : Cf} {ks : List Addr} {d N t n : Nat} {hs : List Nat} {self : Value} {tk u : Tok} (r : Ok w b1 b2 A R d hB ks f h N t)
    (hk : (okk (bS w b1 b2 d N t) n hs f, e1 (bS w b1 b2 d N t) n hs f, (rn (bS w b1 b2 d N t) n hs f).t) = (true, e2 (bS w b1 b2 d N t) n hs f, ciT self tk (.str ⟨#[]⟩ u)))
    (k : ∀ h' t1 N', Ok w b1 b2 A R d hB ks ⟨(rn (bS w b1 b2 d N t) n hs f).c, (rn (bS w b1 b2 d N t) n hs f).κ, ciK self, (rn (bS w b1 b2 d N t) n hs f).dep, 0, 0, (rn (bS w b1 b2 d N t) n hs f).news⟩ h' N' t1 → MnS w b1 b2 A R ⟨(rn (bS w b1 b2 d N t) n hs f).c, (rn (bS w b1 b2 d N t) n hs f).κ, ciK self, (rn (bS w b1 b2 d N t) n hs f).dep, 0, 0, (rn (bS w b1 b2 d N t) n hs f).news⟩ ⟨h', gs, dr, t1, os⟩) :
    MnS w b1 b2 A R f ⟨h, gs, dr, t + f.i, os⟩ := by
  refine run_at r.D r.E r.R r.d hk fun h' R' d' => ciT_sound ?_
  exact k h' (t + (rn (bS w b1 b2 d N t) n hs f).i) h'.objs.size ⟨gd_re r.D, bse_re r.E, R'.call [] (aft_refl h') rfl, d'⟩
theorem tok_none {x dx pb fs fd fr cd ct ca la : Addr} {o : Lx} {tp tl : Tok} {ep : Nat} (hA : Okk A 650) (T : Tp (kP w b1 b2) h)
    (G : Giv (kP w b1 b2) h (lexL (PP w b1 b2) x dx pb fs fd fr cd ct ca la o ⟨#[]⟩ 0 1 tp tl [] ep))
    (k : ∀ h' t' tok tp', Af h (lexL (PP w b1 b2) x dx pb fs fd fr cd ct ca la o ⟨#[]⟩ 0 1 tp' tl [] ep) [] h' → R (.ok (.ret (.str ⟨#[]⟩ tok))) ⟨h', gs, dr, t', os⟩) :
    CA w b1 b2 A (.call (.ref 97) ⟨[.ref x], []⟩) R ⟨h, gs, dr, t0, os⟩ := by
  revert b1
  refine @bothB _ ?_ ?_ <;> set_option tactic.hygienic false in intros
  all_goals (
  refine goC hA T G (by kernel_rfl) ?_; intro _ _ r
  obtain ⟨M, hM⟩ : ∃ M, h.objs.size = M := ⟨_, rfl⟩
  rw [hM] at r
  refine cutS 950 6 (n := 221) (hs := [0,0,1,1,1,2,0,0,0,2,0,0,0,2,2,0,3,4,4,4,4,4,1,1,0,0,1,2,0,0,0,2,0,0,0,0,0,0,2,2,0,3,0,0,0,0,1,3,3,3,1,1,1,1,1,1,1,1,2,0,2,2,0,0,1,1,1,5,0,0,0,5,0,0,0,5,5,0,6,8,8,8,8,8,8,8,8,9,10,10,11,1,1,13,14,15,15,15,15,15,14,15,15,15,15,15,1]) (c := (.call (.builtin "str.__getitem__") ⟨[(.str ⟨#[]⟩ (o.12)), (.ref (M + 5))], []⟩)) (idx := [0]) (Lf := fun F => [((M + 5), ⟨(.type "slice"), Option.none, (.fields #[(.int 0 tp), (.int 1 (t0 + 16)), .none]), #[]⟩)]) r (by decide) (by kernel_rfl) ?_; intro h1 t1 r1 T1 G1 o1 z1
  refine cut_getitem (p := 0) (G1.nw _ (.head _)) (Nat.zero_le _) ?_
  intro k1 t2
  rw [show chr ⟨#[]⟩ 0 = ⟨#[]⟩ from rfl]
  have x2 := af_refl h1
  refine goS r1 _ [] x2 z1 (by kernel_rfl) ?_; intro _ r2
  refine ciS (n := 81) (hs := [2,2,15,16,16,16,16,16,0,0,2,15,16,16,16,16,16,16,2,3,3,3,3,4,4]) (self := .ref (M + 2)) (tk := t0 + 7) (u := k1) r2 (by kernel_rfl) fun h3 t3 N3 r3 => ?_
  refine endS 2 (n := 20) (hs := [4,5,0,4,4,4,4,4,4,1,8]) (fl := (.ret (.str ⟨#[]⟩ (t0 + 4)))) (q := 8) (idx := [8,9,10,11,12,13,14,15,16,17]) (idn := []) (Lf := fun F => (lexL (PP w b1 b2) x dx pb fs fd fr cd ct ca la o ⟨#[]⟩ 0 1 (t2 + 4) tl [] ep)) (Nf := fun F => ([])) r3 (by decide) (by kernel_rfl) ?_; intro h4 t4 x4 z4
  exact k h4 t4 _ _ x4)
end
end Mine
end
section
open PySem PySem.W PyProof.Rows PySem.W.X
namespace Mine
/-- a lexer, but its code object -/
noncomputable abbrev lexN (P : Params) (x dx pb fs fd fr cd ct ca la : Addr) (o : Lx) (X : Str) (p ln : Int) (tp tl : Tok) (q : List Value) (ep : Nat) : List (Addr × Obj) := [
  (x, ⟨.ref 107, some dx, .plain, #[]⟩),
  (dx, ⟨.type "dict", none, .dict #[⟨o.hl, .str sLineno o.kl, .int ln tl⟩, ⟨o.hi, .str sInstream o.ki, .ref fs⟩, ⟨o.hw, .str sWhitespace o.kw, .str ⟨#[10,9,13,32]⟩ o.tw⟩, ⟨o.hp, .str sPushback o.kp, .ref pb⟩] 4, #[]⟩),
  (pb, oList q ep),
  (fs, ⟨.type "function", some fd, .func o.FD, #[]⟩),
  (fd, ⟨.type "dict", none, .dict #[⟨o.hr, .str sRead o.kr, .ref fr⟩] 1, #[]⟩),
  (fr, ⟨.type "function", none, .func (roFD P ct ca cd o.ctup o.pm), #[]⟩),
  (ct, ⟨.type "cell", none, .cell (some (.str X o.tX)), #[]⟩),
  (ca, ⟨.type "cell", none, .cell (some (.ref la)), #[]⟩),
  (la, ⟨.type "list", none, .seq #[.int p tp] 0, #[]⟩)]
section
variable {w : World} {b1 b2 : Bool} {A : Around} {R : Result → Shared → Prop} {hB h : Heap} {gs : Array GenState} {dr : Drawn} {t0 : Nat} {os : OsState}
noncomputable abbrev cdO (c0 : Value) (tq : Tok) (cr : List Value) : Obj := ⟨.type "code", none, .fields (c0 :: .str sQual tq :: cr).toArray, #[]⟩
theorem lex_new2 {X : Str} {tX tq : Tok} {cd cx : Addr} {c0 : Value} {cr : List Value} {ocx : Obj} (hA : Okk A 600) (T : Tp (kP w b1 b2) h) (G : Giv (kP w b1 b2) h [(130, tab1 cd cx), (cd, cdO c0 tq cr), (cx, ocx)])
    (k : ∀ h' t' x dx pb fs fd fr ct ca la (o : Lx) tp tl, o.c0 = c0 ∧ o.tq = tq ∧ o.cr = cr → Af h [(130, tab1 cd cx), (cd, cdO c0 tq cr), (cx, ocx)] (lexN (PP w b1 b2) x dx pb fs fd fr cd ct ca la o X 0 1 tp tl [] 0) h' → h'.objs.size = h.objs.size + 12 → R (.ok (.ret (.ref x))) ⟨h', gs, dr, t', os⟩) :
    CA w b1 b2 A (.call (.ref 135) ⟨[.str X tX], []⟩) R ⟨h, gs, dr, t0, os⟩ := by
  revert b1
  refine @bothB _ ?_ ?_ <;> set_option tactic.hygienic false in intros
  all_goals (
  refine goC hA T G (by kernel_rfl) ?_; intro _ _ r
  obtain ⟨M, hM⟩ : ∃ M, h.objs.size = M := ⟨_, rfl⟩
  rw [hM] at r
  refine endS 12 (n := 253) (hs := [0,0,2,2,2,2,0,6,0,0,0,6,6,0,7,0,0,0,7,7,7,7,1,1,1,1,1,2,1,1,1,0,8,0,0,0,0,0,0,0,0,0,0,0,0,0,0,0,0,0,0,0,0,0,0,0,0,0,0,0,0,0,1,0,1,0,0,0,0,0,0,1,1,1,1,1,2,0,0,0,2,0,2,0,2,0,0,0,2,0,3,3,3,1,1,2,0,0,0,2,0,2,0,2,0,0,0,2,0,3,3,3,1,2,0,0,0,2,0,2,0,2,0,0,0,2,0,3,3,3,2,3,0,0,0,3,0,3,0,3,0,0,0,3,0,4,4,4]) (fl := (.ret (.ref (M + 9)))) (q := 12) (idx := [12,13,14]) (idn := [2,3,0,5,4,6,10,9,8]) (Lf := fun F => ([(130, tab1 cd cx), (cd, cdO c0 tq cr), (cx, ocx)])) (Nf := fun F => (lexN (PP w b1 b2) (M + 9) (M + 8) (M + 11) (M + 6) (M + 7) (M + 5) cd (M + 1) (M + 2) (M + 3) { lxOf F 3 5 4 6 13 10 with c0 := c0, tq := tq, cr := cr } X 0 1 t0 (tokE F 3 0) [] 0)) r (by decide) (by kernel_rfl) ?_; intro h1 t1 x1 z1
  exact k h1 t1 _ _ _ _ _ _ _ _ _ _ _ _ ⟨rfl, rfl, rfl⟩ x1 (by rw [hM]; exact z1))
end
end Mine
end
section
open PySem PySem.W PyProof.Rows PySem.W.X
namespace Mine
noncomputable def isDC : Expr → Bool
  | .DictComp _ _ (⟨_, _, _, .ofNat 0⟩ :: _) _ _ => true
  | _ => false
theorem comp_startD {prog : Program} {w : World} {A : Around} {R : Result → Shared → Prop} {s : Shared} {e : Expr} {it : Addr} {acc : Value} {env : Env} (he : isDC e = true) (x : SelfIt s it)
    (h : codeAny (model prog w) A (.compLoop e 0 (.ref it) acc env) R s) : codeAny (model prog w) A (.compStart e 0 (.ref it) acc env) R s := by
  unfold isDC at he
  split at he
  · exact codeAny_compStart_dict h (x.wp h)
  · cases he
section
variable {w : World} {b1 b2 : Bool} {A : Around} {R : Result → Shared → Prop} {hB h : Heap} {gs : Array GenState} {dr : Drawn} {t0 : Nat} {os : OsState}
theorem dictOf_nil {a : Addr} {ep : Nat} (e : h.get? a = some (oD [] ep)) : h.DictOf (sK' w b1 b2) a [] :=
  ⟨_, #[], ep, e, ⟨rfl, rfl, rfl⟩, rfl, fun _ he => by simp at he, Pairs.nil, List.nodup_nil⟩
noncomputable abbrev rkIn (bl nl cd cx : Addr) (ρ : Row) (be : Nat) (ns : List Value) (en : Nat) (c0 : Value) (tq : Tok) (cr : List Value) (ocx : Obj) : List (Addr × Obj) := (bl, oList (refR ρ) be) :: (rwL ρ ++ [(nl, oList ns en), (130, tab1 cd cx), (cd, cdO c0 tq cr), (cx, ocx)])
theorem rooks_call {bl nl cd cx : Addr} {ρ : Row} {be s en : Nat} {nq : List Tok} {c0 : Value} {tq : Tok} {cr : List Value} {ocx : Obj} {Bd : Nat → Bool} {inc : Bool}
    (hs : s < 8) (hn : nq.length = 16) (hρ : RowsB Bd inc ρ) (hA : Okk A 550) (T : Tp (kP w b1 b2) h) (G : Giv (kP w b1 b2) h (rkIn bl nl cd cx ρ be (namesV s 0 nq) en c0 tq cr ocx))
    (k : ∀ h' t' tu rl tk (c : Nat → Nat) (tks : Nat → Tok) re, (∀ j, (c j : Int) = cntQ (lineQ (fun c => Bd (4 * 0 + c) == inc) (fun c => Bd (4 * 1 + c) == inc) (fun c => Bd (4 * 2 + c) == inc) (fun c => Bd (4 * 3 + c) == inc)) j) →
      Af h (rkIn bl nl cd cx ρ be (namesV s 0 nq) en c0 tq cr ocx) [(tu, oTup [.ref rl, .str ⟨#[]⟩ tk]), (rl, oList (cV c tks) re)] h' → R (.ok (.ret (.ref tu))) ⟨h', gs, dr, t', os⟩) :
    CA w b1 b2 A (.call (.ref 145) ⟨[.ref bl, .ref nl], []⟩) R ⟨h, gs, dr, t0, os⟩ := by
  revert b1
  refine @bothB _ ?_ ?_ <;> set_option tactic.hygienic false in intros
  all_goals (
  refine goC hA T G (by kernel_rfl) ?_; intro _ _ r
  obtain ⟨M, hM⟩ : ∃ M, h.objs.size = M := ⟨_, rfl⟩
  rw [hM] at r
  refine cutS 560 6 (n := 52) (hs := [0,0,2,2,1,1,0,0,1,1,1,1,1,1,1,1,1,1,1]) (c := (.compStart (eMasks (PP w b1 b2)) 0 (.ref (M + 3)) (.ref (M + 4)) (envC (eMasks (PP w b1 b2)) qRk (M + 5) [(sNames, M + 1)] (.ref 144) M))) (idx := [2,1,0,4,11]) (Lf := fun F => [((M + 3), ⟨(.type "range_iterator"), Option.none, (.fields #[(.int 0 0), (.int 16 0), (.int 1 0)]), #[]⟩), ((M + 4), oD [] 0), ((M + 5), oD [] 0), ((M + 1), ⟨(.type "cell"), Option.none, (.cell (Option.some (.ref nl))), #[]⟩), (nl, oList (namesV s 0 nq) en)]) r (by decide) (by kernel_rfl) ?_; intro h1 t1 r1 T1 G1 o1 z1
  refine comp_startD (by kernel_rfl) (.range ⟨_, G1.nw _ (.head _), rfl⟩) ?_
  refine masks_loop hs hn ⟨o1.hd, Nat.le_trans o1.dep (by decide)⟩ 16 0 [] [] 0 none h1 _ rfl (fun e => nomatch e) rfl (dictOf_nil (ep := 0) (G1.nw _ (.tail _ (.head _)))) T1 G1 ?_
  intro h2 t2 es ep2 ts oi ox hts hdm x2
  obtain ⟨M2, z2⟩ : ∃ M2, h2.objs.size = M2 := ⟨_, rfl⟩
  obtain ⟨u1, u2, u3⟩ := ox
  refine goS r1 _ [2,1,0,4,11] x2 z2 (by kernel_rfl) ?_; intro _ r2
  refine cutS 560 0 (n := 19) (hs := [6,6,1,1,1,0,0]) (c := (.call (.ref 135) ⟨[(.str ⟨#[]⟩ (t2 + 1))], []⟩)) (idx := [12,13,14]) (Lf := fun F => [(130, ⟨.none, Option.none, (.fields #[(.int 81 0), (.int 4 0), (.ref cd), (.int 85 0), (.int 13 0), (.ref cx)]), #[]⟩), (cd, ⟨(.type "code"), Option.none, (.fields (List.toArray (c0 :: ((.str ⟨#[95,108,97,119,95,108,101,120,101,114,46,60,108,111,99,97,108,115,62,46,95,108,97,119,95,114,101,97,100,95,111,110]⟩ tq) :: cr)))), #[]⟩), (cx, ocx)]) r2 (by decide) (by kernel_rfl) ?_; intro h3 t3 r3 T3 G3 o3 z3
  refine lex_new2 ⟨o3.hd, Nat.le_trans o3.dep (by decide)⟩ T3 G3 ?_
  intro h4 t4 x dx pb fs fd fr ct ca la o tp tl ho x4 z4
  obtain ⟨rfl, rfl, rfl⟩ := ho
  rw [z3] at z4
  refine goS r3 _ [12,13,14] x4 z4 (by kernel_rfl) ?_; intro _ r4
  refine cutS 560 0 (n := 35) (hs := [15,15,15,1,0,0,0,1,0,0,0,1,0,0,0,0,1,2,14,21,21,21]) (c := (.call (.builtin "list.__getitem__") ⟨[(.ref nl), (.int 0 (t4 + 1))], []⟩)) (idx := [20]) (Lf := fun F => [(nl, oList (namesV s 0 nq) en)]) r4 (by decide) (by kernel_rfl) ?_; intro h5 t5 r5 T5 G5 o5 z5
  obtain ⟨tm, hx⟩ := namesV_at (s := s) nq 0 0 (by omega)
  refine lf_getitem (i := 0) (G5.nw _ (.head _)) hx (by decide) z5 ?_
  intro h6 t6 x6 z6
  refine goS r5 _ [] x6 z6 (by kernel_rfl) ?_; intro _ r6
  refine cutS 560 2 (n := 77) (hs := [0,0,0,1,1,1,1,1,2,0,0,0,2,0,0,0,2,2,0,3,4,4,4,4,1,4,4,4,4,16,16,16,17,17,17,1]) (c := ((cFor (PP w b1 b2) (sRowS (PP w b1 b2)) (M2 + 13) M (M + 1)))) (idx := [0,16,12,17,18,19,20,21,15,22,2,3,4]) (Lf := fun F => (bigL (M2 + 13) M (M + 4) bl (M + 1) nl x dx pb fs o tl (oLit bl 0) (oFr (rkE4 ⟨hOf F 16 0, kOf F 16 0, hOf F 16 1, kOf F 16 1, hOf F 16 2, kOf F 16 2, hOf F 16 3, kOf F 16 3, 0, 0, 0, 0, 0, 0, 0, 0, 0, 0⟩ bl (M + 4) x (.int 1 (tokE F 16 3))) 4) es ep2 ρ be (namesV s 0 nq) en (wV s [(0, tm)]) 1)) r6 (by decide) (by kernel_rfl) ?_; intro h7 t7 r7 T7 G7 o7 z7
  obtain ⟨on, tw, G7⟩ : ∃ (on : RkN) (tw : Tok), Giv (kP w b1 b2) h7 (bigL (M2 + 13) M (M + 4) bl (M + 1) nl x dx pb fs o tl (oLit bl 0) (oFr (rkE4 on bl (M + 4) x (.int 1 tw)) 4) es ep2 ρ be (namesV s 0 nq) en (wV s [(0, tm)]) 1) := ⟨_, _, G7⟩
  have hdm7 := dictOf_obj hdm (x2.a.nw _ (.tail _ (.head _))) (G7.nw _ (.tail _ (.tail _ (.head _))))
  refine rook_rows hρ hn (fun m hm => masks_val hs hts hm) hdm7 ⟨o7.hd, Nat.le_trans o7.dep (by decide)⟩ T7 G7 ?_
  intro h8 t8 oN oi8 tw8 vr8 vc8 vt8 vd8 vh8 xc8 ws8 ep8 e8 hl1 hl2 hlt x8
  obtain ⟨M3, z8⟩ : ∃ M3, h8.objs.size = M3 := ⟨_, rfl⟩
  obtain ⟨wl, hwl⟩ : ∃ wl, ws8.length = wl + 1 := ⟨ws8.length - 1, by omega⟩
  rw [hwl] at x8
  refine goS r7 _ [0,16,12,17,18,19,20,21,15,22,2,3,4] x8 z8 (by kernel_rfl) ?_; intro _ r8
  obtain _ | ⟨v1, v2, v3⟩ := xc8
  · refine cutS 560 2 (n := 44) (hs := [18,18,0,0,18,1,1,1,1,1,1]) (c := (.call (.builtin "range.__iter__") ⟨[(.ref (M3 + 1))], []⟩)) (idx := [0]) (Lf := fun F => [((M3 + 1), ⟨(.type "range"), Option.none, (.fields #[(.int 0 (t8 + 6)), (.int ((wl + 1) : Int) tw8), (.int 1 (t8 + 7))]), #[]⟩)]) r8 (by decide) (by kernel_rfl) ?_; intro h9 t9 r9 T9 G9 o9 z9
    refine lf_riter (n := wl + 1) (G9.nw _ (.head _)) (by omega) z9 ?_
    intro h10 t10 x10 z10
    refine goS r9 _ [] x10 z10 (by kernel_rfl) ?_; intro _ r10
    refine cutS 560 0 (n := 1) (hs := [1]) (c := ((cFor (PP w b1 b2) (sCntS (PP w b1 b2)) (M3 + 2) M (M + 1)))) (idx := [0,19,2,5,6,7]) (Lf := fun F => (cnL (M3 + 2) M M3 0 (wl + 1) (rkG oN bl (M + 4) x (.int ((wl + 1 : Nat) : Int) tw8) vr8 vc8 vt8 vd8 vh8 (hOf F 19 9) (kOf F 19 9) M3 none) (cV (fun _ => 0) (atNo 0 [t8, t8 + 1, t8 + 2, t8 + 3, t8 + 4])) 0 ++ lx3 x dx pb fs o tl (wV s ws8) ep8)) r10 (by decide) (by kernel_rfl) ?_; intro h11 t11 r11 T11 G11 o11 z11
    obtain ⟨hr, kr, G11⟩ : ∃ (hr : Int) (kr : Tok), Giv (kP w b1 b2) h11 (cnL (M3 + 2) M M3 0 (wl + 1) (rkG oN bl (M + 4) x (.int ((wl + 1 : Nat) : Int) tw8) vr8 vc8 vt8 vd8 vh8 hr kr M3 none) (cV (fun _ => 0) (atNo 0 [t8, t8 + 1, t8 + 2, t8 + 3, t8 + 4])) 0 ++ lx3 x dx pb fs o tl (wV s ws8) ep8) := ⟨_, _, G11⟩
    refine count_loop hs ⟨o11.hd, Nat.le_trans o11.dep (by decide)⟩ (wl + 1) 0 ws8 (fun _ => 0) _ vt8 vd8 0 ep8 h11 _ hwl (by omega) hlt T11 G11 ?_
    intro h12 t12 oi12 vt12 vd12 tk12 re12 ep12 x12
    obtain ⟨M4, z12⟩ : ∃ M4, h12.objs.size = M4 := ⟨_, rfl⟩
    refine goS r11 _ [0,19,2,5,6,7] x12 z12 (by kernel_rfl) ?_; intro _ r12
    refine cutS 560 0 (n := 25) (hs := [20,20,6,0,0,0,6,0,0,0,6,0,0,0,0,6,7,0]) (c := ((.call (.ref 97) ⟨[.ref x], []⟩))) (idx := [5,6,7,8,9,10,27,11,12,13]) (Lf := fun F => (lexL (PP w b1 b2) x dx pb fs fd fr cd ct ca la o ⟨#[]⟩ 0 1 tp tl [] ep12)) r12 (by decide) (by kernel_rfl) ?_; intro h13 t13 r13 T13 G13 o13 z13
    refine tok_none ⟨o13.hd, Nat.le_trans o13.dep (by decide)⟩ T13 G13 ?_
    intro h14 t14 tok tp14 x14
    obtain ⟨M5, z14⟩ : ∃ M5, h14.objs.size = M5 := ⟨_, rfl⟩
    refine goS r13 _ [5,6,7,8,9,10,27,11,12,13] x14 z14 (by kernel_rfl) ?_; intro _ r14
    refine endS 1 (n := 2) (hs := []) (fl := (.ret (.ref M5))) (q := 21) (idx := [21,22,23,24,25,26,27,28,29]) (idn := [0,3]) (Lf := fun F => (rkIn bl nl cd cx ρ be (namesV s 0 nq) en o.c0 o.tq o.cr ocx)) (Nf := fun F => ([(M5, oTup [.ref M3, .str ⟨#[]⟩ tok]), (M3, oList (cV (cntF ws8 (fun _ => 0)) tk12) re12)])) r14 (by decide) (by kernel_rfl) ?_; intro h15 t15 x15 z15
    refine k h15 t15 _ _ _ _ _ _ ?_ x15
    intro j
    rw [cntF_eq, e8, Nat.zero_add]
    rfl
  · refine cutS 560 2 (n := 44) (hs := [18,18,0,0,18,1,1,1,1,1,1]) (c := (.call (.builtin "range.__iter__") ⟨[(.ref (M3 + 1))], []⟩)) (idx := [0]) (Lf := fun F => [((M3 + 1), ⟨(.type "range"), Option.none, (.fields #[(.int 0 (t8 + 6)), (.int ((wl + 1) : Int) tw8), (.int 1 (t8 + 7))]), #[]⟩)]) r8 (by decide) (by kernel_rfl) ?_; intro h9 t9 r9 T9 G9 o9 z9
    refine lf_riter (n := wl + 1) (G9.nw _ (.head _)) (by omega) z9 ?_
    intro h10 t10 x10 z10
    refine goS r9 _ [] x10 z10 (by kernel_rfl) ?_; intro _ r10
    refine cutS 560 0 (n := 1) (hs := [1]) (c := ((cFor (PP w b1 b2) (sCntS (PP w b1 b2)) (M3 + 2) M (M + 1)))) (idx := [0,19,2,5,6,7]) (Lf := fun F => (cnL (M3 + 2) M M3 0 (wl + 1) (rkG oN bl (M + 4) x (.int ((wl + 1 : Nat) : Int) tw8) vr8 vc8 vt8 vd8 vh8 (hOf F 19 10) (kOf F 19 10) M3 (some (v1, v2, v3))) (cV (fun _ => 0) (atNo 0 [t8, t8 + 1, t8 + 2, t8 + 3, t8 + 4])) 0 ++ lx3 x dx pb fs o tl (wV s ws8) ep8)) r10 (by decide) (by kernel_rfl) ?_; intro h11 t11 r11 T11 G11 o11 z11
    obtain ⟨hr, kr, G11⟩ : ∃ (hr : Int) (kr : Tok), Giv (kP w b1 b2) h11 (cnL (M3 + 2) M M3 0 (wl + 1) (rkG oN bl (M + 4) x (.int ((wl + 1 : Nat) : Int) tw8) vr8 vc8 vt8 vd8 vh8 hr kr M3 (some (v1, v2, v3))) (cV (fun _ => 0) (atNo 0 [t8, t8 + 1, t8 + 2, t8 + 3, t8 + 4])) 0 ++ lx3 x dx pb fs o tl (wV s ws8) ep8) := ⟨_, _, G11⟩
    refine count_loop hs ⟨o11.hd, Nat.le_trans o11.dep (by decide)⟩ (wl + 1) 0 ws8 (fun _ => 0) _ vt8 vd8 0 ep8 h11 _ hwl (by omega) hlt T11 G11 ?_
    intro h12 t12 oi12 vt12 vd12 tk12 re12 ep12 x12
    obtain ⟨M4, z12⟩ : ∃ M4, h12.objs.size = M4 := ⟨_, rfl⟩
    refine goS r11 _ [0,19,2,5,6,7] x12 z12 (by kernel_rfl) ?_; intro _ r12
    refine cutS 560 0 (n := 25) (hs := [20,20,6,0,0,0,6,0,0,0,6,0,0,0,0,6,7,0]) (c := ((.call (.ref 97) ⟨[.ref x], []⟩))) (idx := [5,6,7,8,9,10,27,11,12,13]) (Lf := fun F => (lexL (PP w b1 b2) x dx pb fs fd fr cd ct ca la o ⟨#[]⟩ 0 1 tp tl [] ep12)) r12 (by decide) (by kernel_rfl) ?_; intro h13 t13 r13 T13 G13 o13 z13
    refine tok_none ⟨o13.hd, Nat.le_trans o13.dep (by decide)⟩ T13 G13 ?_
    intro h14 t14 tok tp14 x14
    obtain ⟨M5, z14⟩ : ∃ M5, h14.objs.size = M5 := ⟨_, rfl⟩
    refine goS r13 _ [5,6,7,8,9,10,27,11,12,13] x14 z14 (by kernel_rfl) ?_; intro _ r14
    refine endS 1 (n := 2) (hs := []) (fl := (.ret (.ref M5))) (q := 21) (idx := [21,22,23,24,25,26,27,28,29]) (idn := [0,3]) (Lf := fun F => (rkIn bl nl cd cx ρ be (namesV s 0 nq) en o.c0 o.tq o.cr ocx)) (Nf := fun F => ([(M5, oTup [.ref M3, .str ⟨#[]⟩ tok]), (M3, oList (cV (cntF ws8 (fun _ => 0)) tk12) re12)])) r14 (by decide) (by kernel_rfl) ?_; intro h15 t15 x15 z15
    refine k h15 t15 _ _ _ _ _ _ ?_ x15
    intro j
    rw [cntF_eq, e8, Nat.zero_add]
    rfl)
end
end Mine
end
section
open PySem PySem.W PyProof.Rows PySem.W.X
namespace Mine
theorem tup_mem {f : Nat → Addr × Tok} {s : Nat} : ∀ i, i < 16 → ((f i).1, oTup [.str (nm s i) (f i).2, .str (nm s i) (f i).2]) ∈ tupL s 0 (fl f)
  | 0, _ => .head _
  | 1, _ => .tail _ (.head _)
  | 2, _ => .tail _ (.tail _ (.head _))
  | 3, _ => .tail _ (.tail _ (.tail _ (.head _)))
  | 4, _ => .tail _ (.tail _ (.tail _ (.tail _ (.head _))))
  | 5, _ => .tail _ (.tail _ (.tail _ (.tail _ (.tail _ (.head _)))))
  | 6, _ => .tail _ (.tail _ (.tail _ (.tail _ (.tail _ (.tail _ (.head _))))))
  | 7, _ => .tail _ (.tail _ (.tail _ (.tail _ (.tail _ (.tail _ (.tail _ (.head _)))))))
  | 8, _ => .tail _ (.tail _ (.tail _ (.tail _ (.tail _ (.tail _ (.tail _ (.tail _ (.head _))))))))
  | 9, _ => .tail _ (.tail _ (.tail _ (.tail _ (.tail _ (.tail _ (.tail _ (.tail _ (.tail _ (.head _)))))))))
  | 10, _ => .tail _ (.tail _ (.tail _ (.tail _ (.tail _ (.tail _ (.tail _ (.tail _ (.tail _ (.tail _ (.head _))))))))))
  | 11, _ => .tail _ (.tail _ (.tail _ (.tail _ (.tail _ (.tail _ (.tail _ (.tail _ (.tail _ (.tail _ (.tail _ (.head _)))))))))))
  | 12, _ => .tail _ (.tail _ (.tail _ (.tail _ (.tail _ (.tail _ (.tail _ (.tail _ (.tail _ (.tail _ (.tail _ (.tail _ (.head _))))))))))))
  | 13, _ => .tail _ (.tail _ (.tail _ (.tail _ (.tail _ (.tail _ (.tail _ (.tail _ (.tail _ (.tail _ (.tail _ (.tail _ (.tail _ (.head _)))))))))))))
  | 14, _ => .tail _ (.tail _ (.tail _ (.tail _ (.tail _ (.tail _ (.tail _ (.tail _ (.tail _ (.tail _ (.tail _ (.tail _ (.tail _ (.tail _ (.head _))))))))))))))
  | 15, _ => .tail _ (.tail _ (.tail _ (.tail _ (.tail _ (.tail _ (.tail _ (.tail _ (.tail _ (.tail _ (.tail _ (.tail _ (.tail _ (.tail _ (.tail _ (.head _)))))))))))))))
  | n + 16, h => by omega
theorem namesV_app (s : Nat) (t : Tok) : ∀ (q : List Tok) (i : Nat), namesV s i q ++ [.str (nm s (i + q.length)) t] = namesV s i (q ++ [t])
  | [], i => rfl
  | a :: q, i => by
    have := namesV_app s t q (i + 1)
    rw [show i + 1 + q.length = i + (a :: q).length by rw [List.length_cons]; omega] at this
    show _ :: (namesV s (i + 1) q ++ _) = _ :: namesV s (i + 1) (q ++ [t])
    rw [this]
section
variable {w : World} {b1 b2 : Bool} {A : Around} {R : Result → Shared → Prop} {hB h : Heap} {gs : Array GenState} {dr : Drawn} {t0 : Nat} {os : OsState}
noncomputable abbrev pnA (it acc loc pl : Addr) (oi : Obj) (zs : List Value) (ep : Nat) (ox : Option (Int × Tok × Value)) (f : Nat → Addr × Tok) (epl : Nat) : List (Addr × Obj) := [(it, oi), (acc, oList zs ep), (loc, oX sPair ox), (pl, oList (refsOf (fl f)) epl)]
noncomputable abbrev ePn13 (P : Params) : Expr := lawE P 13 [2]
noncomputable abbrev cPn13 (P : Params) (it acc loc : Addr) : Code := cComp P (ePn13 P) it acc loc [] 159
theorem pn13_turn {it acc loc pl a : Addr} {i : Nat} {zs : List Value} {ep epl : Nat} {ox : Option (Int × Tok × Value)} {f : Nat → Addr × Tok} {S : Str} {tS : Tok} (hx : (refsOf (fl f))[i]? = some (.ref a)) (hz : zs.length ≤ 1000) (hA : Okk A 450) (T : Tp (kP w b1 b2) h)
    (G : Giv (kP w b1 b2) h (pnA it acc loc pl (oLit pl i) zs ep ox f epl ++ (a, oTup [.str S tS, .str S tS]) :: []))
    (k : ∀ h' t' ox', Af h (pnA it acc loc pl (oLit pl (i + 1)) (zs ++ [.str S tS]) (ep + 1) (some ox') f epl ++ (a, oTup [.str S tS, .str S tS]) :: []) [] h' → Tp (kP w b1 b2) h' → CA w b1 b2 A (cPn13 (PP w b1 b2) it acc loc) R ⟨h', gs, dr, t', os⟩) :
    CA w b1 b2 A (cPn13 (PP w b1 b2) it acc loc) R ⟨h, gs, dr, t0, os⟩ := by
  revert b1
  refine @bothB _ ?_ ?_ <;> set_option tactic.hygienic false in intros
  all_goals (
  refine goC hA T G (by kernel_rfl) ?_; intro _ _ r
  refine cutS 550 0 (n := 2) (hs := [1]) (c := (.call (.builtin "list_iterator.__next__") ⟨[(.ref it)], []⟩)) (idx := [0,3]) (Lf := fun F => [(it, oLit pl i), (pl, oList [(.ref ((f 0).1)), (.ref ((f 1).1)), (.ref ((f 2).1)), (.ref ((f 3).1)), (.ref ((f 4).1)), (.ref ((f 5).1)), (.ref ((f 6).1)), (.ref ((f 7).1)), (.ref ((f 8).1)), (.ref ((f 9).1)), (.ref ((f 10).1)), (.ref ((f 11).1)), (.ref ((f 12).1)), (.ref ((f 13).1)), (.ref ((f 14).1)), (.ref ((f 15).1))] epl)]) r (by decide) (by kernel_rfl) ?_; intro h1 t1 r1 T1 G1 o1 z1
  refine lf_next (G1.nw _ (.head _)) (G1.nw _ (.tail _ (.head _))) hx z1 ?_
  intro h2 x2 z2
  refine goS r1 _ [0] x2 z2 (by kernel_rfl) ?_; intro _ r2
  obtain _ | ⟨u1, u2, u3⟩ := ox
  · refine cutS 550 0 (n := 19) (hs := [3,3,3,5,5,5,5,5]) (c := (.call (.builtin "list.append") ⟨[(.ref acc), (.str S tS)], []⟩)) (idx := [1]) (Lf := fun F => [(acc, oList zs ep)]) r2 (by decide) (by kernel_rfl) ?_; intro h3 t3 r3 T3 G3 o3 z3
    refine lf_append (G3.nw _ (.head _)) hz z3 ?_
    intro h4 x4 z4
    refine goS r3 _ [1] x4 z4 (by kernel_rfl) ?_; intro _ r4
    refine agS 0 (n := 0) (hs := []) (c := (cPn13 (PP w b1 b2) it acc loc)) (q := 0) (idx := [0,1,2,3,4]) (idn := []) (Lf := fun F => (pnA it acc loc pl (oLit pl (i + 1)) (zs ++ [.str S tS]) (ep + 1) (some (hOf F 2 0, kOf F 2 0, .ref a)) f epl ++ (a, oTup [.str S tS, .str S tS]) :: [])) (Nf := fun F => ([])) r4 (by decide) (by kernel_rfl) ?_; intro h5 t5 x5 z5 T5 G5
    exact k h5 t5 (_, _, _) x5 T5
  · refine cutS 550 0 (n := 19) (hs := [3,3,3,5,5,5,5,5]) (c := (.call (.builtin "list.append") ⟨[(.ref acc), (.str S tS)], []⟩)) (idx := [1]) (Lf := fun F => [(acc, oList zs ep)]) r2 (by decide) (by kernel_rfl) ?_; intro h3 t3 r3 T3 G3 o3 z3
    refine lf_append (G3.nw _ (.head _)) hz z3 ?_
    intro h4 x4 z4
    refine goS r3 _ [1] x4 z4 (by kernel_rfl) ?_; intro _ r4
    refine agS 0 (n := 0) (hs := []) (c := (cPn13 (PP w b1 b2) it acc loc)) (q := 0) (idx := [0,1,2,3,4]) (idn := []) (Lf := fun F => (pnA it acc loc pl (oLit pl (i + 1)) (zs ++ [.str S tS]) (ep + 1) (some (u1, u2, .ref a)) f epl ++ (a, oTup [.str S tS, .str S tS]) :: [])) (Nf := fun F => ([])) r4 (by decide) (by kernel_rfl) ?_; intro h5 t5 x5 z5 T5 G5
    exact k h5 t5 (_, _, _) x5 T5)
theorem pn13_loop {it acc loc pl : Addr} {s epl : Nat} {f : Nat → Addr × Tok} (hA : Okk A 450) :
    ∀ (n i : Nat) (q : List Tok) (ep : Nat) (ox : Option (Int × Tok × Value)) (h : Heap) (t0 : Nat), i + n = 16 → (n = 0 → ∃ p, ox = some p) → q.length = i → Tp (kP w b1 b2) h → Giv (kP w b1 b2) h (pnA it acc loc pl (oLit pl i) (namesV s 0 q) ep ox f epl ++ tupL s 0 (fl f) ++ []) →
    (∀ h' t' q' ep' oi ox', q'.length = 16 → Af h (pnA it acc loc pl oi (namesV s 0 q') ep' (some ox') f epl ++ tupL s 0 (fl f) ++ []) [] h' → R (.ok .next) ⟨h', gs, dr, t', os⟩) →
    CA w b1 b2 A (cPn13 (PP w b1 b2) it acc loc) R ⟨h, gs, dr, t0, os⟩ := by
  intro n
  induction n with
  | zero =>
    intro i q ep ox h t0 hin hp hq T G kk
    revert b1
    refine @bothB _ ?_ ?_ <;> set_option tactic.hygienic false in intros
    all_goals (
    refine goC hA T G (by kernel_rfl) ?_; intro _ _ r
    obtain ⟨⟨u1, u2, u3⟩, rfl⟩ := hp rfl
    refine cutS 550 0 (n := 2) (hs := [1]) (c := (.call (.builtin "list_iterator.__next__") ⟨[(.ref it)], []⟩)) (idx := [0,3]) (Lf := fun F => [(it, oLit pl i), (pl, oList [(.ref ((f 0).1)), (.ref ((f 1).1)), (.ref ((f 2).1)), (.ref ((f 3).1)), (.ref ((f 4).1)), (.ref ((f 5).1)), (.ref ((f 6).1)), (.ref ((f 7).1)), (.ref ((f 8).1)), (.ref ((f 9).1)), (.ref ((f 10).1)), (.ref ((f 11).1)), (.ref ((f 12).1)), (.ref ((f 13).1)), (.ref ((f 14).1)), (.ref ((f 15).1))] epl)]) r (by decide) (by kernel_rfl) ?_; intro h1 t1 r1 T1 G1 o1 z1
    refine lf_next_end o1.hd (G1.nw _ (.head _)) (G1.nw _ (.tail _ (.head _))) (List.getElem?_eq_none (by show 16 ≤ i; omega)) z1 ?_
    intro h2 x2 z2
    refine goS r1 _ [0] x2 z2 (by kernel_rfl) ?_; intro _ r2
    refine endS 0 (n := 1) (hs := [1]) (fl := (.next)) (q := 2) (idx := [2,3,4,5,6,7,8,9,10,11,12,13,14,15,16,17,18,19,20,21]) (idn := []) (Lf := fun F => (pnA it acc loc pl (oLitX i) (namesV s 0 q) ep (some (u1, u2, u3)) f epl ++ tupL s 0 (fl f) ++ [])) (Nf := fun F => ([])) r2 (by decide) (by kernel_rfl) ?_; intro h3 t3 x3 z3
    exact kk h3 t3 q ep _ (u1, u2, u3) (by omega) x3)
  | succ n ih =>
    intro i q ep ox h t0 hin hp hq T G kk
    have hi : i < 16 := by omega
    have hT : ((f i).1, oTup [.str (nm s i) (f i).2, .str (nm s i) (f i).2]) ∈ tupL s 0 (fl f) := tup_mem i hi
    obtain ⟨R1, R2, eR⟩ := List.append_of_mem hT
    rw [eR] at G
    refine pn13_turn (refs_at i hi) (by rw [namesV_len]; omega) hA T (Giv.row (A := pnA it acc loc pl (oLit pl i) (namesV s 0 q) ep ox f epl) (R1 := R1) (R2 := R2) (B := []) G) fun h1 t1 ox1 x1 T1 => ?_
    have y1 := Af.row (A' := pnA it acc loc pl (oLit pl (i + 1)) (namesV s 0 q ++ [.str (nm s i) (f i).2]) (ep + 1) (some ox1) f epl) (A := pnA it acc loc pl (oLit pl i) (namesV s 0 q) ep ox f epl) (B' := []) (B := []) x1 G rfl rfl
    have g1 := G.af y1 (by simp only [List.map_append]; rfl)
    have e : namesV s 0 q ++ [.str (nm s i) (f i).2] = namesV s 0 (q ++ [(f i).2]) := by
      have := namesV_app s (f i).2 q 0
      rw [Nat.zero_add, hq] at this
      exact this
    rw [← eR, e] at y1 g1
    refine ih (i + 1) _ _ _ h1 t1 (by omega) (fun _ => ⟨_, rfl⟩) (by rw [List.length_append, List.length_singleton]; omega) T1 g1 fun h2 t2 q2 ep2 oi ox2 h16 x2 => ?_
    exact kk h2 t2 q2 ep2 oi ox2 h16 (y1.trans x2 rfl)
noncomputable abbrev ePn14 (P : Params) : Expr := lawE P 14 [2]
noncomputable abbrev cPn14 (P : Params) (it acc loc : Addr) : Code := cComp P (ePn14 P) it acc loc [] 159
theorem pn14_turn {it acc loc pl a : Addr} {i : Nat} {zs : List Value} {ep epl : Nat} {ox : Option (Int × Tok × Value)} {f : Nat → Addr × Tok} {S : Str} {tS : Tok} (hx : (refsOf (fl f))[i]? = some (.ref a)) (hz : zs.length ≤ 1000) (hA : Okk A 450) (T : Tp (kP w b1 b2) h)
    (G : Giv (kP w b1 b2) h (pnA it acc loc pl (oLit pl i) zs ep ox f epl ++ (a, oTup [.str S tS, .str S tS]) :: []))
    (k : ∀ h' t' ox', Af h (pnA it acc loc pl (oLit pl (i + 1)) (zs ++ [.str S tS]) (ep + 1) (some ox') f epl ++ (a, oTup [.str S tS, .str S tS]) :: []) [] h' → Tp (kP w b1 b2) h' → CA w b1 b2 A (cPn14 (PP w b1 b2) it acc loc) R ⟨h', gs, dr, t', os⟩) :
    CA w b1 b2 A (cPn14 (PP w b1 b2) it acc loc) R ⟨h, gs, dr, t0, os⟩ := by
  revert b1
  refine @bothB _ ?_ ?_ <;> set_option tactic.hygienic false in intros
  all_goals (
  refine goC hA T G (by kernel_rfl) ?_; intro _ _ r
  refine cutS 550 0 (n := 2) (hs := [1]) (c := (.call (.builtin "list_iterator.__next__") ⟨[(.ref it)], []⟩)) (idx := [0,3]) (Lf := fun F => [(it, oLit pl i), (pl, oList [(.ref ((f 0).1)), (.ref ((f 1).1)), (.ref ((f 2).1)), (.ref ((f 3).1)), (.ref ((f 4).1)), (.ref ((f 5).1)), (.ref ((f 6).1)), (.ref ((f 7).1)), (.ref ((f 8).1)), (.ref ((f 9).1)), (.ref ((f 10).1)), (.ref ((f 11).1)), (.ref ((f 12).1)), (.ref ((f 13).1)), (.ref ((f 14).1)), (.ref ((f 15).1))] epl)]) r (by decide) (by kernel_rfl) ?_; intro h1 t1 r1 T1 G1 o1 z1
  refine lf_next (G1.nw _ (.head _)) (G1.nw _ (.tail _ (.head _))) hx z1 ?_
  intro h2 x2 z2
  refine goS r1 _ [0] x2 z2 (by kernel_rfl) ?_; intro _ r2
  obtain _ | ⟨u1, u2, u3⟩ := ox
  · refine cutS 550 0 (n := 19) (hs := [3,3,3,5,5,5,5,5]) (c := (.call (.builtin "list.append") ⟨[(.ref acc), (.str S tS)], []⟩)) (idx := [1]) (Lf := fun F => [(acc, oList zs ep)]) r2 (by decide) (by kernel_rfl) ?_; intro h3 t3 r3 T3 G3 o3 z3
    refine lf_append (G3.nw _ (.head _)) hz z3 ?_
    intro h4 x4 z4
    refine goS r3 _ [1] x4 z4 (by kernel_rfl) ?_; intro _ r4
    refine agS 0 (n := 0) (hs := []) (c := (cPn14 (PP w b1 b2) it acc loc)) (q := 0) (idx := [0,1,2,3,4]) (idn := []) (Lf := fun F => (pnA it acc loc pl (oLit pl (i + 1)) (zs ++ [.str S tS]) (ep + 1) (some (hOf F 2 0, kOf F 2 0, .ref a)) f epl ++ (a, oTup [.str S tS, .str S tS]) :: [])) (Nf := fun F => ([])) r4 (by decide) (by kernel_rfl) ?_; intro h5 t5 x5 z5 T5 G5
    exact k h5 t5 (_, _, _) x5 T5
  · refine cutS 550 0 (n := 19) (hs := [3,3,3,5,5,5,5,5]) (c := (.call (.builtin "list.append") ⟨[(.ref acc), (.str S tS)], []⟩)) (idx := [1]) (Lf := fun F => [(acc, oList zs ep)]) r2 (by decide) (by kernel_rfl) ?_; intro h3 t3 r3 T3 G3 o3 z3
    refine lf_append (G3.nw _ (.head _)) hz z3 ?_
    intro h4 x4 z4
    refine goS r3 _ [1] x4 z4 (by kernel_rfl) ?_; intro _ r4
    refine agS 0 (n := 0) (hs := []) (c := (cPn14 (PP w b1 b2) it acc loc)) (q := 0) (idx := [0,1,2,3,4]) (idn := []) (Lf := fun F => (pnA it acc loc pl (oLit pl (i + 1)) (zs ++ [.str S tS]) (ep + 1) (some (u1, u2, .ref a)) f epl ++ (a, oTup [.str S tS, .str S tS]) :: [])) (Nf := fun F => ([])) r4 (by decide) (by kernel_rfl) ?_; intro h5 t5 x5 z5 T5 G5
    exact k h5 t5 (_, _, _) x5 T5)
theorem pn14_loop {it acc loc pl : Addr} {s epl : Nat} {f : Nat → Addr × Tok} (hA : Okk A 450) :
    ∀ (n i : Nat) (q : List Tok) (ep : Nat) (ox : Option (Int × Tok × Value)) (h : Heap) (t0 : Nat), i + n = 16 → (n = 0 → ∃ p, ox = some p) → q.length = i → Tp (kP w b1 b2) h → Giv (kP w b1 b2) h (pnA it acc loc pl (oLit pl i) (namesV s 0 q) ep ox f epl ++ tupL s 0 (fl f) ++ []) →
    (∀ h' t' q' ep' oi ox', q'.length = 16 → Af h (pnA it acc loc pl oi (namesV s 0 q') ep' (some ox') f epl ++ tupL s 0 (fl f) ++ []) [] h' → R (.ok .next) ⟨h', gs, dr, t', os⟩) →
    CA w b1 b2 A (cPn14 (PP w b1 b2) it acc loc) R ⟨h, gs, dr, t0, os⟩ := by
  intro n
  induction n with
  | zero =>
    intro i q ep ox h t0 hin hp hq T G kk
    revert b1
    refine @bothB _ ?_ ?_ <;> set_option tactic.hygienic false in intros
    all_goals (
    refine goC hA T G (by kernel_rfl) ?_; intro _ _ r
    obtain ⟨⟨u1, u2, u3⟩, rfl⟩ := hp rfl
    refine cutS 550 0 (n := 2) (hs := [1]) (c := (.call (.builtin "list_iterator.__next__") ⟨[(.ref it)], []⟩)) (idx := [0,3]) (Lf := fun F => [(it, oLit pl i), (pl, oList [(.ref ((f 0).1)), (.ref ((f 1).1)), (.ref ((f 2).1)), (.ref ((f 3).1)), (.ref ((f 4).1)), (.ref ((f 5).1)), (.ref ((f 6).1)), (.ref ((f 7).1)), (.ref ((f 8).1)), (.ref ((f 9).1)), (.ref ((f 10).1)), (.ref ((f 11).1)), (.ref ((f 12).1)), (.ref ((f 13).1)), (.ref ((f 14).1)), (.ref ((f 15).1))] epl)]) r (by decide) (by kernel_rfl) ?_; intro h1 t1 r1 T1 G1 o1 z1
    refine lf_next_end o1.hd (G1.nw _ (.head _)) (G1.nw _ (.tail _ (.head _))) (List.getElem?_eq_none (by show 16 ≤ i; omega)) z1 ?_
    intro h2 x2 z2
    refine goS r1 _ [0] x2 z2 (by kernel_rfl) ?_; intro _ r2
    refine endS 0 (n := 1) (hs := [1]) (fl := (.next)) (q := 2) (idx := [2,3,4,5,6,7,8,9,10,11,12,13,14,15,16,17,18,19,20,21]) (idn := []) (Lf := fun F => (pnA it acc loc pl (oLitX i) (namesV s 0 q) ep (some (u1, u2, u3)) f epl ++ tupL s 0 (fl f) ++ [])) (Nf := fun F => ([])) r2 (by decide) (by kernel_rfl) ?_; intro h3 t3 x3 z3
    exact kk h3 t3 q ep _ (u1, u2, u3) (by omega) x3)
  | succ n ih =>
    intro i q ep ox h t0 hin hp hq T G kk
    have hi : i < 16 := by omega
    have hT : ((f i).1, oTup [.str (nm s i) (f i).2, .str (nm s i) (f i).2]) ∈ tupL s 0 (fl f) := tup_mem i hi
    obtain ⟨R1, R2, eR⟩ := List.append_of_mem hT
    rw [eR] at G
    refine pn14_turn (refs_at i hi) (by rw [namesV_len]; omega) hA T (Giv.row (A := pnA it acc loc pl (oLit pl i) (namesV s 0 q) ep ox f epl) (R1 := R1) (R2 := R2) (B := []) G) fun h1 t1 ox1 x1 T1 => ?_
    have y1 := Af.row (A' := pnA it acc loc pl (oLit pl (i + 1)) (namesV s 0 q ++ [.str (nm s i) (f i).2]) (ep + 1) (some ox1) f epl) (A := pnA it acc loc pl (oLit pl i) (namesV s 0 q) ep ox f epl) (B' := []) (B := []) x1 G rfl rfl
    have g1 := G.af y1 (by simp only [List.map_append]; rfl)
    have e : namesV s 0 q ++ [.str (nm s i) (f i).2] = namesV s 0 (q ++ [(f i).2]) := by
      have := namesV_app s (f i).2 q 0
      rw [Nat.zero_add, hq] at this
      exact this
    rw [← eR, e] at y1 g1
    refine ih (i + 1) _ _ _ h1 t1 (by omega) (fun _ => ⟨_, rfl⟩) (by rw [List.length_append, List.length_singleton]; omega) T1 g1 fun h2 t2 q2 ep2 oi ox2 h16 x2 => ?_
    exact kk h2 t2 q2 ep2 oi ox2 h16 (y1.trans x2 rfl)
end
end Mine
end
section
open PySem PySem.W PyProof.Rows PySem.W.X
namespace Mine
section
variable {w : World} {b1 b2 : Bool} {A : Around} {R : Result → Shared → Prop} {hB h : Heap} {gs : Array GenState} {dr : Drawn} {t0 N : Nat} {os : OsState}
noncomputable abbrev es6 (hd hc : Int) (kd kc : Tok) (D C : Value) (hp : Int) (kp : Tok) (pl : Addr) (hn : Int) (kn : Tok) (nl : Addr) (hb : Int) (kb : Tok) (bl : Addr) (hr : Int) (kr : Tok) (rl : Addr) : List DictEntry := es4 hd hc kd kc D C hp kp pl hn kn nl ++ [⟨hb, .str sBoard kb, .ref bl⟩] ++ [⟨hr, .str sRest kr, .ref rl⟩]
noncomputable abbrev brL (rl : Addr) (σ : Row) (epr : Nat) (bl : Addr) (ρ : Row) (epb : Nat) (pl : Addr) (f : Nat → Addr × Tok) (epl s : Nat) (td : Addr) (otd : Obj) (cd cx : Addr) (c0 : Value) (tq : Tok) (cr : List Value) (ocx : Obj) (T : List (Addr × Obj)) : List (Addr × Obj) :=
  (rl, oList (refR σ) epr) :: (rwL σ ++ (bl, oList (refR ρ) epb) :: (rwL ρ ++ (pl, oList (refsOf (fl f)) epl) :: (tupL s 0 (fl f) ++ (td, otd) :: (cd, cdO c0 tq cr) :: (cx, ocx) :: T)))
theorem st13 {cE cD cS cT cRd ocx otd : Obj} {s : Nat} {xs : List Value} {ep : Nat} {td cd cx pl nl bl rl : Addr} {f : Nat → Addr × Tok} {epl epb epr : Nat} {Bd : Nat → Bool} {ρ σ : Row} {D C : Value} {hd hc hp hn hb hr : Int} {kd kc kp kn kb kr : Tok} {c0 : Value} {tq : Tok} {cr : List Value} (hs : s < 8) (hρ : RowsB Bd true ρ)
    (r : OkL w b1 b2 A R hB 13 (brL rl σ epr bl ρ epb pl f epl s td otd cd cx c0 tq cr ocx (lawL (tab1 cd cx) (es6 hd hc kd kc D C hp kp pl hn kn nl hb kb bl hr kr rl) 6 oCell0 oCell0 cT cRd cS cE cD xs ep)) h N t0)
    (k : ∀ h' N' t' rk (c : Nat → Nat) (tks : Nat → Tok) re hl kl tk, (∀ j, (c j : Int) = cntQ (lineQ (fun c => Bd (4 * 0 + c) == true) (fun c => Bd (4 * 1 + c) == true) (fun c => Bd (4 * 2 + c) == true) (fun c => Bd (4 * 3 + c) == true)) j) → OkL w b1 b2 A R hB 14 ((rk, oList (cV c tks) re) :: brL rl σ epr bl ρ epb pl f epl s td otd cd cx c0 tq cr ocx (lawL (tab1 cd cx) (es6 hd hc kd kc D C hp kp pl hn kn nl hb kb bl hr kr rl ++ [⟨hl, .str sLast kl, .str ⟨#[]⟩ tk⟩]) 7 oCell0 (oCell (.ref rk)) cT cRd cS cE cD xs ep)) h' N' t' → GoL w b1 b2 A R 14 ((rk, oList (cV c tks) re) :: brL rl σ epr bl ρ epb pl f epl s td otd cd cx c0 tq cr ocx (lawL (tab1 cd cx) (es6 hd hc kd kc D C hp kp pl hn kn nl hb kb bl hr kr rl ++ [⟨hl, .str sLast kl, .str ⟨#[]⟩ tk⟩]) 7 oCell0 (oCell (.ref rk)) cT cRd cS cE cD xs ep)) ⟨h', gs, dr, t', os⟩) :
    GoL w b1 b2 A R 13 (brL rl σ epr bl ρ epb pl f epl s td otd cd cx c0 tq cr ocx (lawL (tab1 cd cx) (es6 hd hc kd kc D C hp kp pl hn kn nl hb kb bl hr kr rl) 6 oCell0 oCell0 cT cRd cS cE cD xs ep)) ⟨h, gs, dr, t0, os⟩ := by
  revert b1
  refine @bothB _ ?_ ?_ <;> set_option tactic.hygienic false in intros
  all_goals (
  refine cutS 450 3 (n := 19) (hs := [0,31,31,11,11,11,1]) (c := (.compStart (ePn13 (PP w b1 b2)) 0 (.ref N) (.ref (N + 1)) (envL (PP w b1 b2) (ePn13 (PP w b1 b2)) (N + 2) ([]) (159)))) (idx := [2,1,0,13,14,15,16,17,18,19,20,21,22,23,24,25,26,27,28,29]) (Lf := fun F => [(N, oLit pl 0), ((N + 1), oList [] 0), ((N + 2), oD [] 0), (pl, oList [(.ref ((f 0).1)), (.ref ((f 1).1)), (.ref ((f 2).1)), (.ref ((f 3).1)), (.ref ((f 4).1)), (.ref ((f 5).1)), (.ref ((f 6).1)), (.ref ((f 7).1)), (.ref ((f 8).1)), (.ref ((f 9).1)), (.ref ((f 10).1)), (.ref ((f 11).1)), (.ref ((f 12).1)), (.ref ((f 13).1)), (.ref ((f 14).1)), (.ref ((f 15).1))] epl), (((f 0).1), oTup [(.str ⟨#[48,120,48]⟩ ((f 0).2)), (.str ⟨#[48,120,48]⟩ ((f 0).2))]), (((f 1).1), oTup [(.str ⟨(((nmF 4 s (0 + 1)).headD Str.empty).1)⟩ ((f 1).2)), (.str ⟨(((nmF 4 s (0 + 1)).headD Str.empty).1)⟩ ((f 1).2))]), (((f 2).1), oTup [(.str ⟨(((nmF 4 s (0 + 1 + 1)).headD Str.empty).1)⟩ ((f 2).2)), (.str ⟨(((nmF 4 s (0 + 1 + 1)).headD Str.empty).1)⟩ ((f 2).2))]), (((f 3).1), oTup [(.str ⟨(List.foldl (fun acc p => acc ++ sCS.cps ++ p.cps) ((nmF 4 s (0 + 1 + 1 + 1)).headD Str.empty).cps (List.drop 1 (nmF 4 s (0 + 1 + 1 + 1))))⟩ ((f 3).2)), (.str ⟨(List.foldl (fun acc p => acc ++ sCS.cps ++ p.cps) ((nmF 4 s (0 + 1 + 1 + 1)).headD Str.empty).cps (List.drop 1 (nmF 4 s (0 + 1 + 1 + 1))))⟩ ((f 3).2))]), (((f 4).1), oTup [(.str ⟨(((nmF 4 s (0 + 1 + 1 + 1 + 1)).headD Str.empty).1)⟩ ((f 4).2)), (.str ⟨(((nmF 4 s (0 + 1 + 1 + 1 + 1)).headD Str.empty).1)⟩ ((f 4).2))]), (((f 5).1), oTup [(.str ⟨(List.foldl (fun acc p => acc ++ sCS.cps ++ p.cps) ((nmF 4 s (0 + 1 + 1 + 1 + 1 + 1)).headD Str.empty).cps (List.drop 1 (nmF 4 s (0 + 1 + 1 + 1 + 1 + 1))))⟩ ((f 5).2)), (.str ⟨(List.foldl (fun acc p => acc ++ sCS.cps ++ p.cps) ((nmF 4 s (0 + 1 + 1 + 1 + 1 + 1)).headD Str.empty).cps (List.drop 1 (nmF 4 s (0 + 1 + 1 + 1 + 1 + 1))))⟩ ((f 5).2))]), (((f 6).1), oTup [(.str ⟨(List.foldl (fun acc p => acc ++ sCS.cps ++ p.cps) ((nmF 4 s (0 + 1 + 1 + 1 + 1 + 1 + 1)).headD Str.empty).cps (List.drop 1 (nmF 4 s (0 + 1 + 1 + 1 + 1 + 1 + 1))))⟩ ((f 6).2)), (.str ⟨(List.foldl (fun acc p => acc ++ sCS.cps ++ p.cps) ((nmF 4 s (0 + 1 + 1 + 1 + 1 + 1 + 1)).headD Str.empty).cps (List.drop 1 (nmF 4 s (0 + 1 + 1 + 1 + 1 + 1 + 1))))⟩ ((f 6).2))]), (((f 7).1), oTup [(.str ⟨(List.foldl (fun acc p => acc ++ sCS.cps ++ p.cps) ((nmF 4 s (0 + 1 + 1 + 1 + 1 + 1 + 1 + 1)).headD Str.empty).cps (List.drop 1 (nmF 4 s (0 + 1 + 1 + 1 + 1 + 1 + 1 + 1))))⟩ ((f 7).2)), (.str ⟨(List.foldl (fun acc p => acc ++ sCS.cps ++ p.cps) ((nmF 4 s (0 + 1 + 1 + 1 + 1 + 1 + 1 + 1)).headD Str.empty).cps (List.drop 1 (nmF 4 s (0 + 1 + 1 + 1 + 1 + 1 + 1 + 1))))⟩ ((f 7).2))]), (((f 8).1), oTup [(.str ⟨(((nmF 4 s (0 + 1 + 1 + 1 + 1 + 1 + 1 + 1 + 1)).headD Str.empty).1)⟩ ((f 8).2)), (.str ⟨(((nmF 4 s (0 + 1 + 1 + 1 + 1 + 1 + 1 + 1 + 1)).headD Str.empty).1)⟩ ((f 8).2))]), (((f 9).1), oTup [(.str ⟨(List.foldl (fun acc p => acc ++ sCS.cps ++ p.cps) ((nmF 4 s (0 + 1 + 1 + 1 + 1 + 1 + 1 + 1 + 1 + 1)).headD Str.empty).cps (List.drop 1 (nmF 4 s (0 + 1 + 1 + 1 + 1 + 1 + 1 + 1 + 1 + 1))))⟩ ((f 9).2)), (.str ⟨(List.foldl (fun acc p => acc ++ sCS.cps ++ p.cps) ((nmF 4 s (0 + 1 + 1 + 1 + 1 + 1 + 1 + 1 + 1 + 1)).headD Str.empty).cps (List.drop 1 (nmF 4 s (0 + 1 + 1 + 1 + 1 + 1 + 1 + 1 + 1 + 1))))⟩ ((f 9).2))]), (((f 10).1), oTup [(.str ⟨(List.foldl (fun acc p => acc ++ sCS.cps ++ p.cps) ((nmF 4 s (0 + 1 + 1 + 1 + 1 + 1 + 1 + 1 + 1 + 1 + 1)).headD Str.empty).cps (List.drop 1 (nmF 4 s (0 + 1 + 1 + 1 + 1 + 1 + 1 + 1 + 1 + 1 + 1))))⟩ ((f 10).2)), (.str ⟨(List.foldl (fun acc p => acc ++ sCS.cps ++ p.cps) ((nmF 4 s (0 + 1 + 1 + 1 + 1 + 1 + 1 + 1 + 1 + 1 + 1)).headD Str.empty).cps (List.drop 1 (nmF 4 s (0 + 1 + 1 + 1 + 1 + 1 + 1 + 1 + 1 + 1 + 1))))⟩ ((f 10).2))]), (((f 11).1), oTup [(.str ⟨(List.foldl (fun acc p => acc ++ sCS.cps ++ p.cps) ((nmF 4 s (0 + 1 + 1 + 1 + 1 + 1 + 1 + 1 + 1 + 1 + 1 + 1)).headD Str.empty).cps (List.drop 1 (nmF 4 s (0 + 1 + 1 + 1 + 1 + 1 + 1 + 1 + 1 + 1 + 1 + 1))))⟩ ((f 11).2)), (.str ⟨(List.foldl (fun acc p => acc ++ sCS.cps ++ p.cps) ((nmF 4 s (0 + 1 + 1 + 1 + 1 + 1 + 1 + 1 + 1 + 1 + 1 + 1)).headD Str.empty).cps (List.drop 1 (nmF 4 s (0 + 1 + 1 + 1 + 1 + 1 + 1 + 1 + 1 + 1 + 1 + 1))))⟩ ((f 11).2))]), (((f 12).1), oTup [(.str ⟨(List.foldl (fun acc p => acc ++ sCS.cps ++ p.cps) ((nmF 4 s (0 + 1 + 1 + 1 + 1 + 1 + 1 + 1 + 1 + 1 + 1 + 1 + 1)).headD Str.empty).cps (List.drop 1 (nmF 4 s (0 + 1 + 1 + 1 + 1 + 1 + 1 + 1 + 1 + 1 + 1 + 1 + 1))))⟩ ((f 12).2)), (.str ⟨(List.foldl (fun acc p => acc ++ sCS.cps ++ p.cps) ((nmF 4 s (0 + 1 + 1 + 1 + 1 + 1 + 1 + 1 + 1 + 1 + 1 + 1 + 1)).headD Str.empty).cps (List.drop 1 (nmF 4 s (0 + 1 + 1 + 1 + 1 + 1 + 1 + 1 + 1 + 1 + 1 + 1 + 1))))⟩ ((f 12).2))]), (((f 13).1), oTup [(.str ⟨(List.foldl (fun acc p => acc ++ sCS.cps ++ p.cps) ((nmF 4 s (0 + 1 + 1 + 1 + 1 + 1 + 1 + 1 + 1 + 1 + 1 + 1 + 1 + 1)).headD Str.empty).cps (List.drop 1 (nmF 4 s (0 + 1 + 1 + 1 + 1 + 1 + 1 + 1 + 1 + 1 + 1 + 1 + 1 + 1))))⟩ ((f 13).2)), (.str ⟨(List.foldl (fun acc p => acc ++ sCS.cps ++ p.cps) ((nmF 4 s (0 + 1 + 1 + 1 + 1 + 1 + 1 + 1 + 1 + 1 + 1 + 1 + 1 + 1)).headD Str.empty).cps (List.drop 1 (nmF 4 s (0 + 1 + 1 + 1 + 1 + 1 + 1 + 1 + 1 + 1 + 1 + 1 + 1 + 1))))⟩ ((f 13).2))]), (((f 14).1), oTup [(.str ⟨(List.foldl (fun acc p => acc ++ sCS.cps ++ p.cps) ((nmF 4 s (0 + 1 + 1 + 1 + 1 + 1 + 1 + 1 + 1 + 1 + 1 + 1 + 1 + 1 + 1)).headD Str.empty).cps (List.drop 1 (nmF 4 s (0 + 1 + 1 + 1 + 1 + 1 + 1 + 1 + 1 + 1 + 1 + 1 + 1 + 1 + 1))))⟩ ((f 14).2)), (.str ⟨(List.foldl (fun acc p => acc ++ sCS.cps ++ p.cps) ((nmF 4 s (0 + 1 + 1 + 1 + 1 + 1 + 1 + 1 + 1 + 1 + 1 + 1 + 1 + 1 + 1)).headD Str.empty).cps (List.drop 1 (nmF 4 s (0 + 1 + 1 + 1 + 1 + 1 + 1 + 1 + 1 + 1 + 1 + 1 + 1 + 1 + 1))))⟩ ((f 14).2))]), (((f 15).1), oTup [(.str ⟨(List.foldl (fun acc p => acc ++ sCS.cps ++ p.cps) ((nmF 4 s (0 + 1 + 1 + 1 + 1 + 1 + 1 + 1 + 1 + 1 + 1 + 1 + 1 + 1 + 1 + 1)).headD Str.empty).cps (List.drop 1 (nmF 4 s (0 + 1 + 1 + 1 + 1 + 1 + 1 + 1 + 1 + 1 + 1 + 1 + 1 + 1 + 1 + 1))))⟩ ((f 15).2)), (.str ⟨(List.foldl (fun acc p => acc ++ sCS.cps ++ p.cps) ((nmF 4 s (0 + 1 + 1 + 1 + 1 + 1 + 1 + 1 + 1 + 1 + 1 + 1 + 1 + 1 + 1 + 1)).headD Str.empty).cps (List.drop 1 (nmF 4 s (0 + 1 + 1 + 1 + 1 + 1 + 1 + 1 + 1 + 1 + 1 + 1 + 1 + 1 + 1 + 1))))⟩ ((f 15).2))])]) r (by decide) (by kernel_rfl) ?_; intro h1 t1 r1 T1 G1 o1 z1
  refine comp_start (by kernel_rfl) (.list ⟨_, G1.nw _ (.head _), rfl⟩) ?_
  refine pn13_loop (s := s) o1 16 0 [] 0 none h1 _ rfl (fun e => nomatch e) rfl T1 G1 ?_
  intro h2 t2 q ep2 oi ox hq x2
  obtain ⟨M2, z2⟩ : ∃ M2, h2.objs.size = M2 := ⟨_, rfl⟩
  refine goS r1 _ [2,1,0,13,14,15,16,17,18,19,20,21,22,23,24,25,26,27,28,29] x2 z2 (by kernel_rfl) ?_; intro _ r2
  obtain ⟨u1, u2, u3⟩ := ox
  refine cutS 500 0 (n := 7) (hs := [1,1,1,0]) (c := ((.call (.ref 145) ⟨[.ref bl, .ref (N + 1)], []⟩))) (idx := [8,9,10,11,12,1,42,31,32]) (Lf := fun F => (rkIn bl (N + 1) cd cx ρ epb (namesV s 0 q) ep2 c0 tq cr ocx)) r2 (by decide) (by kernel_rfl) ?_; intro h3 t3 r3 T3 G3 o3 z3
  refine rooks_call hs hq hρ ⟨o3.hd, Nat.le_trans o3.dep (by decide)⟩ T3 G3 ?_
  intro h4 t4 tu rk tk4 c tks re hc4 x4
  obtain ⟨M4, z4⟩ : ∃ M4, h4.objs.size = M4 := ⟨_, rfl⟩
  refine goS r3 _ [8,9,10,11,12,1,42,31,32] x4 z4 (by kernel_rfl) ?_; intro _ r4
  refine toL 3 (n := 59) (hs := [1,1,1,1,1,1,1,1,1,2,1,1,1,1,1,1,2,1,1,1,1,1,1,2,1,1,1,41,41,39,39]) (T := restT (lawC (PP w b1 b2) 14)) (c := lawC (PP w b1 b2) 0) (dp := 351) (q := 47) (idx := [47,48]) (idn := [4,8,9,10,11,12,13,14,15,16,17,18,19,20,21,22,23,24,25,26,27,28,29,30,31,32,33,34,35,36,37,38,39,40,41,42,43,44,45,46]) (Lf := fun F => ([(130, tab1 cd cx), (158, oList xs ep)])) (Nf := fun F => ((rk, oList (cV c tks) re) :: brL rl σ epr bl ρ epb pl f epl s td otd cd cx c0 tq cr ocx (tlL (es6 hd hc kd kc D C hp kp pl hn kn nl hb kb bl hr kr rl ++ [⟨hOf F 38 6, .str sLast (kOf F 38 6), .str ⟨#[]⟩ tk4⟩]) 7 oCell0 (oCell (.ref rk)) cT cRd cS cE cD))) r4 (by decide) (by kernel_rfl) (by kernel_rfl) ?_; intro h5 t5 r5
  exact k _ _ _ rk c tks re _ _ tk4 hc4 r5)
end
end Mine
end
section
open PySem PySem.W PyProof.Rows PySem.W.X
namespace Mine
section
variable {w : World} {b1 b2 : Bool} {A : Around} {R : Result → Shared → Prop} {hB h : Heap} {gs : Array GenState} {dr : Drawn} {t0 N : Nat} {os : OsState}
noncomputable abbrev es7 (hd hc : Int) (kd kc : Tok) (D C : Value) (hp : Int) (kp : Tok) (pl : Addr) (hn : Int) (kn : Tok) (nl : Addr) (hb : Int) (kb : Tok) (bl : Addr) (hr : Int) (kr : Tok) (rl : Addr) (hl : Int) (kl tk : Tok) : List DictEntry := es6 hd hc kd kc D C hp kp pl hn kn nl hb kb bl hr kr rl ++ [⟨hl, .str sLast kl, .str ⟨#[]⟩ tk⟩]
theorem st14 {cE cD cS cT cRd ocx otd : Obj} {s : Nat} {xs : List Value} {ep : Nat} {td cd cx pl nl bl rl rk : Addr} {f : Nat → Addr × Tok} {epl epb epr re : Nat} {c : Nat → Nat} {tks : Nat → Tok} {Bd : Nat → Bool} {ρ σ : Row} {D C : Value} {hd hc hp hn hb hr hl : Int} {kd kc kp kn kb kr kl tk : Tok} {c0 : Value} {tq : Tok} {cr : List Value} (hs : s < 8) (hσ : RowsB Bd false σ)
    (r : OkL w b1 b2 A R hB 14 ((rk, oList (cV c tks) re) :: brL rl σ epr bl ρ epb pl f epl s td otd cd cx c0 tq cr ocx (lawL (tab1 cd cx) (es7 hd hc kd kc D C hp kp pl hn kn nl hb kb bl hr kr rl hl kl tk) 7 oCell0 (oCell (.ref rk)) cT cRd cS cE cD xs ep)) h N t0)
    (k : ∀ h' N' t' ro (c' : Nat → Nat) (tks' : Nat → Tok) re' hh kh tk', (∀ j, (c' j : Int) = cntQ (lineQ (fun c => Bd (4 * 0 + c) == false) (fun c => Bd (4 * 1 + c) == false) (fun c => Bd (4 * 2 + c) == false) (fun c => Bd (4 * 3 + c) == false)) j) → OkL w b1 b2 A R hB 15 ((ro, oList (cV c' tks') re') :: (rk, oList (cV c tks) re) :: brL rl σ epr bl ρ epb pl f epl s td otd cd cx c0 tq cr ocx (lawL (tab1 cd cx) (es7 hd hc kd kc D C hp kp pl hn kn nl hb kb bl hr kr rl hl kl tk ++ [⟨hh, .str sBehind kh, .str ⟨#[]⟩ tk'⟩]) 8 (oCell (.ref ro)) (oCell (.ref rk)) cT cRd cS cE cD xs ep)) h' N' t' → GoL w b1 b2 A R 15 ((ro, oList (cV c' tks') re') :: (rk, oList (cV c tks) re) :: brL rl σ epr bl ρ epb pl f epl s td otd cd cx c0 tq cr ocx (lawL (tab1 cd cx) (es7 hd hc kd kc D C hp kp pl hn kn nl hb kb bl hr kr rl hl kl tk ++ [⟨hh, .str sBehind kh, .str ⟨#[]⟩ tk'⟩]) 8 (oCell (.ref ro)) (oCell (.ref rk)) cT cRd cS cE cD xs ep)) ⟨h', gs, dr, t', os⟩) :
    GoL w b1 b2 A R 14 ((rk, oList (cV c tks) re) :: brL rl σ epr bl ρ epb pl f epl s td otd cd cx c0 tq cr ocx (lawL (tab1 cd cx) (es7 hd hc kd kc D C hp kp pl hn kn nl hb kb bl hr kr rl hl kl tk) 7 oCell0 (oCell (.ref rk)) cT cRd cS cE cD xs ep)) ⟨h, gs, dr, t0, os⟩ := by
  revert b1
  refine @bothB _ ?_ ?_ <;> set_option tactic.hygienic false in intros
  all_goals (
  refine cutS 450 3 (n := 19) (hs := [0,32,32,12,12,12,1]) (c := (.compStart (ePn14 (PP w b1 b2)) 0 (.ref N) (.ref (N + 1)) (envL (PP w b1 b2) (ePn14 (PP w b1 b2)) (N + 2) ([]) (159)))) (idx := [2,1,0,14,15,16,17,18,19,20,21,22,23,24,25,26,27,28,29,30]) (Lf := fun F => [(N, oLit pl 0), ((N + 1), oList [] 0), ((N + 2), oD [] 0), (pl, oList [(.ref ((f 0).1)), (.ref ((f 1).1)), (.ref ((f 2).1)), (.ref ((f 3).1)), (.ref ((f 4).1)), (.ref ((f 5).1)), (.ref ((f 6).1)), (.ref ((f 7).1)), (.ref ((f 8).1)), (.ref ((f 9).1)), (.ref ((f 10).1)), (.ref ((f 11).1)), (.ref ((f 12).1)), (.ref ((f 13).1)), (.ref ((f 14).1)), (.ref ((f 15).1))] epl), (((f 0).1), oTup [(.str ⟨#[48,120,48]⟩ ((f 0).2)), (.str ⟨#[48,120,48]⟩ ((f 0).2))]), (((f 1).1), oTup [(.str ⟨(((nmF 4 s (0 + 1)).headD Str.empty).1)⟩ ((f 1).2)), (.str ⟨(((nmF 4 s (0 + 1)).headD Str.empty).1)⟩ ((f 1).2))]), (((f 2).1), oTup [(.str ⟨(((nmF 4 s (0 + 1 + 1)).headD Str.empty).1)⟩ ((f 2).2)), (.str ⟨(((nmF 4 s (0 + 1 + 1)).headD Str.empty).1)⟩ ((f 2).2))]), (((f 3).1), oTup [(.str ⟨(List.foldl (fun acc p => acc ++ sCS.cps ++ p.cps) ((nmF 4 s (0 + 1 + 1 + 1)).headD Str.empty).cps (List.drop 1 (nmF 4 s (0 + 1 + 1 + 1))))⟩ ((f 3).2)), (.str ⟨(List.foldl (fun acc p => acc ++ sCS.cps ++ p.cps) ((nmF 4 s (0 + 1 + 1 + 1)).headD Str.empty).cps (List.drop 1 (nmF 4 s (0 + 1 + 1 + 1))))⟩ ((f 3).2))]), (((f 4).1), oTup [(.str ⟨(((nmF 4 s (0 + 1 + 1 + 1 + 1)).headD Str.empty).1)⟩ ((f 4).2)), (.str ⟨(((nmF 4 s (0 + 1 + 1 + 1 + 1)).headD Str.empty).1)⟩ ((f 4).2))]), (((f 5).1), oTup [(.str ⟨(List.foldl (fun acc p => acc ++ sCS.cps ++ p.cps) ((nmF 4 s (0 + 1 + 1 + 1 + 1 + 1)).headD Str.empty).cps (List.drop 1 (nmF 4 s (0 + 1 + 1 + 1 + 1 + 1))))⟩ ((f 5).2)), (.str ⟨(List.foldl (fun acc p => acc ++ sCS.cps ++ p.cps) ((nmF 4 s (0 + 1 + 1 + 1 + 1 + 1)).headD Str.empty).cps (List.drop 1 (nmF 4 s (0 + 1 + 1 + 1 + 1 + 1))))⟩ ((f 5).2))]), (((f 6).1), oTup [(.str ⟨(List.foldl (fun acc p => acc ++ sCS.cps ++ p.cps) ((nmF 4 s (0 + 1 + 1 + 1 + 1 + 1 + 1)).headD Str.empty).cps (List.drop 1 (nmF 4 s (0 + 1 + 1 + 1 + 1 + 1 + 1))))⟩ ((f 6).2)), (.str ⟨(List.foldl (fun acc p => acc ++ sCS.cps ++ p.cps) ((nmF 4 s (0 + 1 + 1 + 1 + 1 + 1 + 1)).headD Str.empty).cps (List.drop 1 (nmF 4 s (0 + 1 + 1 + 1 + 1 + 1 + 1))))⟩ ((f 6).2))]), (((f 7).1), oTup [(.str ⟨(List.foldl (fun acc p => acc ++ sCS.cps ++ p.cps) ((nmF 4 s (0 + 1 + 1 + 1 + 1 + 1 + 1 + 1)).headD Str.empty).cps (List.drop 1 (nmF 4 s (0 + 1 + 1 + 1 + 1 + 1 + 1 + 1))))⟩ ((f 7).2)), (.str ⟨(List.foldl (fun acc p => acc ++ sCS.cps ++ p.cps) ((nmF 4 s (0 + 1 + 1 + 1 + 1 + 1 + 1 + 1)).headD Str.empty).cps (List.drop 1 (nmF 4 s (0 + 1 + 1 + 1 + 1 + 1 + 1 + 1))))⟩ ((f 7).2))]), (((f 8).1), oTup [(.str ⟨(((nmF 4 s (0 + 1 + 1 + 1 + 1 + 1 + 1 + 1 + 1)).headD Str.empty).1)⟩ ((f 8).2)), (.str ⟨(((nmF 4 s (0 + 1 + 1 + 1 + 1 + 1 + 1 + 1 + 1)).headD Str.empty).1)⟩ ((f 8).2))]), (((f 9).1), oTup [(.str ⟨(List.foldl (fun acc p => acc ++ sCS.cps ++ p.cps) ((nmF 4 s (0 + 1 + 1 + 1 + 1 + 1 + 1 + 1 + 1 + 1)).headD Str.empty).cps (List.drop 1 (nmF 4 s (0 + 1 + 1 + 1 + 1 + 1 + 1 + 1 + 1 + 1))))⟩ ((f 9).2)), (.str ⟨(List.foldl (fun acc p => acc ++ sCS.cps ++ p.cps) ((nmF 4 s (0 + 1 + 1 + 1 + 1 + 1 + 1 + 1 + 1 + 1)).headD Str.empty).cps (List.drop 1 (nmF 4 s (0 + 1 + 1 + 1 + 1 + 1 + 1 + 1 + 1 + 1))))⟩ ((f 9).2))]), (((f 10).1), oTup [(.str ⟨(List.foldl (fun acc p => acc ++ sCS.cps ++ p.cps) ((nmF 4 s (0 + 1 + 1 + 1 + 1 + 1 + 1 + 1 + 1 + 1 + 1)).headD Str.empty).cps (List.drop 1 (nmF 4 s (0 + 1 + 1 + 1 + 1 + 1 + 1 + 1 + 1 + 1 + 1))))⟩ ((f 10).2)), (.str ⟨(List.foldl (fun acc p => acc ++ sCS.cps ++ p.cps) ((nmF 4 s (0 + 1 + 1 + 1 + 1 + 1 + 1 + 1 + 1 + 1 + 1)).headD Str.empty).cps (List.drop 1 (nmF 4 s (0 + 1 + 1 + 1 + 1 + 1 + 1 + 1 + 1 + 1 + 1))))⟩ ((f 10).2))]), (((f 11).1), oTup [(.str ⟨(List.foldl (fun acc p => acc ++ sCS.cps ++ p.cps) ((nmF 4 s (0 + 1 + 1 + 1 + 1 + 1 + 1 + 1 + 1 + 1 + 1 + 1)).headD Str.empty).cps (List.drop 1 (nmF 4 s (0 + 1 + 1 + 1 + 1 + 1 + 1 + 1 + 1 + 1 + 1 + 1))))⟩ ((f 11).2)), (.str ⟨(List.foldl (fun acc p => acc ++ sCS.cps ++ p.cps) ((nmF 4 s (0 + 1 + 1 + 1 + 1 + 1 + 1 + 1 + 1 + 1 + 1 + 1)).headD Str.empty).cps (List.drop 1 (nmF 4 s (0 + 1 + 1 + 1 + 1 + 1 + 1 + 1 + 1 + 1 + 1 + 1))))⟩ ((f 11).2))]), (((f 12).1), oTup [(.str ⟨(List.foldl (fun acc p => acc ++ sCS.cps ++ p.cps) ((nmF 4 s (0 + 1 + 1 + 1 + 1 + 1 + 1 + 1 + 1 + 1 + 1 + 1 + 1)).headD Str.empty).cps (List.drop 1 (nmF 4 s (0 + 1 + 1 + 1 + 1 + 1 + 1 + 1 + 1 + 1 + 1 + 1 + 1))))⟩ ((f 12).2)), (.str ⟨(List.foldl (fun acc p => acc ++ sCS.cps ++ p.cps) ((nmF 4 s (0 + 1 + 1 + 1 + 1 + 1 + 1 + 1 + 1 + 1 + 1 + 1 + 1)).headD Str.empty).cps (List.drop 1 (nmF 4 s (0 + 1 + 1 + 1 + 1 + 1 + 1 + 1 + 1 + 1 + 1 + 1 + 1))))⟩ ((f 12).2))]), (((f 13).1), oTup [(.str ⟨(List.foldl (fun acc p => acc ++ sCS.cps ++ p.cps) ((nmF 4 s (0 + 1 + 1 + 1 + 1 + 1 + 1 + 1 + 1 + 1 + 1 + 1 + 1 + 1)).headD Str.empty).cps (List.drop 1 (nmF 4 s (0 + 1 + 1 + 1 + 1 + 1 + 1 + 1 + 1 + 1 + 1 + 1 + 1 + 1))))⟩ ((f 13).2)), (.str ⟨(List.foldl (fun acc p => acc ++ sCS.cps ++ p.cps) ((nmF 4 s (0 + 1 + 1 + 1 + 1 + 1 + 1 + 1 + 1 + 1 + 1 + 1 + 1 + 1)).headD Str.empty).cps (List.drop 1 (nmF 4 s (0 + 1 + 1 + 1 + 1 + 1 + 1 + 1 + 1 + 1 + 1 + 1 + 1 + 1))))⟩ ((f 13).2))]), (((f 14).1), oTup [(.str ⟨(List.foldl (fun acc p => acc ++ sCS.cps ++ p.cps) ((nmF 4 s (0 + 1 + 1 + 1 + 1 + 1 + 1 + 1 + 1 + 1 + 1 + 1 + 1 + 1 + 1)).headD Str.empty).cps (List.drop 1 (nmF 4 s (0 + 1 + 1 + 1 + 1 + 1 + 1 + 1 + 1 + 1 + 1 + 1 + 1 + 1 + 1))))⟩ ((f 14).2)), (.str ⟨(List.foldl (fun acc p => acc ++ sCS.cps ++ p.cps) ((nmF 4 s (0 + 1 + 1 + 1 + 1 + 1 + 1 + 1 + 1 + 1 + 1 + 1 + 1 + 1 + 1)).headD Str.empty).cps (List.drop 1 (nmF 4 s (0 + 1 + 1 + 1 + 1 + 1 + 1 + 1 + 1 + 1 + 1 + 1 + 1 + 1 + 1))))⟩ ((f 14).2))]), (((f 15).1), oTup [(.str ⟨(List.foldl (fun acc p => acc ++ sCS.cps ++ p.cps) ((nmF 4 s (0 + 1 + 1 + 1 + 1 + 1 + 1 + 1 + 1 + 1 + 1 + 1 + 1 + 1 + 1 + 1)).headD Str.empty).cps (List.drop 1 (nmF 4 s (0 + 1 + 1 + 1 + 1 + 1 + 1 + 1 + 1 + 1 + 1 + 1 + 1 + 1 + 1 + 1))))⟩ ((f 15).2)), (.str ⟨(List.foldl (fun acc p => acc ++ sCS.cps ++ p.cps) ((nmF 4 s (0 + 1 + 1 + 1 + 1 + 1 + 1 + 1 + 1 + 1 + 1 + 1 + 1 + 1 + 1 + 1)).headD Str.empty).cps (List.drop 1 (nmF 4 s (0 + 1 + 1 + 1 + 1 + 1 + 1 + 1 + 1 + 1 + 1 + 1 + 1 + 1 + 1 + 1))))⟩ ((f 15).2))])]) r (by decide) (by kernel_rfl) ?_; intro h1 t1 r1 T1 G1 o1 z1
  refine comp_start (by kernel_rfl) (.list ⟨_, G1.nw _ (.head _), rfl⟩) ?_
  refine pn14_loop (s := s) o1 16 0 [] 0 none h1 _ rfl (fun e => nomatch e) rfl T1 G1 ?_
  intro h2 t2 q ep2 oi ox hq x2
  obtain ⟨M2, z2⟩ : ∃ M2, h2.objs.size = M2 := ⟨_, rfl⟩
  refine goS r1 _ [2,1,0,14,15,16,17,18,19,20,21,22,23,24,25,26,27,28,29,30] x2 z2 (by kernel_rfl) ?_; intro _ r2
  obtain ⟨u1, u2, u3⟩ := ox
  refine cutS 500 0 (n := 7) (hs := [1,1,1,0]) (c := ((.call (.ref 145) ⟨[.ref rl, .ref (N + 1)], []⟩))) (idx := [4,5,6,7,8,1,43,32,33]) (Lf := fun F => (rkIn rl (N + 1) cd cx σ epr (namesV s 0 q) ep2 c0 tq cr ocx)) r2 (by decide) (by kernel_rfl) ?_; intro h3 t3 r3 T3 G3 o3 z3
  refine rooks_call hs hq hσ ⟨o3.hd, Nat.le_trans o3.dep (by decide)⟩ T3 G3 ?_
  intro h4 t4 tu ro tk4 c' tks' re' hc4 x4
  obtain ⟨M4, z4⟩ : ∃ M4, h4.objs.size = M4 := ⟨_, rfl⟩
  refine goS r3 _ [4,5,6,7,8,1,43,32,33] x4 z4 (by kernel_rfl) ?_; intro _ r4
  refine toL 3 (n := 59) (hs := [1,1,1,1,1,1,1,1,1,2,1,1,1,1,1,1,2,1,1,1,1,1,1,2,1,1,1,41,41,40,40]) (T := restT (lawC (PP w b1 b2) 15)) (c := lawC (PP w b1 b2) 0) (dp := 351) (q := 48) (idx := [48,49]) (idn := [4,8,9,10,11,12,13,14,15,16,17,18,19,20,21,22,23,24,25,26,27,28,29,30,31,32,33,34,35,36,37,38,39,40,41,42,43,44,45,46,47]) (Lf := fun F => ([(130, tab1 cd cx), (158, oList xs ep)])) (Nf := fun F => ((ro, oList (cV c' tks') re') :: (rk, oList (cV c tks) re) :: brL rl σ epr bl ρ epb pl f epl s td otd cd cx c0 tq cr ocx (tlL (es7 hd hc kd kc D C hp kp pl hn kn nl hb kb bl hr kr rl hl kl tk ++ [⟨hOf F 39 7, .str sBehind (kOf F 39 7), .str ⟨#[]⟩ tk4⟩]) 8 (oCell (.ref ro)) (oCell (.ref rk)) cT cRd cS cE cD))) r4 (by decide) (by kernel_rfl) (by kernel_rfl) ?_; intro h5 t5 r5
  exact k _ _ _ ro c' tks' re' _ _ tk4 hc4 r5)
end
end Mine
end
section
open PySem PySem.W PyProof.Rows PySem.W.X PySem.Builtin.Str
namespace Mine
section
variable {w : World} {b1 b2 : Bool} {A : Around} {R : Result → Shared → Prop} {hB h : Heap} {gs : Array GenState} {dr : Drawn} {t0 N : Nat} {os : OsState}
theorem lf_strne {S1 S2 : Str} {t u : Tok} {v : Bool} {N : Nat} (hv : (S1.cps.toList != S2.cps.toList) = v) (hN : h.objs.size = N)
    (k : ∀ h' tk, Af h [] [] h' → h'.objs.size = N → R (.ok (.ret (.bool v))) ⟨h', gs, dr, tk, os⟩) :
    CA w b1 b2 A (.call (.builtin "str.__ne__") ⟨[.str S1 t, .str S2 u], []⟩) R ⟨h, gs, dr, t0, os⟩ := by
  subst hv
  exact cut_meets F.slot_str_ne (typeIs_str _ _ _) F.entry_str_ne (F.args_str_ne_2 _ _) (gives_str_ne _ _ _ _).meets (k h _ (af_refl h) hN)
theorem st15 {cE cD cS cT cRd ocx otd : Obj} {s : Nat} {xs : List Value} {ep : Nat} {td cd cx pl nl bl rl rk ro : Addr} {f : Nat → Addr × Tok} {epl epb epr re re' : Nat} {c c' : Nat → Nat} {tks tks' : Nat → Tok} {ρ σ : Row} {D C : Value} {hd hc hp hn hb hr hl hh : Int} {kd kc kp kn kb kr kl tk kh tk' : Tok} {c0 : Value} {tq : Tok} {cr : List Value}
    (r : OkL w b1 b2 A R hB 15 ((ro, oList (cV c' tks') re') :: (rk, oList (cV c tks) re) :: brL rl σ epr bl ρ epb pl f epl s td otd cd cx c0 tq cr ocx (lawL (tab1 cd cx) (es7 hd hc kd kc D C hp kp pl hn kn nl hb kb bl hr kr rl hl kl tk ++ [⟨hh, .str sBehind kh, .str ⟨#[]⟩ tk'⟩]) 8 (oCell (.ref ro)) (oCell (.ref rk)) cT cRd cS cE cD xs ep)) h N t0)
    (k : ∀ h' N' t', OkL w b1 b2 A R hB 16 ((ro, oList (cV c' tks') re') :: (rk, oList (cV c tks) re) :: lawL (tab1 cd cx) (es7 hd hc kd kc D C hp kp pl hn kn nl hb kb bl hr kr rl hl kl tk ++ [⟨hh, .str sBehind kh, .str ⟨#[]⟩ tk'⟩]) 8 (oCell (.ref ro)) (oCell (.ref rk)) cT cRd cS cE cD xs ep) h' N' t' → GoL w b1 b2 A R 16 ((ro, oList (cV c' tks') re') :: (rk, oList (cV c tks) re) :: lawL (tab1 cd cx) (es7 hd hc kd kc D C hp kp pl hn kn nl hb kb bl hr kr rl hl kl tk ++ [⟨hh, .str sBehind kh, .str ⟨#[]⟩ tk'⟩]) 8 (oCell (.ref ro)) (oCell (.ref rk)) cT cRd cS cE cD xs ep) ⟨h', gs, dr, t', os⟩) :
    GoL w b1 b2 A R 15 ((ro, oList (cV c' tks') re') :: (rk, oList (cV c tks) re) :: brL rl σ epr bl ρ epb pl f epl s td otd cd cx c0 tq cr ocx (lawL (tab1 cd cx) (es7 hd hc kd kc D C hp kp pl hn kn nl hb kb bl hr kr rl hl kl tk ++ [⟨hh, .str sBehind kh, .str ⟨#[]⟩ tk'⟩]) 8 (oCell (.ref ro)) (oCell (.ref rk)) cT cRd cS cE cD xs ep)) ⟨h, gs, dr, t0, os⟩ := by
  refine law_next (by kernel_rfl) ?_
  have e15 : lw (PP w b1 b2) 15 = .If (.BoolOp .Or [.Compare (lawE (PP w b1 b2) 15 [0,0]) [.NotEq] [lawE (PP w b1 b2) 15 [0,1]] (posOfE (lawE (PP w b1 b2) 15 [0])), .Compare (lawE (PP w b1 b2) 15 [1,0]) [.NotEq] [lawE (PP w b1 b2) 15 [1,1]] (posOfE (lawE (PP w b1 b2) 15 [1]))] (posOfE (lawE (PP w b1 b2) 15 []))) (ifBody (lw (PP w b1 b2) 15)) [] (posOfS (lw (PP w b1 b2) 15)) := by kernel_rfl
  rw [e15]
  refine wpAny_If (isTrue_or (wpAny_isTrue_Compare1 ?_ (by kernel_rfl)))
  refine evL r.ld fun r1 => ?_
  revert b1
  refine @bothB _ ?_ ?_ <;> set_option tactic.hygienic false in intros
  all_goals (
  refine enS 0 (n := 2) (hs := [33]) (v := (.str ⟨#[]⟩ tk)) (c := (lawC (PP w b1 b2) 0)) (dp := 351) (q := 41) (idx := [41,42]) (idn := [0,1,32,33,34,35,36,37,38,39,40]) (Lf := fun F => ([(130, tab1 cd cx), (158, oList xs ep)])) (Nf := fun F => ((ro, oList (cV c' tks') re') :: (rk, oList (cV c tks) re) :: tlL (es7 hd hc kd kc D C hp kp pl hn kn nl hb kb bl hr kr rl hl kl tk ++ [⟨hh, .str sBehind kh, .str ⟨#[]⟩ tk'⟩]) 8 (oCell (.ref ro)) (oCell (.ref rk)) cT cRd cS cE cD)) r1 (by decide) (by kernel_rfl) (by kernel_rfl) ?_; intro h1 t1 l1
  refine evL l1 fun r2 => ?_
  refine enS 0 (n := 1) (hs := []) (v := (.str ⟨#[]⟩ t1)) (c := (lawC (PP w b1 b2) 0)) (dp := 351) (q := 11) (idx := [11,12]) (idn := [0,1,2,3,4,5,6,7,8,9,10]) (Lf := fun F => ([(130, tab1 cd cx), (158, oList xs ep)])) (Nf := fun F => ((ro, oList (cV c' tks') re') :: (rk, oList (cV c tks) re) :: tlL (es7 hd hc kd kc D C hp kp pl hn kn nl hb kb bl hr kr rl hl kl tk ++ [⟨hh, .str sBehind kh, .str ⟨#[]⟩ tk'⟩]) 8 (oCell (.ref ro)) (oCell (.ref rk)) cT cRd cS cE cD)) r2 (by decide) (by kernel_rfl) (by kernel_rfl) ?_; intro h2 t2 l2
  refine P.ne_str ?_
  refine wpAny_truthy_bool ?_
  try dsimp only
  rw [if_neg (by decide)]
  refine isTrue_or (wpAny_isTrue_Compare1 ?_ (by kernel_rfl))
  refine evL l2 fun r3 => ?_
  refine enS 0 (n := 2) (hs := [3]) (v := (.str ⟨#[]⟩ tk')) (c := (lawC (PP w b1 b2) 0)) (dp := 351) (q := 11) (idx := [11,12]) (idn := [0,1,2,3,4,5,6,7,8,9,10]) (Lf := fun F => ([(130, tab1 cd cx), (158, oList xs ep)])) (Nf := fun F => ((ro, oList (cV c' tks') re') :: (rk, oList (cV c tks) re) :: tlL (es7 hd hc kd kc D C hp kp pl hn kn nl hb kb bl hr kr rl hl kl tk ++ [⟨hh, .str sBehind kh, .str ⟨#[]⟩ tk'⟩]) 8 (oCell (.ref ro)) (oCell (.ref rk)) cT cRd cS cE cD)) r3 (by decide) (by kernel_rfl) (by kernel_rfl) ?_; intro h3 t3 l3
  refine evL l3 fun r4 => ?_
  refine enS 0 (n := 1) (hs := []) (v := (.str ⟨#[]⟩ t3)) (c := (lawC (PP w b1 b2) 0)) (dp := 351) (q := 11) (idx := [11,12]) (idn := [0,1,2,3,4,5,6,7,8,9,10]) (Lf := fun F => ([(130, tab1 cd cx), (158, oList xs ep)])) (Nf := fun F => ((ro, oList (cV c' tks') re') :: (rk, oList (cV c tks) re) :: tlL (es7 hd hc kd kc D C hp kp pl hn kn nl hb kb bl hr kr rl hl kl tk ++ [⟨hh, .str sBehind kh, .str ⟨#[]⟩ tk'⟩]) 8 (oCell (.ref ro)) (oCell (.ref rk)) cT cRd cS cE cD)) r4 (by decide) (by kernel_rfl) (by kernel_rfl) ?_; intro h4 t4 l4
  refine P.ne_str ?_
  refine wpAny_truthy_bool ?_
  try dsimp only
  rw [if_neg (by decide)]
  refine isTrue_or_nil ?_
  try dsimp only
  rw [if_neg (by decide)]
  refine wpAny_execs_nil ?_
  exact k _ _ _ l4.ok)
end
end Mine
end
section
open PySem PySem.W PyProof.Rows PySem.W.X
namespace Mine
section
variable {w : World} {b1 b2 : Bool} {A : Around} {R : Result → Shared → Prop} {hB h : Heap} {gs : Array GenState} {dr : Drawn} {t0 : Nat} {os : OsState}
theorem value_call {rk : Addr} {c : Nat → Nat} {tks : Nat → Tok} {re : Nat} {x : Int} {tx : Tok} (hx : ∀ k : Nat, k < 5 → Builtin.Int.intBits (x - 4 + (k : Int)) ≤ 64) (hA : Okk A 550) (T : Tp (kP w b1 b2) h) (G : Giv (kP w b1 b2) h [(rk, oList (cV c tks) re)])
    (k : ∀ h' t' tok, Af h [(rk, oList (cV c tks) re)] [] h' → R (.ok (.ret (.int (valR (fun j => (c j : Int)) x) tok))) ⟨h', gs, dr, t', os⟩) :
    CA w b1 b2 A (.call (.ref 152) ⟨[.ref rk, .int x tx], []⟩) R ⟨h, gs, dr, t0, os⟩ := by
  revert b1
  refine @bothB _ ?_ ?_ <;> set_option tactic.hygienic false in intros
  all_goals (
  refine goC hA T G (by kernel_rfl) ?_; intro _ _ r
  obtain ⟨M, hM⟩ : ∃ M, h.objs.size = M := ⟨_, rfl⟩
  rw [hM] at r
  refine cutS 600 3 (n := 100) (hs := [0,0,1,1,1,1,1,1,0,0,1,1,1,1,1,1,1,1,1,1,1,1,1,1,1,1,1,1,1,1,3,3,3,3,3]) (c := (.call (.builtin "int.__mul__") ⟨[(.int 0 (t0 + 2)), (.int (x - 4 + 0) (t0 + 11))], []⟩)) (idx := []) (Lf := fun F => []) r (by decide) (by kernel_rfl) ?_; intro h1 t1 r1 T1 G1 o1 z1
  refine lf_mul rfl (IntMulOk.of_right (hx 0 (by decide))) z1 ?_
  intro h2 a2 t2 x2 z2
  refine goS r1 _ [] x2 z2 (by kernel_rfl) ?_; intro _ r2
  refine cutS 600 0 (n := 66) (hs := [3,3,4,4,4,4,4,3,3,1,1,1,1,1,1,1,1,1,3,3,3,3,3]) (c := (.call (.builtin "int.__mul__") ⟨[(.int (0 * (x - 4 + 0) + (↑(c 0) : Int)) t2), (.int (x - 4 + (0 + 1)) (t2 + 6))], []⟩)) (idx := []) (Lf := fun F => []) r2 (by decide) (by kernel_rfl) ?_; intro h5 t5 r5 T5 G5 o5 z5
  refine lf_mul rfl (IntMulOk.of_right (hx 1 (by decide))) z5 ?_
  intro h6 a6 t6 x6 z6
  refine goS r5 _ [] x6 z6 (by kernel_rfl) ?_; intro _ r6
  refine cutS 600 0 (n := 66) (hs := [3,3,4,4,4,4,4,3,3,1,1,1,1,1,1,1,1,1,3,3,3,3,3]) (c := (.call (.builtin "int.__mul__") ⟨[(.int ((0 * (x - 4 + 0) + (↑(c 0) : Int)) * (x - 4 + (0 + 1)) + (↑(c 1) : Int)) t6), (.int (x - 4 + (0 + 1 + 1)) (t6 + 6))], []⟩)) (idx := []) (Lf := fun F => []) r6 (by decide) (by kernel_rfl) ?_; intro h9 t9 r9 T9 G9 o9 z9
  refine lf_mul rfl (IntMulOk.of_right (hx 2 (by decide))) z9 ?_
  intro h10 a10 t10 x10 z10
  refine goS r9 _ [] x10 z10 (by kernel_rfl) ?_; intro _ r10
  refine cutS 600 0 (n := 66) (hs := [3,3,4,4,4,4,4,3,3,1,1,1,1,1,1,1,1,1,3,3,3,3,3]) (c := (.call (.builtin "int.__mul__") ⟨[(.int (((0 * (x - 4 + 0) + (↑(c 0) : Int)) * (x - 4 + (0 + 1)) + (↑(c 1) : Int)) * (x - 4 + (0 + 1 + 1)) + (↑(c 2) : Int)) t10), (.int (x - 4 + (0 + 1 + 1 + 1)) (t10 + 6))], []⟩)) (idx := []) (Lf := fun F => []) r10 (by decide) (by kernel_rfl) ?_; intro h13 t13 r13 T13 G13 o13 z13
  refine lf_mul rfl (IntMulOk.of_right (hx 3 (by decide))) z13 ?_
  intro h14 a14 t14 x14 z14
  refine goS r13 _ [] x14 z14 (by kernel_rfl) ?_; intro _ r14
  refine cutS 600 0 (n := 66) (hs := [3,3,4,4,4,4,4,3,3,1,1,1,1,1,1,1,1,1,3,3,3,3,3]) (c := (.call (.builtin "int.__mul__") ⟨[(.int ((((0 * (x - 4 + 0) + (↑(c 0) : Int)) * (x - 4 + (0 + 1)) + (↑(c 1) : Int)) * (x - 4 + (0 + 1 + 1)) + (↑(c 2) : Int)) * (x - 4 + (0 + 1 + 1 + 1)) + (↑(c 3) : Int)) t14), (.int (x - 4 + (0 + 1 + 1 + 1 + 1)) (t14 + 6))], []⟩)) (idx := []) (Lf := fun F => []) r14 (by decide) (by kernel_rfl) ?_; intro h17 t17 r17 T17 G17 o17 z17
  refine lf_mul rfl (IntMulOk.of_right (hx 4 (by decide))) z17 ?_
  intro h18 a18 t18 x18 z18
  refine goS r17 _ [] x18 z18 (by kernel_rfl) ?_; intro _ r18
  refine endS 2 (n := 45) (hs := [3,3,4,4,4,4,4,3,3,1,1,1,1,1,1,5]) (fl := (.ret (.int (valR (fun j => (c j : Int)) x) t18))) (q := 5) (idx := [5]) (idn := []) (Lf := fun F => ([(rk, oList (cV c tks) re)])) (Nf := fun F => ([])) r18 (by decide) (by kernel_rfl) ?_; intro h30 t30 x30 z30
  exact k _ _ _ x30)
end
end Mine
end
section
open PySem PySem.W PyProof.Rows PySem.W.X
namespace Mine
section
variable {w : World} {b1 b2 : Bool} {A : Around} {R : Result → Shared → Prop} {hB h : Heap} {gs : Array GenState} {dr : Drawn} {t0 : Nat} {os : OsState}
theorem bits_a : ∀ i : Nat, i < 5 → ∀ k : Nat, k < 5 → Builtin.Int.intBits ((i : Int) - 4 + (k : Int)) ≤ 64 := by decide +kernel
theorem bits_b : ∀ i : Nat, i < 5 → ∀ k : Nat, k < 5 → Builtin.Int.intBits (-(i : Int) - 1 - 4 + (k : Int)) ≤ 64 := by decide +kernel
noncomputable abbrev eva (P : Params) : Expr := lawE P 16 [0]
noncomputable abbrev cva (P : Params) (it acc loc : Addr) : Code := cComp P (eva P) it acc loc [(sOthers, 167)] 159
noncomputable abbrev Lva (it acc loc rk : Addr) (i m : Nat) (zs : List Value) (ep : Nat) (ox : Option (Int × Tok × Value)) (c : Nat → Nat) (tks : Nat → Tok) (re : Nat) : List (Addr × Obj) := [(it, oRit i m), (acc, oList zs ep), (loc, oX sX ox), (167, oCell (.ref rk)), (rk, oList (cV c tks) re)]
theorem va_turn {it acc loc rk : Addr} {i m : Nat} {zs : List Value} {ep re : Nat} {ox : Option (Int × Tok × Value)} {c : Nat → Nat} {tks : Nat → Tok} (hi : i < 5) (hz : zs.length ≤ 1000) (hA : Okk A 450) (T : Tp (kP w b1 b2) h)
    (G : Giv (kP w b1 b2) h (Lva it acc loc rk i (m + 1) zs ep ox c tks re))
    (k : ∀ h' t' tok ox', Af h (Lva it acc loc rk (i + 1) m (zs ++ [.int (valR (fun j => (c j : Int)) (i : Int)) tok]) (ep + 1) (some ox') c tks re) [] h' → Tp (kP w b1 b2) h' → Giv (kP w b1 b2) h' (Lva it acc loc rk (i + 1) m (zs ++ [.int (valR (fun j => (c j : Int)) (i : Int)) tok]) (ep + 1) (some ox') c tks re) → CA w b1 b2 A (cva (PP w b1 b2) it acc loc) R ⟨h', gs, dr, t', os⟩) :
    CA w b1 b2 A (cva (PP w b1 b2) it acc loc) R ⟨h, gs, dr, t0, os⟩ := by
  revert b1
  refine @bothB _ ?_ ?_ <;> set_option tactic.hygienic false in intros
  all_goals (
  refine goC hA T G (by kernel_rfl) ?_; intro _ _ r
  obtain _ | ⟨u1, u2, u3⟩ := ox
  · refine cutS 550 0 (n := 29) (hs := [1,1,1,1,1,1,1,1,1,3,3,0,4,3,0]) (c := (.call (.ref 152) ⟨[(.ref rk), (.int (i : Int) t0)], []⟩)) (idx := [4]) (Lf := fun F => [(rk, oList [(.int ((c 0) : Int) (tks 0)), (.int ((c 1) : Int) (tks 1)), (.int ((c 2) : Int) (tks 2)), (.int ((c 3) : Int) (tks 3)), (.int ((c 4) : Int) (tks 4))] re)]) r (by decide) (by kernel_rfl) ?_; intro h1 t1 r1 T1 G1 o1 z1
    refine value_call (bits_a i hi) o1 T1 G1 ?_
    intro h2 t2 tok x2
    obtain ⟨M2, z2⟩ : ∃ M2, h2.objs.size = M2 := ⟨_, rfl⟩
    refine goS r1 _ [4] x2 z2 (by kernel_rfl) ?_; intro _ r2
    refine cutS 550 0 (n := 1) (hs := []) (c := (.call (.builtin "list.append") ⟨[(.ref acc), (.int (valR (fun j => (↑(c j) : Int)) (↑i : Int)) tok)], []⟩)) (idx := [1]) (Lf := fun F => [(acc, oList zs ep)]) r2 (by decide) (by kernel_rfl) ?_; intro h3 t3 r3 T3 G3 o3 z3
    refine lf_append (G3.nw _ (.head _)) hz z3 ?_
    intro h4 x4 z4
    refine goS r3 _ [1] x4 z4 (by kernel_rfl) ?_; intro _ r4
    refine agS 0 (n := 0) (hs := []) (c := (cva (PP w b1 b2) it acc loc)) (q := 0) (idx := [0,1,2,3,4]) (idn := []) (Lf := fun F => ([(it, ⟨.type "range_iterator", none, .fields #[.int ((i + 1 : Nat) : Int) 0, .int (((m + 1 : Nat) : Int) - 1) 0, .int 1 0], #[]⟩), (acc, oList (zs ++ [.int (valR (fun j => (c j : Int)) (i : Int)) tok]) (ep + 1)), (loc, oX sX (some (hOf F 2 0, kOf F 2 0, .int (i : Int) t0))), (167, oCell (.ref rk)), (rk, oList (cV c tks) re)])) (Nf := fun F => ([])) r4 (by decide) (by kernel_rfl) ?_; intro h5 t5 x5 z5 T5 G5
    rw [show ((↑(m + 1) : Int) - 1) = (m : Int) by omega] at x5 G5
    exact k h5 t5 tok (_, _, _) x5 T5 G5
  · refine cutS 550 0 (n := 29) (hs := [1,1,1,1,1,1,1,1,1,3,3,0,4,3,0]) (c := (.call (.ref 152) ⟨[(.ref rk), (.int (i : Int) t0)], []⟩)) (idx := [4]) (Lf := fun F => [(rk, oList [(.int ((c 0) : Int) (tks 0)), (.int ((c 1) : Int) (tks 1)), (.int ((c 2) : Int) (tks 2)), (.int ((c 3) : Int) (tks 3)), (.int ((c 4) : Int) (tks 4))] re)]) r (by decide) (by kernel_rfl) ?_; intro h1 t1 r1 T1 G1 o1 z1
    refine value_call (bits_a i hi) o1 T1 G1 ?_
    intro h2 t2 tok x2
    obtain ⟨M2, z2⟩ : ∃ M2, h2.objs.size = M2 := ⟨_, rfl⟩
    refine goS r1 _ [4] x2 z2 (by kernel_rfl) ?_; intro _ r2
    refine cutS 550 0 (n := 1) (hs := []) (c := (.call (.builtin "list.append") ⟨[(.ref acc), (.int (valR (fun j => (↑(c j) : Int)) (↑i : Int)) tok)], []⟩)) (idx := [1]) (Lf := fun F => [(acc, oList zs ep)]) r2 (by decide) (by kernel_rfl) ?_; intro h3 t3 r3 T3 G3 o3 z3
    refine lf_append (G3.nw _ (.head _)) hz z3 ?_
    intro h4 x4 z4
    refine goS r3 _ [1] x4 z4 (by kernel_rfl) ?_; intro _ r4
    refine agS 0 (n := 0) (hs := []) (c := (cva (PP w b1 b2) it acc loc)) (q := 0) (idx := [0,1,2,3,4]) (idn := []) (Lf := fun F => ([(it, ⟨.type "range_iterator", none, .fields #[.int ((i + 1 : Nat) : Int) 0, .int (((m + 1 : Nat) : Int) - 1) 0, .int 1 0], #[]⟩), (acc, oList (zs ++ [.int (valR (fun j => (c j : Int)) (i : Int)) tok]) (ep + 1)), (loc, oX sX (some (u1, u2, .int (i : Int) t0))), (167, oCell (.ref rk)), (rk, oList (cV c tks) re)])) (Nf := fun F => ([])) r4 (by decide) (by kernel_rfl) ?_; intro h5 t5 x5 z5 T5 G5
    rw [show ((↑(m + 1) : Int) - 1) = (m : Int) by omega] at x5 G5
    exact k h5 t5 tok (_, _, _) x5 T5 G5)
theorem va_all {it acc loc rk : Addr} {ep re : Nat} {c : Nat → Nat} {tks : Nat → Tok} (hA : Okk A 450) (T : Tp (kP w b1 b2) h)
    (G : Giv (kP w b1 b2) h (Lva it acc loc rk 0 5 [] ep none c tks re))
    (kk : ∀ h' t' (tq : Nat → Tok) ep' oi ox', Af h [(it, oi), (acc, oList ([.int (valR (fun j => (c j : Int)) ((0 : Nat) : Int)) (tq 0), .int (valR (fun j => (c j : Int)) ((1 : Nat) : Int)) (tq 1), .int (valR (fun j => (c j : Int)) ((2 : Nat) : Int)) (tq 2), .int (valR (fun j => (c j : Int)) ((3 : Nat) : Int)) (tq 3), .int (valR (fun j => (c j : Int)) ((4 : Nat) : Int)) (tq 4)]) ep'), (loc, oX sX (some ox')), (167, oCell (.ref rk)), (rk, oList (cV c tks) re)] [] h' → R (.ok .next) ⟨h', gs, dr, t', os⟩) :
    CA w b1 b2 A (cva (PP w b1 b2) it acc loc) R ⟨h, gs, dr, t0, os⟩ := by
  refine va_turn (by decide) (by decide) hA T G fun h1 t1 k1 ox1 x1 T1 G1 => ?_
  refine va_turn (by decide) (by simp) hA T1 G1 fun h2 t2 k2 ox2 x2 T2 G2 => ?_
  refine va_turn (by decide) (by simp) hA T2 G2 fun h3 t3 k3 ox3 x3 T3 G3 => ?_
  refine va_turn (by decide) (by simp) hA T3 G3 fun h4 t4 k4 ox4 x4 T4 G4 => ?_
  refine va_turn (by decide) (by simp) hA T4 G4 fun h5 t5 k5 ox5 x5 T5 G5 => ?_
  have x := (((x1.trans x2 rfl).trans x3 rfl).trans x4 rfl).trans x5 rfl
  revert b1
  refine @bothB _ ?_ ?_ <;> set_option tactic.hygienic false in intros
  all_goals (
  refine goC hA T5 G5 (by kernel_rfl) ?_; intro _ _ r
  obtain ⟨u1, u2, u3⟩ := ox5
  refine endS 2 (n := 14) (hs := [1,1,1,1,1,1]) (fl := (.next)) (q := 2) (idx := [2,3,4,5,6]) (idn := []) (Lf := fun F => ([(it, objOf F 2), (acc, oList ([.int (valR (fun j => (c j : Int)) ((0 : Nat) : Int)) k1, .int (valR (fun j => (c j : Int)) ((1 : Nat) : Int)) k2, .int (valR (fun j => (c j : Int)) ((2 : Nat) : Int)) k3, .int (valR (fun j => (c j : Int)) ((3 : Nat) : Int)) k4, .int (valR (fun j => (c j : Int)) ((4 : Nat) : Int)) k5]) (ep + 1 + 1 + 1 + 1 + 1)), (loc, oX sX (some (u1, u2, u3))), (167, oCell (.ref rk)), (rk, oList (cV c tks) re)])) (Nf := fun F => ([])) r (by decide) (by kernel_rfl) ?_; intro h6 t6 x6 z6
  exact kk h6 t6 (atNo 0 [k1, k2, k3, k4, k5]) _ _ (u1, u2, u3) (x.trans x6 rfl))
noncomputable abbrev evb (P : Params) : Expr := lawE P 16 [1]
noncomputable abbrev cvb (P : Params) (it acc loc : Addr) : Code := cComp P (evb P) it acc loc [(sRooks, 166)] 159
noncomputable abbrev Lvb (it acc loc rk : Addr) (i m : Nat) (zs : List Value) (ep : Nat) (ox : Option (Int × Tok × Value)) (c : Nat → Nat) (tks : Nat → Tok) (re : Nat) : List (Addr × Obj) := [(it, oRit i m), (acc, oList zs ep), (loc, oX sX ox), (166, oCell (.ref rk)), (rk, oList (cV c tks) re)]
theorem vb_turn {it acc loc rk : Addr} {i m : Nat} {zs : List Value} {ep re : Nat} {ox : Option (Int × Tok × Value)} {c : Nat → Nat} {tks : Nat → Tok} (hi : i < 5) (hz : zs.length ≤ 1000) (hA : Okk A 450) (T : Tp (kP w b1 b2) h)
    (G : Giv (kP w b1 b2) h (Lvb it acc loc rk i (m + 1) zs ep ox c tks re))
    (k : ∀ h' t' tok ox', Af h (Lvb it acc loc rk (i + 1) m (zs ++ [.int (valR (fun j => (c j : Int)) (-(i : Int) - 1)) tok]) (ep + 1) (some ox') c tks re) [] h' → Tp (kP w b1 b2) h' → Giv (kP w b1 b2) h' (Lvb it acc loc rk (i + 1) m (zs ++ [.int (valR (fun j => (c j : Int)) (-(i : Int) - 1)) tok]) (ep + 1) (some ox') c tks re) → CA w b1 b2 A (cvb (PP w b1 b2) it acc loc) R ⟨h', gs, dr, t', os⟩) :
    CA w b1 b2 A (cvb (PP w b1 b2) it acc loc) R ⟨h, gs, dr, t0, os⟩ := by
  revert b1
  refine @bothB _ ?_ ?_ <;> set_option tactic.hygienic false in intros
  all_goals (
  refine goC hA T G (by kernel_rfl) ?_; intro _ _ r
  obtain _ | ⟨u1, u2, u3⟩ := ox
  · refine cutS 550 0 (n := 40) (hs := [1,1,1,1,1,1,1,1,1,3,3,0,4,3,0]) (c := ((.call (.ref 152) ⟨[.ref rk, .int (-(i : Int) - 1) (t0 + 4)], []⟩))) (idx := [4]) (Lf := fun F => ([(rk, oList (cV c tks) re)])) r (by decide) (by kernel_rfl) ?_; intro h1 t1 r1 T1 G1 o1 z1
    refine value_call (bits_b i hi) o1 T1 G1 ?_
    intro h2 t2 tok x2
    obtain ⟨M2, z2⟩ : ∃ M2, h2.objs.size = M2 := ⟨_, rfl⟩
    refine goS r1 _ [4] x2 z2 (by kernel_rfl) ?_; intro _ r2
    refine cutS 550 0 (n := 1) (hs := []) (c := (.call (.builtin "list.append") ⟨[(.ref acc), (.int (valR (fun j => (↑(c j) : Int)) (-(↑i : Int) - 1)) tok)], []⟩)) (idx := [1]) (Lf := fun F => [(acc, oList zs ep)]) r2 (by decide) (by kernel_rfl) ?_; intro h3 t3 r3 T3 G3 o3 z3
    refine lf_append (G3.nw _ (.head _)) hz z3 ?_
    intro h4 x4 z4
    refine goS r3 _ [1] x4 z4 (by kernel_rfl) ?_; intro _ r4
    refine agS 0 (n := 0) (hs := []) (c := (cvb (PP w b1 b2) it acc loc)) (q := 0) (idx := [0,1,2,3,4]) (idn := []) (Lf := fun F => ([(it, ⟨.type "range_iterator", none, .fields #[.int ((i + 1 : Nat) : Int) 0, .int (((m + 1 : Nat) : Int) - 1) 0, .int 1 0], #[]⟩), (acc, oList (zs ++ [.int (valR (fun j => (c j : Int)) (-(i : Int) - 1)) tok]) (ep + 1)), (loc, oX sX (some (hOf F 2 0, kOf F 2 0, .int (i : Int) t0))), (166, oCell (.ref rk)), (rk, oList (cV c tks) re)])) (Nf := fun F => ([])) r4 (by decide) (by kernel_rfl) ?_; intro h5 t5 x5 z5 T5 G5
    rw [show ((↑(m + 1) : Int) - 1) = (m : Int) by omega] at x5 G5
    exact k h5 t5 tok (_, _, _) x5 T5 G5
  · refine cutS 550 0 (n := 40) (hs := [1,1,1,1,1,1,1,1,1,3,3,0,4,3,0]) (c := ((.call (.ref 152) ⟨[.ref rk, .int (-(i : Int) - 1) (t0 + 4)], []⟩))) (idx := [4]) (Lf := fun F => ([(rk, oList (cV c tks) re)])) r (by decide) (by kernel_rfl) ?_; intro h1 t1 r1 T1 G1 o1 z1
    refine value_call (bits_b i hi) o1 T1 G1 ?_
    intro h2 t2 tok x2
    obtain ⟨M2, z2⟩ : ∃ M2, h2.objs.size = M2 := ⟨_, rfl⟩
    refine goS r1 _ [4] x2 z2 (by kernel_rfl) ?_; intro _ r2
    refine cutS 550 0 (n := 1) (hs := []) (c := (.call (.builtin "list.append") ⟨[(.ref acc), (.int (valR (fun j => (↑(c j) : Int)) (-(↑i : Int) - 1)) tok)], []⟩)) (idx := [1]) (Lf := fun F => [(acc, oList zs ep)]) r2 (by decide) (by kernel_rfl) ?_; intro h3 t3 r3 T3 G3 o3 z3
    refine lf_append (G3.nw _ (.head _)) hz z3 ?_
    intro h4 x4 z4
    refine goS r3 _ [1] x4 z4 (by kernel_rfl) ?_; intro _ r4
    refine agS 0 (n := 0) (hs := []) (c := (cvb (PP w b1 b2) it acc loc)) (q := 0) (idx := [0,1,2,3,4]) (idn := []) (Lf := fun F => ([(it, ⟨.type "range_iterator", none, .fields #[.int ((i + 1 : Nat) : Int) 0, .int (((m + 1 : Nat) : Int) - 1) 0, .int 1 0], #[]⟩), (acc, oList (zs ++ [.int (valR (fun j => (c j : Int)) (-(i : Int) - 1)) tok]) (ep + 1)), (loc, oX sX (some (u1, u2, .int (i : Int) t0))), (166, oCell (.ref rk)), (rk, oList (cV c tks) re)])) (Nf := fun F => ([])) r4 (by decide) (by kernel_rfl) ?_; intro h5 t5 x5 z5 T5 G5
    rw [show ((↑(m + 1) : Int) - 1) = (m : Int) by omega] at x5 G5
    exact k h5 t5 tok (_, _, _) x5 T5 G5)
theorem vb_all {it acc loc rk : Addr} {ep re : Nat} {c : Nat → Nat} {tks : Nat → Tok} (hA : Okk A 450) (T : Tp (kP w b1 b2) h)
    (G : Giv (kP w b1 b2) h (Lvb it acc loc rk 0 5 [] ep none c tks re))
    (kk : ∀ h' t' (tq : Nat → Tok) ep' oi ox', Af h [(it, oi), (acc, oList ([.int (valR (fun j => (c j : Int)) (-((0 : Nat) : Int) - 1)) (tq 0), .int (valR (fun j => (c j : Int)) (-((1 : Nat) : Int) - 1)) (tq 1), .int (valR (fun j => (c j : Int)) (-((2 : Nat) : Int) - 1)) (tq 2), .int (valR (fun j => (c j : Int)) (-((3 : Nat) : Int) - 1)) (tq 3), .int (valR (fun j => (c j : Int)) (-((4 : Nat) : Int) - 1)) (tq 4)]) ep'), (loc, oX sX (some ox')), (166, oCell (.ref rk)), (rk, oList (cV c tks) re)] [] h' → R (.ok .next) ⟨h', gs, dr, t', os⟩) :
    CA w b1 b2 A (cvb (PP w b1 b2) it acc loc) R ⟨h, gs, dr, t0, os⟩ := by
  refine vb_turn (by decide) (by decide) hA T G fun h1 t1 k1 ox1 x1 T1 G1 => ?_
  refine vb_turn (by decide) (by simp) hA T1 G1 fun h2 t2 k2 ox2 x2 T2 G2 => ?_
  refine vb_turn (by decide) (by simp) hA T2 G2 fun h3 t3 k3 ox3 x3 T3 G3 => ?_
  refine vb_turn (by decide) (by simp) hA T3 G3 fun h4 t4 k4 ox4 x4 T4 G4 => ?_
  refine vb_turn (by decide) (by simp) hA T4 G4 fun h5 t5 k5 ox5 x5 T5 G5 => ?_
  have x := (((x1.trans x2 rfl).trans x3 rfl).trans x4 rfl).trans x5 rfl
  revert b1
  refine @bothB _ ?_ ?_ <;> set_option tactic.hygienic false in intros
  all_goals (
  refine goC hA T5 G5 (by kernel_rfl) ?_; intro _ _ r
  obtain ⟨u1, u2, u3⟩ := ox5
  refine endS 2 (n := 14) (hs := [1,1,1,1,1,1]) (fl := (.next)) (q := 2) (idx := [2,3,4,5,6]) (idn := []) (Lf := fun F => ([(it, objOf F 2), (acc, oList ([.int (valR (fun j => (c j : Int)) (-((0 : Nat) : Int) - 1)) k1, .int (valR (fun j => (c j : Int)) (-((1 : Nat) : Int) - 1)) k2, .int (valR (fun j => (c j : Int)) (-((2 : Nat) : Int) - 1)) k3, .int (valR (fun j => (c j : Int)) (-((3 : Nat) : Int) - 1)) k4, .int (valR (fun j => (c j : Int)) (-((4 : Nat) : Int) - 1)) k5]) (ep + 1 + 1 + 1 + 1 + 1)), (loc, oX sX (some (u1, u2, u3))), (166, oCell (.ref rk)), (rk, oList (cV c tks) re)])) (Nf := fun F => ([])) r (by decide) (by kernel_rfl) ?_; intro h6 t6 x6 z6
  exact kk h6 t6 (atNo 0 [k1, k2, k3, k4, k5]) _ _ (u1, u2, u3) (x.trans x6 rfl))
end
end Mine
end
section
open PySem PySem.W PyProof.Rows PySem.W.X PySem.SeqAt
namespace Mine
theorem eval_cmp1 {prog : Program} {w : World} {A : Around} {E : Value → Shared → Prop} {s : Shared} {env : Env} {l r : Expr} {op : CmpOp} {pos : Pos} {Q : Value → Shared → Prop}
    (h : wpAny (model prog w) A (eval l env) (fun a s₁ => wpAny (model prog w) A (eval r env) (fun b s₂ => wpAny (model prog w) A (compareOp op a b) Q E s₂) E s₁) E s)
    (hm : behindInMarks op r = false) : wpAny (model prog w) A (eval (.Compare l [op] [r] pos) env) Q E s := fun Γ p hΓ => by
  simp only [eval_Compare1, markedBehindIn_of_false hm, Sem.wp_bind', Sem.wp_holding, Sem.wp_cmd_standAt, Sem.wp_operate]
  exact Sem.wp_mono (model prog w) Γ _ (fun a p₁ s₁ h₁ => Sem.wp_mono (model prog w) Γ _ (fun b _ s₂ h₂ => h₂ Γ _ hΓ)
    (fun _ _ _ h' => h') _ _ (h₁ Γ p₁ hΓ)) (fun _ _ _ h' => h') _ _ (h Γ p hΓ)
theorem eq_lists {prog : Program} {w : World} {A : Around} {E Q : Value → Shared → Prop} {s : Shared} {l b : Addr} {xs ys : List Value} {n1 n2 : Nat} (hl : s.heap.get? l = some (oList xs n1)) (hb : s.heap.get? b = some (oList ys n2)) (hsz : xs.length = ys.length) (hu : A.units < cLine)
    (he : ∀ j (h1 : j < xs.toArray.size) (h2 : j < ys.toArray.size), EqAt A.in1 s xs.toArray[j] ys.toArray[j] true) (h : Q (.bool true) s) : wpAny (model prog w) A (compareOp .Eq (.ref l) (.ref b)) Q E s := by
  have e : ((List.range xs.toArray.size).all fun _ => true) = true := by simp
  refine richCompare_meets_room (op := .Eq) ⟨_, hl, rfl⟩ ⟨_, hb, rfl⟩ F.slot_list_eq F.entry_list_eq (F.args_list_eq_2 _ _) (list_eqAt l b xs.toArray ys.toArray n1 n2 none none #[] #[] (by simpa using hsz) fun _ => true) ⟨hl, hb, he, ?_⟩ hu
  rw [e]
  exact ⟨fun x => (nomatch x), h⟩
section
variable {w : World} {b1 b2 : Bool} {A : Around} {R : Result → Shared → Prop} {hB h : Heap} {gs : Array GenState} {dr : Drawn} {t0 N : Nat} {os : OsState}
theorem st16 {cE cD cS cT cRd : Obj} {xs : List Value} {ep : Nat} {cd cx pl nl bl rl rk ro : Addr} {re re' : Nat} {c c' : Nat → Nat} {tks tks' : Nat → Tok} {D C : Value} {hd hc hp hn hb hr hl hh : Int} {kd kc kp kn kb kr kl tk kh tk' : Tok} (hu : A.units ≤ 9000)
    (hv : ∀ x : Nat, x < 5 → valR (fun j => (c' j : Int)) (x : Int) = valR (fun j => (c j : Int)) (-(x : Int) - 1))
    (r : OkL w b1 b2 A R hB 16 ((ro, oList (cV c' tks') re') :: (rk, oList (cV c tks) re) :: lawL (tab1 cd cx) (es7 hd hc kd kc D C hp kp pl hn kn nl hb kb bl hr kr rl hl kl tk ++ [⟨hh, .str sBehind kh, .str ⟨#[]⟩ tk'⟩]) 8 (oCell (.ref ro)) (oCell (.ref rk)) cT cRd cS cE cD xs ep) h N t0)
    (k : ∀ h' t', Af hB [(130, tab1 cd cx), (158, oList xs ep)] [] h' → R (.ok (.ret (.bool true))) ⟨h', gs, dr, t', os⟩) :
    GoL w b1 b2 A R 16 ((ro, oList (cV c' tks') re') :: (rk, oList (cV c tks) re) :: lawL (tab1 cd cx) (es7 hd hc kd kc D C hp kp pl hn kn nl hb kb bl hr kr rl hl kl tk ++ [⟨hh, .str sBehind kh, .str ⟨#[]⟩ tk'⟩]) 8 (oCell (.ref ro)) (oCell (.ref rk)) cT cRd cS cE cD xs ep) ⟨h, gs, dr, t0, os⟩ := by
  refine law_next (by kernel_rfl) ?_
  have e16 : lw (PP w b1 b2) 16 = .Return (some (.Compare (lawE (PP w b1 b2) 16 [0]) [.Eq] [lawE (PP w b1 b2) 16 [1]] (posOfE (lawE (PP w b1 b2) 16 [])))) (posOfS (lw (PP w b1 b2) 16)) := by kernel_rfl
  rw [e16]
  have un : (A.under (lawC (PP w b1 b2) 0)).units = A.units + 3 := rfl
  have cl : cLine = 9900 := rfl
  refine wpAny_Return_some (eval_cmp1 ?_ (by kernel_rfl))
  refine evL r.ld fun r1 => ?_
  revert b1
  refine @bothB _ ?_ ?_ <;> set_option tactic.hygienic false in intros
  all_goals (
  refine cutS 450 4 (n := 38) (hs := [0,0,1,1,1,1,1,1,1,1,1,1,1]) (c := (.compStart (eva (PP w b1 b2)) 0 (.ref (N + 1)) (.ref (N + 2)) (envL (PP w b1 b2) (eva (PP w b1 b2)) (N + 3) ([(sOthers, 167)]) (159)))) (idx := [2,1,0,7,4]) (Lf := fun F => [((N + 1), ⟨(.type "range_iterator"), Option.none, (.fields #[(.int 0 0), (.int 5 0), (.int 1 0)]), #[]⟩), ((N + 2), oList [] 0), ((N + 3), oD [] 0), (167, ⟨(.type "cell"), Option.none, (.cell (Option.some (.ref ro))), #[]⟩), (ro, oList [(.int ((c' 0) : Int) (tks' 0)), (.int ((c' 1) : Int) (tks' 1)), (.int ((c' 2) : Int) (tks' 2)), (.int ((c' 3) : Int) (tks' 3)), (.int ((c' 4) : Int) (tks' 4))] re')]) r1 (by decide) (by kernel_rfl) ?_; intro h2 t2 r3 T3 G3 o3 z3
  refine comp_start (by kernel_rfl) (.range ⟨_, G3.nw _ (.head _), rfl⟩) ?_
  refine va_all o3 T3 G3 ?_
  intro h4 t4 qa ep4 oi4 ox4 x4
  obtain ⟨M4, z4⟩ : ∃ M4, h4.objs.size = M4 := ⟨_, rfl⟩
  obtain ⟨u1, u2, u3⟩ := ox4
  refine goS r3 _ [2,1,0,7,4] x4 z4 (by kernel_rfl) ?_; intro _ r4
  refine enS 0 (n := 5) (hs := [1,1,1]) (v := (.ref (N + 2))) (c := (lawC (PP w b1 b2) 0)) (dp := 351) (q := 15) (idx := [15,16]) (idn := [1,4,5,6,7,8,9,10,11,12,13,14]) (Lf := fun F => ([(130, tab1 cd cx), (158, oList xs ep)])) (Nf := fun F => ((N + 2, oList ([.int (valR (fun j => (c' j : Int)) ((0 : Nat) : Int)) (qa 0), .int (valR (fun j => (c' j : Int)) ((1 : Nat) : Int)) (qa 1), .int (valR (fun j => (c' j : Int)) ((2 : Nat) : Int)) (qa 2), .int (valR (fun j => (c' j : Int)) ((3 : Nat) : Int)) (qa 3), .int (valR (fun j => (c' j : Int)) ((4 : Nat) : Int)) (qa 4)]) ep4) :: ((ro, oList (cV c' tks') re') :: (rk, oList (cV c tks) re) :: tlL (es7 hd hc kd kc D C hp kp pl hn kn nl hb kb bl hr kr rl hl kl tk ++ [⟨hh, .str sBehind kh, .str ⟨#[]⟩ tk'⟩]) 8 (oCell (.ref ro)) (oCell (.ref rk)) cT cRd cS cE cD))) r4 (by decide) (by kernel_rfl) (by kernel_rfl) ?_; intro h5 t5 l5
  refine evL l5 fun r5 => ?_
  refine cutS 450 4 (n := 38) (hs := [0,0,1,1,1,1,1,1,1,1,1,1,1]) (c := (.compStart (evb (PP w b1 b2)) 0 (.ref (M4 + 0 + 1)) (.ref (M4 + 0 + 2)) (envL (PP w b1 b2) (evb (PP w b1 b2)) (M4 + 0 + 3) ([(sRooks, 166)]) (159)))) (idx := [2,1,0,9,6]) (Lf := fun F => [((M4 + 0 + 1), ⟨(.type "range_iterator"), Option.none, (.fields #[(.int 0 0), (.int 5 0), (.int 1 0)]), #[]⟩), ((M4 + 0 + 2), oList [] 0), ((M4 + 0 + 3), oD [] 0), (166, ⟨(.type "cell"), Option.none, (.cell (Option.some (.ref rk))), #[]⟩), (rk, oList [(.int ((c 0) : Int) (tks 0)), (.int ((c 1) : Int) (tks 1)), (.int ((c 2) : Int) (tks 2)), (.int ((c 3) : Int) (tks 3)), (.int ((c 4) : Int) (tks 4))] re)]) r5 (by decide) (by kernel_rfl) ?_; intro h6 t6 r6 T6 G6 o6 z6
  refine comp_start (by kernel_rfl) (.range ⟨_, G6.nw _ (.head _), rfl⟩) ?_
  refine vb_all o6 T6 G6 ?_
  intro h7 t7 qb ep7 oi7 ox7 x7
  obtain ⟨M7, z7⟩ : ∃ M7, h7.objs.size = M7 := ⟨_, rfl⟩
  obtain ⟨v1, v2, v3⟩ := ox7
  refine goS r6 _ [2,1,0,9,6] x7 z7 (by kernel_rfl) ?_; intro _ r7
  refine enS 0 (n := 5) (hs := [1,1,1]) (v := (.ref (M4 + 2))) (c := (lawC (PP w b1 b2) 0)) (dp := 351) (q := 16) (idx := [16,17]) (idn := [4,1]) (Lf := fun F => ([(130, tab1 cd cx), (158, oList xs ep)])) (Nf := fun F => ([(N + 2, oList ([.int (valR (fun j => (c' j : Int)) ((0 : Nat) : Int)) (qa 0), .int (valR (fun j => (c' j : Int)) ((1 : Nat) : Int)) (qa 1), .int (valR (fun j => (c' j : Int)) ((2 : Nat) : Int)) (qa 2), .int (valR (fun j => (c' j : Int)) ((3 : Nat) : Int)) (qa 3), .int (valR (fun j => (c' j : Int)) ((4 : Nat) : Int)) (qa 4)]) ep4), (M4 + 0 + 2, oList ([.int (valR (fun j => (c j : Int)) (-((0 : Nat) : Int) - 1)) (qb 0), .int (valR (fun j => (c j : Int)) (-((1 : Nat) : Int) - 1)) (qb 1), .int (valR (fun j => (c j : Int)) (-((2 : Nat) : Int) - 1)) (qb 2), .int (valR (fun j => (c j : Int)) (-((3 : Nat) : Int) - 1)) (qb 3), .int (valR (fun j => (c j : Int)) (-((4 : Nat) : Int) - 1)) (qb 4)]) ep7)])) r7 (by decide) (by kernel_rfl) (by kernel_rfl) ?_; intro h8 t8 l8
  refine eq_lists (l8.get (i := 0) rfl) (l8.get (i := 1) rfl) rfl (by rw [un]; omega) ?_ ?_
  · intro j h1 h2
    have l1 : j < 5 := h1
    have e : ∀ x : Nat, x < 5 → ∀ (a b : Tok), EqAt (A.under (lawC (PP w b1 b2) 0)).in1 ⟨h8, gs, dr, t8, os⟩ (.int (valR (fun j => (c' j : Int)) (x : Int)) a) (.int (valR (fun j => (c j : Int)) (-(x : Int) - 1)) b) true := fun x hx a b => by
      have q := EqAt.int_int (A := (A.under (lawC (PP w b1 b2) 0)).in1) (s := ⟨h8, gs, dr, t8, os⟩) (valR (fun j => (c' j : Int)) (x : Int)) a (valR (fun j => (c j : Int)) (-(x : Int) - 1)) b
      rw [hv x hx, beq_self_eq_true] at q
      rw [hv x hx]
      exact q
    match j, l1 with
    | 0, _ => exact e 0 (by decide) _ _
    | 1, _ => exact e 1 (by decide) _ _
    | 2, _ => exact e 2 (by decide) _ _
    | 3, _ => exact e 3 (by decide) _ _
    | 4, _ => exact e 4 (by decide) _ _
  · have r8 : Ok w b1 b2 A R 350 hB [130,158] ⟨lawC (PP w b1 b2) 0, [], finT (.ret (.bool true)), 351, 0, 0, _⟩ h8 _ t8 := l8.ok
    have x8 : Af hB [(130, tab1 cd cx), (158, oList xs ep)] [] h8 := r8.af (q := 2) (idx := [2,3]) (idn := []) (by decide) rfl rfl (fun i hi => nomatch hi) rfl rfl
    exact wpAny_pure ⟨l8.R.lim l8.D, k _ _ x8⟩)
end
end Mine
end
section
open PySem PySem.W PyProof.Rows PySem.W.X
namespace Mine
section
variable {w : World} {b1 b2 : Bool} {A : Around} {R : Result → Shared → Prop} {h : Heap} {gs : Array GenState} {dr : Drawn} {t0 N : Nat} {os : OsState}
theorem vals_eq {B : Nat → Bool} {c c' : Nat → Nat}
    (hc : ∀ j, (c j : Int) = cntQ (lineQ (fun i => B (4 * 0 + i) == true) (fun i => B (4 * 1 + i) == true) (fun i => B (4 * 2 + i) == true) (fun i => B (4 * 3 + i) == true)) j)
    (hc' : ∀ j, (c' j : Int) = cntQ (lineQ (fun i => B (4 * 0 + i) == false) (fun i => B (4 * 1 + i) == false) (fun i => B (4 * 2 + i) == false) (fun i => B (4 * 3 + i) == false)) j) (x : Nat) (hx : x < 5) :
    valR (fun j => (c' j : Int)) (x : Int) = valR (fun j => (c j : Int)) (-(x : Int) - 1) := by
  have e1 : (fun j => (c j : Int)) = cntQ (lineQ (fun i => B (4 * 0 + i)) (fun i => B (4 * 1 + i)) (fun i => B (4 * 2 + i)) (fun i => B (4 * 3 + i))) := by
    funext j
    rw [hc j]
    simp only [beq_true]
  have e2 : (fun j => (c' j : Int)) = cntQ (lineQ (fun i => !B (4 * 0 + i)) (fun i => !B (4 * 1 + i)) (fun i => !B (4 * 2 + i)) (fun i => !B (4 * 3 + i))) := by
    funext j
    rw [hc' j]
    simp only [beq_false]
  rw [e1, e2]
  exact line_law _ _ _ _ hx
theorem told_at {q : List (Str × Tok)} {bs : List Bool} (hbs : bs.length = 16) (hq : q.map (·.1) = bs.map tokStr ++ [⟨#[]⟩]) : ∀ j, j < 16 → ∃ t, (strValues q)[j]? = some (.str (tokStr (bs.getD j false)) t) := by
  intro j hj
  have hl := congrArg List.length hq
  simp only [List.length_map, List.length_append, List.length_cons, List.length_nil] at hl
  have hjq : j < q.length := by omega
  refine ⟨q[j].2, ?_⟩
  have e := congrArg (fun l => l[j]?) hq
  simp only [List.getElem?_map, List.getElem?_eq_getElem hjq, Option.map_some] at e
  rw [List.getElem?_append_left (by rw [List.length_map]; omega), List.getElem?_map, List.getElem?_eq_getElem (by omega : j < bs.length), Option.map_some] at e
  have e2 : q[j].1 = tokStr bs[j] := Option.some.inj e
  have e3 : bs.getD j false = bs[j] := by rw [List.getD_eq_getElem?_getD, List.getElem?_eq_getElem (by omega)]; rfl
  rw [e3, ← e2]
  simp [strValues, hjq]
theorem law_runs {xs : List Value} {ep : Nat} (hA : Okk A 350) (hu : A.units ≤ 9000) (T : Tp (kP w b1 b2) h) (G : Giv (kP w b1 b2) h [(130, tab0), (158, oList xs ep)]) (hN : h.objs.size = 159) (hz : xs.length ≤ 1000) (hx : ∀ v ∈ xs, ∃ a t, v = Value.int a t)
    (k : ∀ h' t' cd cx, Af h [(130, tab1 cd cx), (158, oList xs ep)] [] h' → R (.ok (.ret (.bool true))) ⟨h', gs, dr, t', os⟩) :
    CA w b1 b2 A (.call (.ref 157) ⟨[.ref 158], []⟩) R ⟨h, gs, dr, t0, os⟩ := by
  refine st0 hA T G hN hz hx fun h1 t1 d0 d1 d2 d3 k0 k1 k2 k3 ez _ _ _ _ r1 => ?_
  refine st1 hz hx r1 fun h2 N2 t2 D hd kd td _ r2 => ?_
  refine st2 r2 fun h3 N3 t3 te e he r3 => ?_
  refine st3 r3 fun h4 N4 t4 ts s hs r4 => ?_
  refine st4 r4 fun h5 N5 t5 cl bs epc hc kc hbs r5 => ?_
  refine st5 hbs he r5 fun h6 N6 t6 x dx pb fs fd fr cd ct ca la cx o tp tl ocx r6 => ?_
  refine st6 hbs r6 fun h7 N7 t7 tda q etd p' tp' tl' hq r7 => ?_
  refine st7 hbs hq hu r7 fun h8 N8 t8 r8 => ?_
  refine st8 hs r8 fun h9 N9 t9 pl f epl hp kp r9 => ?_
  refine st9 hs hu r9 fun h10 N10 t10 nl q10 epn hn kn hq10 r10 => ?_
  refine st10 hq10 hu r10 fun h11 N11 t11 r11 => ?_
  have hB := told_at hbs hq
  refine st11 hB r11 fun h12 N12 t12 bl ρ epb hb kb hρ r12 => ?_
  refine st12 hB r12 fun h13 N13 t13 rl σ epr hr kr hσ r13 => ?_
  refine st13 hs hρ r13 fun h14 N14 t14 rk c tks re hl kl tk hcc r14 => ?_
  refine st14 hs hσ r14 fun h15 N15 t15 ro c' tks' re' hh kh tk' hcc' r15 => ?_
  refine st15 r15 fun h16 N16 t16 r16 => ?_
  exact st16 hu (vals_eq (B := fun j => bs.getD j false) hcc hcc') r16 fun h17 t17 x17 => k h17 t17 cd cx x17
end
end Mine
end
section
open PySem PySem.W PyProof.Rows PySem.W.X
namespace Mine
noncomputable abbrev f1 (w : World) : Bool := w.params.followText "special-get-raises"
noncomputable abbrev f2 (w : World) : Bool := w.params.followText "comprehension-iter-twice"
theorem pf_self (w : World) : Pf w.params (f1 w) (f2 w) = w.params := congrArg World.params (wf_self w)
theorem ints_all {vs : List Value} {ns : List Int} (hi : IntsAre vs ns) : ∀ v ∈ vs, ∃ a t, v = Value.int a t := by
  induction hi with
  | nil => intro v hv; cases hv
  | cons n t _ ih =>
    intro v hv
    rcases List.mem_cons.mp hv with rfl | hv
    · exact ⟨_, _, rfl⟩
    · exact ih v hv
theorem code_tab (P : Params) {h : Heap} (ZH : KT.Holds h 1 0 (topz.ktop_305 P)) : isCodeTable h 130 := by
  obtain ⟨o, ho⟩ : ∃ o, KT.get (topz.ktop_305 P) 134 = some o := Option.isSome_iff_exists.mp (by kernel_rfl)
  have c1 : ((KT.get (topz.ktop_305 P) 134).map (·.cls)) = some (.type "code") := by kernel_rfl
  have c2 : ((KT.get (topz.ktop_305 P) 134).map fun o => match o.data with | .fields vs => vs[11]? | _ => none) = some (some (.ref 130)) := by kernel_rfl
  rw [ho] at c1 c2
  obtain ⟨cls, d, data, sl⟩ := o
  have d1 : cls = .type "code" := Option.some.inj c1
  clear c1
  cases data with
  | fields vs => exact ⟨134, _, vs, kt_at ZH ho, d1, rfl, Option.some.inj c2⟩
  | _ => cases c2
theorem law_goal {w : World} {s₁ : Shared} {vs : List Value} {ns : List Int} {c : ClaimW} {cl : Str → Option Addr} {mean : ExcName → Option Value} {args : List WData} (hlim : s₁.heap.NoLimit) (ZH : KT.Holds s₁.heap 1 0 (topz.ktop_305 w.params)) (hsz : s₁.heap.objs.size = 158 + 1)
    (hol : s₁.heap.get? 158 = some { cls := .type "list", data := .seq vs.toArray }) (hi : IntsAre vs ns) (hb : vs.length = ns.length) (hn : ns.length ≤ 63) (hg : s₁.gens = #[]) (hr : ∀ cls, c.raises args cls = false) (hp : c.post args (.bool true) args = true) :
    wpAny (model PySem.Challenge.pw_re0026_01 w) callerA (call (.ref 157) [.ref 158]) (fun v s' => GoodWG c cl mean args s₁ (.ok (.ret v)) s') (fun e s' => GoodWG c cl mean args s₁ (.error e) s') s₁ := by
  obtain ⟨h, gs, dr, t0, os⟩ := s₁
  dsimp only at hlim ZH hsz hol hg
  have e := wf_self w
  have eP := pf_self w
  have T : Tp (kP w (f1 w) (f2 w)) h := by
    refine ⟨fun a o ea => ?_, hlim⟩
    unfold kP at ea
    rw [eP] at ea
    unfold Kt at ea
    split at ea
    · cases ea
    · exact kt_at ZH ea
  have g130 : h.get? 130 = some tab0 := kt_at ZH (by kernel_rfl)
  have G : Giv (kP w (f1 w) (f2 w)) h [(130, tab0), (158, oList vs 0)] := by
    refine ⟨fun p hp => ?_, (by show ([130, 158] : List Nat).Nodup; decide), fun p hp => ?_⟩
    · rcases List.mem_cons.mp hp with rfl | hp
      · exact g130
      · cases List.mem_singleton.mp hp; exact hol
    · unfold kP
      rcases List.mem_cons.mp hp with rfl | hp
      · kernel_rfl
      · cases List.mem_singleton.mp hp; kernel_rfl
  refine wpAny_call ?_
  have q : codeAny (model pw (Wf w (f1 w) (f2 w))) callerA (.call (.ref 157) ⟨[.ref 158], []⟩) (wants (fun v s' => GoodWG c cl mean args ⟨h, gs, dr, t0, os⟩ (.ok (.ret v)) s') (fun e s' => GoodWG c cl mean args ⟨h, gs, dr, t0, os⟩ (.error e) s')) ⟨h, gs, dr, t0, os⟩ := by
    refine law_runs ⟨by kernel_rfl, by decide⟩ (by decide) T G hsz (by omega) (ints_all hi) fun h' t' cd cx x => ?_
    show GoodWG c cl mean args ⟨h, gs, dr, t0, os⟩ (.ok (.ret (.bool true))) ⟨h', gs, dr, t', os⟩
    have k130 := x.a.nw _ (.head _)
    have k158 := x.a.nw _ (.tail _ (.head _))
    have keep : ∀ b o, h.get? b = some o → b ≠ 130 → h'.get? b = some o := fun b o eb hb => by
      by_cases h8 : b = 158
      · subst h8
        rw [hol] at eb
        cases eb
        exact k158
      · refine x.a.keep b o eb fun p hp ep => ?_
        rcases List.mem_cons.mp hp with rfl | hp
        · exact hb ep.symm
        · cases List.mem_singleton.mp hp; exact h8 ep.symm
    refine ⟨.inl ⟨_, _, [], rfl, hr, ReadsW.bool true, hp, fun _ => ⟨List.nodup_nil, fun _ hm => (nomatch hm)⟩⟩, ⟨fun b o eb => ?_, fun b o eb => ?_⟩, rfl, by rw [hg]; exact AllBare.empty⟩
    · by_cases h3 : b = 130
      · subst h3
        have : o = tab0 := Option.some.inj (eb.symm.trans g130)
        subst this
        refine .inr (.inl ⟨code_tab w.params ZH, rfl, #[], #[.int 81 0, .int 4 0, .ref cd, .int 85 0, .int 13 0, .ref cx], rfl, ?_⟩)
        rw [Array.empty_append]
        exact k130
      · exact .inl (keep b o eb h3)
    · by_cases h3 : b = 130
      · subst h3; exact ⟨_, k130⟩
      · exact ⟨o, keep b o eb h3⟩
  rw [e] at q
  exact q
end Mine
end
open PySem PySem.W PySem.W.X PySem.W.ZRun PyProof.Rows
theorem PySem.Challenge.cw_re0026_01_holds : PySem.Challenge.rw_re0026_01.Holds := by
  refine Mine.topz ?_
  k_fill
  intro w s₀ s₁ mg mb G y fa o pm cd doc dV kV ho hd hcd hD hmg hg args vals as L hpre hlay hrd hwl hlo
  z_open y L KX ZH ZN ZT
  refine Ground.open G ?_
  intro T B D TE TW
  wrow_args hpre hlay hrd hwl hlo
  obtain ⟨hat, hsz⟩ := script_at L
  have htk := script_toks L ZT
  rw [ZN] at hat hsz
  subst hat
  x_fa T KX hmg
  all_lens
  z_lists L
  z_lens
  exact Mine.law_goal T.nolimit ZH hsz ‹_› ‹IntsAre _ _› (And.left ‹_ ∧ _›) (by omega) hg (raisesW_false (by wrow_none_raised)) (by wrow_post)
