import PyProof.Rows.All
import Wide.All
import OpenK.AllK
import Wide.FinOn
import KE.KIntText
import PyProof.GenQ
import Lean
import PySem.Challenge.RW_wn0012_01
set_option Elab.async false
set_option linter.unusedVariables false
section Hd
open PySem PySem.W PyProof.Rows
namespace Mine
set_option maxRecDepth 100000 in
set_option maxHeartbeats 8000000 in
open_top wn_hd for PySem.Challenge.rw_wn0012_01
end Mine
end Hd
section PartA
open PySem PySem.W PyProof.Rows PySem.Calls PySem.Spec
namespace Mine
def Ext (h h' : Heap) : Prop := ∀ b o, h.get? b = some o → h'.get? b = some o

theorem frag_WnA : Mine.wn_hd.heap_39 = Mine.wn_hd.heap_39 ∧ PySem.Challenge.rw_wn0012_01 = PySem.Challenge.rw_wn0012_01 := by
  k_fill
  exact ⟨rfl, rfl⟩

theorem enter {w : World} {A : Around} {E : Value → Shared → Prop} {s : Shared} {Q : Value → Shared → Prop} {K : Frag}
    {name qual : Str} {params : Arguments} {body : List Stmt} {scope : Scope} {cl : List (Str × Addr)} {dV kV doc pm cdv ct oc : Value} {an od : Option Addr} {osl : Array (Option Value)} {f : Addr} {args : List Value} {binds : List (Str × Value)}
    (X : K.In s.heap) (hlim : s.heap.NoLimit) (hroom : A.depth < recursionLimit)
    (ho : K.lookup f = some ⟨oc, od, .func (fnX name qual params body scope cl dV kV doc pm an cdv ct), osl⟩) (hcd : codeIn K cdv qual = true)
    (hbind : BindsTo s (fnX name qual params body scope cl dV kV doc pm an cdv ct) ⟨args, []⟩ binds) (hloc : ∀ y ∈ binds, scope.names.lookup y.1 = some .local)
    (h : ∀ h₁ tk₁, Fr s.heap s.heap.objs.size h₁ (fun y => binds.reverse.lookup y) →
      wpAny (model PySem.Challenge.rw_wn0012_01.row.prog w) (A.deeper (envX qual scope s.heap.objs.size f cdv cl)) (execs body (envX qual scope s.heap.objs.size f cdv cl))
        (fun fl s' => Q (match fl with | .ret v => v | _ => .none) s') (fun _ _ => False) { s with heap := h₁, toks := tk₁ })
    (hcell : ∀ x ∈ scope.names, x.2 ≠ .cell) (hco : scope.isCoroutine = false) (hgen : scope.isGenerator = false) (hk : scope.kind = .function) :
    wpAny (model PySem.Challenge.rw_wn0012_01.row.prog w) A (PySem.call (.ref f) args) Q E s := by
  refine wpAny_call ?_
  refine codeAny_call_def (fd := fnX name qual params body scope cl dV kV doc pm an cdv ct) (body := body) (binds := binds) hroom (X _ _ ho) rfl hlim (codeRec_of X hcd) rfl hbind hcell hloc (fun h₁ hns hk₁ => ?_) hco hgen hk
  refine wpAny_mono (h h₁ _ ⟨hns, hk₁, Nat.le_refl _⟩) (fun fl s' hq => ?_) fun _ _ x => x.elim
  exact hq

def partsZ (f s t : Int) : Int :=
  if s = 0 then 6 / f else if s = 127 then 7 - f else
  if t = 0 then 2 + Int.fdiv ((6 - f - s) + s - 1) s else if t = 127 then 2 + (6 - f - s) else 3 + max ((6 - f - s) - t) 0

set_option maxRecDepth 100000 in
set_option maxHeartbeats 8000000 in
theorem parts_spec {w : World} {mean : ExcName → Option Value} {mg mb : Str → Option Value} {dp un : Nat} {fr : Option (List Env)} {gd : Option (List Code)} {E : Value → Shared → Prop} {s : Shared} {Q : Value → Shared → Prop}
    (KX : (Mine.wn_hd.heap_39 w.params).In s.heap) (T : Top Mine.wn_hd.view_39 (looseW Mine.wn_hd.view_39 [Str.ofString "_twin_re_1", Str.ofString "_twin_re_2"]) mean mg mb s.heap) (hroom : dp + 8 < recursionLimit) (hu : un + 16 < cLine)
    {f sd t : Int} {t1 t2 t3 : Tok} (hf : f = 1 ∨ f = 2) (hs : 0 ≤ sd ∧ sd ≤ 127) (ht : 0 ≤ t ∧ t ≤ 127)
    (hQ : ∀ h' tk tv, Ext s.heap h' → Q (.int (partsZ f sd t) tv) { s with heap := h', toks := tk }) :
    wpAny (model PySem.Challenge.rw_wn0012_01.row.prog w) ⟨none, dp, fr, gd, un⟩ (PySem.call (.ref 111) [.int f t1, .int sd t2, .int t t3]) Q E s := by
  w_on
  k_dflt refine' enter (binds := [(Str.ofString "first", .int f t1), (Str.ofString "second", .int sd t2), (Str.ofString "third", .int t t3)]) KX (Top.nolimit T) ?a1 ?a2 ?a3 ?a4 ?a5 ?a6 ?a7 ?a8 ?a9 ?a10
  case a1 => exact Nat.lt_of_le_of_lt (Nat.le_add_right _ _) hroom
  case a2 => k_is
  case a3 => k_is
  case a4 => exact BindsTo.of_eq rfl
  case a5 => exact locs rfl
  case a7 => decide
  case a8 => rfl
  case a9 => rfl
  case a10 => rfl
  intro h₁ tk₁ F
  have N0 : News s.heap s.heap.objs.size h₁ [] := News.nil
  have hQ' : ∀ z h' tk tv, Ext s.heap h' → z = partsZ f sd t → Q (.int z tv) { s with heap := h', toks := tk } := fun z h' tk tv x e => e ▸ hQ h' tk tv x
  k_steps
  all_goals (dsimp only; refine hQ' _ _ _ _ (Fr.keep (by assumption)) ?_)
  all_goals (clear hQ hQ'; rcases hf with rfl | rfl)
  all_goals (unfold partsZ; (try subst_vars); simp only [*, if_true, if_false, reduceIte])
  all_goals first | rfl | omega | (split <;> omega) | skip
end Mine
end PartA
section PartB
open PySem PySem.W PyProof.Rows PySem.Calls PySem.Spec
namespace Mine
def upd : List (Str × Value) → (Str → Option Value) → Str → Option Value
  | [], m => m
  | p :: r, m => fun z => if z = p.1 then some p.2 else upd r m z
theorem upd_eq {m' m : Str → Option Value} {z : Str} : ∀ {ps : List (Str × Value)}, (∀ p ∈ ps, m' p.1 = some p.2) → ((∀ p ∈ ps, z ≠ p.1) → m' z = m z) → m' z = upd ps m z
  | [], _, h => h fun _ hp => nomatch hp
  | p :: r, h1, h2 => by
    show m' z = if z = p.1 then some p.2 else upd r m z
    by_cases e : z = p.1
    · rw [if_pos e, e]; exact h1 p (.head _)
    · rw [if_neg e]
      refine upd_eq (fun q hq => h1 q (.tail _ hq)) fun hr => h2 fun q hq => ?_
      rcases List.mem_cons.mp hq with rfl | hq
      · exact e
      · exact hr q hq
theorem fr_upd {b h : Heap} {L : Addr} {m' m : Str → Option Value} (ps : List (Str × Value)) (F : Fr b L h m') (h1 : ∀ p ∈ ps, m' p.1 = some p.2) (h2 : ∀ z, (∀ p ∈ ps, z ≠ p.1) → m' z = m z) : Fr b L h (upd ps m) := by
  have e : m' = upd ps m := funext fun z => upd_eq h1 (h2 z)
  exact e ▸ F

def updO (x : Str) (u : Option Value) (m : Str → Option Value) : Str → Option Value := fun z => if z = x then u else m z
theorem fr_updO {b h : Heap} {L : Addr} {m' m : Str → Option Value} (x : Str) (ps : List (Str × Value)) (F : Fr b L h m') (h1 : ∀ p ∈ ps, m' p.1 = some p.2) (hx : ∀ p ∈ ps, p.1 ≠ x) (h2 : ∀ z, z ≠ x → (∀ p ∈ ps, z ≠ p.1) → m' z = m z) : Fr b L h (updO x (m' x) (upd ps m)) := by
  have e : m' = updO x (m' x) (upd ps m) := funext fun z => by
    unfold updO
    by_cases e : z = x
    · rw [if_pos e, e]
    · rw [if_neg e]; exact upd_eq h1 (h2 z e)
  exact e ▸ F
theorem rangeN {c : Int} (h : 0 ≤ c) : Builtin.Range.rangeSize 0 c 1 = ((c.toNat : Nat) : Int) := by
  unfold Builtin.Range.rangeSize
  rw [if_pos (by decide)]
  split <;> omega
def Stopped (P : Prop) : Prop := P
theorem stop {P : Prop} (h : Stopped P) : P := h
theorem Stopped.go {P : Prop} (h : P) : Stopped P := h

abbrev NoE : Value → Shared → Prop := fun _ _ => False

def WEnd (I : Nat → Shared → Prop) (n : Nat) (s : Shared) : Prop := ∃ m, m < n ∧ I m s
theorem WEnd.go {I : Nat → Shared → Prop} {n : Nat} {s : Shared} (m : Nat) (h : m < n) (hI : I m s) : WEnd I n s := ⟨m, h, hI⟩
def REnd (h₀ : Heap) (L : Addr) (s : Shared) (wr : Addr) (ow : Obj) (J : (Str → Option Value) → List (Addr × Obj) → Array GenState → Prop) (s₃ : Shared) : Prop :=
  ∃ h' tk' g' m₂ news₂, s₃ = { s with heap := h', toks := tk', gens := g' } ∧ Fr h₀ L h' m₂ ∧ News h₀ L h' ((wr, ow) :: news₂) ∧ (∀ p ∈ news₂, p.1 ≠ wr) ∧ J m₂ news₂ g'
theorem REnd.go {h₀ : Heap} {L : Addr} {s : Shared} {wr : Addr} {ow : Obj} {J : (Str → Option Value) → List (Addr × Obj) → Array GenState → Prop} {h' : Heap} {tk' : Nat} {g' : Array GenState} {m₂ : Str → Option Value} (news₂ : List (Addr × Obj))
    (F : Fr h₀ L h' m₂) (N : News h₀ L h' ((wr, ow) :: news₂)) (hw : ∀ p ∈ news₂, p.1 ≠ wr) (hJ : J m₂ news₂ g') : REnd h₀ L s wr ow J { s with heap := h', toks := tk', gens := g' } := ⟨h', tk', g', m₂, news₂, rfl, F, N, hw, hJ⟩

section
variable {prog : Program} {w : World} {A : Around} {env : Env} {Q : Flow → Shared → Prop} {s : Shared}
theorem while_ok {test : Expr} {body : List Stmt} {pos : Pos} (I : Nat → Shared → Prop)
    (turn : ∀ n s, I n s → wpAny (model prog w) A (isTrue test env (eval test env)) (fun b s₂ =>
        if b = true then wpAny (model prog w) A (execs body env) (fun f s₃ => match f with
            | .next | .cont => WEnd I n s₃
            | .brk => Q .next s₃
            | .ret v => Q (.ret v) s₃) NoE s₂
        else Q .next s₂) NoE s)
    (n : Nat) (h : I n s) : wpAny (model prog w) A (exec (.While test body [] pos) env) Q NoE s := by
  refine wpAny_While (codeAny_whileLoop I (fun n s hI => ?_) n h)
  refine wpAny_mono (turn n s hI) (fun b s₂ h₂ => ?_) fun _ _ x => x.elim
  split
  · rename_i hb
    rw [if_pos hb] at h₂
    exact wpAny_mono h₂ (fun f s₃ h₃ => by cases f <;> exact h₃) fun _ _ x => x.elim
  · rename_i hb
    rw [if_neg hb] at h₂
    exact wpAny_execs_nil h₂

def ForAt (prog : Program) (w : World) (A : Around) (env : Env) (x : Str) (body : List Stmt) (Q : Flow → Shared → Prop) (it : Value) (s₂ : Shared) : Prop :=
  ∃ (I : Nat → Shared → Prop) (n : Nat), I n s₂ ∧ ∀ n s, I n s → wpAny (model prog w) A (pyNext it) (fun r s₁ => match r with
        | none => Q .next s₁
        | some v => wpAny (model prog w) A (storeName env x v) (fun _ s₂ => wpAny (model prog w) A (execs body env) (fun f s₃ => match f with
          | .next | .cont => WEnd I n s₃
          | .brk => Q .next s₃
          | .ret v => Q (.ret v) s₃) NoE s₂) NoE s₁) NoE s

theorem for_ok {x : Str} {px pos : Pos} {iter : Expr} {body : List Stmt}
    (h : wpAny (model prog w) A (eval iter env) (fun xv s₁ => wpAny (model prog w) A (pyIter xv) (fun it s₂ => ForAt prog w A env x body Q it s₂) NoE s₁) NoE s)
    (hs : ∀ x, foldedSetIterable iter env x = pure x := by intro _; rfl) :
    wpAny (model prog w) A (exec (.For (.Name x px) iter body [] pos) env) Q NoE s := by
  refine wpAny_For (wpAny_mono h (fun xv s₁ h₁ => wpAny_mono h₁ (fun it s₂ h₂ => ?_) fun _ _ e => e.elim) fun _ _ e => e.elim) hs
  obtain ⟨I, n, hI, turn⟩ := h₂
  refine codeAny_forLoop I (fun n s hI => ?_) n hI
  refine wpAny_mono (turn n s hI) (fun r s₃ h₃ => ?_) fun _ _ x => x.elim
  cases r with
  | none => exact wpAny_execs_nil h₃
  | some v =>
    refine wpAny_assign_Name (wpAny_mono h₃ (fun _ s₄ h₄ => ?_) fun _ _ x => x.elim)
    exact wpAny_mono h₄ (fun f s₅ h₅ => by cases f <;> exact h₅) fun _ _ x => x.elim

theorem range_turns {A : Around} {h₀ : Heap} {L r : Addr} {m : Str → Option Value} {news : List (Addr × Obj)} {N : Nat} {a₀ b₀ : Int} {t₀ u₀ v₀ : Tok} {x : Str} {body : List Stmt}
    (hh : A.handled = none) (hr : IsRange s.heap r a₀ b₀ 1 t₀ u₀ v₀) (hsmall : Builtin.Range.small a₀ b₀ 1 = true) (hn : Builtin.Range.rangeSize a₀ b₀ 1 = (N : Int))
    (F : Fr h₀ L s.heap m) (Ns : News h₀ L s.heap news) (J : Nat → (Str → Option Value) → List (Addr × Obj) → Array GenState → Prop) (hj : J 0 m news s.gens)
    (turn : ∀ i t m₁ news₁ h tk g wr ow, i < N → J i m₁ news₁ g → (∀ p ∈ news₁, p.1 ≠ wr) → Fr h₀ L h m₁ → News h₀ L h ((wr, ow) :: news₁) →
      wpAny (model prog w) A (storeName env x (.int (a₀ + (i : Int)) t)) (fun _ s₂ => wpAny (model prog w) A (execs body env) (fun f s₃ => match f with
          | .next | .cont => REnd h₀ L s wr ow (J (i + 1)) s₃
          | .brk => Q .next s₃
          | .ret v => Q (.ret v) s₃) NoE s₂) NoE { s with heap := h, toks := tk, gens := g })
    (done : ∀ m₁ news₁ h tk g, J N m₁ news₁ g → Fr h₀ L h m₁ → News h₀ L h news₁ → Q .next { s with heap := h, toks := tk, gens := g }) :
    wpAny (model prog w) A (pyIter (.ref r)) (fun it s₂ => ForAt prog w A env x body Q it s₂) NoE s := by
  refine wpAny_pyIter_range hr hsmall ?_
  have W : Walks prog w A s.heap.objs.size [s.heap.objs.size] [s.heap.objs.size] N (fun i v => i < N ∧ ∃ t, v = .int (a₀ + i * 1) t)
      (fun i h => IsRangeIter h s.heap.objs.size (a₀ + (i : Nat) * 1) ((N : Int) - (i : Nat)) 1) := (Walks.range hh _ a₀ 1 N).bound
  have iw0 : h₀.get? s.heap.objs.size = none := none_at_size F
  have inw : s.heap.objs.size ∉ news.map (·.1) := by
    intro hm
    obtain ⟨p, hp, e⟩ := List.mem_map.mp hm
    exact absurd (Heap.lt_size (Ns p hp).1) (by rw [e]; exact Nat.lt_irrefl _)
  have iL : s.heap.objs.size ≠ L := Nat.ne_of_gt F.ns.lt
  refine ⟨fun k s' => ∃ i m₁ news₁ h tk g, s' = { s with heap := h, toks := tk, gens := g } ∧ i ≤ N ∧ k = N + 1 - i ∧ IsRangeIter h s.heap.objs.size (a₀ + (i : Nat) * 1) ((N : Int) - (i : Nat)) 1 ∧ s.heap.objs.size ∉ news₁.map (·.1) ∧ J i m₁ news₁ g ∧ Fr h₀ L h m₁ ∧ News h₀ L h news₁, N + 1,
    ⟨0, m, news, _, _, _, rfl, Nat.zero_le _, rfl, by show IsRangeIter _ _ _ _ _; rw [hn]; simpa using Heap.get?_push_size _ rfl, inw, hj, F.push _, fun p hp => ⟨Heap.get?_push_of_some _ (Ns p hp).1, (Ns p hp).2⟩⟩, ?_⟩
  rintro k s' ⟨i, m₁, news₁, h, tk, g, rfl, hi, rfl, hst, hnw, hJ, F₁, N₁⟩
  have next : ∀ h₁ : Heap, (∀ b o, b ∉ [s.heap.objs.size] → h.get? b = some o → h₁.get? b = some o) → Fr h₀ L h₁ m₁ ∧ News h₀ L h₁ news₁ := fun h₁ hk₁ =>
    ⟨⟨F₁.ns.at' fun o e => hk₁ _ o (fun q => iL (List.mem_singleton.mp q).symm) e, fun b o e => hk₁ b o (fun q => by rw [List.mem_singleton.mp q, iw0] at e; cases e) (F₁.keep b o e), F₁.above⟩,
      fun p hp => ⟨hk₁ _ _ (fun q => hnw (List.mem_map.mpr ⟨p, hp, List.mem_singleton.mp q⟩)) (N₁ p hp).1, (N₁ p hp).2⟩⟩
  by_cases hlt : i < N
  · refine W.item i _ _ _ hlt hst fun v h₁ tk₁ hP hst₁ hk₁ => ?_
    obtain ⟨_, t, rfl⟩ := hP
    obtain ⟨F₂, N₂⟩ := next h₁ hk₁
    have e1 : a₀ + (i : Int) * 1 = a₀ + (i : Int) := by omega
    dsimp only
    rw [e1]
    have live : ∃ ow, h₁.get? s.heap.objs.size = some ow := by
      have := hst₁
      unfold IsRangeIter at this
      exact ⟨_, this⟩
    obtain ⟨ow, how⟩ := live
    have N₃ : News h₀ L h₁ ((s.heap.objs.size, ow) :: news₁) := fun p hp => by
      rcases List.mem_cons.mp hp with rfl | hp
      · exact ⟨how, iL, iw0⟩
      · exact N₂ p hp
    have hnw' : ∀ p ∈ news₁, p.1 ≠ s.heap.objs.size := fun p hp e => hnw (List.mem_map.mpr ⟨p, hp, e⟩)
    refine wpAny_mono (turn i t m₁ news₁ h₁ tk₁ g s.heap.objs.size ow hlt hJ hnw' F₂ N₃) (fun _ s₃ h₃ => wpAny_mono h₃ (fun f s₄ h₄ => ?_) fun _ _ x => x) fun _ _ x => x
    have fin : (∃ h' tk' g' m₂ news₂, s₄ = { s with heap := h', toks := tk', gens := g' } ∧ Fr h₀ L h' m₂ ∧ News h₀ L h' ((s.heap.objs.size, ow) :: news₂) ∧ (∀ p ∈ news₂, p.1 ≠ s.heap.objs.size) ∧ J (i + 1) m₂ news₂ g') →
        ∃ m, m < N + 1 - i ∧ ∃ i m₁ news₁ h tk g, s₄ = { s with heap := h, toks := tk, gens := g } ∧ i ≤ N ∧ m = N + 1 - i ∧ IsRangeIter h s.heap.objs.size (a₀ + (i : Nat) * 1) ((N : Int) - (i : Nat)) 1 ∧ s.heap.objs.size ∉ news₁.map (·.1) ∧ J i m₁ news₁ g ∧ Fr h₀ L h m₁ ∧ News h₀ L h news₁ := by
      rintro ⟨h', tk', g', m₂, news₂, rfl, F₃, N₄, hw, hJ'⟩
      refine ⟨N + 1 - (i + 1), by omega, i + 1, m₂, news₂, h', tk', g', rfl, hlt, rfl, W.frame _ _ _ hst₁ (fun b hb o e => ?_), fun q => ?_, hJ', F₃, fun p hp => N₄ p (.tail _ hp)⟩
      · rw [List.mem_singleton.mp hb] at e ⊢
        rw [how] at e; cases e
        exact (N₄ _ (.head _)).1
      · obtain ⟨p, hp, e⟩ := List.mem_map.mp q
        exact hw p hp e
    cases f with
    | ret v => exact h₄
    | brk => exact h₄
    | next => exact fin h₄
    | cont => exact fin h₄
  · have hin : i = N := by omega
    subst hin
    refine W.done _ _ _ hst fun h₁ tk₁ hk₁ => ?_
    obtain ⟨F₂, N₂⟩ := next h₁ hk₁
    exact done m₁ news₁ h₁ tk₁ g hJ F₂ N₂
end
end Mine
end PartB
section PartSre
open PySem PySem.Sre
namespace Mine
open PySem.Sre (M)
def it : Nat → M → M
  | 0, m => m
  | n + 1, m => it n m.step
theorem step_out {m : M} (h : m.outcome.isSome = true) : m.step = m := by unfold M.step; rw [if_pos h]
theorem it_out {m : M} (h : m.outcome.isSome = true) : ∀ n, it n m = m
  | 0 => rfl
  | n + 1 => by unfold it; rw [step_out h]; exact it_out h n
theorem it_one (m : M) : it 1 m = m.step := rfl
theorem it_add : ∀ (a b : Nat) (m : M), it (a + b) m = it b (it a m)
  | 0, b, m => by rw [Nat.zero_add]; rfl
  | a + 1, b, m => by rw [Nat.add_right_comm]; exact it_add a b m.step
theorem runFor_it : ∀ (n : Nat) (m : M), m.runFor n = it n m
  | 0, _ => rfl
  | n + 1, m => by
    unfold M.runFor
    by_cases h : m.outcome.isSome = true
    · rw [if_pos h, it_out h]
    · rw [if_neg h]; exact runFor_it n m.step

def EndsIn (k : Nat) (m : M) : Option (Nat × Nat) → Prop
  | some (a, b) => (it k m).outcome = some .matched ∧ (it k m).start = a ∧ (it k m).handed = b
  | none => (it k m).outcome = some .failed

theorem EndsIn.after {a k : Nat} {m m' : M} {r} (e : it a m = m') (h : EndsIn k m' r) : EndsIn (a + k) m r := by
  cases r with
  | none => unfold EndsIn at *; rw [it_add, e]; exact h
  | some p => unfold EndsIn at *; rw [it_add, e]; exact h
theorem EndsIn.more {k k' : Nat} {m : M} {r} (h : EndsIn k m r) (hk : k ≤ k') : EndsIn k' m r := by
  obtain ⟨d, rfl⟩ := Nat.le.dest hk
  cases r with
  | none => unfold EndsIn at *; rw [it_add, it_out (by rw [h]; rfl)]; exact h
  | some p => unfold EndsIn at *; rw [it_add, it_out (by rw [h.1]; rfl)]; exact h

def code1 : Array Nat := #[14, 4, 0, 1, 1, 6, 1, 16, 46, 1]
def code2 : Array Nat := #[14, 9, 4, 1, 2, 16, 10, 16, 13, 0, 7, 7, 16, 13, 16, 10, 15, 18, 5, 16, 10, 15, 13, 11, 16, 13, 5, 5, 0, 16, 10, 1, 15, 2, 0, 1]

section one
variable (text : Array Nat) (lim : Nat)
def F1 (s : Nat) (fst : Bool) : PySem.Sre.Frame := { wait := .nextStart, pc := 5, pos := s, outermost := fst }
def T1 (s : Nat) (fst must : Bool) (seen : Seen) : M :=
  { code := code1, text, lim, start := s, lastStart := lim, mustAdvance := must, pc := 5, pos := s, handed := s, outermost := fst, marks := #[], frames := [F1 s fst], weight := 1, seen }

variable {text lim}
theorem t1_at (s : Nat) (fst must : Bool) (seen : Seen) : (T1 text lim s fst must seen).step =
    if (s == 0 || text.getD (s - 1) 0 == 10) = true then { T1 text lim s fst must seen with seen := (seen.add 6).add (43 + 1), pc := 7 }
    else { T1 text lim s fst must seen with seen := (seen.add 6).add (43 + 1), answer := some false } := by
  rfl
theorem t1_lit (s : Nat) (fst must : Bool) (seen : Seen) : ({ T1 text lim s fst must seen with pc := 7 } : M).step =
    if s ≥ lim then { T1 text lim s fst must seen with seen := seen.add 16, pc := 7, answer := some false }
    else match (Except.ok (text.getD s 0 == 46, seen.add 16) : Except String (Bool × Seen)) with
      | .error why => ({ T1 text lim s fst must seen with seen := seen.add 16, pc := 7 } : M).stick why
      | .ok (false, se) => { T1 text lim s fst must seen with seen := se, pc := 7, answer := some false }
      | .ok (true, se) => { T1 text lim s fst must seen with seen := se, pc := 9, pos := s + 1 } := by
  rfl
theorem t1_succ (s : Nat) (fst must : Bool) (seen : Seen) : ({ T1 text lim s fst must seen with pc := 9, pos := s + 1 } : M).step =
    if (fst && ((false && s + 1 != lim) || (must && s + 1 == s))) = true then { T1 text lim s fst must seen with seen := seen.add 1, pc := 9, pos := s + 1, answer := some false }
    else { T1 text lim s fst must seen with seen := seen.add 1, pc := 9, pos := s + 1, handed := s + 1, answer := some true } := by
  rfl
theorem t1_yes (s : Nat) (fst must : Bool) (seen : Seen) : ({ T1 text lim s fst must seen with pc := 9, pos := s + 1, handed := s + 1, answer := some true } : M).step =
    { T1 text lim s fst must seen with handed := s + 1, frames := [], weight := 0, answer := some true } := by
  rfl
theorem t1_end (s : Nat) (fst must : Bool) (seen : Seen) : ({ T1 text lim s fst must seen with handed := s + 1, frames := [], weight := 0, answer := some true } : M).step =
    { T1 text lim s fst must seen with handed := s + 1, frames := [], weight := 0, answer := some true, outcome := some .matched } := by
  rfl
theorem t1_no (s pc : Nat) (fst must : Bool) (seen : Seen) : ({ T1 text lim s fst must seen with pc := pc, answer := some false } : M).step =
    if s < lim then T1 text lim (s + 1) false false seen else { T1 text lim s fst must seen with frames := [], weight := 0, answer := some false } := by
  rfl
theorem t1_fail (s : Nat) (fst must : Bool) (seen : Seen) : ({ T1 text lim s fst must seen with frames := [], weight := 0, answer := some false } : M).step =
    { T1 text lim s fst must seen with frames := [], weight := 0, answer := some false, outcome := some .failed } := by
  rfl
def hit1 (text : Array Nat) (lim s : Nat) : Bool := (s == 0 || text.getD (s - 1) 0 == 10) && (decide (s < lim) && text.getD s 0 == 46)

theorem t1_hit {s : Nat} {fst must : Bool} {seen : Seen} (h : hit1 text lim s = true) : EndsIn 5 (T1 text lim s fst must seen) (some (s, s + 1)) := by
  simp only [hit1, Bool.and_eq_true, decide_eq_true_eq] at h
  obtain ⟨h1, h2, h3⟩ := h
  show EndsIn (1 + (1 + (1 + 2))) _ _
  refine EndsIn.after (a := 1) (m' := { T1 text lim s fst must ((seen.add 6).add (43 + 1)) with pc := 7 }) ?_ (EndsIn.after (a := 1) (m' := { T1 text lim s fst must (((seen.add 6).add (43 + 1)).add 16) with pc := 9, pos := s + 1 }) ?_
    (EndsIn.after (a := 1) (m' := { T1 text lim s fst must ((((seen.add 6).add (43 + 1)).add 16).add 1) with pc := 9, pos := s + 1, handed := s + 1, answer := some true }) ?_ ?_))
  · rw [it_one, t1_at, if_pos h1]; rfl
  · rw [it_one]
    refine (t1_lit (text := text) (lim := lim) s fst must ((seen.add 6).add (43 + 1))).trans ?_
    rw [if_neg (by omega)]
    simp only [h3]; rfl
  · rw [it_one]
    refine (t1_succ (text := text) (lim := lim) s fst must (((seen.add 6).add (43 + 1)).add 16)).trans ?_
    rw [if_neg (by simp)]; rfl
  · exact ⟨rfl, rfl, rfl⟩
theorem t1_miss {s : Nat} {fst must : Bool} {seen : Seen} (h : hit1 text lim s = false) : ∃ k, k ≤ 2 ∧ ∃ pc seen', it k (T1 text lim s fst must seen) = { T1 text lim s fst must seen' with pc := pc, answer := some false } := by
  by_cases h1 : (s == 0 || text.getD (s - 1) 0 == 10) = true
  · by_cases h2 : s ≥ lim
    · refine ⟨2, by decide, 7, ((seen.add 6).add (43 + 1)).add 16, ?_⟩
      show (M.step (M.step _)) = _
      rw [t1_at, if_pos h1]
      refine (t1_lit (text := text) (lim := lim) s fst must ((seen.add 6).add (43 + 1))).trans ?_
      rw [if_pos h2]; rfl
    · refine ⟨2, by decide, 7, ((seen.add 6).add (43 + 1)).add 16, ?_⟩
      show (M.step (M.step _)) = _
      rw [t1_at, if_pos h1]
      refine (t1_lit (text := text) (lim := lim) s fst must ((seen.add 6).add (43 + 1))).trans ?_
      rw [if_neg h2]
      have h3 : (text.getD s 0 == 46) = false := by
        cases h3 : (text.getD s 0 == 46) with
        | false => rfl
        | true =>
          exfalso
          unfold hit1 at h
          rw [h1, h3, decide_eq_true (by omega)] at h
          exact absurd h (by decide)
      simp only [h3]; rfl
  · refine ⟨1, by decide, 5, (seen.add 6).add (43 + 1), ?_⟩
    rw [it_one, t1_at, if_neg h1]; rfl
theorem t1_next {s : Nat} {fst must : Bool} {seen : Seen} (h : hit1 text lim s = false) (hs : s < lim) : ∃ k, k ≤ 3 ∧ ∃ seen', it k (T1 text lim s fst must seen) = T1 text lim (s + 1) false false seen' := by
  obtain ⟨k, hk, pc, se, e⟩ := t1_miss (fst := fst) (must := must) (seen := seen) h
  refine ⟨k + 1, by omega, se, ?_⟩
  rw [it_add, e]
  rw [it_one, t1_no, if_pos hs]
theorem t1_none {s : Nat} {fst must : Bool} {seen : Seen} (h : hit1 text lim s = false) (hs : ¬ s < lim) : EndsIn 4 (T1 text lim s fst must seen) none := by
  obtain ⟨k, hk, pc, se, e⟩ := t1_miss (fst := fst) (must := must) (seen := seen) h
  refine EndsIn.more (EndsIn.after e (k := 2) ?_) (by omega)
  show (M.step (M.step _)).outcome = _
  rw [t1_no, if_neg hs]; rfl
def nx1 (text : Array Nat) (lim : Nat) : Nat → Nat → Option (Nat × Nat)
  | 0, _ => none
  | n + 1, s => if hit1 text lim s = true then some (s, s + 1) else nx1 text lim n (s + 1)
theorem t1_run : ∀ (n s : Nat) (fst must : Bool) (seen : Seen), n + s = lim → EndsIn (4 * n + 5) (T1 text lim s fst must seen) (nx1 text lim n s) := by
  intro n
  induction n with
  | zero =>
    intro s fst must seen hn
    exact (t1_none (by unfold hit1; rw [decide_eq_false (by omega : ¬ s < lim)]; simp) (by omega)).more (by omega)
  | succ n ih =>
    intro s fst must seen hn
    unfold nx1
    by_cases h : hit1 text lim s = true
    · rw [if_pos h]; exact (t1_hit h).more (by omega)
    · rw [if_neg h]
      obtain ⟨k, hk, se, e⟩ := t1_next (fst := fst) (must := must) (seen := seen) (Bool.eq_false_iff.mpr h) (by omega)
      exact (EndsIn.after e (ih (s + 1) false false se (by omega))).more (by omega)
theorem search1 (s : Nat) (must : Bool) (hs : s ≤ lim) : EndsIn (4 * (lim - s) + 5) (forSearch code1 text 0 s lim must) (nx1 text lim (lim - s) s) := by
  by_cases h : s = lim
  · subst h
    rw [Nat.sub_self]
    have e : forSearch code1 text 0 s s must = ({ code := code1, text, lim := s, start := s, pc := 5, pos := s, handed := s, marks := #[], mustAdvance := must, seen := ({} : Seen).add 14, answer := some false } : M) := by
      show (if (decide (s > s) || decide (s - s < 1)) = true then _ else _) = _
      rw [if_pos (by simp)]; rfl
    rw [e]; rfl
  · have e : forSearch code1 text 0 s lim must = T1 text lim s true must (({} : Seen).add 14) := by
      show (if (decide (s > lim) || decide (lim - s < 1)) = true then _ else _) = _
      rw [if_neg (by simp; omega)]; rfl
    rw [e]
    exact t1_run _ _ _ _ _ (by omega)
end one

section two
variable (text : Array Nat) (lim : Nat)
def F2 (s : Nat) (fst : Bool) : PySem.Sre.Frame := { wait := .nextStart, pc := 10, pos := s, outermost := fst }
def FB (pc s : Nat) (fst : Bool) : PySem.Sre.Frame := { wait := .nextBranch, pc, pos := s, outermost := fst }
def FL (s : Nat) (fst : Bool) : PySem.Sre.Frame := { wait := .lookNot, pc := 26, pos := s, outermost := fst }
def S2 (s : Nat) (om : Bool) (pc pos handed : Nat) (frames : List PySem.Sre.Frame) (weight : Nat) (answer : Option Bool) (seen : Seen) : M :=
  { code := code2, text, lim, start := s, lastStart := lim, pc, pos, handed, outermost := om, marks := #[], frames, weight, answer, seen }
variable {text lim}
variable {s : Nat} {om fst : Bool} {pos handed : Nat} {frames : List PySem.Sre.Frame} {weight : Nat} {seen : Seen}
theorem s2_branch : (S2 text lim s om 10 pos handed frames 1 none seen).step = S2 text lim s om 12 pos pos (FB 11 pos om :: frames) 2 none (seen.add 7) := by rfl
theorem s2_lit {pc lit : Nat} (hp : (pc, lit) ∈ [(12, 13), (14, 10), (19, 10), (24, 13), (29, 10)]) : (S2 text lim s om pc pos handed frames weight none seen).step =
    if pos ≥ lim then S2 text lim s om pc pos handed frames weight (some false) (seen.add 16)
    else match (Except.ok (text.getD pos 0 == lit, seen.add 16) : Except String (Bool × Seen)) with
      | .error why => (S2 text lim s om pc pos handed frames weight none (seen.add 16)).stick why
      | .ok (false, se) => S2 text lim s om pc pos handed frames weight (some false) se
      | .ok (true, se) => S2 text lim s om (pc + 2) (pos + 1) handed frames weight none se := by
  simp only [List.mem_cons, Prod.mk.injEq, List.not_mem_nil, or_false] at hp
  rcases hp with ⟨rfl, rfl⟩ | ⟨rfl, rfl⟩ | ⟨rfl, rfl⟩ | ⟨rfl, rfl⟩ | ⟨rfl, rfl⟩ <;> rfl
theorem s2_lit_ok {pc lit : Nat} (hp : (pc, lit) ∈ [(12, 13), (14, 10), (19, 10), (24, 13), (29, 10)]) (h : pos < lim) (e : text.getD pos 0 = lit) :
    (S2 text lim s om pc pos handed frames weight none seen).step = S2 text lim s om (pc + 2) (pos + 1) handed frames weight none (seen.add 16) := by
  rw [s2_lit hp, if_neg (by omega), show (text.getD pos 0 == lit) = true from by rw [e]; exact beq_self_eq_true _]
theorem s2_lit_no {pc lit : Nat} (hp : (pc, lit) ∈ [(12, 13), (14, 10), (19, 10), (24, 13), (29, 10)]) (h : ¬ (pos < lim ∧ text.getD pos 0 = lit)) :
    (S2 text lim s om pc pos handed frames weight none seen).step = S2 text lim s om pc pos handed frames weight (some false) (seen.add 16) := by
  rw [s2_lit hp]
  by_cases h2 : pos ≥ lim
  · rw [if_pos h2]
  · rw [if_neg h2, show (text.getD pos 0 == lit) = false from by rw [beq_eq_false_iff_ne]; exact fun e => h ⟨by omega, e⟩]
theorem s2_jump {pc : Nat} (hp : pc ∈ [16, 21, 32]) : (S2 text lim s om pc pos handed frames weight none seen).step = S2 text lim s om 35 pos handed frames weight none (seen.add 15) := by
  simp only [List.mem_cons, List.not_mem_nil, or_false] at hp
  rcases hp with rfl | rfl | rfl <;> rfl
theorem s2_succ : (S2 text lim s om 35 pos handed frames weight none seen).step = S2 text lim s om 35 pos pos frames weight (some true) (seen.add 1) := by
  have e : (S2 text lim s om 35 pos handed frames weight none seen).step = if (om && ((false && pos != lim) || (false && pos == s))) = true then
      S2 text lim s om 35 pos handed frames weight (some false) (seen.add 1) else S2 text lim s om 35 pos pos frames weight (some true) (seen.add 1) := rfl
  rw [e, if_neg (by simp)]
theorem s2_alt1 {pc : Nat} : (S2 text lim s om pc pos handed (FB 11 s fst :: frames) 2 (some false) seen).step = S2 text lim s fst 19 s s (FB 18 s fst :: frames) 2 none seen := by rfl
theorem s2_alt2 {pc : Nat} : (S2 text lim s om pc pos handed (FB 18 s fst :: frames) 2 (some false) seen).step = S2 text lim s fst 24 s s (FB 23 s fst :: frames) 2 none seen := by rfl
theorem s2_yesB {pc p : Nat} : (S2 text lim s om pc pos handed (FB p s fst :: frames) 2 (some true) seen).step = S2 text lim s fst p s handed frames 1 (some true) seen := by rfl
theorem s2_yesF {pc : Nat} : (S2 text lim s om pc pos handed [F2 s fst] 1 (some true) seen).step = S2 text lim s fst 10 s handed [] 0 (some true) seen := by rfl
theorem s2_look : (S2 text lim s om 26 pos handed frames 2 none seen).step = S2 text lim s false 29 pos pos (FL pos om :: frames) 3 none (seen.add 5) := by
  have e : (S2 text lim s om 26 pos handed frames 2 none seen).step = if pos < 0 then S2 text lim s om 32 pos handed frames 2 none (seen.add 5) else S2 text lim s false 29 (pos - 0) (pos - 0) (FL pos om :: frames) 3 none (seen.add 5) := rfl
  rw [e, if_neg (Nat.not_lt_zero _)]; rfl
theorem s2_lookNo {pc p : Nat} : (S2 text lim s om pc pos handed (FL p fst :: frames) 3 (some false) seen).step = S2 text lim s fst 32 p handed frames 2 none seen := by rfl

theorem s2_end {p : Nat} : EndsIn 4 (S2 text lim s om 35 pos handed [FB p s fst, F2 s fst] 2 none seen) (some (s, pos)) := by
  show EndsIn (1 + (1 + (1 + 1))) _ _
  refine EndsIn.after ((it_one _).trans s2_succ) (EndsIn.after ((it_one _).trans s2_yesB) (EndsIn.after ((it_one _).trans s2_yesF) ?_))
  exact ⟨rfl, rfl, rfl⟩
def T2 (text : Array Nat) (lim s : Nat) (fst : Bool) (seen : Seen) : M := S2 text lim s fst 10 s s [F2 s fst] 1 none seen
theorem t2_crlf (h : s < lim) (e : text.getD s 0 = 13) (h' : s + 1 < lim) (e' : text.getD (s + 1) 0 = 10) : EndsIn 20 (T2 text lim s fst seen) (some (s, s + 2)) := by
  refine EndsIn.more (EndsIn.after ((it_one _).trans s2_branch) (EndsIn.after ((it_one _).trans (s2_lit_ok (by decide) h e)) (EndsIn.after ((it_one _).trans (s2_lit_ok (by decide) h' e'))
    (EndsIn.after ((it_one _).trans (s2_jump (by decide))) s2_end)))) (by decide)
theorem t2_lf (h : s < lim) (e : text.getD s 0 = 10) : EndsIn 20 (T2 text lim s fst seen) (some (s, s + 1)) := by
  refine EndsIn.more (EndsIn.after ((it_one _).trans s2_branch) (EndsIn.after ((it_one _).trans (s2_lit_no (lit := 13) (by decide) (by omega))) (EndsIn.after ((it_one _).trans s2_alt1)
    (EndsIn.after ((it_one _).trans (s2_lit_ok (by decide) h e)) (EndsIn.after ((it_one _).trans (s2_jump (by decide))) s2_end))))) (by decide)
theorem t2_cr (h : s < lim) (e : text.getD s 0 = 13) (h' : ¬ (s + 1 < lim ∧ text.getD (s + 1) 0 = 10)) : EndsIn 20 (T2 text lim s fst seen) (some (s, s + 1)) := by
  refine EndsIn.more (EndsIn.after ((it_one _).trans s2_branch) (EndsIn.after ((it_one _).trans (s2_lit_ok (by decide) h e)) (EndsIn.after ((it_one _).trans (s2_lit_no (by decide) h'))
    (EndsIn.after ((it_one _).trans s2_alt1) (EndsIn.after ((it_one _).trans (s2_lit_no (lit := 10) (by decide) (by omega))) (EndsIn.after ((it_one _).trans s2_alt2)
    (EndsIn.after ((it_one _).trans (s2_lit_ok (by decide) h e)) (EndsIn.after ((it_one _).trans s2_look) (EndsIn.after ((it_one _).trans (s2_lit_no (by decide) h'))
    (EndsIn.after ((it_one _).trans s2_lookNo) (EndsIn.after ((it_one _).trans (s2_jump (by decide))) s2_end))))))))))) (by decide)

def is2 (c : Nat) : Bool := c == 10 || c == 13
def at2 (text : Array Nat) (lim s : Nat) : Nat × Nat :=
  (s, if text.getD s 0 = 13 ∧ s + 1 < lim ∧ text.getD (s + 1) 0 = 10 then s + 2 else s + 1)
def nx2 (text : Array Nat) (lim : Nat) : Nat → Nat → Option (Nat × Nat)
  | 0, _ => none
  | n + 1, s => if is2 (text.getD s 0) = true then some (at2 text lim s) else nx2 text lim n (s + 1)
theorem t2_hit (h : s < lim) (e : is2 (text.getD s 0) = true) : EndsIn 20 (T2 text lim s fst seen) (some (at2 text lim s)) := by
  unfold at2
  by_cases e1 : text.getD s 0 = 13
  · by_cases e2 : s + 1 < lim ∧ text.getD (s + 1) 0 = 10
    · rw [if_pos ⟨e1, e2.1, e2.2⟩]; exact t2_crlf h e1 e2.1 e2.2
    · rw [if_neg fun x => e2 x.2]; exact t2_cr h e1 e2
  · rw [if_neg fun x => e1 x.1]
    refine t2_lf h ?_
    unfold is2 at e
    simp only [Bool.or_eq_true, beq_iff_eq] at e
    omega
theorem set2 (c : Nat) (seen : Seen) : ∃ se, inSet code2 c code2.size 5 true seen = .ok (is2 c, se) := by
  have e : inSet code2 c code2.size 5 true seen = if (c == 10) = true then .ok (true, seen.add 16) else if (c == 13) = true then .ok (true, (seen.add 16).add 16) else .ok (false, ((seen.add 16).add 16).add 0) := rfl
  rw [e]
  unfold is2
  cases h1 : (c == 10) with
  | true => exact ⟨_, rfl⟩
  | false => cases h2 : (c == 13) with
    | true => exact ⟨_, rfl⟩
    | false => exact ⟨_, rfl⟩
theorem admitted2 {m : M} (hc : m.code = code2) (ht : m.text = text) (hl : m.lim = lim) : ∀ (n s : Nat) (seen : Seen), n + s = lim → ∃ se, M.admitted m (n + 1) s seen = .ok ((nx2 text lim n s).map (·.1), se)
  | 0, s, seen, hn => by
    refine ⟨seen, ?_⟩
    unfold M.admitted
    rw [if_pos (by omega)]; rfl
  | n + 1, s, seen, hn => by
    unfold M.admitted
    rw [if_neg (by omega), hc, ht]
    obtain ⟨se, e⟩ := set2 (text.getD s 0) seen
    rw [e]
    unfold nx2
    by_cases h : is2 (text.getD s 0) = true
    · rw [h, if_pos rfl]; exact ⟨se, rfl⟩
    · rw [if_neg h, Bool.eq_false_iff.mpr h]
      exact admitted2 hc ht hl n (s + 1) se (by omega)
theorem nx2_some : ∀ (n s : Nat) {r}, n + s = lim → nx2 text lim n s = some r → r = at2 text lim r.1 ∧ r.1 < lim ∧ is2 (text.getD r.1 0) = true
  | 0, _, _, _, h => by cases h
  | n + 1, s, r, hn, h => by
    unfold nx2 at h
    by_cases h1 : is2 (text.getD s 0) = true
    · rw [if_pos h1] at h
      cases h
      exact ⟨rfl, by show s < lim; omega, h1⟩
    · rw [if_neg h1] at h
      exact nx2_some n (s + 1) (by omega) h
theorem from_some {m : M} {s s' : Nat} {fst : Bool} {se : Seen} (hf : m.hasFirstSet = true) (ha : M.admitted m (m.lim + 1 - s) s m.seen = .ok (some s', se)) :
    m.attemptFrom s fst = ({ m with mustAdvance := false, seen := se } : M).attemptAt s' fst := by
  unfold M.attemptFrom
  rw [hf, if_neg (by decide), ha]
theorem from_none {m : M} {s : Nat} {fst : Bool} {se : Seen} (hf : m.hasFirstSet = true) (ha : M.admitted m (m.lim + 1 - s) s m.seen = .ok (none, se)) :
    m.attemptFrom s fst = ({ m with seen := se } : M).say false := by
  unfold M.attemptFrom
  rw [hf, if_neg (by decide), ha]
theorem search2 (s : Nat) (must : Bool) (hs : s ≤ lim) : EndsIn 20 (forSearch code2 text 0 s lim must) (nx2 text lim (lim - s) s) := by
  by_cases h : s = lim
  · subst h
    rw [Nat.sub_self]
    have e : forSearch code2 text 0 s s must = ({ code := code2, text, lim := s, start := s, pc := 10, pos := s, handed := s, marks := #[], mustAdvance := must, seen := ({} : Seen).add 14, answer := some false } : M) := by
      show (if (decide (s > s) || decide (s - s < 1)) = true then _ else _) = _
      rw [if_pos (by simp)]; rfl
    rw [e]; exact EndsIn.more (k := 1) rfl (by decide)
  · have e : forSearch code2 text 0 s lim must = ({ code := code2, text, lim, start := s, lastStart := lim, pc := 10, pos := s, handed := s, marks := #[], mustAdvance := must, seen := ({} : Seen).add 14 } : M).attemptFrom s true := by
      show (if (decide (s > lim) || decide (lim - s < 1)) = true then _ else _) = _
      rw [if_neg (by simp; omega)]; rfl
    rw [e]
    have hf : lim + 1 - s = (lim - s) + 1 := by omega
    obtain ⟨se, e4⟩ := admitted2 (text := text) (lim := lim) (m := { code := code2, text, lim, start := s, lastStart := lim, pc := 10, pos := s, handed := s, marks := #[], mustAdvance := must, seen := ({} : Seen).add 14 }) rfl rfl rfl (lim - s) s (({} : Seen).add 14) (by omega)
    rw [← hf] at e4
    cases h5 : nx2 text lim (lim - s) s with
    | none =>
      rw [h5] at e4
      rw [from_none (s := s) (se := se) rfl e4]; exact EndsIn.more (k := 1) rfl (by decide)
    | some r =>
      obtain ⟨h6, h7, h8⟩ := nx2_some _ _ (by omega) h5
      rw [h5] at e4
      rw [from_some (s := s) (s' := r.1) (se := se) rfl e4, h6]
      exact t2_hit h7 h8
end two
end Mine
end PartSre
section PartRe
open PySem PySem.Sre PySem.W PySem.Builtin.Re
namespace Mine
open PySem.Sre (M)

theorem get_sub : typeLookup (.type "re.Pattern") "sub" = pure (some (.builtin "re.Pattern.sub")) := by rw [typeLookup_type, builtinLookup_eq_fast]; kernel_rfl
theorem sub_slot : Slot "re.Pattern" "sub" "re.Pattern.sub" :=
  .of (owner := "re.Pattern") (n := "sub") (by rw [typeLookup_type, builtinLookup_eq_fast]; kernel_rfl) (by decide +kernel) (by decide +kernel) (by decide +kernel) (by decide +kernel) (by rw [isSubtype_type]; kernel_rfl)
theorem sub_type : typeOf (.builtin "re.Pattern.sub") = pure (.type "method_descriptor") := by show builtinType _ = _; rw [builtinType_eq_fast]; kernel_rfl
theorem sub_entry : entryFor table "re.Pattern.sub" = some Builtin.«re.Pattern.sub» := entryFor_of_tree (by kernel_rfl)
theorem loop_entry : entryFor table "re.Pattern.sub.loop" = some Builtin.«re.Pattern.sub.loop» := entryFor_of_tree (by kernel_rfl)
theorem loop_plain : plainId "re.Pattern.sub.loop" = true := by decide +kernel
theorem sub_args (a b c : Value) : argsOk "re.Pattern.sub" ⟨[a, b, c], []⟩ := by unfold argsOk; kernel_rfl
theorem pat_ga : typeLookup (.type "re.Pattern") "__getattribute__" = pure (some (.builtin "object.__getattribute__")) := by rw [typeLookup_type, builtinLookup_eq_fast]; kernel_rfl
theorem pat_g : typeLookup (.type "re.Pattern") "__getattr__" = pure none := by rw [typeLookup_type, builtinLookup_eq_fast]; kernel_rfl
theorem str_call : typeLookup (.type "str") "__call__" = pure none := by rw [typeLookup_type, builtinLookup_eq_fast]; kernel_rfl
theorem canon_obj : Manifest.canonical "object.__getattribute__" = "object.__getattribute__" := by decide +kernel

theorem named3 (a b : Value) : reNamed "re.Pattern.sub" "sub" ["repl", "string", "count"] 2 [a, b] [] = pure [some a, some b, none] := by rfl

section
variable {prog : Program} {w : World} {A : Around} {E : Value → Shared → Prop} {s : Shared}
theorem drive {r : Option (Nat × Nat)} {Q : M → Shared → Prop} (hq : ∀ m', EndsIn 0 m' r → Q m' s) : ∀ (turns n : Nat) (m : M), EndsIn n m r → n < 4 * turns →
    wpAny (model prog w) A (reDrive turns m) Q E s
  | 0, n, m, _, hn => by omega
  | t + 1, n, m, h, hn => by
    unfold reDrive
    show wpAny _ _ (if (M.runFor 4 m).outcome.isSome = true then pure (M.runFor 4 m) else (do rule "sre.turn"; reDrive t (M.runFor 4 m))) _ _ _
    rw [runFor_it]
    by_cases h4 : (it 4 m).outcome.isSome = true
    · rw [if_pos h4]
      refine wpAny_pure (hq _ ?_)
      have hm : EndsIn (4 + n) m r := h.more (by omega)
      cases r with
      | none => unfold EndsIn at *; rw [it_add, it_out h4] at hm; exact hm
      | some p => unfold EndsIn at *; rw [it_add, it_out h4] at hm; exact hm
    · rw [if_neg h4]
      refine wpAny_bind (wpAny_rule ?_)
      by_cases hn4 : n ≤ 4
      · have hm : EndsIn 4 m r := h.more hn4
        exfalso
        apply h4
        cases r with
        | none => unfold EndsIn at hm; rw [hm]; rfl
        | some p => unfold EndsIn at hm; rw [hm.1]; rfl
      · obtain ⟨d, rfl⟩ := Nat.le.dest (Nat.le_of_lt (Nat.lt_of_not_le hn4))
        refine drive hq t d (it 4 m) ?_ (by omega)
        cases r with
        | none => unfold EndsIn at *; rw [it_add] at h; exact h
        | some p => unfold EndsIn at *; rw [it_add] at h; exact h

theorem run_end {r : Option (Nat × Nat)} {n : Nat} {m : M} {Q : Option M → Shared → Prop} (h : EndsIn n m r) (hn : n < 2 ^ 60)
    (hq : match r with | some (a, b) => ∀ m', m'.start = a → m'.handed = b → Q (some m') s | none => Q none s) :
    wpAny (model prog w) A (reRunToEnd m) Q E s := by
  unfold reRunToEnd
  refine wpAny_bind (drive (r := r) (fun m' hm => ?_) _ n m h (by omega))
  refine wpAny_bind (wpAny_forIn_list _ (fun _ _ s' => s' = s) _ (fun x rest b s₁ hs => ?_) (fun b s₁ hs => ?_) _ _ rfl)
  · subst hs
    by_cases hc : m'.seen.has x = true
    · rw [if_pos hc]; exact wpAny_bind (wpAny_rule (wpAny_pure rfl))
    · rw [if_neg hc]; exact wpAny_pure rfl
  · subst hs
    cases r with
    | none => unfold EndsIn at hm; rw [show m'.outcome = _ from hm]; exact wpAny_pure hq
    | some p => unfold EndsIn at hm; rw [show m'.outcome = _ from hm.1]; exact wpAny_pure (hq m' hm.2.1 hm.2.2)

def Pat (h : Heap) (P C : Addr) (code : Array Nat) : Prop :=
  ∃ o pt fl items c oc g k, h.get? P = some o ∧ o.cls = .type "re.Pattern" ∧ o.dict = none ∧ o.data = .fields #[pt, fl, .int 0 g, .none, .none, .ref C, .int 0 k] ∧
    h.get? C = some oc ∧ oc.data = .seq items c ∧ (items.map reRawOf).map (·.toNat) = code
theorem Pat.keep {h h' : Heap} {P C : Addr} {code : Array Nat} (p : Pat h P C code) (k : ∀ b o, b = P ∨ b = C → h.get? b = some o → h'.get? b = some o) : Pat h' P C code := by
  obtain ⟨o, pt, fl, items, c, oc, g0, k0, h1, h2, h3, h4, h5, h6, h7⟩ := p
  exact ⟨o, pt, fl, items, c, oc, g0, k0, k _ _ (.inl rfl) h1, h2, h3, h4, k _ _ (.inr rfl) h5, h6, h7⟩

theorem getMethod_sub {P C : Addr} {code : Array Nat} {pl : Sem Bool} {Q : Value × List Value → Shared → Prop} (hp : Pat s.heap P C code)
    (h : Q (.builtin "re.Pattern.sub", [.ref P]) s) : wpAny (model prog w) A (getMethod (.ref P) "sub" pl) Q E s := by
  obtain ⟨o, pt, fl, items, c, oc, g0, k0, h1, h2, h3, h4, h5, h6, h7⟩ := hp
  have hT : s.TypeIs (.ref P) "re.Pattern" := ⟨o, h1, h2⟩
  unfold getMethod
  refine wpAny_bind (wpAny_specialOf hT pat_ga ?_)
  show wpAny _ A (if (Manifest.canonical "object.__getattribute__" != "object.__getattribute__") = true then _ else _) Q E s
  rw [canon_obj, if_neg (by decide)]
  refine wpAny_bind (wpAny_specialOf hT pat_g ?_)
  refine wpAny_bind (wpAny_specialOf hT sub_slot.lookup ?_)
  refine wpAny_bind (wpAny_of_eq sub_type ?_)
  refine wpAny_bind (wpAny_load h1 ?_)
  rw [h3]
  exact wpAny_bind (wpAny_rule (wpAny_pure h))

theorem wholeTarget {P C : Addr} {code : Array Nat} {x : Str} {t : Tok} {Q : ReTarget → Shared → Prop} (hp : Pat s.heap P C code)
    (h : Q { pattern := .ref P, string := .str x t, code, text := x.cps, kind := 0, groups := 0, pos := 0, lim := x.cps.size } s) :
    wpAny (model prog w) A (reWholeTarget (.ref P) (.str x t)) Q E s := by
  obtain ⟨o, pt, fl, items, c, oc, g0, k0, h1, h2, h3, h4, h5, h6, h7⟩ := hp
  unfold reWholeTarget
  refine wpAny_bind (wpAny_fieldsOf h1 h4 ?_)
  refine wpAny_bind (wpAny_of_eq (show reTextOf (.str x t) = pure (x.cps, 0) from rfl) ?_)
  show wpAny _ _ (reRawItems (.ref C) >>= _) _ _ _
  unfold reRawItems
  refine wpAny_bind (wpAny_bind (wpAny_seqItems h5 h6 ?_))
  refine wpAny_pure (wpAny_pure ?_)
  show Q { pattern := _, string := _, code := (items.map reRawOf).map (·.toNat), text := _, kind := _, groups := _, pos := _, lim := _ } s
  rw [h7]
  exact h

def outG (text : Array Nat) (repl : List Nat) (nx : Nat → Option (Nat × Nat)) : Nat → Nat → List Nat
  | 0, _ => []
  | f + 1, d => match nx d with
    | some (a, b) => (text.extract d a).toList ++ (repl ++ outG text repl nx f b)
    | none => (text.extract d text.size).toList
def flat (ps : List (Str × Tok)) : List Nat := (ps.map fun p => p.1.cps.toList).flatten
theorem flat_snoc (ps : List (Str × Tok)) (x : Str) (t : Tok) : flat (ps ++ [(x, t)]) = flat ps ++ x.cps.toList := by
  unfold flat; rw [List.map_append, List.flatten_append]; simp
theorem vals_snoc (ps : List (Str × Tok)) (x : Str) (t : Tok) : (strValues ps).toArray.push (.str x t) = (strValues (ps ++ [(x, t)])).toArray := by
  unfold strValues; simp

def LIs (h : Heap) (L : Addr) (ps : List (Str × Tok)) : Prop := ∃ c, h.get? L = some { cls := .type "list", dict := none, data := .seq (strValues ps).toArray c, slots := #[] }
theorem LIs.push {h : Heap} {L : Addr} {ps : List (Str × Tok)} (hL : LIs h L ps) (x : Str) (t : Tok) : LIs (h.update L (Obj.mapSeq fun y => y.push (.str x t))) L (ps ++ [(x, t)]) := by
  obtain ⟨c, e⟩ := hL
  have u := Heap.get?_update_self (Obj.mapSeq fun y => y.push (.str x t)) e rfl
  unfold Obj.mapSeq at u
  dsimp only at u
  rw [vals_snoc] at u
  exact ⟨_, u⟩
theorem glued_empty (ts : List Str) : Builtin.Str.glued ⟨#[]⟩ ts = ⟨(ts.map fun p => p.cps.toList).flatten.toArray⟩ := by
  rw [StrLaws.glued_eq_join]
  induction ts with
  | nil => rfl
  | cons x r ih =>
    cases r with
    | nil => show x = _; obtain ⟨c⟩ := x; simp
    | cons y r' =>
      show x ++ ⟨#[]⟩ ++ Str.join ⟨#[]⟩ (y :: r') = _
      rw [ih]
      show (⟨(x.cps ++ #[]) ++ _⟩ : Str) = _
      congr 1
      rw [List.map_cons, List.flatten_cons]
      apply Array.ext'
      simp

theorem sub_loop {P C L : Addr} {code : Array Nat} {x rp : Str} {t tr : Tok} {N : Nat} {nx : Nat → Option (Nat × Nat)} {R : Result → Shared → Prop}
    (hs : ∀ d must, d ≤ x.cps.size → EndsIn N (forSearch code x.cps 0 d x.cps.size must) (nx d)) (hN : N < 2 ^ 60)
    (hnx : ∀ d a b, d ≤ x.cps.size → nx d = some (a, b) → d ≤ a ∧ a < b ∧ b ≤ x.cps.size) (hPL : P ≠ L) (hCL : C ≠ L) (hrp : rp.cps.size ≤ 2) :
    ∀ (f d : Nat) (n : Int) (must : Bool) (ps : List (Str × Tok)) (s : Shared), x.cps.size < f + d → d ≤ x.cps.size → Pat s.heap P C code →
      LIs s.heap L ps →
      (flat ps).length + 3 * (x.cps.size - d) ≤ 1000000 → ps.length + 3 * (x.cps.size - d) ≤ 1000000 →
      (∀ h' tk t', (∀ b o, b ≠ L → s.heap.get? b = some o → h'.get? b = some o) → R (.ok (.ret (.str ⟨(flat ps ++ outG x.cps rp.cps.toList nx f d).toArray⟩ t'))) { s with heap := h', toks := tk }) →
      codeAny (model prog w) A (.builtin "re.Pattern.sub.loop" ⟨[.ref P, .str x t, .str rp tr, rawInt 0, rawInt 0, rawInt n, rawInt d, rawInt d, .bool must, .ref L, .bool false], []⟩) R s := by
  intro f
  induction f with
  | zero => intro d n must ps s h1 h2; omega
  | succ f ih =>
    intro d n must ps s h1 h2 hp hL hz1 hz2 hR
    refine codeAny_builtin loop_entry ?_
    rw [Around.under_plainId loop_plain _]
    show wpAny _ A.in1 (reWholeTarget (.ref P) (.str x t) >>= _) _ _ s
    refine wpAny_bind (wholeTarget hp ?_)
    show wpAny _ A.in1 (reLiteralCannotBeTurned (.str rp tr) >>= _) _ _ s
    refine wpAny_bind (wpAny_of_eq (show reLiteralCannotBeTurned (.str rp tr) = pure () from rfl) ?_)
    have hgone : ∀ {h' : Heap}, (∀ b o, b ≠ L → s.heap.get? b = some o → h'.get? b = some o) → Pat h' P C code := fun k => hp.keep fun b o hb e => k b o (by rcases hb with rfl | rfl; exact hPL; exact hCL) e
    show wpAny _ A.in1 ((if ((0 : Int) != 0 && decide (n ≥ 0)) = true then pure none else reNextFound _ d must) >>= _) _ _ s
    rw [if_neg (by simp)]
    refine wpAny_bind (run_end (hs d must h2) hN ?_)
    cases hx : nx d with
    | none =>
      have hout : outG x.cps rp.cps.toList nx (f + 1) d = (x.cps.extract d x.cps.size).toList := by
        show (match nx d with | some (a, b) => _ | none => _) = _
        rw [hx]
      have tail : ∀ (s₁ : Shared) (ps₁ : List (Str × Tok)), LIs s₁.heap L ps₁ →
          flat ps₁ = flat ps ++ (x.cps.extract d x.cps.size).toList → ps₁.length ≤ ps.length + 1 → (∀ b o, b ≠ L → s.heap.get? b = some o → s₁.heap.get? b = some o) → s₁ = { s with heap := s₁.heap, toks := s₁.toks } →
          wpAny (model prog w) A.in1 (reSlice x.cps 0 0 0 >>= fun joiner => seqItems? (.ref L) >>= fun l => if (l.getD #[]).isEmpty = true then (pure joiner >>= fun text => ret text) else (call (.builtin "str.join") [joiner, .ref L] >>= fun text => ret text))
            (fun fin s' => match fin with | .done f => R (.ok f) s' | .again c' => c'.quiet = true ∧ codeAny (model prog w) A c' R s') (fun e s' => R (.error e) s') s₁ := by
        intro s₁ ps₁ hL₁ hf₁ hl₁ hk₁ he₁
        obtain ⟨c₁, hL₁⟩ := hL₁
        show wpAny _ _ (mkStr ⟨x.cps.extract 0 0⟩ >>= _) _ _ _
        refine wpAny_bind (wpAny_mkStr ?_ (by show (x.cps.extract 0 0).size ≤ _; simp))
        refine wpAny_bind (wpAny_seqItems (s := { s₁ with toks := s₁.toks + 1 }) hL₁ rfl ?_)
        have hflat : ∀ (h' : Heap) (tk : Nat) (t' : Tok), (∀ b o, b ≠ L → s.heap.get? b = some o → h'.get? b = some o) → R (.ok (.ret (.str ⟨(flat ps₁).toArray⟩ t'))) { s with heap := h', toks := tk } := fun h' tk t' k => by rw [hf₁, ← hout]; exact hR h' tk t' k
        show wpAny _ _ (if ((strValues ps₁).toArray).isEmpty = true then _ else _) _ _ _
        refine wpAny_ite_split (fun he => ?_) fun he => ?_
        · have hnil : ps₁ = [] := by
            cases ps₁ with
            | nil => rfl
            | cons p r => exact absurd he (by simp [strValues])
          subst hnil
          refine wpAny_bind (wpAny_pure (wpAny_pure ?_))
          have := hflat s₁.heap (s₁.toks + 1) s₁.toks hk₁
          rw [he₁]
          have e : (x.cps.extract 0 0) = (flat []).toArray := by simp [flat]
          rw [e]
          exact this
        · have hlist : ({ s₁ with toks := s₁.toks + 1 } : Shared).heap.IsList L (strValues ps₁).toArray := ⟨_, hL₁, rfl, _, rfl⟩
          have hsum : (ps₁.map fun p => p.1.length).sum = (flat ps₁).length := by
            unfold flat
            rw [List.length_flatten, List.map_map]
            rfl
          have hjo : JoinOk ⟨x.cps.extract 0 0⟩ (ps₁.map (·.1)) = true := by
            unfold JoinOk
            rw [StrLaws.joinTotal]
            have hz : (⟨x.cps.extract 0 0⟩ : Str).length = 0 := by show (x.cps.extract 0 0).size = 0; simp
            rw [hz, List.map_map]
            have hs2 : (List.map ((fun x => x.length) ∘ fun x => x.fst) ps₁).sum = (flat ps₁).length := hsum
            rw [hs2, hf₁]
            have : (x.cps.extract d x.cps.size).toList.length ≤ x.cps.size - d := by simp
            have hz3 : (flat ps ++ (x.cps.extract d x.cps.size).toList).length ≤ 1000000 := by rw [List.length_append]; omega
            unfold Builtin.Str.tooLong sizeLine
            rw [Nat.mul_zero, Nat.add_zero, Bool.not_eq_true', decide_eq_false_iff_not]
            omega
          refine wpAny_bind (SC.join hlist rfl hjo fun t' k => wpAny_pure ?_)
          have e : (Txt.join ⟨x.cps.extract 0 0⟩ (ps₁.map (·.1))) = ⟨(flat ps₁).toArray⟩ := by
            show Builtin.Str.glued _ _ = _
            rw [show x.cps.extract 0 0 = #[] by simp, glued_empty, List.map_map]
            rfl
          rw [e]
          have := hflat s₁.heap k t' hk₁
          rw [he₁]
          exact this
      show wpAny _ _ (if d < x.cps.size then _ else _) _ _ _
      refine wpAny_ite_split (fun hd => ?_) fun hd => ?_
      · show wpAny _ _ (mkStr ⟨x.cps.extract d x.cps.size⟩ >>= _) _ _ _
        refine wpAny_bind (wpAny_mkStr ?_ ?_)
        · obtain ⟨c, hLc⟩ := id hL
          refine wpAny_bind (wpAny_updateSeq (s := { s with toks := s.toks + 1 }) hLc rfl ?_ ?_ ?_)
          · exact tail _ (ps ++ [(⟨x.cps.extract d x.cps.size⟩, s.toks)]) (hL.push _ _) (flat_snoc _ _ _) (by simp) (fun b o hb e => (Heap.get?_update_other _ _ (Ne.symm hb)).trans e) rfl
          · simp only [strValues, List.size_toArray, List.length_map]; unfold sizeLine; omega
          · simp only [strValues, List.size_toArray, List.length_map, Array.size_push]; unfold sizeLine; omega
        · show (x.cps.extract d x.cps.size).size ≤ _
          rw [Array.size_extract]; unfold sizeLine; omega
      · refine tail s ps hL ?_ (by omega) (fun _ _ _ e => e) rfl
        have : x.cps.extract d x.cps.size = #[] := by simp; omega
        rw [this]; simp
    | some r =>
      obtain ⟨a, b⟩ := r
      obtain ⟨ha, hab, hb⟩ := hnx d a b h2 hx
      intro m' hma hmb
      have hout : outG x.cps rp.cps.toList nx (f + 1) d = (x.cps.extract d a).toList ++ (rp.cps.toList ++ outG x.cps rp.cps.toList nx f b) := by
        show (match nx d with | some (a, b) => _ | none => _) = _
        rw [hx]
      have hrl : rp.cps.toList.length ≤ 2 := by rw [Array.length_toList]; exact hrp
      have hel : (x.cps.extract d a).toList.length ≤ a - d := by rw [Array.length_toList, Array.size_extract]; omega
      have tail : ∀ (s₁ : Shared) (ps₁ : List (Str × Tok)), LIs s₁.heap L ps₁ →
          flat ps₁ = flat ps ++ (x.cps.extract d a).toList → ps₁.length ≤ ps.length + 1 → (∀ b o, b ≠ L → s.heap.get? b = some o → s₁.heap.get? b = some o) → s₁ = { s with heap := s₁.heap, toks := s₁.toks } →
          wpAny (model prog w) A.in1 (updateSeq L (fun y => y.push (.str rp tr)) >>= fun _ => again (Code.builtin "re.Pattern.sub.loop" ⟨[.ref P, .str x t, .str rp tr, rawInt 0, rawInt 0, rawInt (n + 1), rawInt m'.handed, rawInt m'.handed, .bool (m'.handed == m'.start), .ref L, .bool false], []⟩))
            (fun fin s' => match fin with | .done f => R (.ok f) s' | .again c' => c'.quiet = true ∧ codeAny (model prog w) A c' R s') (fun e s' => R (.error e) s') s₁ := by
        intro s₁ ps₁ hL₁ hf₁ hl₁ hk₁ he₁
        obtain ⟨c₁, hLc⟩ := id hL₁
        have hk₂ : ∀ b o, b ≠ L → s.heap.get? b = some o → (s₁.heap.update L (Obj.mapSeq fun y => y.push (.str rp tr))).get? b = some o := fun b o hb e => (Heap.get?_update_other _ _ (Ne.symm hb)).trans (hk₁ b o hb e)
        refine wpAny_bind (wpAny_updateSeq hLc rfl (wpAny_pure ⟨plainId_quiet loop_plain _, ?_⟩) ?_ ?_)
        · rw [hmb]
          refine ih b (n + 1) (b == m'.start) (ps₁ ++ [(rp, tr)]) _ (by omega) hb (hgone hk₂) (hL₁.push _ _) ?_ ?_ fun h' tk t' k => ?_
          · rw [flat_snoc, hf₁, List.length_append, List.length_append]; omega
          · rw [List.length_append, List.length_singleton]; omega
          · have := hR h' tk t' fun b o hb e => k b o hb (hk₂ b o hb e)
            rw [hout, ← List.append_assoc, ← List.append_assoc, ← hf₁, ← flat_snoc ps₁ rp tr] at this
            rw [he₁]
            exact this
        · simp only [strValues, List.size_toArray, List.length_map]; unfold sizeLine; omega
        · simp only [strValues, List.size_toArray, List.length_map, Array.size_push]; unfold sizeLine; omega
      show wpAny _ _ (if d < m'.start then _ else _) _ _ _
      rw [hma] at tail ⊢
      refine wpAny_ite_split (fun hd => ?_) fun hd => ?_
      · show wpAny _ _ (mkStr ⟨x.cps.extract d a⟩ >>= _) _ _ _
        refine wpAny_bind (wpAny_mkStr ?_ ?_)
        · obtain ⟨c, hLc⟩ := id hL
          refine wpAny_bind (wpAny_updateSeq (s := { s with toks := s.toks + 1 }) hLc rfl ?_ ?_ ?_)
          · exact tail _ (ps ++ [(⟨x.cps.extract d a⟩, s.toks)]) (hL.push _ _) (flat_snoc _ _ _) (by simp) (fun b o hb e => (Heap.get?_update_other _ _ (Ne.symm hb)).trans e) rfl
          · simp only [strValues, List.size_toArray, List.length_map]; unfold sizeLine; omega
          · simp only [strValues, List.size_toArray, List.length_map, Array.size_push]; unfold sizeLine; omega
        · show (x.cps.extract d a).size ≤ _
          rw [Array.size_extract]; unfold sizeLine; omega
      · refine tail s ps hL ?_ (by omega) (fun _ _ _ e => e) rfl
        have : x.cps.extract d a = #[] := by simp; omega
        rw [this]; simp

theorem call_sub {P C : Addr} {code : Array Nat} {x rp : Str} {t tr : Tok} {N : Nat} {nx : Nat → Option (Nat × Nat)} {Q : Value → Shared → Prop}
    (hp : Pat s.heap P C code) (hs : ∀ d must, d ≤ x.cps.size → EndsIn N (forSearch code x.cps 0 d x.cps.size must) (nx d)) (hN : N < 2 ^ 60)
    (hnx : ∀ d a b, d ≤ x.cps.size → nx d = some (a, b) → d ≤ a ∧ a < b ∧ b ≤ x.cps.size) (hrp : rp.cps.size ≤ 2) (h92 : rp.cps.contains 92 = false) (hx : x.cps.size ≤ 300000)
    (hQ : ∀ h' tk t', (∀ b o, s.heap.get? b = some o → h'.get? b = some o) → Q (.str ⟨(outG x.cps rp.cps.toList nx (x.cps.size + 1) 0).toArray⟩ t') { s with heap := h', toks := tk }) :
    wpAny (model prog w) A (PySem.call (.builtin "re.Pattern.sub") [.ref P, .str rp tr, .str x t]) Q E s := by
  obtain ⟨o, pt, fl, items, c, oc, g0, k0, h1, h2, h3, h4, h5, h6, h7⟩ := id hp
  have hT : s.TypeIs (.ref P) "re.Pattern" := ⟨o, h1, h2⟩
  refine wpAny_call (codeAny_call_builtin sub_slot.plain sub_entry (sub_slot.check _ _ _ _ _ _ _ _ hT (sub_args _ _ _) ?_))
  unfold Builtin.«re.Pattern.sub» reSubstitute
  show wpAny _ _ (reNamed _ _ _ _ [.str rp tr, .str x t] [] >>= _) _ _ _
  refine wpAny_bind (wpAny_of_eq (named3 _ _) ?_)
  dsimp only
  refine wpAny_bind (wpAny_pure ?_)
  refine wpAny_bind (wpAny_specialOf (v := .str rp tr) (T := "str") rfl str_call ?_)
  rw [if_neg (by decide)]
  refine wpAny_bind (wpAny_of_eq (show asStr? (.str rp tr) = pure (some rp) from rfl) ?_)
  dsimp only
  refine wpAny_bind (wpAny_pure ?_)
  rw [h92, if_neg (by decide), if_pos (by decide)]
  refine wpAny_bind (wpAny_pure ?_)
  refine wpAny_bind (wpAny_holding (wholeTarget hp ?_))
  dsimp only
  rw [if_neg (by decide)]
  refine wpAny_bind (wpAny_newList ?_)
  have hPs : P < s.heap.objs.size := Heap.lt_size h1
  have hCs : C < s.heap.objs.size := Heap.lt_size h5
  have hpush : ∀ (z : Obj) b o', s.heap.get? b = some o' → (s.heap.push z).get? b = some o' := fun z b o' e => Heap.get?_push_of_some _ e
  refine wpAny_pure ⟨plainId_quiet loop_plain _, ?_⟩
  refine sub_loop (L := s.heap.objs.size) (N := N) (nx := nx) hs hN hnx (Nat.ne_of_lt hPs) (Nat.ne_of_lt hCs) hrp (x.cps.size + 1) 0 0 false [] _ (by omega) (Nat.zero_le _) (hp.keep fun b o _ e => hpush _ b o e)
    ⟨_, Heap.get?_push_size _ rfl⟩ (by show 0 + _ ≤ _; omega) (by show 0 + _ ≤ _; omega) fun h' tk t' k => ?_
  exact hQ h' tk t' fun b o e => k b o (Nat.ne_of_lt (Heap.lt_size e)) (hpush _ b o e)
end
end Mine
end PartRe
section PartRows
open PySem PySem.W PyProof.Rows PySem.Calls PySem.Spec
namespace Mine

local macro_rules | `(tactic| walk_at "WN upd_same") => `(tactic| (intro p hp; repeat' (first | (cases hp; done) | (rcases List.mem_cons.mp hp with he | hp; · subst he; rfl))))
local macro_rules | `(tactic| walk_at "WN upd_rest") => `(tactic| (intro z hz; simp only [List.forall_mem_cons] at hz; (try dsimp only); simp only [Mine.upd, Mine.updO, hz, if_false, reduceIte]))
local macro_rules | `(tactic| walk_at "WN upd_restO") => `(tactic| (intro z hx hz; simp only [List.forall_mem_cons] at hz; (try dsimp only); simp only [Mine.upd, Mine.updO, hx, hz, if_false, reduceIte]))
local macro_rules | `(tactic| walk_at "WN upd_off") => `(tactic| (intro p hp; repeat' (first | (cases hp; done) | (rcases List.mem_cons.mp hp with he | hp; · (subst he; (try dsimp only); decide)))))
local macro_rules | `(tactic| walk_at "exec While Compare cons nil") => `(tactic| refine Mine.stop ?_)
local macro_rules | `(tactic| walk_at "exec For Name Call cons nil") => `(tactic| k_dflt (refine Mine.for_ok ?_))
local macro_rules | `(tactic| walk_at "pyIter ref") => `(tactic| refine Mine.stop ?_)
local macro_rules | `(tactic| walk_at "call builtin:list.append") => `(tactic| (k_here; (with_unfolding_all (show wpAny _ _ (PySem.call (Value.builtin _) [Value.ref _, _]) _ _ _)); k_dflt (refine' append_K ?k1 ?k2 ?k3 ?_ ?z; (case k1 => k_asm); (case k2 => k_asm); (case k3 => k_upd); (case z => size_fits); k_whole); intro h' F' N'; (try k_sweep)))

structure RS where
  near : Int
  far : Int
  i : Int
  j : Int
def wl (count : Int) : Nat → RS → RS
  | 0, st => st
  | n + 1, st => if st.i + st.j < count then (if st.near < st.far then wl count n ⟨st.near, st.far - st.near, st.i, st.i + st.j⟩ else wl count n ⟨st.near - st.far, st.far, st.i + st.j, st.j⟩) else st
def rowVal (st : RS) (count k : Int) : Int := if k < count - st.i then st.near else if k < st.j then st.near + st.far else st.far
def rowNext (st : RS) (count k : Int) : Int := if k < count - st.i then k + st.i else if k < st.j then k + st.i - st.j else k - st.j
def rowsGo (st : RS) (count : Int) : Nat → Int → List Int
  | 0, _ => []
  | n + 1, k => rowVal st count k :: rowsGo st count n (rowNext st count k)
def rowsZ (step ring count : Int) : List Int := rowsGo (wl count count.toNat ⟨step, ring - step, 1, 1⟩) count count.toNat 0
theorem rows_turn {st : RS} {count : Int} {C : Nat} {rs R : List Int} {k : Int} (h : rs.length < C) (hgo : rs ++ rowsGo st count (C - rs.length) k = R) :
    (rs ++ [rowVal st count k]) ++ rowsGo st count (C - (rs.length + 1)) (rowNext st count k) = R := by
  obtain ⟨n, hn⟩ : ∃ n, C - rs.length = n + 1 := ⟨C - rs.length - 1, by omega⟩
  have e : C - (rs.length + 1) = n := by omega
  rw [e, ← hgo, hn, List.append_assoc]
  rfl
theorem ints_snoc {ws : List Value} {rs : List Int} (h : IntsAre ws rs) (z : Int) (t : Tok) : IntsAre (ws ++ [.int z t]) (rs ++ [z]) :=
  IntsAre.append h (IntsAre.cons z t IntsAre.nil)
set_option maxRecDepth 100000 in
set_option maxHeartbeats 8000000 in
theorem rows_spec {w : World} {mean : ExcName → Option Value} {mg mb : Str → Option Value} {dp un : Nat} {fr : Option (List Env)} {gd : Option (List Code)} {E : Value → Shared → Prop} {s : Shared} {Q : Value → Shared → Prop}
    (KX : (Mine.wn_hd.heap_39 w.params).In s.heap) (T : Top Mine.wn_hd.view_39 (looseW Mine.wn_hd.view_39 [Str.ofString "_twin_re_1", Str.ofString "_twin_re_2"]) mean mg mb s.heap) (hroom : dp + 8 < recursionLimit) (hu : un + 16 < cLine)
    {step ring count : Int} {t1 t2 t3 : Tok} (hc : 0 ≤ count ∧ count ≤ 100)
    (hQ : ∀ h' tk D ws n, Ext s.heap h' → h'.get? D = some (listOf (List.toArray ws) n) → s.heap.get? D = none → IntsAre ws (rowsZ step ring count) → Q (.ref D) { s with heap := h', toks := tk }) :
    wpAny (model PySem.Challenge.rw_wn0012_01.row.prog w) ⟨none, dp, fr, gd, un⟩ (PySem.call (.ref 118) [.int step t1, .int ring t2, .int count t3]) Q E s := by
  w_on
  k_dflt refine' enter (binds := [(Str.ofString "step", .int step t1), (Str.ofString "ring", .int ring t2), (Str.ofString "count", .int count t3)]) KX (Top.nolimit T) ?a1 ?a2 ?a3 ?a4 ?a5 ?a6 ?a7 ?a8 ?a9 ?a10
  case a1 => exact Nat.lt_of_le_of_lt (Nat.le_add_right _ _) hroom
  case a2 => k_is
  case a3 => k_is
  case a4 => exact BindsTo.of_eq rfl
  case a5 => exact locs rfl
  case a7 => decide
  case a8 => rfl
  case a9 => rfl
  case a10 => rfl
  intro h₁ tk₁ F
  have N0 : News s.heap s.heap.objs.size h₁ [] := News.nil
  k_steps
  refine Stopped.go ?_
  (rename Fr _ _ _ _ => F1)
  (rename News _ _ _ _ => N1)
  dsimp only at F1
  clear N1
  generalize hfin : wl count count.toNat ⟨step, ring - step, 1, 1⟩ = fin
  refine while_ok (fun n s' => ∃ (st : RS) (tn tf ti tj : Tok) (h' : Heap) (tk : Nat), s' = { s with heap := h', toks := tk } ∧
    Fr s.heap s.heap.objs.size h' (upd [(Str.ofString "near", .int st.near tn), (Str.ofString "far", .int st.far tf), (Str.ofString "i", .int st.i ti), (Str.ofString "j", .int st.j tj)] (fun y => [(Str.ofString "step", Value.int step t1), (Str.ofString "ring", .int ring t2), (Str.ofString "count", .int count t3)].reverse.lookup y)) ∧
    1 ≤ st.i ∧ 1 ≤ st.j ∧ wl count n st = fin ∧ count - (st.i + st.j) ≤ (n : Int)) ?_ count.toNat ?_
  · clear F1
    rintro n s' ⟨st, tn, tf, ti, tj, h', tk, rfl, F', hi, hj, hw, hn⟩
    have N' : News s.heap s.heap.objs.size h' [] := News.nil
    k_steps
    · dsimp only
      (rename Fr _ _ _ _ => F3)
      dsimp only at F3
      obtain ⟨n', rfl⟩ : ∃ n', n = n' + 1 := ⟨n - 1, by omega⟩
      refine WEnd.go n' (Nat.lt_succ_self _) ⟨⟨st.near, st.far - st.near, st.i, st.i + st.j⟩, ?a, ?b, ?c, ?d, _, _, rfl, fr_upd _ F3 ?s1 ?s2, hi, ?e1, ?e2, ?e3⟩
      case s1 => walk_at "WN upd_same"
      case s2 => walk_at "WN upd_rest"
      case e1 => dsimp only; omega
      case e2 => rw [← hw]; simp only [wl]; rw [if_pos (by assumption), if_pos (by assumption)]
      case e3 => dsimp only; omega
    · dsimp only
      (rename Fr _ _ _ _ => F3)
      dsimp only at F3
      obtain ⟨n', rfl⟩ : ∃ n', n = n' + 1 := ⟨n - 1, by omega⟩
      refine WEnd.go n' (Nat.lt_succ_self _) ⟨⟨st.near - st.far, st.far, st.i + st.j, st.j⟩, ?xa, ?xb, ?xc, ?xd, _, _, rfl, fr_upd _ F3 ?xs1 ?xs2, ?xe1, hj, ?xe2, ?xe3⟩
      case xs1 => walk_at "WN upd_same"
      case xs2 => walk_at "WN upd_rest"
      case xe1 => dsimp only; omega
      case xe2 => rw [← hw]; simp only [wl]; rw [if_pos (by assumption), if_neg (by assumption)]
      case xe3 => dsimp only; omega
    · refine Stopped.go ?_
      (rename Fr _ _ _ _ => F3)
      (rename News _ _ _ _ => N3)
      (rename IsRange _ _ _ _ _ _ _ _ => R3)
      rename_i hlt lR hA l1' hB hC FA NA hD tkD tt uu vv keepD
      clear FA NA keepD
      have hst : st = fin := by
        rw [← hw]; cases n with
        | zero => rfl
        | succ n => simp only [wl]; rw [if_neg (by assumption)]
      dsimp only at F3
      refine range_turns (N := count.toNat) rfl R3 (small_one (by decide) (by decide) (by omega) (by omega)) (rangeN hc.1) F3 N3
        (fun i m news g => ∃ rs ws nn k tk' u, news = [(lR, listOf (List.toArray ws) nn)] ∧ IntsAre ws rs ∧ rs.length = i ∧ g = s.gens ∧ rs ++ rowsGo fin count (count.toNat - i) k = rowsGo fin count count.toNat 0 ∧
          m = updO (Str.ofString "turn") u (upd [(Str.ofString "k", .int k tk')] (upd [(Str.ofString "rows", .ref lR), (Str.ofString "near", .int st.near tn), (Str.ofString "far", .int st.far tf), (Str.ofString "i", .int st.i ti), (Str.ofString "j", .int st.j tj)] (fun y => [(Str.ofString "step", Value.int step t1), (Str.ofString "ring", .int ring t2), (Str.ofString "count", .int count t3)].reverse.lookup y)))) ?zj ?zt ?zd
      case zj =>
        refine ⟨[], [], 0, 0, tk + 1 + 1, none, rfl, .nil, rfl, rfl, by simp, ?_⟩
        funext z
        by_cases hz : z = Str.ofString "turn"
        · subst hz; rfl
        · simp only [updO, upd, hz, if_false]
      case zt =>
        rintro i t m₁ news₁ h tk₂ g wr ow hi ⟨rs, ws, nn, k, tk', u, rfl, hws, rfl, rfl, hgo, rfl⟩ hne F5 N5
        have hDw : @Ne Nat lR wr := hne _ (.head _)
        have hwl : ws.length = rs.length := hws.length
        have hwb : ws.length < 1000 := by omega
        clear F3 N3 R3 hne
        subst hst
        k_steps
        · dsimp only
          (rename Fr _ _ _ _ => F6)
          (rename News _ _ _ _ => N6)
          dsimp only at F6 N6
          rw [List.push_toArray] at N6
          have hv : rowVal st count k = st.near := by unfold rowVal; rw [if_pos (by assumption)]
          have hx : rowNext st count k = k + st.i := by unfold rowNext; rw [if_pos (by assumption)]
          refine REnd.go _ (fr_updO (Str.ofString "turn") [(Str.ofString "k", .int (k + st.i) ?t1)] F6 ?q1 ?q2 ?q3) N6 ?q4 ⟨rs ++ [st.near], _, _, k + st.i, _, _, rfl, ints_snoc hws _ _, ?q5, rfl, ?q6, rfl⟩
          case q1 => walk_at "WN upd_same"
          case q2 => walk_at "WN upd_off"
          case q3 => walk_at "WN upd_restO"
          case q4 => intro p hp; rw [List.mem_singleton.mp hp]; exact hDw
          case q5 => rw [List.length_append]; rfl
          case q6 => rw [← hv, ← hx]; exact rows_turn hi hgo
        · dsimp only
          (rename Fr _ _ _ _ => F6)
          (rename News _ _ _ _ => N6)
          dsimp only at F6 N6
          rw [List.push_toArray] at N6
          have hv : rowVal st count k = st.near + st.far := by unfold rowVal; rw [if_neg (by assumption), if_pos (by assumption)]
          have hx : rowNext st count k = k + st.i - st.j := by unfold rowNext; rw [if_neg (by assumption), if_pos (by assumption)]
          refine REnd.go _ (fr_updO (Str.ofString "turn") [(Str.ofString "k", .int (k + st.i - st.j) ?t2)] F6 ?r1 ?r2 ?r3) N6 ?r4 ⟨rs ++ [st.near + st.far], _, _, k + st.i - st.j, _, _, rfl, ints_snoc hws _ _, ?r5, rfl, ?r6, rfl⟩
          case r1 => walk_at "WN upd_same"
          case r2 => walk_at "WN upd_off"
          case r3 => walk_at "WN upd_restO"
          case r4 => intro p hp; rw [List.mem_singleton.mp hp]; exact hDw
          case r5 => rw [List.length_append]; rfl
          case r6 => rw [← hv, ← hx]; exact rows_turn hi hgo
        · dsimp only
          (rename Fr _ _ _ _ => F6)
          (rename News _ _ _ _ => N6)
          dsimp only at F6 N6
          rw [List.push_toArray] at N6
          have hv : rowVal st count k = st.far := by unfold rowVal; rw [if_neg (by assumption), if_neg (by assumption)]
          have hx : rowNext st count k = k - st.j := by unfold rowNext; rw [if_neg (by assumption), if_neg (by assumption)]
          refine REnd.go _ (fr_updO (Str.ofString "turn") [(Str.ofString "k", .int (k - st.j) ?t3)] F6 ?u1 ?u2 ?u3) N6 ?u4 ⟨rs ++ [st.far], _, _, k - st.j, _, _, rfl, ints_snoc hws _ _, ?u5, rfl, ?u6, rfl⟩
          case u1 => walk_at "WN upd_same"
          case u2 => walk_at "WN upd_off"
          case u3 => walk_at "WN upd_restO"
          case u4 => intro p hp; rw [List.mem_singleton.mp hp]; exact hDw
          case u5 => rw [List.length_append]; rfl
          case u6 => rw [← hv, ← hx]; exact rows_turn hi hgo
      case zd =>
        rintro m₁ news₁ h tk₂ g ⟨rs, ws, nn, k, tk', u, rfl, hws, hlen, rfl, hgo, rfl⟩ F5 N5
        clear F3 N3 R3
        dsimp only
        k_steps
        dsimp only
        refine hQ _ _ _ ws nn F5.keep (N5 _ (.head _)).1 (N5 _ (.head _)).2.2 ?_
        rw [Nat.sub_self] at hgo
        have e : rs = rowsZ step ring count := by
          unfold rowsZ
          rw [hfin, ← hst, hst, ← hgo]
          simp [rowsGo]
        rw [← e]
        exact hws
  · refine ⟨⟨step, ring - step, 1, 1⟩, ?ya, ?yb, ?yc, ?yd, _, _, rfl, fr_upd _ F1 ?ys1 ?ys2, Int.le_refl _, Int.le_refl _, hfin, ?ye3⟩
    case ys1 => walk_at "WN upd_same"
    case ys2 => walk_at "WN upd_rest"
    case ye3 => dsimp only; omega
end Mine
end PartRows
section PartQ
open PySem PySem.W PyProof.Rows PySem.Calls PySem.Spec
namespace Mine

set_option maxRecDepth 100000 in
set_option maxHeartbeats 8000000 in
theorem pat1 {w : World} {h : Heap} (KX : (Mine.wn_hd.heap_39 w.params).In h) : Pat h 87 86 code1 :=
  ⟨_, _, _, _, _, _, _, _, KX 87 _ (by k_is), rfl, rfl, rfl, KX 86 _ (by k_is), rfl, by simp [Builtin.Re.reRawOf, code1]⟩
set_option maxRecDepth 100000 in
set_option maxHeartbeats 8000000 in
theorem pat2 {w : World} {h : Heap} (KX : (Mine.wn_hd.heap_39 w.params).In h) : Pat h 92 91 code2 :=
  ⟨_, _, _, _, _, _, _, _, KX 92 _ (by k_is), rfl, rfl, rfl, KX 91 _ (by k_is), rfl, by simp [Builtin.Re.reRawOf, code2]⟩

def sub2 (x : Array Nat) : List Nat := outG x [13, 10] (fun d => nx2 x x.size (x.size - d) d) (x.size + 1) 0
def sub1 (x : Array Nat) : List Nat := outG x [46, 46] (fun d => nx1 x x.size (x.size - d) d) (x.size + 1) 0

theorem nx1_ok (text : Array Nat) (lim : Nat) : ∀ (n d a b : Nat), n + d = lim → nx1 text lim n d = some (a, b) → d ≤ a ∧ a < b ∧ b ≤ lim
  | 0, _, _, _, _, h => by cases h
  | n + 1, d, a, b, hn, h => by
    unfold nx1 at h
    by_cases h1 : hit1 text lim d = true
    · rw [if_pos h1] at h
      cases h
      omega
    · rw [if_neg h1] at h
      have := nx1_ok text lim n (d + 1) a b (by omega) h
      omega
theorem nx2_ok (text : Array Nat) (lim : Nat) : ∀ (n d a b : Nat), n + d = lim → nx2 text lim n d = some (a, b) → d ≤ a ∧ a < b ∧ b ≤ lim
  | 0, _, _, _, _, h => by cases h
  | n + 1, d, a, b, hn, h => by
    unfold nx2 at h
    by_cases h1 : is2 (text.getD d 0) = true
    · rw [if_pos h1] at h
      simp only [at2, Option.some.injEq, Prod.mk.injEq] at h
      obtain ⟨rfl, h2⟩ := h
      split at h2 <;> omega
    · rw [if_neg h1] at h
      have := nx2_ok text lim n (d + 1) a b (by omega) h
      omega
theorem outG_len {text : Array Nat} {repl : List Nat} {nx : Nat → Option (Nat × Nat)} (hr : repl.length ≤ 2) (hnx : ∀ d a b, d ≤ text.size → nx d = some (a, b) → d ≤ a ∧ a < b ∧ b ≤ text.size) :
    ∀ (f d : Nat), d ≤ text.size → (outG text repl nx f d).length ≤ 3 * (text.size - d)
  | 0, d, hd => by show 0 ≤ _; omega
  | f + 1, d, hd => by
    unfold outG
    cases h : nx d with
    | none => simp only [Array.length_toList, Array.size_extract]; omega
    | some r =>
      obtain ⟨a, b⟩ := r
      obtain ⟨h1, h2, h3⟩ := hnx d a b hd h
      have := outG_len hr hnx f b h3
      simp only [List.length_append, Array.length_toList, Array.size_extract]
      omega
theorem sub2_len (x : Array Nat) : (sub2 x).length ≤ 3 * x.size := outG_len (by decide) (fun d a b hd h => nx2_ok _ _ _ _ _ _ (by omega) h) _ 0 (Nat.zero_le _)

theorem sub2_sz (y : Array Nat) (h : y.size ≤ 10000) : (sub2 y).toArray.size ≤ 300000 := by
  have := sub2_len y
  rw [List.size_toArray]; omega
theorem Pat.ext {h h' : Heap} {P C : Addr} {code : Array Nat} (p : Pat h P C code) (e : Ext h h') : Pat h' P C code := p.keep fun b o _ x => e b o x
theorem news_extQ {h₀ h h' : Heap} {L : Addr} {news : List (Addr × Obj)} (N : News h₀ L h news) (e : Ext h h') : News h₀ L h' news := fun p hp => ⟨e _ _ (N p hp).1, (N p hp).2⟩
theorem call_sub1 {w : World} {A : Around} {E : Value → Shared → Prop} {s : Shared} {Q : Value → Shared → Prop} {x rp : Str} {t tr : Tok} (hp : Pat s.heap 87 86 code1) (hx : x.cps.size ≤ 300000) (hr : rp.cps.toList = [46, 46])
    (hQ : ∀ h' tk t', Ext s.heap h' → Q (.str ⟨(sub1 x.cps).toArray⟩ t') { s with heap := h', toks := tk }) :
    wpAny (model PySem.Challenge.rw_wn0012_01.row.prog w) A (PySem.call (.builtin "re.Pattern.sub") [.ref 87, .str rp tr, .str x t]) Q E s := by
  refine call_sub (N := 4 * x.cps.size + 5) (nx := fun d => nx1 x.cps x.cps.size (x.cps.size - d) d) hp (fun d must hd => (search1 d must hd).more (by omega)) (by omega) (fun d a b hd h => nx1_ok _ _ _ _ _ _ (by omega) h) ?_ ?_ hx fun h' tk t' e => ?_
  · rw [← Array.length_toList, hr]; decide
  · rw [show rp.cps = #[46, 46] from by rw [← Array.toArray_toList (xs := rp.cps), hr]]; simp
  · rw [hr]; exact hQ h' tk t' e
theorem call_sub2 {w : World} {A : Around} {E : Value → Shared → Prop} {s : Shared} {Q : Value → Shared → Prop} {x rp : Str} {t tr : Tok} (hp : Pat s.heap 92 91 code2) (hx : x.cps.size ≤ 300000) (hr : rp.cps.toList = [13, 10])
    (hQ : ∀ h' tk t', Ext s.heap h' → Q (.str ⟨(sub2 x.cps).toArray⟩ t') { s with heap := h', toks := tk }) :
    wpAny (model PySem.Challenge.rw_wn0012_01.row.prog w) A (PySem.call (.builtin "re.Pattern.sub") [.ref 92, .str rp tr, .str x t]) Q E s := by
  refine call_sub (N := 20) (nx := fun d => nx2 x.cps x.cps.size (x.cps.size - d) d) hp (fun d must hd => search2 d must hd) (by omega) (fun d a b hd h => nx2_ok _ _ _ _ _ _ (by omega) h) ?_ ?_ hx fun h' tk t' e => ?_
  · rw [← Array.length_toList, hr]; decide
  · rw [show rp.cps = #[13, 10] from by rw [← Array.toArray_toList (xs := rp.cps), hr]]; simp
  · rw [hr]; exact hQ h' tk t' e

local macro_rules | `(tactic| walk_at "getMethod ref") => `(tactic| (k_dflt (first | refine Mine.getMethod_sub (C := 86) (code := code1) (Pat.ext (pat1 (by assumption)) (Fr.keep (by assumption))) ?_ | refine Mine.getMethod_sub (C := 91) (code := code2) (Pat.ext (pat2 (by assumption)) (Fr.keep (by assumption))) ?_)))
local macro_rules | `(tactic| walk_at "call builtin:re.Pattern.sub") => `(tactic| (k_here; (k_dflt (first
   | refine call_sub1 (Pat.ext (pat1 (by assumption)) (Fr.keep (by assumption))) ?hz (by rfl) ?_
   | refine call_sub2 (Pat.ext (pat2 (by assumption)) (Fr.keep (by assumption))) ?hz (by rfl) ?_)); (case hz => first | exact sub2_sz _ (by assumption) | omega); intro h' tk' t' e; have F' := Fr.keptAll (by assumption) e; have N' := news_extQ (by assumption) e))
set_option maxRecDepth 100000 in
set_option maxHeartbeats 8000000 in
theorem quote_spec {w : World} {mean : ExcName → Option Value} {mg mb : Str → Option Value} {dp un : Nat} {fr : Option (List Env)} {gd : Option (List Code)} {E : Value → Shared → Prop} {s : Shared} {Q : Value → Shared → Prop}
    (KX : (Mine.wn_hd.heap_39 w.params).In s.heap) (T : Top Mine.wn_hd.view_39 (looseW Mine.wn_hd.view_39 [Str.ofString "_twin_re_1", Str.ofString "_twin_re_2"]) mean mg mb s.heap) (hroom : dp + 8 < recursionLimit) (hu : un + 16 < cLine)
    {x : Str} {t1 : Tok} (hx : x.cps.size ≤ 10000)
    (hQ : ∀ h' tk tv, Ext s.heap h' → Q (.str ⟨(sub1 (sub2 x.cps).toArray).toArray⟩ tv) { s with heap := h', toks := tk }) :
    wpAny (model PySem.Challenge.rw_wn0012_01.row.prog w) ⟨none, dp, fr, gd, un⟩ (PySem.call (.ref 99) [.str x t1]) Q E s := by
  w_on
  k_dflt refine' enter (binds := [(Str.ofString "data", .str x t1)]) KX (Top.nolimit T) ?a1 ?a2 ?a3 ?a4 ?a5 ?a6 ?a7 ?a8 ?a9 ?a10
  case a1 => exact Nat.lt_of_le_of_lt (Nat.le_add_right _ _) hroom
  case a2 => k_is
  case a3 => k_is
  case a4 => exact BindsTo.of_eq rfl
  case a5 => exact locs rfl
  case a7 => decide
  case a8 => rfl
  case a9 => rfl
  case a10 => rfl
  intro h₁ tk₁ F
  have N0 : News s.heap s.heap.objs.size h₁ [] := News.nil
  k_steps
  exact hQ _ _ _ (fun b o e => Fr.keep (by assumption) b o e)
end Mine
end PartQ
section PartP
open PySem PySem.StrLaws
namespace Mine
theorem idx_neg_lo (z : Int) (hz : 1 ≤ z) (n : Nat) : Builtin.Str.strSliceIndices (some (-z)) none 1 n = Builtin.Str.strSliceIndices (some ((n - z.toNat : Nat) : Int)) none 1 n := by
  have e1 : max (0 : Int) (min (-z + (n : Int)) n) = ((n - z.toNat : Nat) : Int) := by omega
  have e2 : max (0 : Int) (min ((n - z.toNat : Nat) : Int) n) = ((n - z.toNat : Nat) : Int) := by omega
  have h1 : -z < 0 := by omega
  have h2 : ¬ (((n - z.toNat : Nat) : Int) < 0) := by omega
  simp only [Builtin.Str.strSliceIndices, h1, h2, if_true, if_false, reduceIte, show (1 : Int) > 0 from by decide, e1, e2]
theorem idx_neg_hi (z : Int) (hz : 1 ≤ z) (n : Nat) : Builtin.Str.strSliceIndices none (some (-z)) 1 n = Builtin.Str.strSliceIndices none (some ((n - z.toNat : Nat) : Int)) 1 n := by
  have e1 : max (0 : Int) (min (-z + (n : Int)) n) = ((n - z.toNat : Nat) : Int) := by omega
  have e2 : max (0 : Int) (min ((n - z.toNat : Nat) : Int) n) = ((n - z.toNat : Nat) : Int) := by omega
  have h1 : -z < 0 := by omega
  have h2 : ¬ (((n - z.toNat : Nat) : Int) < 0) := by omega
  simp only [Builtin.Str.strSliceIndices, h1, h2, if_true, if_false, reduceIte, show (1 : Int) > 0 from by decide, e1, e2]
theorem slice_last (x : Str) {z : Int} (hz : 1 ≤ z) : (Txt.slice x (some (-z)) none).cps.toList = x.cps.toList.drop (x.cps.toList.length - z.toNat) := by
  have e : Txt.slice x (some (-z)) none = sliceText x (some ((x.length - z.toNat : Nat) : Int)) none := by
    show sliceText _ _ _ = _
    unfold sliceText
    rw [idx_neg_lo z hz]
  have hl : x.length = x.cps.toList.length := by simp [Str.length]
  rw [e, hl, sliceText_from ⟨by omega, by omega⟩]
  simp only [Int.toNat_natCast]
  apply List.take_of_length_le
  rw [List.length_drop]; omega
theorem slice_init (x : Str) {z : Int} (hz : 1 ≤ z) : (Txt.slice x none (some (-z))).cps.toList = x.cps.toList.take (x.cps.toList.length - z.toNat) := by
  have e : Txt.slice x none (some (-z)) = sliceText x none (some ((x.length - z.toNat : Nat) : Int)) := by
    show sliceText _ _ _ = _
    unfold sliceText
    rw [idx_neg_hi z hz]
  have hl : x.length = x.cps.toList.length := by simp [Str.length]
  rw [e, hl, sliceText_to ⟨by omega, by omega⟩]
  simp only [List.drop_zero]
  congr 1
def figs6 (num : Int) : List Nat := [48 + (num / 100000 % 10).toNat, 48 + (num / 10000 % 10).toNat, 48 + (num / 1000 % 10).toNat, 48 + (num / 100 % 10).toNat, 48 + (num / 10 % 10).toNat, 48 + (num % 10).toNat]
theorem digitChar_nat : ∀ k, k < 10 → (Nat.digitChar k).toNat = 48 + k := by decide
theorem digits6 {num : Int} (h : 100000 ≤ num ∧ num ≤ 999999) : (Str.ofString (toString num)).cps.toList = figs6 num := by
  obtain ⟨m, rfl⟩ := Int.eq_ofNat_of_zero_le (show 0 ≤ num by omega)
  have e : toString (m : Int) = Nat.repr m := rfl
  rw [e, Str.ofString_eq_toList, Nat.toList_repr]
  have h1 : 100000 ≤ m := by omega
  have h2 : m ≤ 999999 := by omega
  have hb : ∀ {n : Nat}, 10 ≤ n → Nat.toDigits 10 n = Nat.toDigits 10 (n / 10) ++ [Nat.digitChar (n % 10)] := fun hn => Nat.toDigits_of_base_le (by decide) hn
  rw [hb (by omega), hb (n := m / 10) (by omega), hb (n := m / 10 / 10) (by omega), hb (n := m / 10 / 10 / 10) (by omega), hb (n := m / 10 / 10 / 10 / 10) (by omega), Nat.toDigits_of_lt_base (by omega)]
  simp only [List.map_append, List.map_cons, List.map_nil, List.cons_append, List.nil_append, List.append_assoc, figs6]
  rw [digitChar_nat _ (by omega), digitChar_nat _ (by omega), digitChar_nat _ (by omega), digitChar_nat _ (by omega), digitChar_nat _ (by omega), digitChar_nat _ (by omega)]
  have e1 : ((m : Int) / 100000 % 10).toNat = m / 10 / 10 / 10 / 10 / 10 := by omega
  have e2 : ((m : Int) / 10000 % 10).toNat = m / 10 / 10 / 10 / 10 % 10 := by omega
  have e3 : ((m : Int) / 1000 % 10).toNat = m / 10 / 10 / 10 % 10 := by omega
  have e4 : ((m : Int) / 100 % 10).toNat = m / 10 / 10 % 10 := by omega
  have e5 : ((m : Int) / 10 % 10).toNat = m / 10 % 10 := by omega
  have e6 : ((m : Int) % 10).toNat = m % 10 := by omega
  rw [e1, e2, e3, e4, e5, e6]
theorem len_list (x : Str) : x.length = x.cps.toList.length := by simp [Str.length]
theorem join_ok {x : Str} {l : List (Str × Tok)} (hx : x.length ≤ 10) (hl : l.length ≤ 100) (hp : ∀ p ∈ l, p.1.length ≤ 1000) : JoinOk x (l.map (·.1)) = true := by
  unfold JoinOk
  rw [joinTotal, List.map_map]
  have h : ∀ (l : List (Str × Tok)), (∀ p ∈ l, p.1.length ≤ 1000) → (l.map ((fun y => y.length) ∘ fun y => y.1)).sum ≤ 1000 * l.length := by
    intro l
    induction l with
    | nil => intro _; exact Nat.le_refl _
    | cons p r ih =>
      intro h
      have := ih fun q hq => h q (.tail _ hq)
      have := h p (.head _)
      simp only [List.map_cons, List.sum_cons, List.length_cons, Function.comp] at *
      omega
  have := h l hp
  have h2 : (l.map (·.1)).length * x.length ≤ 100 * 10 := Nat.mul_le_mul (by rw [List.length_map]; exact hl) hx
  unfold Builtin.Str.tooLong sizeLine
  rw [Bool.not_eq_true', decide_eq_false_iff_not]
  have e : (l.map ((fun y => Str.length y) ∘ fun y : Str × Tok => y.1)) = (l.map ((fun x => x.length) ∘ fun x : Str × Tok => x.fst)) := rfl
  omega
theorem join_len {x : Str} {l : List (Str × Tok)} (hx : x.length ≤ 10) (hl : l.length ≤ 100) (hp : ∀ p ∈ l, p.1.length ≤ 1000) : (Txt.join x (l.map (·.1))).length ≤ 200000 := by
  have h0 := StrLaws.join_length_le x (l.map (·.1))
  have h : ∀ (l : List (Str × Tok)), (∀ p ∈ l, p.1.length ≤ 1000) → ((l.map (·.1)).map (·.length)).sum ≤ 1000 * l.length := by
    intro l
    induction l with
    | nil => intro _; exact Nat.le_refl _
    | cons p r ih =>
      intro h
      have := ih fun q hq => h q (.tail _ hq)
      have := h p (.head _)
      simp only [List.map_cons, List.sum_cons, List.length_cons] at *
      omega
  have := h l hp
  have h2 : (l.map (·.1)).length * x.length ≤ 100 * 10 := Nat.mul_le_mul (by rw [List.length_map]; exact hl) hx
  have e : Txt.join x (l.map (·.1)) = Str.join x (l.map (·.1)) := StrLaws.glued_eq_join _ _
  rw [e]
  omega
end Mine
end PartP
section PartG
open PySem PySem.W PyProof.Rows PySem.Calls PySem.Spec
namespace Mine
section
variable {M : Model} {A : Around} {R : GenEnd} {Y : Protocol} {n : Nat} {s₀ : Shared} {c : Code} {fs : List PySem.Frame} {s : Shared} {env : Env}
  {K : Flow → Sem PySem.Fin} {H : Value → Sem PySem.Fin} {gd : Bool → Bool} {lv : List Value → List Value}

def backK (env : Env) (K : Flow → Sem PySem.Fin) (H : Value → Sem PySem.Fin) (gd : Bool → Bool) (lv : List Value → List Value) (r : Result) : Sem PySem.Fin :=
  ((match r with | .ok f => (.pure f : Sem Flow) | .error e => .raise e).onRaise fun (x : Value) => do
        if (← field x 1) == Value.none then unsupported "frame.own-activation:exception-without-traceback"
        setFlight x env.frame).wrap K H gd lv

theorem seg_For {target iter : Expr} {body orelse : List Stmt} {pos : Pos}
    (h : wpAny M (A.over c fs) (eval iter env) (fun x s₁ => wpAny M (A.over c fs) (pyIter x) (fun it s₂ => ∀ p, Seg M A R Y n s₀ (.forLoop target it body orelse env) (M.den (.forLoop target it body orelse env))
      (.ret (backK env K H gd lv) none (gd false) (lv []) c p [] :: fs) s₂) NoE s₁) NoE s)
    (hs : ∀ x, foldedSetIterable iter env x = pure x := by intro _; rfl) :
    Seg M A R Y n s₀ c ((exec (.For target iter body orelse pos) env).wrap K H gd lv) fs s := by
  rw [exec_For]
  refine seg_bind_wrap (wpAny_standAt ?_)
  refine seg_bind_wrap (wpAny_mono h (fun x s₁ h₁ => ?_) fun _ _ e => e.elim)
  refine seg_bind_wrap (wpAny_of_eq (hs x) ?_)
  refine seg_bind_wrap (wpAny_standAt ?_)
  refine seg_bind_wrap (wpAny_holding (wpAny_mono h₁ (fun it s₂ h₂ => ?_) fun _ _ e => e.elim))
  exact seg_call h₂

theorem seg_If {test : Expr} {body orelse : List Stmt} {pos : Pos}
    (h : wpAny M (A.over c fs) (isTrue test env (eval test env)) (fun b s₁ => if b = true then Seg M A R Y n s₀ c ((execs body env).wrap K H gd lv) fs s₁ else Seg M A R Y n s₀ c ((execs orelse env).wrap K H gd lv) fs s₁) NoE s) :
    Seg M A R Y n s₀ c ((exec (.If test body orelse pos) env).wrap K H gd lv) fs s := by
  rw [exec_If]
  refine seg_bind_wrap (wpAny_standAt ?_)
  refine seg_bind_wrap (wpAny_mono h (fun b s₁ h₁ => ?_) fun _ _ e => e.elim)
  cases b with
  | true => rw [if_pos rfl] at h₁; exact h₁
  | false => rw [if_neg (by decide)] at h₁; exact h₁

theorem seg_exec {m : Sem Flow} (h : wpAny M (A.over c fs) m (fun f s' => Seg M A R Y n s₀ c (K f) fs s') NoE s) : Seg M A R Y n s₀ c (m.wrap K H gd lv) fs s :=
  seg_wrap (wpAny_mono h (fun _ _ x => x) fun _ _ e => e.elim)

theorem seg_back {env' : Env} {f : Flow} {hnd : Option Value} {g : Bool} {l : List Value} {c₁ : Code} {p₁ : Pos}
    (h : Seg M A R Y n s₀ c₁ (K f) fs s) : Seg M A R Y n s₀ c (.pure (.done f)) (.ret (backK env' K H gd lv) hnd g l c₁ p₁ [] :: fs) s := by
  refine seg_leaf (.ok f) ?_
  exact h
end
section
variable {prog : Program} {w : World} {A : Around} {R : GenEnd} {Y : Protocol} {n : Nat} {s₀ : Shared} {fs : List PySem.Frame} {s : Shared} {env : Env}
def segTurn (x : Str) (px : Pos) (it : Value) (body : List Stmt) (env : Env) : Flow → Sem PySem.Fin
  | .next | .cont => .pure (.again (.forLoop (.Name x px) it body [] env))
  | .brk => .pure (.done .next)
  | .ret v => .pure (.done (.ret v))
def segH (env : Env) (e : Value) : Sem PySem.Fin := (do noteFrame e env; theTreesLotGoes e : Sem Unit).bind fun _ => .raise e
theorem seg_forLoop {x : Str} {px : Pos} {it : Value} {body : List Stmt}
    (h : wpAny (model prog w) (A.over (.forLoop (.Name x px) it body [] env) fs) (pyNext it) (fun r s₁ => match r with
        | none => Seg (model prog w) A R Y n s₀ (.block [] env) (.pure (.done .next)) fs s₁
        | some v => wpAny (model prog w) (A.over (.forLoop (.Name x px) it body [] env) fs) (storeName env x v) (fun _ s₂ =>
            Seg (model prog w) A R Y n s₀ (.forLoop (.Name x px) it body [] env) ((execs body env).wrap (segTurn x px it body env) (segH env) id id) fs s₂) NoE s₁) NoE s) :
    Seg (model prog w) A R Y n s₀ (.forLoop (.Name x px) it body [] env) ((model prog w).den (.forLoop (.Name x px) it body [] env)) fs s := by
  show Seg _ A R Y n s₀ _ ((forTurn (.Name x px) it body [] env).onRaise (fun x => do noteFrame x env; theTreesLotGoes x)) fs s
  unfold forTurn
  rw [Sem.onRaise_eq_wrap]
  refine seg_bind_wrap (wpAny_standAt ?_)
  refine seg_bind_wrap (wpAny_onRaise (wpAny_mono h (fun r s₁ h₁ => ?_) fun _ _ e => e.elim))
  cases r with
  | none => exact seg_again rfl h₁
  | some v =>
    refine seg_bind_wrap (wpAny_of_eq (rfl : letOwnedTupleGo (.Name x px) it v = pure ()) ?_)
    refine seg_bind_wrap (wpAny_assign_Name (wpAny_mono h₁ (fun _ s₂ h₂ => ?_) fun _ _ e => e.elim))
    rw [Sem.bind_eq_wrap', Sem.wrap_wrap]
    exact Eq.mpr (congrArg (fun t => Seg (model prog w) A R Y n s₀ (.forLoop (.Name x px) it body [] env) t fs s₂) (Sem.wrap_congr (execs body env) (K' := segTurn x px it body env) (H' := segH env) id id (fun f => by cases f <;> rfl) (fun e => rfl))) h₂
end
end Mine
end PartG
section PartG2
open PySem PySem.W PyProof.Rows PySem.Calls PySem.Spec
namespace Mine

section
variable {prog : Program} {w : World} {A : Around} {E : Value → Shared → Prop} {s : Shared}
theorem next_gen {a : Addr} {g n : Nat} {gs : GenState} {P : Nat → Shared → Shared → Prop} {Y : Protocol} {Q : Option Value → Shared → Prop} (hh : A.handled = none)
    (hl : s.heap.NoLimit) (hroom : A.depth < recursionLimit)
    (hg : s.heap.IsGen a g) (hgs : s.gens[g]? = some gs)
    (hgo : gs.Goes (model prog w) A.in1 (fun n s₀ r s₁ => r = .ok (.ret .none) ∧ P n s₀ s₁) Y n (.send .none) (s.setGen g .running))
    (hY : ∀ v s₁ gs', gs'.bare = true → Y (n - 1) (s.setGen g .running) v s₁ (fun r' s'' => match n with
        | 0 => False
        | m + 1 => gs'.Goes (model prog w) A.in1 (fun n s₀ r s₁ => r = .ok (.ret .none) ∧ P n s₀ s₁) Y m r' s'') → Q (some v) (s₁.setGen g gs'))
    (hP : ∀ s₁, P n (s.setGen g .running) s₁ → ∀ h', (∀ b o, s₁.heap.get? b = some o → h'.get? b = some o) → Q none { s₁.setGen g .finished with heap := h' }) :
    wpAny (model prog w) A (pyNext (.ref a)) Q E s := by
  unfold pyNext
  refine wpAny_bind (wpAny_attempt (wpAny_callSpecial?_slot (name := Str.ofString "__next__") hg.typeIs slot_gen_next
    (wpAny_call_entry slot_gen_next hg.typeIs entry_gen_next ?_ (args_gen_next _))))
  show wpAny _ A.in1 (Builtin.Generator.genWake (.ref a) (.send .none)) _ _ s
  unfold Builtin.Generator.genWake
  refine wpAny_bind (wpAny_holding (wpAny_genNumber hg (wpAny_bind (wpAny_genState hgs ?_))))
  cases gs with
  | running => exact hgo.elim
  | finished => exact hgo.elim
  | _ =>
    refine wpAny_bind (wpAny_roomToWake hl hroom ?_)
    show wpAny _ A.in1 (.resume g (.send .none) [] _) _ _ s
    refine wpAny_resumeQ hgs hgo (fun x s₁ hx => ?_) (fun v s₁ gs' hb hv => ?_)
    · obtain ⟨rfl, hp⟩ := hx
      show wpAny _ A.in1 (newExc (.type "StopIteration") [] >>= _) _ _ _
      refine wpAny_bind ?_
      simp only [newExc, newTuple]
      refine wpAny_bind (wpAny_newObj_type ?_ (by size_fits))
      refine wpAny_bind (m := firstArgMember _ _) (wpAny_of_eq (a := Value.none) (by first | rfl | (simp only [firstArgMember]; rfl)) ?_)
      refine wpAny_newObj_type ?_ (by size_fits)
      simp only [raiseNew]
      refine wpAny_bind (wpAny_bind (wpAny_handled ?_))
      rw [show A.in1.handled = none from hh]
      refine wpAny_throw ?_
      refine wpAny_bind (wpAny_isInstance (T := "StopIteration") (b := true) ⟨_, Heap.get?_push_size _ rfl, rfl⟩ isSubtype_stop ?_)
      exact wpAny_pure (hP s₁ hp _ fun b o hb => Heap.get?_push_of_some _ (Heap.get?_push_of_some _ hb))
    · exact wpAny_pure ⟨v, rfl, wpAny_pure (hY v s₁ gs' hb hv)⟩
end

def DictO (o : Obj) : Prop := ∃ es ep, o.data = .dict es ep
theorem ns_dict {h : Heap} {L : Addr} {m : Str → Option Value} (x : h.Ns L m) : ∃ o, h.get? L = some o ∧ DictO o := let ⟨o, es, ep, ho, hd, _⟩ := x; ⟨o, ho, es, ep, hd⟩
def LI (o : Obj) : Prop := o.cls = .type "list_iterator" ∧ ∃ vs, o.data = .fields vs
def Since (h₀ : Heap) (D : Addr) (s₀ s : Shared) : Prop :=
  ∃ h' tk, s = { s₀ with heap := h', toks := tk } ∧ ∀ b o, b ≠ D → (h₀.get? b ≠ none ∨ ¬ LI o) → s₀.heap.get? b = some o → h'.get? b = some o
def Later (h₀ : Heap) (D I : Addr) (s s'' : Shared) : Prop :=
  Ext h₀ s''.heap ∧ (∀ o, s.heap.get? D = some o → s''.heap.get? D = some o) ∧ (∀ o, s.heap.get? I = some o → s''.heap.get? I = some o)
def Yp (h₀ : Heap) (D : Addr) (val : Nat → Int) (fin : Bool) : Protocol := fun m s₀ v s kap =>
  (∃ t, v = .int (val m) t) ∧ Since h₀ D s₀ s ∧ ∃ I oI, h₀.get? I = none ∧ I ≠ D ∧ s.heap.get? I = some oI ∧ LI oI ∧ (∃ oD, s.heap.get? D = some oD ∧ DictO oD) ∧
    ((m = 0 → fin = true) → ∀ s'', Later h₀ D I s s'' → kap (.send .none) s'')
def Rp (h₀ : Heap) (D : Addr) (fin : Bool) : GenEnd := fun n s₀ r s₁ => r = .ok (.ret .none) ∧ (n = 0 ∧ fin = true ∧ Since h₀ D s₀ s₁)
def LitA (A : Around) : Prop := ∃ d f g u, A = ⟨none, d, f, g, u⟩ ∧ d + 8 < recursionLimit ∧ u + 16 < cLine

theorem enterGen {w : World} {A : Around} {E : Value → Shared → Prop} {s : Shared} {Q : Value → Shared → Prop} {K : Frag}
    {name qual : Str} {params : Arguments} {body : List Stmt} {scope : Scope} {cl : List (Str × Addr)} {dV kV doc pm cdv ct oc : Value} {an od : Option Addr} {osl : Array (Option Value)} {f : Addr} {args : List Value} {binds : List (Str × Value)}
    (X : K.In s.heap) (hlim : s.heap.NoLimit) (hroom : A.depth < recursionLimit)
    (ho : K.lookup f = some ⟨oc, od, .func (fnX name qual params body scope cl dV kV doc pm an cdv ct), osl⟩) (hcd : codeIn K cdv qual = true)
    (hbind : BindsTo s (fnX name qual params body scope cl dV kV doc pm an cdv ct) ⟨args, []⟩ binds) (hloc : ∀ y ∈ binds, scope.names.lookup y.1 = some .local)
    (h : ∀ h₁ tk₁ gobj, Fr s.heap s.heap.objs.size h₁ (fun y => binds.reverse.lookup y) → (h₁.push gobj).IsGen h₁.objs.size s.gens.size → gobj.isFreed = false →
      Q (.ref h₁.objs.size) { s with heap := h₁.push gobj, toks := tk₁, gens := s.gens.push (.fresh (.func body (envX qual scope s.heap.objs.size f cdv cl))) })
    (hcell : ∀ x ∈ scope.names, x.2 ≠ .cell) (hco : scope.isCoroutine = false) (hgen : scope.isGenerator = true) (hk : scope.kind = .function) :
    wpAny (model PySem.Challenge.rw_wn0012_01.row.prog w) A (PySem.call (.ref f) args) Q E s := by
  refine wpAny_call ?_
  refine codeAny_call_generator (fd := fnX name qual params body scope cl dV kV doc pm an cdv ct) (body := body) hroom (X _ _ ho) rfl hco hgen rfl (codeRec_of X hcd) (hbind _ _ _ _ ?_)
  refine wpAny_newFunctionEnv hcell hloc (fun h₀ hns₀ hsb₀ => ⟨hlim.fresh _ hsb₀, ?_⟩) hk
  refine h h₀ _ _ ⟨hns₀, fun b o e => ?_, Nat.le_refl _⟩ ⟨_, _, _, Heap.get?_push_size _ rfl, rfl, rfl, rfl⟩ rfl
  exact hsb₀.extBut b o (Nat.ne_of_lt (Heap.lt_size e)) (Heap.get?_push_of_some _ e)
end Mine
end PartG2
section PartG3
open PySem PySem.W PyProof.Rows PySem.Calls PySem.Spec
namespace Mine

def Ready (prog : Program) (w : World) (h₀ : Heap) (D : Addr) (oD : Obj) (n : Nat) (val : Nat → Int) (fin : Bool) (gs : GenState) : Prop :=
  ∀ A s₁, (∃ d f g u, A = ⟨none, d, f, g, u⟩ ∧ d + 30 < recursionLimit ∧ u + 60 < cLine) → Ext h₀ s₁.heap → s₁.heap.get? D = some oD →
    gs.Goes (model prog w) A (Rp h₀ D fin) (Yp h₀ D val fin) n (.send .none) s₁


theorem all_news (h₀ h : Heap) (L I : Addr) : ∃ rest, News h₀ L h rest ∧ (∀ p ∈ rest, p.1 ≠ I) ∧ ∀ b o, b ≠ L → b ≠ I → h₀.get? b = none → h.get? b = some o → (b, o) ∈ rest := by
  refine ⟨(List.range h.objs.size).filterMap fun b => if b ≠ L ∧ b ≠ I ∧ h₀.get? b = none then (h.get? b).map fun o => (b, o) else none, fun p hp => ?_, fun p hp => ?_, fun b o h1 h2 h3 h4 => ?_⟩
  · obtain ⟨b, hb, e⟩ := List.mem_filterMap.mp hp
    split at e
    · rename_i hc
      cases hg : h.get? b with
      | none => rw [hg] at e; cases e
      | some o => rw [hg] at e; cases e; exact ⟨hg, hc.1, hc.2.2⟩
    · cases e
  · obtain ⟨b, hb, e⟩ := List.mem_filterMap.mp hp
    split at e
    · rename_i hc
      cases hg : h.get? b with
      | none => rw [hg] at e; cases e
      | some o => rw [hg] at e; cases e; exact hc.2.1
    · cases e
  · refine List.mem_filterMap.mpr ⟨b, List.mem_range.mpr (Heap.lt_size h4), ?_⟩
    rw [if_pos ⟨h1, h2, h3⟩, h4]; rfl

theorem fr_but {h₀ h h' : Heap} {L I : Addr} {m : Str → Option Value} (F : Fr h₀ L h m) (hk : ∀ b o, b ≠ I → h.get? b = some o → h'.get? b = some o) (hIL : I ≠ L) (hI0 : h₀.get? I = none) : Fr h₀ L h' m :=
  ⟨F.ns.at' fun o e => hk _ _ (Ne.symm hIL) e, fun b o e => hk b o (fun q => by rw [q, hI0] at e; cases e) (F.keep b o e), F.above⟩
theorem news_but {h₀ h h' : Heap} {L I : Addr} {news : List (Addr × Obj)} (N : News h₀ L h news) (hk : ∀ b o, b ≠ I → h.get? b = some o → h'.get? b = some o) (hn : ∀ p ∈ news, p.1 ≠ I) : News h₀ L h' news :=
  fun p hp => ⟨hk _ _ (hn p hp) (N p hp).1, (N p hp).2⟩
theorem fr_later {h₀ : Heap} {D I : Addr} {s s'' : Shared} {m : Str → Option Value} (F : Fr h₀ D s.heap m) (hL : Later h₀ D I s s'') : Fr h₀ D s''.heap m :=
  ⟨F.ns.at' fun o e => hL.2.1 o e, hL.1, F.above⟩

def Emits (val : Nat → Int) (fin : Bool) : List Int → Option Int → Nat → Prop
  | [], _, n => n = 0 ∧ fin = true
  | x :: r, last, n => (x = 127 → n = 0 ∧ fin = true) ∧ (x = 0 → fin = false ∧ 0 < n ∧ ∃ v, last = some v ∧ ∀ m, m < n → val m = v) ∧
    (x ≠ 127 → x ≠ 0 → ∃ n', n = n' + 1 ∧ val n' = x ∧ ((n' = 0 → fin = true) → Emits val fin r (some x) n'))
def IntsFrom (ws : Array Value) : Nat → List Int → Prop
  | i, [] => ws[i]? = none
  | i, x :: r => (∃ t, ws[i]? = some (.int x t)) ∧ IntsFrom ws (i + 1) r
def lastV : Option Int → Tok → Value
  | none, _ => .none
  | some v, t => .int v t
theorem since_of {h₀ : Heap} {D I : Addr} {s₀ s : Shared} {rest : List (Addr × Obj)} {h : Heap} {tk : Nat} {m : Str → Option Value} (F : Fr h₀ D h m) (N : News h₀ D h rest) (hx : Ext h₀ s₀.heap)
    (cov : ∀ b o, b ≠ D → b ≠ I → h₀.get? b = none → s₀.heap.get? b = some o → (b, o) ∈ rest) (hI : ∀ o, s₀.heap.get? I = some o → LI o) (hI0 : h₀.get? I = none)
    (hs : s = { s₀ with heap := h, toks := tk }) : Since h₀ D s₀ s := by
  refine ⟨h, tk, hs, fun b o hb hc e => ?_⟩
  cases hg : h₀.get? b with
  | some o' =>
    have := hx _ _ hg
    rw [e] at this; cases this
    exact F.keep _ _ hg
  | none =>
    have hbI : b ≠ I := fun q => by
      subst q
      rcases hc with hc | hc
      · exact hc hg
      · exact hc (hI _ e)
    exact (N _ (cov b o hb hbI hg e)).1

set_option maxRecDepth 100000 in
set_option maxHeartbeats 8000000 in
theorem gen_spec {w : World} {mean : ExcName → Option Value} {mg mb : Str → Option Value} {dp un : Nat} {fr : Option (List Env)} {gd : Option (List Code)} {E : Value → Shared → Prop} {s : Shared} {Q : Value → Shared → Prop}
    {hB : Heap} (KX : (Mine.wn_hd.heap_39 w.params).In hB) (T : Top Mine.wn_hd.view_39 (looseW Mine.wn_hd.view_39 [Str.ofString "_twin_re_1", Str.ofString "_twin_re_2"]) mean mg mb hB) (hBx : Ext hB s.heap) (hBz : hB.objs.size ≤ s.heap.objs.size) (hroom : dp + 8 < recursionLimit) (hu : un + 16 < cLine)
    {LR : Addr} {ws : Array Value} {xs : List Int} {n : Nat} {val : Nat → Int} {fin : Bool} (hxs : IntsFrom ws 0 xs) (hE : Emits val fin xs none n) (hLR : hB.IsList LR ws)
    (hQ : ∀ h' tk G D oD gobj gs, Ext s.heap h' → s.heap.get? D = none → h'.get? D = some oD → h'.get? G = some gobj → s.heap.get? G = none → G ≠ D → h'.IsGen G s.gens.size → gs.bare = true → DictO oD →
      Ready PySem.Challenge.rw_wn0012_01.row.prog w hB D oD n val fin gs → Q (.ref G) { s with heap := h', toks := tk, gens := s.gens.push gs }) :
    wpAny (model PySem.Challenge.rw_wn0012_01.row.prog w) ⟨none, dp, fr, gd, un⟩ (PySem.call (.ref 38) [.ref LR]) Q E s := by
  w_on
  k_dflt refine' enterGen (binds := [(Str.ofString "grouping", .ref LR)]) (KX.keeps hBx) ((Top.nolimit T).keeps hBx) ?a1 ?a2 ?a3 ?a4 ?a5 ?a6 ?a7 ?a8 ?a9 ?a10
  case a1 => exact Nat.lt_of_le_of_lt (Nat.le_add_right _ _) hroom
  case a2 => k_is
  case a3 => k_is
  case a4 => exact BindsTo.of_eq rfl
  case a5 => exact locs rfl
  case a7 => decide
  case a8 => rfl
  case a9 => rfl
  case a10 => rfl
  intro h₁ tk₁ gobj F hG hfree
  obtain ⟨oD, hD, hDd⟩ := ns_dict F.ns
  refine hQ _ _ _ s.heap.objs.size oD gobj _ (fun b o e => Heap.get?_push_of_some _ (F.keep b o e)) ?_ (Heap.get?_push_of_some _ hD) (Heap.get?_push_size _ hfree) (Fr.fresh F) (Nat.ne_of_gt (Heap.lt_size hD)) hG rfl hDd ?_
  · cases hs : s.heap.get? s.heap.objs.size with
    | none => rfl
    | some o => exact absurd (Heap.lt_size hs) (Nat.lt_irrefl _)
  have F : Fr hB s.heap.objs.size h₁ (fun y => List.lookup y [(Str.ofString "grouping", Value.ref LR)].reverse) := ⟨F.ns, fun b o e => F.keep b o (hBx b o e), hBz⟩
  generalize s.heap.objs.size = D at *
  intro A s₁ hA hExt hD₁
  obtain ⟨d, f, g, u, rfl, hd, hu'⟩ := hA
  obtain ⟨hp, gs, dr, tk, os⟩ := s₁
  refine ⟨rfl, seg_func ?_⟩
  clear hQ hroom hu hG
  have F₁ : Fr hB D hp (fun y => List.lookup y [(Str.ofString "grouping", Value.ref LR)].reverse) := ⟨F.ns.at' fun o e => by rw [hD] at e; cases e; exact hD₁, hExt, F.above⟩
  clear F hD
  have N0 : News hB D hp [] := News.nil
  obtain ⟨rest, NR, hrI, cov⟩ := all_news hB hp D hp.objs.size
  have hI0 : ∀ o, hp.get? hp.objs.size ≠ some o := fun o e => Nat.lt_irrefl _ (Heap.lt_size e)
  clear N0
  refine seg_execs_cons (seg_exec ?_)
  have hov : ∀ c : Code, ∃ d' f' g' u', (⟨none, d, f, g, u⟩ : Around).over c [] = ⟨none, d', f', g', u'⟩ ∧ d' = d + 0 + c.weight ∧ u' = u + 0 + c.cUnits := fun c => ⟨_, _, _, _, rfl, rfl, rfl⟩
  generalize hc : Code.func _ _ = cd
  obtain ⟨d', f', g', u', e1, e2, e3⟩ := hov cd
  rw [e1]
  k_steps
  (rename Fr _ _ _ _ => F2); (rename News _ _ _ _ => N2)
  subst hc
  show Seg _ _ _ _ n _ _ (Sem.wrap _ _ _ _ (execs [_] _)) [] _
  refine seg_execs_cons (seg_For ?_)
  dsimp only
  generalize hc : Code.func _ _ = cd at e1
  rw [e1]
  k_steps
  subst hc
  clear e1 e2 e3
  have hL2 := Fr.lst F2 hLR
  rename_i h2
  refine wpAny_pyIter_list hL2 ?_
  intro p
  dsimp only at hExt hD₁ ⊢
  -- the loop's facts
  obtain ⟨I, i, last, tl, rem, m, h3, rest', hh3, hI, hw, he, F3, N3, hit, hI0', hID, hIcls, hcov, hrI'⟩ : ∃ (I i : Nat) (last : Option Int) (tl : Tok) (rem : List Int) (m : Str → Option Value) (h3 : Heap) (rest' : List (Addr × Obj)),
      (h3 = h2.push { cls := .type "list_iterator", data := .fields #[.ref LR, .int 0 0] }) ∧ I = h2.objs.size ∧ IntsFrom ws i rem ∧ Emits val fin rem last n ∧
      Fr hB D h3 (upd [(Str.ofString "last_interval", lastV last tl)] m) ∧ News hB D h3 rest' ∧ h3.IsListIter I LR i ∧ hB.get? I = none ∧ I ≠ D ∧
      (∀ o, hp.get? I = some o → LI o) ∧ (∀ b o, b ≠ D → b ≠ I → hB.get? b = none → hp.get? b = some o → (b, o) ∈ rest') ∧ (∀ p ∈ rest', p.1 ≠ I) := by
    have hnI : ∀ o, hp.get? h2.objs.size ≠ some o := by
      intro o e
      by_cases q1 : h2.objs.size = D
      · exact absurd F2.ns.lt (by rw [q1]; exact Nat.lt_irrefl _)
      · cases hb : hB.get? h2.objs.size with
        | some o' => exact Nat.lt_irrefl _ (Heap.lt_size (F2.keep _ _ hb))
        | none =>
          by_cases q2 : h2.objs.size = hp.objs.size
          · rw [q2] at e; exact hI0 _ e
          · exact Nat.lt_irrefl _ (Heap.lt_size (N2 _ (cov _ _ q1 q2 hb e)).1)
    refine ⟨h2.objs.size, 0, none, 0, xs, (fun y => List.lookup y [(Str.ofString "grouping", Value.ref LR)].reverse), _, rest, rfl, rfl, hxs, hE, Fr.push F2 _, fun p hp => ⟨Heap.get?_push_of_some _ (N2 p hp).1, (N2 p hp).2⟩,
      ⟨_, Heap.get?_push_size _ rfl, rfl, rfl⟩, Fr.fresh F2, Nat.ne_of_gt F2.ns.lt, fun o e => absurd e (hnI o), fun b o q1 q2 q3 q4 => ?_, fun p hp => Nat.ne_of_lt (Heap.lt_size (N2 p hp).1)⟩
    · by_cases q : b = hp.objs.size
      · subst q; exact absurd q4 (hI0 _)
      · exact cov b o q1 q q3 q4
  rw [← hh3, ← hI]
  clear hh3 hI N2 F2 hL2 hrI cov hI0 hD₁ hE
  generalize tk + 1 = tk3
  have hf1 : ∀ (c : Code) (k : Result → Sem PySem.Fin) (l : List Value) (c₁ : Code) (p₁ : Pos), ∃ d' f' g' u',
      (⟨none, d, f, g, u⟩ : Around).over c [PySem.Frame.ret k none false l c₁ p₁ []] = ⟨none, d', f', g', u'⟩ := fun c k l c₁ p₁ => ⟨_, _, _, _, rfl⟩
  induction rem generalizing hp gs dr tk os h3 tk3 i n last tl m rest' with
  | nil =>
    refine seg_forLoop ?_
    dsimp only [id]
    generalize hc : Code.func _ _ = cd
    generalize hc2 : Code.forLoop _ _ _ _ _ = cd2
    obtain ⟨d', f', g', u', e1⟩ := hf1 cd2 (backK _ _ _ _ _) [] cd p
    rw [e1]
    refine wpAny_pyNext_list_end rfl hit (Fr.lst F3 hLR) hw fun h4 h4k => ?_
    subst hc hc2
    dsimp only
    have hk4 : ∀ b o, b ≠ I → h3.get? b = some o → h4.get? b = some o := fun b o hb e => h4k b o hb e
    refine seg_back (f := .next) (seg_end (.ok (.ret .none)) ⟨rfl, he.1, he.2, ?_⟩)
    exact since_of (tk := tk3) (fr_but F3 hk4 hID hI0') (news_but N3 hk4 hrI') hExt hcov hIcls hI0' rfl
  | cons x r ih =>
    obtain ⟨⟨t, hx⟩, hw'⟩ := hw
    obtain ⟨tk0, rfl⟩ : ∃ t, t = tk := ⟨_, rfl⟩
    refine seg_forLoop ?_
    dsimp only [id]
    generalize hc : Code.func _ _ = cd
    generalize hc2 : Code.forLoop _ _ _ _ _ = cd2
    obtain ⟨d', f', g', u', e1⟩ := hf1 cd2 (backK _ _ _ _ _) [] cd p
    rw [e1]
    refine wpAny_pyNext_list_item hit (Fr.lst F3 hLR) hx fun h4 hit4 h4k => ?_
    dsimp only
    have hk4 : ∀ b o, b ≠ I → h3.get? b = some o → h4.get? b = some o := fun b o hb e => (h4k.2 b hb).trans e
    have F4 := fr_but F3 hk4 hID hI0'
    have N4 := news_but N3 hk4 hrI'
    obtain ⟨oI, hoI, hcI', hdI⟩ := hit4
    have hcI : LI oI := ⟨hcI', _, hdI⟩
    clear hcI'
    have N5 : News hB D h4 ((I, oI) :: rest') := fun p hp => by
      rcases List.mem_cons.mp hp with rfl | hp
      · exact ⟨hoI, hID, hI0'⟩
      · exact N4 p hp
    clear N4 N3 F3 h4k hk4
    k_steps
    (rename Fr _ _ _ _ => F6); (rename News _ _ _ _ => N6)
    dsimp only at F6 ⊢
    refine seg_execs_cons (seg_exec ?_)
    rw [e1]
    k_steps
    · have h127 : x = 127 := by first | assumption | omega
      (rename Fr _ _ _ _ => F7); (rename News _ _ _ _ => N7)
      have hh := he.1 h127
      refine seg_back (f := .ret .none) (seg_end (.ok (.ret .none)) ⟨rfl, hh.1, hh.2, ?_⟩)
      exact since_of F7 (rest := rest') (fun p hp => N7 p (.tail _ hp)) hExt hcov hIcls hI0' rfl
    · have h127 : x ≠ 127 := by first | assumption | omega
      dsimp only
      refine seg_execs_cons (seg_If ?_)
      rw [e1]
      k_steps
      · have hx0 : x = 0 := by first | assumption | omega
        obtain ⟨hfin, hn, v, rfl, hval⟩ := he.2.1 hx0
        dsimp only [lastV] at *
        refine seg_execs_cons (seg_exec ?_)
        rw [e1]
        k_steps
        dsimp only
        refine seg_execs_cons (seg_While ?_)
        intro p2
        (rename Fr _ _ _ _ => F7); (rename News _ _ _ _ => N7)
        have F8 := fr_upd [(Str.ofString "last_interval", .int v tl)] F7 (fun p hp => by cases hp with | head => rfl | tail _ h => cases h) (fun _ _ => rfl)
        clear F7 ih he hw' hit
        dsimp only [id] at *
        have hf2 : ∀ (c : Code) (k : Result → Sem PySem.Fin) (l : List Value) (c₁ : Code) (p₁ : Pos) (k2 : Result → Sem PySem.Fin) (l2 : List Value) (c2 : Code) (p2 : Pos), ∃ d' f' g' u',
            (⟨none, d, f, g, u⟩ : Around).over c [PySem.Frame.ret k none false l c₁ p₁ [], PySem.Frame.ret k2 none false l2 c2 p2 []] = ⟨none, d', f', g', u'⟩ := fun c k l c₁ p₁ k2 l2 c2 p2 => ⟨_, _, _, _, rfl⟩
        clear hoI hdI hx hf1 e1 hov
        rename Heap => h9
        rename Nat => tk9
        generalize (fun x_1 => if x_1 = Str.ofString "interval" then some (Value.int x t) else upd [(Str.ofString "last_interval", Value.int v tl)] m x_1) = m9 at F8
        induction n generalizing hp gs dr tk0 os h9 rest' oI m9 tk9 with
        | zero => exact absurd hn (Nat.lt_irrefl _)
        | succ n ih2 =>
          refine seg_whileLoop ?_
          generalize hc3 : Code.whileLoop _ _ _ _ = cd3
          obtain ⟨d', f', g', u', e1⟩ := hf2 cd3 _ [] cd2 p2 (backK _ _ _ _ _) [] cd p
          rw [e1]
          k_steps
          (try rw [if_pos rfl])
          refine seg_execs_cons (seg_Expr_Yield rfl rfl rfl ?_)
          rw [e1]
          k_steps
          rename_i kap hkap
          dsimp only
          (rename Fr _ _ _ _ => F9); (rename News _ _ _ _ => N9)
          refine ⟨⟨_, by rw [hval n (Nat.lt_succ_self n)]⟩, since_of F9 (rest := rest') (fun p hp => N9 p (.tail _ hp)) hExt hcov hIcls hI0' rfl, I, oI, hI0', hID, (N9 (I, oI) (.head _)).1, hcI, ns_dict F9.ns, fun hm s'' hL => hkap _ _ ?_⟩
          have hn0 : 0 < n := by
            rcases Nat.eq_zero_or_pos n with h | h
            · exact absurd (hm h) (by rw [hfin]; decide)
            · exact h
          obtain ⟨rest2, NR2, hr2, cov2⟩ := all_news hB s''.heap D I
          obtain ⟨hp2, gs2, dr2, tk2, os2⟩ := s''
          dsimp only
          subst hc3
          refine seg_again rfl ?_
          have hI2 : hp2.get? I = some oI := hL.2.2 _ (N9 (I, oI) (.head _)).1
          refine ih2 (hp := hp2) (gs := gs2) (dr := dr2) (tk0 := tk2) (os := os2) (h9 := hp2) (rest' := rest2) (oI := oI) (m9 := m9) (tk9 := tk2) (hn := hn0) (hval := fun m hm => hval m (by omega)) (hcI := hcI) (hExt := hL.1)
            (hIcls := fun o e => by rw [hI2] at e; cases e; exact hcI) (hcov := cov2) (hrI' := hr2) (F8 := fr_later (s := ⟨h9, gs, dr, tk9, os⟩) F9 hL) (N7 := fun p hp => ?_)
          rcases List.mem_cons.mp hp with rfl | hp
          · exact ⟨hI2, hID, hI0'⟩
          · exact NR2 p hp
      · have hx0 : x ≠ 0 := by first | assumption | omega
        obtain ⟨n', rfl, hv, he'⟩ := he.2.2 h127 hx0
        (try rw [if_neg (by decide)])
        refine seg_execs_cons (seg_Expr_Yield rfl rfl rfl ?_)
        rw [e1]
        k_steps
        rename_i kap hkap
        dsimp only
        (rename Fr _ _ _ _ => F9); (rename News _ _ _ _ => N9)
        refine ⟨⟨_, by rw [hv]⟩, since_of F9 (rest := rest') (fun p hp => N9 p (.tail _ hp)) hExt hcov hIcls hI0' rfl, I, oI, hI0', hID, (N9 (I, oI) (.head _)).1, hcI, ns_dict F9.ns, fun hm s'' hL => hkap _ _ ?_⟩
        obtain ⟨rest2, NR2, hr2, cov2⟩ := all_news hB s''.heap D I
        have hI2 : s''.heap.get? I = some oI := hL.2.2 _ (N9 (I, oI) (.head _)).1
        have N10 : News hB D s''.heap ((I, oI) :: rest2) := fun p hp => by
          rcases List.mem_cons.mp hp with rfl | hp
          · exact ⟨hI2, hID, hI0'⟩
          · exact NR2 p hp
        have F10 := fr_later F9 hL
        have hIc2 : ∀ o, s''.heap.get? I = some o → LI o := fun o e => by rw [hI2] at e; cases e; exact hcI
        have hE2 := hL.1
        clear F9 N9 NR2 hL hkap hcov hIcls hExt hrI' hoI hit he hI2
        obtain ⟨hp2, gs2, dr2, tk2, os2⟩ := s''
        dsimp only at *
        refine seg_execs_cons (seg_exec ?_)
        rw [e1]
        k_steps
        (rename Fr _ _ _ _ => F11); (rename News _ _ _ _ => N11)
        subst hc2
        refine seg_again rfl ?_
        have F12 := fr_upd [(Str.ofString "last_interval", .int x t)] F11 (fun p hp => by cases hp with | head => rfl | tail _ h => cases h) (fun _ _ => rfl)
        subst hc
        exact ih (hp := hp2) (gs := gs2) (dr := dr2) (tk := tk2) (os := os2) (hExt := hE2) (i := i + 1) (last := some x) (tl := t) (rest' := rest2) (hw := hw') (he := he' hm) (F3 := F12) (N3 := fun p hp => N11 p (.tail _ hp))
          (hit := ⟨oI, (N11 (I, oI) (.head _)).1, hcI.1, hdI⟩) (hIcls := hIc2) (hcov := cov2) (hrI' := hr2) (tk3 := _)
end Mine
end PartG3
section PartG4
open PySem PySem.W PyProof.Rows PySem.Calls PySem.Spec
namespace Mine
def ListO (o : Obj) : Prop := o.cls = .type "list" ∧ ∃ xs c, o.data = .seq xs c
theorem listO_not_LI {o : Obj} (h : ListO o) : ¬ LI o := fun x => by
  have := x.1; rw [h.1] at this; exact absurd (Value.type.inj this) (by decide)
theorem dict_not_LI {o : Obj} (h : DictO o) : ¬ LI o := fun ⟨_, vs, e⟩ => by
  obtain ⟨es, ep, e'⟩ := h; rw [e'] at e; cases e
theorem dict_not_list {o : Obj} (h : DictO o) : ¬ ListO o := fun ⟨_, xs, c, e⟩ => by
  obtain ⟨es, ep, e'⟩ := h; rw [e'] at e; cases e

def GEnd (h₀ : Heap) (L : Addr) (s : Shared) (gens : Array GenState) (rest : List (Addr × Obj)) (J : (Str → Option Value) → List (Addr × Obj) → Prop) (s₃ : Shared) : Prop :=
  ∃ h' tk' m₂ news₂, s₃ = { s with heap := h', toks := tk', gens := gens } ∧ Fr h₀ L h' m₂ ∧ News h₀ L h' (news₂ ++ rest) ∧ (∀ p ∈ news₂, ListO p.2) ∧ J m₂ news₂
theorem GEnd.go {h₀ : Heap} {L : Addr} {s : Shared} {gens : Array GenState} {rest : List (Addr × Obj)} {J : (Str → Option Value) → List (Addr × Obj) → Prop} {h' : Heap} {tk' : Nat} {m₂ : Str → Option Value} (news₂ : List (Addr × Obj))
    (F : Fr h₀ L h' m₂) (N : News h₀ L h' (news₂ ++ rest)) (hw : ∀ p ∈ news₂, ListO p.2) (hJ : J m₂ news₂) : GEnd h₀ L s gens rest J { s with heap := h', toks := tk', gens := gens } := ⟨h', tk', m₂, news₂, rfl, F, N, hw, hJ⟩

def BEnd (h₀ : Heap) (L : Addr) (g : Nat) (s : Shared) (J : (Str → Option Value) → List (Addr × Obj) → Prop) (s₃ : Shared) : Prop :=
  ∃ h' tk' m₂ news₂ gens, s₃ = { s with heap := h', toks := tk', gens := gens } ∧ Fr h₀ L h' m₂ ∧ News h₀ L h' news₂ ∧ GenOnlyQ g s.gens gens ∧ J m₂ news₂
theorem BEnd.go {h₀ : Heap} {L : Addr} {g : Nat} {s : Shared} {gens : Array GenState} {J : (Str → Option Value) → List (Addr × Obj) → Prop} {h' : Heap} {tk' : Nat} {m₂ : Str → Option Value} (news₂ : List (Addr × Obj))
    (F : Fr h₀ L h' m₂) (N : News h₀ L h' news₂) (hg : GenOnlyQ g s.gens gens) (hJ : J m₂ news₂) : BEnd h₀ L g s J { s with heap := h', toks := tk', gens := gens } := ⟨h', tk', m₂, news₂, gens, rfl, F, N, hg, hJ⟩

def Go (prog : Program) (w : World) (A : Around) (h₀ : Heap) (L D G : Addr) (val : Nat → Int) (fin : Bool) (k : Nat) (gs : GenState) (h : Heap) (extra : List (Addr × Obj)) : Prop :=
  News h₀ L h extra ∧ (∀ p ∈ extra, p.1 ≠ G) ∧ (∃ oD, (D, oD) ∈ extra ∧ DictO oD) ∧
  ((k = 0 → fin = true) → ∀ s'', Ext h₀ s''.heap → (∀ p ∈ extra, s''.heap.get? p.1 = some p.2) → gs.Goes (model prog w) A (Rp h₀ D fin) (Yp h₀ D val fin) k (.send .none) s'')

section
variable {prog : Program} {w : World} {A : Around} {env : Env} {Q : Flow → Shared → Prop} {s : Shared}
theorem gen_turns {h₀ : Heap} {L D G : Addr} {g n : Nat} {oD gobj : Obj} {gs : GenState} {val : Nat → Int} {fin : Bool} {m : Str → Option Value} {news : List (Addr × Obj)} {x : Str} {body : List Stmt} {B : Shared → Prop}
    (hh : A.handled = none) (hroom : A.depth < recursionLimit) (hA : ∃ d f g u, A.in1 = ⟨none, d, f, g, u⟩ ∧ d + 30 < recursionLimit ∧ u + 60 < cLine)
    (hlim : h₀.NoLimit) (F : Fr h₀ L s.heap m) (Ns : News h₀ L s.heap news) (hl : ∀ p ∈ news, ListO p.2)
    (hG : s.heap.get? G = some gobj) (hI : s.heap.IsGen G g) (hD : s.heap.get? D = some oD) (hDd : DictO oD) (hG0 : h₀.get? G = none) (hD0 : h₀.get? D = none) (hGL : G ≠ L) (hDL : D ≠ L) (hGD : G ≠ D)
    (hgs : s.gens[g]? = some gs) (hbare : gs.bare = true) (hR : Ready prog w h₀ D oD n val fin gs)
    (J : Nat → (Str → Option Value) → List (Addr × Obj) → Prop) (hj : J 0 m news)
    (turn : ∀ i t m₁ news₁ h tk gens rest, i < n → J i m₁ news₁ → (∀ p ∈ news₁, ListO p.2) → Fr h₀ L h m₁ → News h₀ L h (news₁ ++ rest) → GenOnlyQ g s.gens gens →
      wpAny (model prog w) A (storeName env x (.int (val (n - 1 - i)) t)) (fun _ s₂ => wpAny (model prog w) A (execs body env) (fun f s₃ => match f with
          | .next | .cont => (i + 1 = n → fin = true) ∧ GEnd h₀ L s gens rest (J (i + 1)) s₃
          | .brk => B s₃
          | .ret v => Q (.ret v) s₃) NoE s₂) NoE { s with heap := h, toks := tk, gens := gens })
    (hB : ∀ s₃, B s₃ → Q .next s₃)
    (done : ∀ m₁ news₁ h tk gens, fin = true → J n m₁ news₁ → Fr h₀ L h m₁ → News h₀ L h news₁ → GenOnlyQ g s.gens gens → B { s with heap := h, toks := tk, gens := gens }) (hn : n = 0 → fin = true) :
    wpAny (model prog w) A (pyIter (.ref G)) (fun it s₂ => ForAt prog w A env x body Q it s₂) NoE s := by
  refine wpAny_pyIter_gen hI ?_
  have hgen : ∃ nm qn, gobj.cls = .type "generator" ∧ gobj.data = .fields #[.int g 0, nm, qn] ∧ gobj.slots = #[] := by
    obtain ⟨o, nm, qn, ho, r⟩ := hI
    rw [hG] at ho; cases ho
    exact ⟨nm, qn, r⟩
  have hgLI : ¬ LI gobj := fun q => by
    obtain ⟨_, _, hc, _⟩ := hgen
    have := q.1; rw [hc] at this; exact absurd (Value.type.inj this) (by decide)
  refine ⟨fun k s' => ∃ i m₁ news₁ h tk gens gs extra, s' = { s with heap := h, toks := tk, gens := gens } ∧ i ≤ n ∧ k = n + 1 - i ∧ (i = n → fin = true) ∧ J i m₁ news₁ ∧ Fr h₀ L h m₁ ∧ News h₀ L h news₁ ∧ (∀ p ∈ news₁, ListO p.2) ∧
      h.get? G = some gobj ∧ gens[g]? = some gs ∧ GenOnlyQ g s.gens gens ∧ Go prog w A.in1 h₀ L D G val fin (n - i) gs h extra, n + 1,
    ⟨0, m, news, s.heap, s.toks, s.gens, gs, [(D, oD)], rfl, Nat.zero_le _, rfl, fun e => hn e.symm, hj, F, Ns, hl, hG, hgs, .inl rfl, fun p hp => ?_, fun p hp => ?_, ⟨oD, .head _, hDd⟩, fun _ s'' he hx => hR _ s'' hA he (hx _ (.head _))⟩, ?_⟩
  · rw [List.mem_singleton.mp hp]; exact ⟨hD, hDL, hD0⟩
  · rw [List.mem_singleton.mp hp]; exact Ne.symm hGD
  rintro k s' ⟨i, m₁, news₁, h, tk, gens, gs, extra, rfl, hi, rfl, hin, hJ, F₁, N₁, hl₁, hG₁, hgs₁, ho₁, hex, hexG, ⟨oD₁, hDm, hDd₁⟩, hgo⟩
  have hIG : h.IsGen G g := let ⟨nm, qn, r⟩ := hgen; ⟨gobj, nm, qn, hG₁, r⟩
  have hD₁ : h.get? D = some oD₁ := (hex _ hDm).1
  have hgo' := hgo (fun e => hin (by omega)) (({ s with heap := h, toks := tk, gens := gens } : Shared).setGen g .running) F₁.keep (fun p hp => (hex p hp).1)
  -- what stays over a run
  have stay : ∀ s₁ : Shared, Since h₀ D (({ s with heap := h, toks := tk, gens := gens } : Shared).setGen g .running) s₁ → ∃ h' tk', s₁ = ({ s with heap := h', toks := tk', gens := gens } : Shared).setGen g .running ∧ Fr h₀ L h' m₁ ∧ News h₀ L h' news₁ ∧ h'.get? G = some gobj := by
    rintro s₁ ⟨h', tk', rfl, hk⟩
    obtain ⟨oL, hoL, hdL⟩ := ns_dict F₁.ns
    refine ⟨h', tk', rfl, ⟨F₁.ns.at' fun o e => ?_, fun b o e => hk b o (fun q => by rw [q, hD0] at e; cases e) (.inl (by rw [e]; exact fun q => by cases q)) (F₁.keep b o e), F₁.above⟩, fun p hp => ⟨hk _ _ (fun q => ?_) (.inr (listO_not_LI (hl₁ p hp))) (N₁ p hp).1, (N₁ p hp).2⟩, hk _ _ hGD (.inr hgLI) hG₁⟩
    · rw [hoL] at e; cases e
      exact hk _ _ (Ne.symm hDL) (.inr (dict_not_LI hdL)) hoL
    · have e := (N₁ p hp).1
      rw [q, hD₁] at e; cases e
      exact dict_not_list hDd₁ (hl₁ p hp)
  refine next_gen (P := fun n s₀ s₁ => n = 0 ∧ fin = true ∧ Since h₀ D s₀ s₁) hh (Heap.NoLimit.keeps hlim F₁.keep) hroom hIG hgs₁ hgo' (fun v s₁ gs' hb hY => ?_) (fun s₁ hp h'' hk'' => ?_)
  · obtain ⟨⟨t, rfl⟩, hS, I, oI, hI0, hID, hoI, hLI, ⟨oD₂, hoD₂, hdD₂⟩, hkap⟩ := hY
    obtain ⟨h', tk', rfl, F₂, N₂, hG₂⟩ := stay s₁ hS
    have hlt : i < n := by
      rcases Nat.lt_or_ge i n with q | q
      · exact q
      · exfalso
        have e0 : n - i = 0 := by omega
        have hfin := hin (by omega)
        rw [e0] at hkap
        exact hkap (fun _ => hfin) (({ s with heap := h', toks := tk', gens := gens } : Shared).setGen g .running) ⟨F₂.keep, fun _ e => e, fun _ e => e⟩
    have hIL : I ≠ L := fun q => by
      obtain ⟨oL, hoL, hdL⟩ := ns_dict F₂.ns
      rw [← q] at hoL
      rw [show h'.get? I = some oI from hoI] at hoL; cases hoL
      exact dict_not_LI hdL hLI
    have hIG' : I ≠ G := fun q => by
      rw [← q] at hG₂
      rw [show h'.get? I = some oI from hoI] at hG₂; cases hG₂
      exact hgLI hLI
    obtain ⟨j, hj⟩ : ∃ j, n - i = j + 1 := ⟨n - i - 1, by omega⟩
    have hk2 : GenOnlyQ g s.gens ((({ s with heap := h', toks := tk', gens := gens } : Shared).setGen g .running).setGen g gs').gens :=
      ho₁.trans (GenOnlyQ.of ((GenOnly.setGen ({ s with heap := h', toks := tk', gens := gens } : Shared) g .running).trans (GenOnly.setGen _ g gs')) (setGen_self (gs := .running) (setGen_self (s := { s with heap := h', toks := tk', gens := gens }) hgs₁)) hb)
    have hgs2 : ((({ s with heap := h', toks := tk', gens := gens } : Shared).setGen g .running).setGen g gs').gens[g]? = some gs' := setGen_self (gs := .running) (setGen_self (s := { s with heap := h', toks := tk', gens := gens }) hgs₁)
    have hex2 : News h₀ L h' [(G, gobj), (D, oD₂), (I, oI)] := fun p hp => by
      simp only [List.mem_cons, List.not_mem_nil, or_false] at hp
      rcases hp with rfl | rfl | rfl
      · exact ⟨hG₂, hGL, hG0⟩
      · exact ⟨hoD₂, hDL, hD0⟩
      · exact ⟨hoI, hIL, hI0⟩
    have ht := turn i t m₁ news₁ h' tk' _ [(G, gobj), (D, oD₂), (I, oI)] hlt hJ hl₁ F₂ (fun p hp => by
      rcases List.mem_append.mp hp with hp | hp
      · exact N₂ p hp
      · exact hex2 p hp) hk2
    have ev : n - i - 1 = n - 1 - i := by omega
    rw [ev]
    refine wpAny_mono ht (fun _ s₃ h₃ => wpAny_mono h₃ (fun f s₄ h₄ => ?_) fun _ _ x => x) fun _ _ x => x
    have fin' : ((i + 1 = n → fin = true) ∧ GEnd h₀ L s ((({ s with heap := h', toks := tk', gens := gens } : Shared).setGen g .running).setGen g gs').gens [(G, gobj), (D, oD₂), (I, oI)] (J (i + 1)) s₄) → WEnd (fun k s' => ∃ i m₁ news₁ h tk gens gs extra, s' = { s with heap := h, toks := tk, gens := gens } ∧ i ≤ n ∧ k = n + 1 - i ∧ (i = n → fin = true) ∧ J i m₁ news₁ ∧ Fr h₀ L h m₁ ∧ News h₀ L h news₁ ∧ (∀ p ∈ news₁, ListO p.2) ∧
      h.get? G = some gobj ∧ gens[g]? = some gs ∧ GenOnlyQ g s.gens gens ∧ Go prog w A.in1 h₀ L D G val fin (n - i) gs h extra) (n + 1 - i) s₄ := by
      rintro ⟨hfin, h₅, tk₅, m₂, news₂, rfl, F₅, N₅, hl₅, hJ₅⟩
      have hr : ∀ p ∈ [(G, gobj), (D, oD₂), (I, oI)], h₅.get? p.1 = some p.2 ∧ p.1 ≠ L ∧ h₀.get? p.1 = none := fun p hp => N₅ p (List.mem_append_right _ hp)
      refine ⟨n + 1 - (i + 1), by omega, i + 1, m₂, news₂, h₅, tk₅, _, gs', [(D, oD₂), (I, oI)], rfl, hlt, rfl, hfin, hJ₅, F₅, fun p hp => N₅ p (List.mem_append_left _ hp), hl₅, (hr _ (.head _)).1, hgs2, hk2, fun p hp => hr p (.tail _ hp), fun p hp => ?_, ⟨oD₂, .head _, hdD₂⟩, fun hz s'' he hx => ?_⟩
      · simp only [List.mem_cons, List.not_mem_nil, or_false] at hp
        rcases hp with rfl | rfl
        · exact Ne.symm hGD
        · exact hIG'
      · rw [hj] at hkap
        have e1 : n - (i + 1) = j := by omega
        rw [e1] at hz ⊢
        refine hkap (by simpa using hz) s'' ⟨he, fun o e => ?_, fun o e => ?_⟩
        · rw [show ((({ s with heap := h', toks := tk', gens := gens } : Shared).setGen g .running).heap.get? D) = some oD₂ from hoD₂] at e; cases e; exact hx _ (.head _)
        · rw [show ((({ s with heap := h', toks := tk', gens := gens } : Shared).setGen g .running).heap.get? I) = some oI from hoI] at e; cases e; exact hx _ (.tail _ (.head _))
    cases f with
    | ret v => exact h₄
    | brk => exact hB _ h₄
    | next => exact fin' h₄
    | cont => exact fin' h₄
  · obtain ⟨hz, hfin, hS⟩ := hp
    obtain ⟨h', tk', rfl, F₂, N₂, hG₂⟩ := stay s₁ hS
    have hin' : i = n := by omega
    subst hin'
    exact hB _ (done m₁ news₁ h'' tk' _ hfin hJ ⟨F₂.ns.at' fun o e => hk'' _ _ e, fun b o e => hk'' _ _ (F₂.keep b o e), F₂.above⟩ (fun p hp => ⟨hk'' _ _ (N₂ p hp).1, (N₂ p hp).2⟩)
      (ho₁.trans (GenOnlyQ.of ((GenOnly.setGen ({ s with heap := h', toks := tk', gens := gens } : Shared) g .running).trans (GenOnly.setGen _ g .finished)) (setGen_self (gs := .running) (setGen_self (s := { s with heap := h', toks := tk', gens := gens }) hgs₁)) rfl)))
end
end Mine
end PartG4
section PartL
open PySem PySem.W PyProof.Rows PySem.Calls PySem.Spec
namespace Mine

local macro_rules | `(tactic| walk_at "WN upd_same") => `(tactic| (intro p hp; repeat' (first | (cases hp; done) | (rcases List.mem_cons.mp hp with he | hp; · subst he; rfl))))
local macro_rules | `(tactic| walk_at "WN upd_rest") => `(tactic| (intro z hz; simp only [List.forall_mem_cons] at hz; (try dsimp only); simp only [Mine.upd, Mine.updO, hz, if_false, reduceIte]))
local macro_rules | `(tactic| walk_at "WN upd_restO") => `(tactic| (intro z hx hz; simp only [List.forall_mem_cons] at hz; (try dsimp only); simp only [Mine.upd, Mine.updO, hx, hz, if_false, reduceIte]))
local macro_rules | `(tactic| walk_at "WN upd_off") => `(tactic| (intro p hp; repeat' (first | (cases hp; done) | (rcases List.mem_cons.mp hp with he | hp; · (subst he; (try dsimp only); decide)))))
local macro_rules | `(tactic| walk_at "exec While Compare cons nil") => `(tactic| refine Mine.stop ?_)
local macro_rules | `(tactic| walk_at "exec For Name Call cons nil") => `(tactic| k_dflt (refine Mine.for_ok ?_))
local macro_rules | `(tactic| walk_at "pyIter ref") => `(tactic| refine Mine.stop ?_)
local macro_rules | `(tactic| walk_at "call builtin:list.append") => `(tactic| (k_here; (with_unfolding_all (show wpAny _ _ (PySem.call (Value.builtin _) [Value.ref _, _]) _ _ _)); k_dflt (refine' append_K ?k1 ?k2 ?k3 ?_ ?z; (case k1 => k_asm); (case k2 => k_asm); (case k3 => k_upd); (case z => size_fits); k_whole); intro h' F' N'; (try k_sweep)))

local macro_rules | `(tactic| walk_at "call ref") => `(tactic| refine Mine.stop ?_)

def repGo (val : Nat → Int) : Nat → List Nat → List (List Nat) → List (List Nat)
  | 0, figs, gs => figs.map (fun c => [c]) ++ gs
  | k + 1, figs, gs => if figs = [] then gs else repGo val k (figs.take (figs.length - (val k).toNat)) (figs.drop (figs.length - (val k).toNat) :: gs)
theorem repGo_succ (val : Nat → Int) (k : Nat) (figs : List Nat) (gs : List (List Nat)) : repGo val (k + 1) figs gs = if figs = [] then gs else repGo val k (figs.take (figs.length - (val k).toNat)) (figs.drop (figs.length - (val k).toNat) :: gs) := rfl
def cpsOf (ps : List (Str × Tok)) : List (List Nat) := ps.map fun p => p.1.cps.toList
theorem news_ext {h₀ h h' : Heap} {L : Addr} {news : List (Addr × Obj)} (N : News h₀ L h news) (e : Ext h h') : News h₀ L h' news := fun p hp => ⟨e _ _ (N p hp).1, (N p hp).2⟩

def LJ (num : Int) (mark : Str) (tn tm : Tok) (LR : Addr) (P : Nat → Str → List (Str × Tok) → Prop) (i : Nat) (m : Str → Option Value) (news : List (Addr × Obj)) : Prop :=
  ∃ (x : Str) (t : Tok) (gl : Addr) (ps : List (Str × Tok)) (c : Nat) (u : Option Value), news = [(gl, listOf (strValues ps).toArray c)] ∧
    m = updO (Str.ofString "size") u (upd [(Str.ofString "figures", .str x t), (Str.ofString "groups", .ref gl)] (fun y => List.lookup y [(Str.ofString "number", Value.int num tn), (Str.ofString "ruler", Value.ref LR), (Str.ofString "mark", Value.str mark tm)].reverse)) ∧ P i x ps
theorem carried_strs : ∀ {ss : List Str} {ys : List Value}, CarriedAll ys (ss.map PyData.str) → ∃ l : List (Str × Tok), ys = strValues l ∧ l.map (·.1) = ss
  | [], ys, h => ⟨[], carriedAll_nil_inv h, rfl⟩
  | x :: r, ys, h => by
    obtain ⟨t, vs, rfl, hv⟩ := carriedAll_str_inv h
    obtain ⟨l, rfl, hl⟩ := carried_strs hv
    exact ⟨(x, t) :: l, rfl, by rw [List.map_cons, hl]⟩
theorem vals_append (a b : List (Str × Tok)) : strValues a ++ strValues b = strValues (a ++ b) := by unfold strValues; rw [List.map_append]
theorem cps_append (a b : List (Str × Tok)) : cpsOf (a ++ b) = cpsOf a ++ cpsOf b := by unfold cpsOf; rw [List.map_append]
theorem cps_signs {l : List (Str × Tok)} {x : Str} (h : l.map (·.1) = signs x) : cpsOf l = x.cps.toList.map fun c => [c] := by
  have e : cpsOf l = (l.map (·.1)).map fun y => y.cps.toList := by unfold cpsOf; rw [List.map_map]; rfl
  rw [e, h]; unfold signs; rw [List.map_map]; rfl

set_option maxRecDepth 100000 in
set_option maxHeartbeats 8000000 in
theorem reply_spec {w : World} {mean : ExcName → Option Value} {mg mb : Str → Option Value} {dp un : Nat} {fr : Option (List Env)} {gd : Option (List Code)} {E : Value → Shared → Prop} {s : Shared} {Q : Value → Shared → Prop}
    (KX : (Mine.wn_hd.heap_39 w.params).In s.heap) (T : Top Mine.wn_hd.view_39 (looseW Mine.wn_hd.view_39 [Str.ofString "_twin_re_1", Str.ofString "_twin_re_2"]) mean mg mb s.heap) (hroom : dp + 40 < recursionLimit) (hu : un + 80 < cLine)
    {LR : Addr} {ws : Array Value} {xs : List Int} {num : Int} {tn tm : Tok} {mark : Str} {n : Nat} {val : Nat → Int} {fin : Bool} (hxs : IntsFrom ws 0 xs) (hE : Emits val fin xs none n) (hLR : s.heap.IsList LR ws)
    (hval : ∀ m, m < n → 1 ≤ val m ∧ val m ≤ 3) (hnf : fin = false → 8 ≤ n) (hnum : 100000 ≤ num ∧ num ≤ 999999) (hmark : mark.length = 1)
    (hQ : ∀ h' tk tv gens lp, Ext s.heap h' → (AllBare s.gens → AllBare gens) → cpsOf lp = repGo val n (Str.ofString (toString num)).cps.toList [] →
      Q (.str (Str.ofString "229 (" ++ mark ++ Txt.join mark (lp.map fun x => x.1) ++ mark ++ Str.ofString ")") tv) { s with heap := h', toks := tk, gens := gens }) :
    wpAny (model PySem.Challenge.rw_wn0012_01.row.prog w) ⟨none, dp, fr, gd, un⟩ (PySem.call (.ref 104) [.int num tn, .ref LR, .str mark tm]) Q E s := by
  w_on
  k_dflt refine' enter (binds := [(Str.ofString "number", .int num tn), (Str.ofString "ruler", .ref LR), (Str.ofString "mark", .str mark tm)]) KX (Top.nolimit T) ?a1 ?a2 ?a3 ?a4 ?a5 ?a6 ?a7 ?a8 ?a9 ?a10
  case a1 => exact Nat.lt_of_le_of_lt (Nat.le_add_right _ _) hroom
  case a2 => k_is
  case a3 => k_is
  case a4 => exact BindsTo.of_eq rfl
  case a5 => exact locs rfl
  case a7 => decide
  case a8 => rfl
  case a9 => rfl
  case a10 => rfl
  have hlen6 : (Str.ofString (toString num)).length + 0 ≤ 6 := by rw [len_list, digits6 hnum]; exact Nat.le_refl 6
  intro h₁ tk₁ F
  have N0 : News s.heap s.heap.objs.size h₁ [] := News.nil
  k_steps
  refine Stopped.go ?_
  (rename Fr _ _ _ _ => F2); (rename News _ _ _ _ => N2)
  rename Addr => gl0
  dsimp only at F2 N2
  refine gen_spec (hB := s.heap) (val := val) (fin := fin) (n := n) KX T ?gx (Nat.le_trans F2.above (Nat.le_of_lt F2.ns.lt)) (Nat.lt_of_le_of_lt (by show dp + 1 + 8 ≤ dp + 40; omega) hroom) ?gu hxs hE hLR ?_
  case gx => exact F2.keep
  case gu => show un + 3 + 16 < _; omega
  intro h3 tk3 G D oD gobj gs hx hD0 hD hG hG0 hGD hIG hbare hDd hR
  dsimp only at hx hD0 hG0 hIG ⊢
  have F3 := Fr.keptAll F2 hx
  have N3 := news_ext N2 hx
  have hb0 : ∀ {a : Addr} {o : Obj}, s.heap.get? a = some o → True := fun _ => trivial
  have hDn : s.heap.get? D = none := by
    cases h : s.heap.get? D with
    | none => rfl
    | some o => have := F2.keep _ _ h; rw [hD0] at this; cases this
  have hGn : s.heap.get? G = none := by
    cases h : s.heap.get? G with
    | none => rfl
    | some o => have := F2.keep _ _ h; rw [hG0] at this; cases this
  have hDL : D ≠ s.heap.objs.size := fun q => by
    obtain ⟨o, ho, _⟩ := ns_dict F2.ns
    rw [← q, hD0] at ho; cases ho
  have hGL : G ≠ s.heap.objs.size := fun q => by
    obtain ⟨o, ho, _⟩ := ns_dict F2.ns
    rw [← q, hG0] at ho; cases ho
  clear F2 N2 hD0 hG0 hb0
  obtain ⟨Z, hZ⟩ : ∃ Z, Z = repGo val n (Str.ofString (toString num)).cps.toList [] := ⟨_, rfl⟩
  refine gen_turns (g := s.gens.size) (gs := gs) (oD := oD) (gobj := gobj) (n := n) (val := val) (fin := fin) (B := BEnd s.heap s.heap.objs.size s.gens.size { s with heap := h3, toks := tk3, gens := s.gens.push gs } (LJ num mark tn tm LR (fun _ x ps => x.length ≤ 6 ∧ ps.length ≤ 6 ∧ (∀ p ∈ ps, p.1.length ≤ 6) ∧ (x.cps.toList.map fun c => [c]) ++ cpsOf ps = Z) 0))
    rfl (Nat.lt_of_le_of_lt (by show dp + 1 ≤ dp + 40; omega) hroom) ⟨_, _, _, _, rfl, ?ga, ?gb⟩ (Top.nolimit T)
    F3 N3 ?gl hG hIG hD hDd hGn hDn hGL hDL hGD ?gg hbare hR
    (LJ num mark tn tm LR (fun i x ps => x.length + i ≤ 6 ∧ repGo val (n - i) x.cps.toList (cpsOf ps) = Z ∧ ps.length ≤ i ∧ (∀ p ∈ ps, p.1.length ≤ 6))) ?zj ?zt ?zb ?zd ?zn
  case ga => show dp + 1 + 30 < _; omega
  case gb => show un + 3 + 1 + 60 < _; omega
  case gl => intro p hp; rw [List.mem_singleton.mp hp]; exact ⟨rfl, _, _, rfl⟩
  case gg => show (s.gens.push gs)[s.gens.size]? = some gs; simp
  case zj =>
    refine ⟨Str.ofString (toString num), tk₁, gl0, [], 0, none, rfl, ?_, ⟨hlen6, hZ.symm, Nat.le_refl _, fun p hp => nomatch hp⟩⟩
    funext z
    by_cases hz : z = Str.ofString "size"
    · subst hz; rfl
    · simp only [updO, upd, hz, if_false]
      by_cases h1 : z = Str.ofString "figures"
      · subst h1; rfl
      · simp only [h1, if_false]
  case zt =>
    rintro i t m₁ news₁ h tk₂ gens rest hi ⟨x, tx, gl, ps, c, u, rfl, rfl, hsz, hgo, hpl, hps⟩ hl F5 N5 hgq
    have hz := hval (n - 1 - i) (by omega)
    have hxl : x.length ≤ 6 := by omega
    obtain ⟨z, hze⟩ : ∃ z, z = val (n - 1 - i) := ⟨_, rfl⟩
    rw [← hze] at hz ⊢
    dsimp only [List.cons_append, List.nil_append] at N5
    have hni : n - i = (n - 1 - i) + 1 := by omega
    rw [hni] at hgo
    rw [repGo_succ, ← hze] at hgo
    clear F3 N3 hx hD hG hIG hR hE
    k_steps
    all_goals dsimp only
    · (rename Fr _ _ _ _ => F6); (rename News _ _ _ _ => N6)
      (rename (x == _) = true => hxe)
      have hx0 : x.cps.toList = [] := by rw [beq_iff_eq] at hxe; rw [hxe]; rfl
      rw [if_pos hx0] at hgo
      refine BEnd.go [_] F6 (fun p hp => N6 p (by rw [List.mem_singleton.mp hp]; exact .head _)) hgq ⟨x, tx, gl, ps, c, some (.int z t), rfl, ?w1, hxl, by omega, hps, ?w2⟩
      case w2 => rw [hx0]; exact hgo
      case w1 =>
        funext z'
        by_cases hz : z' = Str.ofString "size"
        · subst hz; rfl
        · simp only [updO, hz, if_false]
    · (rename Fr _ _ _ _ => F6); (rename News _ _ _ _ => N6)
      refine add_lists (ws := strValues ps) F6 N6 ⟨_, (N6 _ (.head _)).1, rfl, _, rfl⟩ ⟨_, (N6 _ (.tail _ (.head _))).1, rfl, _, rfl⟩ ?_ ?sz2
      case sz2 => simp only [strValues, List.length_map, List.length_cons, List.length_nil]; unfold sizeLine; omega
      intro h7 F7 N7
      clear F6 N6
      have hne : x.cps.toList ≠ [] := fun q => by
        have hq : x = Str.ofString "" := by
          apply Str.ext'
          have h0 : x.cps = #[] := by simpa using congrArg List.toArray q
          rw [h0]; rfl
        (rename (x == _) = false => hxe)
        rw [hq] at hxe; exact absurd hxe (by decide)
      have hlx : x.length = x.cps.toList.length := len_list x
      have hpos : 0 < x.cps.toList.length := List.length_pos_iff.mpr hne
      rw [if_neg hne] at hgo
      k_steps
      · cases hf : fin with
        | true => rfl
        | false => have := hnf hf; omega
      · (rename Fr _ _ _ _ => F6); (rename News _ _ _ _ => N6)
        dsimp only at F6 N6 ⊢
        rename Tok => t9
        refine GEnd.go [(?gla, listOf (strValues ((Txt.slice x (some (-z)) none, ?tb) :: ps)).toArray 0)] F6 (fun p hp => N6 p ?b1) ?b2 ⟨Txt.slice x none (some (-z)), ?ta, ?gla, (Txt.slice x (some (-z)) none, ?tb) :: ps, 0, some (.int z t), rfl, ?b3, ?b4, ?b5, ?b6, ?b7⟩
        case b1 => rcases List.mem_append.mp hp with hp | hp
                   · rw [List.mem_singleton.mp hp]; exact .head _
                   · exact .tail _ (.tail _ (.tail _ hp))
        case b2 => intro p hp; rw [List.mem_singleton.mp hp]; exact ⟨rfl, _, _, rfl⟩
        case b3 =>
          funext z'
          by_cases hz1 : z' = Str.ofString "size"
          · subst hz1; rfl
          · simp only [updO, hz1, if_false]
            by_cases hz2 : z' = Str.ofString "figures"
            · subst hz2; rfl
            · by_cases hz3 : z' = Str.ofString "groups"
              · subst hz3; rfl
              · simp only [upd, hz2, hz3, if_false]
        case b4 => rw [len_list, slice_init x hz.1, List.length_take]; omega
        case b5 =>
          have e1 : n - (i + 1) = n - 1 - i := by omega
          rw [e1, slice_init x hz.1]
          show repGo _ _ _ ((Txt.slice x (some (-z)) none).cps.toList :: cpsOf ps) = _
          rw [slice_last x hz.1]
          exact hgo
        case b6 => rw [List.length_cons]; omega
        case b7 =>
          intro p hp
          rcases List.mem_cons.mp hp with rfl | hp
          · exact Nat.le_trans (Txt.slice_le _ _ _) hxl
          · exact hps p hp
  case zd =>
    rintro m₁ news₁ h tk₂ gens hfin ⟨x, tx, gl, ps, c, u, rfl, rfl, hsz, hgo, hpl, hps⟩ F5 N5 hgq
    rw [Nat.sub_self] at hgo
    exact BEnd.go [_] F5 N5 hgq ⟨x, tx, gl, ps, c, u, rfl, rfl, by omega, by omega, hps, hgo⟩
  case zb =>
    rintro s₃ ⟨h', tk', m₂, news₂, gens, rfl, F5, N5, hgq, x, tx, gl, ps, c, u, rfl, rfl, hxl, hpl, hps, hZe⟩
    clear F3 N3 hx hD hG hIG hR hE
    dsimp only
    k_steps
    dsimp only
    (rename Fr _ _ _ _ => F6); (rename News _ _ _ _ => N6)
    (rename Heap.IsList _ _ _ => hy)
    (rename CarriedAll _ _ => hc)
    have hft : List.filter (fun _ => true) (signs x) = signs x := List.filter_eq_self.mpr fun _ _ => rfl
    rw [hft] at hc
    obtain ⟨l, hyl, hlm⟩ := carried_strs hc
    have hll : l.length = x.length := by rw [← signs_length x, ← hlm, List.length_map]
    have hls : ∀ p ∈ l ++ ps, p.1.length ≤ 1000 := by
      intro p hp
      rcases List.mem_append.mp hp with hp | hp
      · have : p.1 ∈ signs x := by rw [← hlm]; exact List.mem_map.mpr ⟨p, hp, rfl⟩
        obtain ⟨c', _, hc'⟩ := List.mem_map.mp this
        rw [← hc']; show 1 ≤ 1000; decide
      · have := hps p hp; omega
    have hlz : (l ++ ps).length ≤ 100 := by rw [List.length_append]; omega
    refine add_lists (ws := strValues ps) F6 N6 hy ⟨_, (N6 _ (.head _)).1, rfl, _, rfl⟩ ?_ ?sz
    case sz => rw [hyl]; simp only [strValues, List.length_map]; unfold sizeLine; omega
    rw [hyl, vals_append]
    intro h7 F7 N7
    have hcp : cpsOf (l ++ ps) = Z := by rw [cps_append, cps_signs hlm]; exact hZe
    clear F6 N6 hy hc hyl
    have hjo : JoinOk mark ((l ++ ps).map (·.1)) = true := join_ok (by omega) hlz hls
    have hjl : (Txt.join mark ((l ++ ps).map (·.1))).length ≤ 200000 := join_len (by omega) hlz hls
    generalize hlp : l ++ ps = lp at *
    k_steps
    dsimp only [List.cons_append, List.nil_append]
    (rename Fr _ _ _ _ => F8); (rename News _ _ _ _ => N8)
    refine SC.join (l := lp) ⟨_, (N8 _ (.head _)).1, rfl, _, rfl⟩ rfl hjo fun t' k => ?_
    k_steps
    exact hQ _ _ _ _ _ (fun b o e => Fr.keep (by assumption) b o e) (fun hb => hgq.bare (AllBare.push hb hbare)) (hcp.trans hZ)
  case zn => intro h0; cases hf : fin with
    | true => rfl
    | false => have := hnf hf; omega
end Mine
end PartL
section PartX
open PySem PySem.W PyProof.Rows PySem.Calls PySem.Spec
namespace Mine

theorem enterE {w : World} {A : Around} {E : Value → Shared → Prop} {s : Shared} {Q : Value → Shared → Prop} {K : Frag}
    {name qual : Str} {params : Arguments} {body : List Stmt} {scope : Scope} {cl : List (Str × Addr)} {dV kV doc pm cdv ct oc : Value} {an od : Option Addr} {osl : Array (Option Value)} {f : Addr} {args : List Value} {binds : List (Str × Value)}
    (X : K.In s.heap) (hlim : s.heap.NoLimit) (hroom : A.depth < recursionLimit)
    (ho : K.lookup f = some ⟨oc, od, .func (fnX name qual params body scope cl dV kV doc pm an cdv ct), osl⟩) (hcd : codeIn K cdv qual = true)
    (hbind : BindsTo s (fnX name qual params body scope cl dV kV doc pm an cdv ct) ⟨args, []⟩ binds) (hloc : ∀ y ∈ binds, scope.names.lookup y.1 = some .local)
    (h : ∀ h₁ tk₁, Fr s.heap s.heap.objs.size h₁ (fun y => binds.reverse.lookup y) →
      wpAny (model PySem.Challenge.rw_wn0012_01.row.prog w) (A.deeper (envX qual scope s.heap.objs.size f cdv cl)) (execs body (envX qual scope s.heap.objs.size f cdv cl))
        (fun fl s' => Q (match fl with | .ret v => v | _ => .none) s')
        (fun e s' => wpAny (model PySem.Challenge.rw_wn0012_01.row.prog w) (A.deeper (envX qual scope s.heap.objs.size f cdv cl)) (leaving (envX qual scope s.heap.objs.size f cdv cl) e) (fun _ s'' => E e s'') (fun e' s'' => E e' s'') s') { s with heap := h₁, toks := tk₁ })
    (hcell : ∀ x ∈ scope.names, x.2 ≠ .cell) (hco : scope.isCoroutine = false) (hgen : scope.isGenerator = false) (hk : scope.kind = .function) :
    wpAny (model PySem.Challenge.rw_wn0012_01.row.prog w) A (PySem.call (.ref f) args) Q E s := by
  refine wpAny_call ?_
  refine codeAny_call_def (fd := fnX name qual params body scope cl dV kV doc pm an cdv ct) (body := body) (binds := binds) hroom (X _ _ ho) rfl hlim (codeRec_of X hcd) rfl hbind hcell hloc (fun h₁ hns hk₁ => ?_) hco hgen hk
  exact h h₁ _ ⟨hns, hk₁, Nat.le_refl _⟩

theorem raised_less {base h : Heap} {l : List Env} {e t : Addr} {cls : Value} {vs : List Value} {news : List (Addr × Obj)} (R : RaisedK base l e cls t vs news h) : RaisedK base l e cls t vs [] h := by
  obtain ⟨⟨B, hB, _, hfl, hnew⟩, htup⟩ := R
  exact ⟨⟨B, hB, (fun _ hq => (List.not_mem_nil hq).elim), hfl, hnew⟩, htup⟩
set_option maxRecDepth 100000 in
set_option maxHeartbeats 8000000 in
theorem parse_spec {w : World} {mean : ExcName → Option Value} {mg mb : Str → Option Value} {dp un : Nat} {outer : List Env} {gd : Option (List Code)} {E : Value → Shared → Prop} {s : Shared} {base : Heap} {Q : Value → Shared → Prop}
    (KX : (Mine.wn_hd.heap_39 w.params).In s.heap) (T : Top Mine.wn_hd.view_39 (looseW Mine.wn_hd.view_39 [Str.ofString "_twin_re_1", Str.ofString "_twin_re_2"]) mean mg mb s.heap) (hroom : dp + 40 < recursionLimit) (hu : un + 80 < cLine)
    (B : Below ⟨none, dp, some outer, gd, un⟩ base outer s.heap)
    {resp : Str} {trp : Tok} {PT : Addr} {th ts : Tok} {step : Int} (hP : IsTup s.heap PT #[.str (Str.ofString "host") th, .int step ts]) (hl : resp.length ≤ 1000) (hl0 : 8 ≤ resp.length) (h3 : Txt.slice resp none (some 3) = Str.ofString "229") (hf1 : Txt.find resp (Str.ofString "(") = 4) (hf2 : Txt.find3 resp (Str.ofString ")") (Txt.find resp (Str.ofString "(") + 1) = (resp.length : Int) - 1)
    {parts : List Str} {v : Int} (hmk : Txt.item resp (Txt.find resp (Str.ofString "(") + 1) = Txt.item resp (Txt.find3 resp (Str.ofString ")") (Txt.find resp (Str.ofString "(") + 1) - 1))
    (hsp : Txt.split (Txt.slice resp (some (Txt.find resp (Str.ofString "(") + 1)) (some (Txt.find3 resp (Str.ofString ")") (Txt.find resp (Str.ofString "(") + 1)))) (Txt.item resp (Txt.find resp (Str.ofString "(") + 1)) = parts)
    (hv : parts.length = 5 → ∃ y, parts[3]? = some y ∧ PySem.intText? y = some v ∧ y.length ≤ 640)
    (hQ : parts.length = 5 → ∀ h' tk R t1 t2, Ext s.heap h' → h'.get? R = some { cls := .type "tuple", data := .seq #[.str (Str.ofString "host") t1, .int v t2] } → s.heap.get? R = none → Q (.ref R) { s with heap := h', toks := tk })
    (hE : parts.length ≠ 5 → ∀ h' tk e t, RaisedK base outer e (.ref 73) t [.str resp trp] [] h' → s.heap.UpToSlots h' → E (.ref e) { s with heap := h', toks := tk }) :
    wpAny (model PySem.Challenge.rw_wn0012_01.row.prog w) ⟨none, dp, some outer, gd, un⟩ (PySem.call (.ref 82) [.str resp trp, .ref PT]) Q E s := by
  w_on
  k_dflt refine' enterE (binds := [(Str.ofString "resp", .str resp trp), (Str.ofString "peer", .ref PT)]) KX (Top.nolimit T) ?a1 ?a2 ?a3 ?a4 ?a5 ?a6 ?a7 ?a8 ?a9 ?a10
  case a1 => exact Nat.lt_of_le_of_lt (Nat.le_add_right _ _) hroom
  case a2 => k_is
  case a3 => k_is
  case a4 => exact BindsTo.of_eq rfl
  case a5 => exact locs rfl
  case a7 => decide
  case a8 => rfl
  case a9 => rfl
  case a10 => rfl
  intro h₁ tk₁ F
  have N0 : News s.heap s.heap.objs.size h₁ [] := News.nil
  k_steps
  · exfalso
    (rename (_ != _) = true => hc)
    rw [h3] at hc; exact absurd hc (by decide)
  · exfalso
    (rename (_ != _) = true => hc)
    rw [← hmk] at hc; simp at hc
  · (rename RaisedK _ _ _ _ _ _ _ _ => hR)
    (rename List (Str × Tok) => l)
    (rename List.map _ _ = _ => hlm)
    have hll : l.length = parts.length := by rw [← hsp, ← hlm, List.length_map]
    (rename (_ : Int) ≠ _ => hne)
    have hx := hE (fun h => hne (by rw [hll, h]; rfl))
    have hR2 := raised_less hR
    (rename Heap.UpToSlots _ _ => hU)
    clear hE hQ hv hsp hmk hlm hR
    refine hx _ _ _ _ hR2 ?_
    exact hU
  · (rename List (Str × Tok) => l)
    (rename List.map _ _ = _ => hlm)
    have hll : l.length = parts.length := by rw [← hsp, ← hlm, List.length_map]
    (rename (_ : Int) = _ => hne)
    have h5 : parts.length = 5 := hll.symm.trans (Int.ofNat_inj.mp (hne : ((l.length : Nat) : Int) = ((5 : Nat) : Int)))
    obtain ⟨y', hy1, hy2, hy3⟩ := hv h5
    rename_i y0 t0 hy
    have hyy : y0 = y' := by
      rw [hlm, hsp] at hy
      have h3 : parts[Int.toNat 3]? = parts[3]? := rfl
      rw [h3, hy1] at hy
      exact (Option.some.inj hy).symm
    subst hyy
    refine PySem.W.KIN.call_text hy2 hy3 ?_
    have hQ5 := hQ h5
    clear hQ hE hv hsp hmk hlm
    dsimp only
    k_steps
    dsimp only
    (rename Fr _ _ _ _ => F9); (rename News _ _ _ _ => N9)
    exact hQ5 _ _ _ _ _ F9.keep (N9 _ (.head _)).1 (N9 _ (.head _)).2.2
end Mine
end PartX
section PartE
open PySem PySem.W PyProof.Rows PySem.Calls PySem.Spec
namespace Mine

local macro_rules | `(tactic| walk_at "WN upd_same") => `(tactic| (intro p hp; repeat' (first | (cases hp; done) | (rcases List.mem_cons.mp hp with he | hp; · subst he; rfl))))
local macro_rules | `(tactic| walk_at "WN upd_rest") => `(tactic| (intro z hz; simp only [List.forall_mem_cons] at hz; (try dsimp only); simp only [Mine.upd, Mine.updO, hz, if_false, reduceIte]))
local macro_rules | `(tactic| walk_at "WN upd_restO") => `(tactic| (intro z hx hz; simp only [List.forall_mem_cons] at hz; (try dsimp only); simp only [Mine.upd, Mine.updO, hx, hz, if_false, reduceIte]))
local macro_rules | `(tactic| walk_at "WN upd_off") => `(tactic| (intro p hp; repeat' (first | (cases hp; done) | (rcases List.mem_cons.mp hp with he | hp; · (subst he; (try dsimp only); decide)))))
local macro_rules | `(tactic| walk_at "exec While Compare cons nil") => `(tactic| refine Mine.stop ?_)
local macro_rules | `(tactic| walk_at "exec For Name Call cons nil") => `(tactic| k_dflt (refine Mine.for_ok ?_))
local macro_rules | `(tactic| walk_at "pyIter ref") => `(tactic| refine Mine.stop ?_)
local macro_rules | `(tactic| walk_at "call builtin:list.append") => `(tactic| (k_here; (with_unfolding_all (show wpAny _ _ (PySem.call (Value.builtin _) [Value.ref _, _]) _ _ _)); k_dflt (refine' append_K ?k1 ?k2 ?k3 ?_ ?z; (case k1 => k_asm); (case k2 => k_asm); (case k3 => k_upd); (case z => size_fits); k_whole); intro h' F' N'; (try k_sweep)))

theorem execs_app (env : Env) : ∀ (a b : List Stmt), execs (a ++ b) env = execs a env >>= fun fl => match fl with | .next => execs b env | f => pure f
  | [], b => by show execs b env = (execs [] env >>= _); rw [show execs [] env = pure .next from rfl, pure_bind]
  | x :: a, b => by
    rw [List.cons_append, execs_cons, execs_cons, bind_assoc]
    congr 1
    funext fl
    cases fl <;> first | exact execs_app env a b | rfl
theorem execs_cut (n : Nat) {M : Model} {A : Around} {env : Env} {Q : Flow → Shared → Prop} {E : Value → Shared → Prop} {l : List Stmt} {s : Shared}
    (h : wpAny M A (execs (l.take n) env) (fun fl s' => match fl with | .next => Stopped (wpAny M A (execs (l.drop n) env) Q E s') | f => Q f s') E s) : wpAny M A (execs l env) Q E s := by
  rw [← List.take_append_drop n l, execs_app]
  refine wpAny_bind (wpAny_mono h (fun fl s' h' => ?_) fun _ _ e => e)
  cases fl <;> first | exact h' | exact wpAny_pure h'
theorem execs_cut2 (n : Nat) {M : Model} {A : Around} {env : Env} {Q : Flow → Shared → Prop} {l : List Stmt} {s : Shared} (P : Shared → Prop)
    (h : wpAny M A (execs (l.take n) env) (fun fl s' => fl = .next ∧ P s') NoE s) (h2 : ∀ s', P s' → wpAny M A (execs (l.drop n) env) Q NoE s') : wpAny M A (execs l env) Q NoE s := by
  refine execs_cut n (wpAny_mono h (fun fl s' h' => ?_) fun _ _ e => e)
  obtain ⟨rfl, h'⟩ := h'
  exact h2 _ h'

abbrev LawAt (w : World) (name qual : Str) (params : Arguments) (body : List Stmt) (scope : Scope) (cdv : Value) : Prop :=
  ∃ (oc : Value) (od : Option Addr) (cl : List (Str × Addr)) (dV kV doc pm ct : Value) (an : Option Addr) (osl : Array (Option Value)), (Mine.wn_hd.heap_39 w.params).lookup 123 = some ⟨oc, od, .func (fnX name qual params body scope cl dV kV doc pm an cdv ct), osl⟩
theorem law_open {K : Frag} {a : Addr} {oc oc' : Value} {od od' : Option Addr} {name qual name' qual' : Str} {params params' : Arguments} {body body' : List Stmt} {scope scope' : Scope} {cl cl' : List (Str × Addr)} {dV kV doc pm cdv ct dV' kV' doc' pm' cdv' ct' : Value} {an an' : Option Addr} {osl osl' : Array (Option Value)}
    (h : K.lookup a = some ⟨oc, od, .func (fnX name qual params body scope cl dV kV doc pm an cdv ct), osl⟩) (h' : K.lookup a = some ⟨oc', od', .func (fnX name' qual' params' body' scope' cl' dV' kV' doc' pm' an' cdv' ct'), osl'⟩) :
    name = name' ∧ body = body' ∧ scope = scope' ∧ cdv = cdv' := by
  have e := h.symm.trans h'
  simp only [Option.some.injEq, Obj.mk.injEq, Data.func.injEq, fnX, FuncData.mk.injEq, FuncBody.stmts.injEq] at e
  obtain ⟨_, _, e, _⟩ := e
  simp only [e, and_self]
theorem ints6 {xs : List Int} (h : xs.length = 6) : ∃ a b c d e f, xs = [a, b, c, d, e, f] := by
  match xs, h with
  | [a, b, c, d, e, f], _ => exact ⟨a, b, c, d, e, f, rfl⟩
local macro_rules | `(tactic| walk_at "subscriptTail List cons Slice ref ref") => `(tactic| walk_at "last subscriptTail")
def P0 (h₀ : Heap) (L SL : Addr) (m : Str → Option Value) (nw : List (Addr × Obj)) (s : Shared) (R : List Int → Prop) (fl : Flow) (s' : Shared) : Prop :=
  fl = .next ∧ ∃ D ys c zs h' tk', s' = { s with heap := h', toks := tk' } ∧ Fr h₀ L h' (upd [(Str.ofString "drawn", .ref D), (Str.ofString "script", .ref SL)] m) ∧
        News h₀ L h' ((D, listOf (List.toArray ys) c) :: nw) ∧ IntsAre ys zs ∧ R zs
theorem P0.go {h₀ : Heap} {L SL D : Addr} {m m' : Str → Option Value} {nw rest : List (Addr × Obj)} {s : Shared} {R : List Int → Prop} {ys : List Value} {zs : List Int} {h' : Heap} {tk' : Nat}
    {o : Obj} {c : Nat} (N : News h₀ L h' ((D, o) :: rest)) (ho : o = listOf (List.toArray ys) c) (F : Fr h₀ L h' m') (hI : IntsAre ys zs) (hR : R zs) (hr : ∀ p ∈ nw, p ∈ rest)
    (hm : ∀ z, m' z = upd [(Str.ofString "drawn", .ref D), (Str.ofString "script", .ref SL)] m z) : P0 h₀ L SL m nw s R .next { s with heap := h', toks := tk' } := by
  have e : m' = _ := funext hm
  subst e ho
  refine ⟨rfl, D, ys, c, zs, h', tk', rfl, F, fun p hp => ?_, hI, hR⟩
  rcases List.mem_cons.mp hp with rfl | hp
  · exact N _ (.head _)
  · exact N _ (.tail _ (hr p hp))
theorem upd_idem {x : Str} {v u : Value} {r : List (Str × Value)} {m : Str → Option Value} (z : Str) : (if z = x then some v else upd ((x, u) :: r) m z) = upd ((x, v) :: r) m z := by
  unfold upd
  by_cases h : z = x
  · simp only [h, if_true]
  · simp only [h, if_false]
set_option maxRecDepth 100000 in
set_option maxHeartbeats 8000000 in
theorem law_pre0 {w : World} {name qual : Str} {params : Arguments} {body : List Stmt} {scope : Scope} {cdv : Value} (hbody : LawAt w name qual params body scope cdv)
    {mean : ExcName → Option Value} {mg mb : Str → Option Value} {dp un : Nat} {fr : Option (List Env)} {gd : Option (List Code)} {s : Shared} {h₀ : Heap} {L fa : Addr} {h : Heap} {tk : Nat}
    (KX : (Mine.wn_hd.heap_39 w.params).In h₀) (T : Top Mine.wn_hd.view_39 (looseW Mine.wn_hd.view_39 [Str.ofString "_twin_re_1", Str.ofString "_twin_re_2"]) mean mg mb h₀) (hroom : dp + 40 < recursionLimit) (hu : un + 80 < cLine)
    {SL : Addr} {ws : List Value} {xs : List Int} (hL : h₀.IsList SL ws.toArray) (hI : IntsAre ws xs) (hlen : xs.length ≤ 63) (m : Str → Option Value)
    (F : Fr h₀ L h (upd [(Str.ofString "script", .ref SL)] m)) {c1 c2 : Addr} {o1 o2 : Obj} (N : News h₀ L h [(c2, o2), (c1, o1)]) :
    wpAny (model PySem.Challenge.rw_wn0012_01.row.prog w) ⟨none, dp, fr, gd, un⟩ (execs (body.take 1) (envOfC name scope L fa cdv))
      (P0 h₀ L SL m [(c2, o2), (c1, o1)] s fun zs => zs = (xs.take 6).map fun k => k.fmod 1000000) NoE { s with heap := h, toks := tk } := by
  w_on
  obtain ⟨_, _, _, _, _, _, _, _, _, _, hb⟩ := hbody
  obtain ⟨rfl, rfl, rfl, rfl⟩ := law_open hb (by k_is)
  clear hb
  dsimp only [List.take]
  k_steps
  (rename Fr _ _ _ _ => F9); (rename News _ _ _ _ => N9)
  rename_i hI9 _ _ _ _ _
  (try dsimp only at F9 N9)
  exact P0.go N9 (by with_unfolding_all rfl) F9 hI9 rfl (fun p hp => .tail _ hp) (fun z => rfl)
local macro_rules | `(tactic| walk_at "subscriptTail List cons Slice ref ref") => `(tactic| refine Mine.stop ?_)
set_option maxRecDepth 100000 in
set_option maxHeartbeats 8000000 in
theorem law_pre1 {w : World} {name qual : Str} {params : Arguments} {body : List Stmt} {scope : Scope} {cdv : Value} (hbody : LawAt w name qual params body scope cdv)
    {mean : ExcName → Option Value} {mg mb : Str → Option Value} {dp un : Nat} {fr : Option (List Env)} {gd : Option (List Code)} {s : Shared} {h₀ : Heap} {L fa : Addr} {h : Heap} {tk : Nat}
    (KX : (Mine.wn_hd.heap_39 w.params).In h₀) (T : Top Mine.wn_hd.view_39 (looseW Mine.wn_hd.view_39 [Str.ofString "_twin_re_1", Str.ofString "_twin_re_2"]) mean mg mb h₀) (hroom : dp + 40 < recursionLimit) (hu : un + 80 < cLine)
    {SL D : Addr} {ys : List Value} {c : Nat} {zs : List Int} (hI : IntsAre ys zs) (hlen : zs.length ≤ 6) (m : Str → Option Value)
    (F : Fr h₀ L h (upd [(Str.ofString "drawn", .ref D), (Str.ofString "script", .ref SL)] m)) {c1 c2 : Addr} {o1 o2 : Obj} (N : News h₀ L h [(D, listOf (List.toArray ys) c), (c2, o2), (c1, o1)]) :
    wpAny (model PySem.Challenge.rw_wn0012_01.row.prog w) ⟨none, dp, fr, gd, un⟩ (execs ((body.drop 1).take 1) (envOfC name scope L fa cdv))
      (P0 h₀ L SL m [(c2, o2), (c1, o1)] s fun us => us = zs ++ [41, 20, 32, 5, 14, 9].drop zs.length) NoE { s with heap := h, toks := tk } := by
  w_on
  obtain ⟨_, _, _, _, _, _, _, _, _, _, hb⟩ := hbody
  obtain ⟨rfl, rfl, rfl, rfl⟩ := law_open hb (by k_is)
  clear hb
  dsimp only [List.take, List.drop]
  k_steps
  refine Stopped.go ?_
  dsimp only
  (rename Fr _ _ _ _ => F9); (rename News _ _ _ _ => N9)
  dsimp only at F9 N9
  walk_at "last subscriptTail"
  refine' kmk_slice_ints (s := ⟨_, _, _, _, _⟩) (vs := [.int 41 tk, .int 20 (tk + 1), .int 32 (tk + 1 + 1), .int 5 (tk + 1 + 1 + 1), .int 14 (tk + 1 + 1 + 1 + 1), .int 9 (tk + 1 + 1 + 1 + 1 + 1)]) (ns := [41, 20, 32, 5, 14, 9]) ?jF ?jN ?jl ?jp ?jq ?ji (kmk_from ?ji (Int.natCast_nonneg _)) rfl ?jk ?js ?jt ?jz
  case jF => exact F9
  case jN => exact N9
  case jl => exact ⟨_, (N9 _ (.head _)).1, rfl, _, rfl⟩
  case jp => exact IsPart.int _ _
  case jq => exact IsPart.none
  case ji => exact .cons _ _ (.cons _ _ (.cons _ _ (.cons _ _ (.cons _ _ (.cons _ _ .nil)))))
  case js => with_unfolding_all rfl
  case jt => kmk_pure
  case jz => exact Nat.le_of_ble_eq_true rfl
  clear F9 N9
  intro D5 ws5 h5 F5 N5 l5 hI5 hC5 hL5
  k_steps
  (rename Fr _ _ _ _ => F9); (rename News _ _ _ _ => N9)
  (rename IntsAre _ (zs ++ _) => I9)
  (try dsimp only at F9 N9)
  refine P0.go N9 rfl F9 I9 (by rw [Int.toNat_natCast]) (fun p hp => ?_) (fun z => ?_)
  · exact .tail _ (.tail _ (.tail _ hp))
  · exact upd_idem z
end Mine
end PartE
section PartE2
open PySem PySem.W PyProof.Rows PySem.Calls PySem.Spec
namespace Mine

local macro_rules | `(tactic| walk_at "WN upd_same") => `(tactic| (intro p hp; repeat' (first | (cases hp; done) | (rcases List.mem_cons.mp hp with he | hp; · subst he; rfl))))
local macro_rules | `(tactic| walk_at "WN upd_rest") => `(tactic| (intro z hz; simp only [List.forall_mem_cons] at hz; (try dsimp only); simp only [Mine.upd, Mine.updO, hz, if_false, reduceIte]))
local macro_rules | `(tactic| walk_at "WN upd_restO") => `(tactic| (intro z hx hz; simp only [List.forall_mem_cons] at hz; (try dsimp only); simp only [Mine.upd, Mine.updO, hx, hz, if_false, reduceIte]))
local macro_rules | `(tactic| walk_at "WN upd_off") => `(tactic| (intro p hp; repeat' (first | (cases hp; done) | (rcases List.mem_cons.mp hp with he | hp; · (subst he; (try dsimp only); decide)))))
local macro_rules | `(tactic| walk_at "exec While Compare cons nil") => `(tactic| refine Mine.stop ?_)
local macro_rules | `(tactic| walk_at "exec For Name Call cons nil") => `(tactic| k_dflt (refine Mine.for_ok ?_))
local macro_rules | `(tactic| walk_at "pyIter ref") => `(tactic| refine Mine.stop ?_)
local macro_rules | `(tactic| walk_at "call builtin:list.append") => `(tactic| (k_here; (with_unfolding_all (show wpAny _ _ (PySem.call (Value.builtin _) [Value.ref _, _]) _ _ _)); k_dflt (refine' append_K ?k1 ?k2 ?k3 ?_ ?z; (case k1 => k_asm); (case k2 => k_asm); (case k3 => k_upd); (case z => size_fits); k_whole); intro h' F' N'; (try k_sweep)))

def LawC (f ring step front : Int) : Prop := ((f = 1 ∧ ring = 10) ∨ (f = 2 ∧ ring = 100)) ∧ 1 ≤ step ∧ step < ring ∧ 100000 ≤ front ∧ front ≤ 899900 ∧ front % 100 = 0
theorem lawC_of {d0 d1 d2 f ring step front : Int} (e0 : f = 1 + d0.fmod 2) (e1 : ring = 10 ^ f.toNat) (e2 : step = 1 + d1.fmod (ring - 1)) (e3 : front = (1000 + d2.fmod 8000) * 100) : LawC f ring step front := by
  have h0 : d0.fmod 2 = d0 % 2 := Int.fmod_eq_emod_of_nonneg _ (by decide)
  have h2 : d2.fmod 8000 = d2 % 8000 := Int.fmod_eq_emod_of_nonneg _ (by decide)
  have hf : f = 1 ∨ f = 2 := by omega
  have hr : (f = 1 ∧ ring = 10) ∨ (f = 2 ∧ ring = 100) := by
    rcases hf with rfl | rfl
    · left; exact ⟨rfl, e1⟩
    · right; exact ⟨rfl, e1⟩
  have h1 : d1.fmod (ring - 1) = d1 % (ring - 1) := Int.fmod_eq_emod_of_nonneg _ (by omega)
  have h3 := Int.emod_nonneg d1 (show ring - 1 ≠ 0 by omega)
  have h4 := Int.emod_lt_of_pos d1 (show 0 < ring - 1 by omega)
  refine ⟨hr, ?_, ?_, ?_, ?_, ?_⟩ <;> omega
def P2 (h₀ : Heap) (L SL D : Addr) (m : Str → Option Value) (nw : List (Addr × Obj)) (s : Shared) (fl : Flow) (s' : Shared) : Prop :=
  fl = .next ∧ ∃ (f ring step front : Int) (tf tr ts tfr t6 t7 u1 u2 u3 u4 u5 : Tok) (SZ PT TL : Addr) (h' : Heap) (tk' : Nat), s' = { s with heap := h', toks := tk' } ∧ LawC f ring step front ∧
    Fr h₀ L h' (upd [(Str.ofString "told", .ref TL), (Str.ofString "peer", .ref PT), (Str.ofString "sizes", .ref SZ), (Str.ofString "front", .int front tfr), (Str.ofString "step", .int step ts), (Str.ofString "ring", .int ring tr), (Str.ofString "first", .int f tf), (Str.ofString "drawn", .ref D), (Str.ofString "script", .ref SL)] m) ∧
    News h₀ L h' ((TL, listOf #[] 0) :: (PT, { cls := .type "tuple", data := .seq #[.str (Str.ofString "host") t6, .int step t7] }) :: (SZ, listOf #[.int 1 u1, .int 2 u2, .int 3 u3, .int 0 u4, .int 127 u5] 0) :: nw) ∧ PT < TL ∧ SZ < TL ∧ ∀ p ∈ nw, p.1 < TL
set_option maxRecDepth 100000 in
set_option maxHeartbeats 8000000 in
theorem law_pre2 {w : World} {name qual : Str} {params : Arguments} {body : List Stmt} {scope : Scope} {cdv : Value} (hbody : LawAt w name qual params body scope cdv)
    {mean : ExcName → Option Value} {mg mb : Str → Option Value} {dp un : Nat} {fr : Option (List Env)} {gd : Option (List Code)} {s : Shared} {h₀ : Heap} {L fa : Addr} {h : Heap} {tk : Nat}
    (KX : (Mine.wn_hd.heap_39 w.params).In h₀) (T : Top Mine.wn_hd.view_39 (looseW Mine.wn_hd.view_39 [Str.ofString "_twin_re_1", Str.ofString "_twin_re_2"]) mean mg mb h₀) (hroom : dp + 40 < recursionLimit) (hu : un + 80 < cLine)
    {SL D : Addr} {c : Nat} {d0 d1 d2 d3 d4 d5 : Int} {t0 t1 t2 t3 t4 t5 : Tok} (h0 : 0 ≤ d0 ∧ d0 < 1000000) (h1 : 0 ≤ d1 ∧ d1 < 1000000) (h2 : 0 ≤ d2 ∧ d2 < 1000000) (m : Str → Option Value)
    (F : Fr h₀ L h (upd [(Str.ofString "drawn", .ref D), (Str.ofString "script", .ref SL)] m)) {c1 c2 : Addr} {o1 o2 : Obj} (N : News h₀ L h [(D, listOf #[.int d0 t0, .int d1 t1, .int d2 t2, .int d3 t3, .int d4 t4, .int d5 t5] c), (c2, o2), (c1, o1)]) :
    wpAny (model PySem.Challenge.rw_wn0012_01.row.prog w) ⟨none, dp, fr, gd, un⟩ (execs ((body.drop 2).take 7) (envOfC name scope L fa cdv))
      (P2 h₀ L SL D m [(D, listOf #[.int d0 t0, .int d1 t1, .int d2 t2, .int d3 t3, .int d4 t4, .int d5 t5] c), (c2, o2), (c1, o1)] s) NoE { s with heap := h, toks := tk } := by
  w_on
  obtain ⟨_, _, _, _, _, _, _, _, _, _, hb⟩ := hbody
  obtain ⟨rfl, rfl, rfl, rfl⟩ := law_open hb (by k_is)
  clear hb
  dsimp only [List.take, List.drop]
  k_steps
  · exfalso
    (rename _ - 1 = (0 : Int) => hx)
    have h0 : d0.fmod 2 = d0 % 2 := Int.fmod_eq_emod_of_nonneg _ (by decide)
    have hf : (1 + d0.fmod 2).toNat = 1 ∨ (1 + d0.fmod 2).toNat = 2 := by omega
    have hx' : (10 : Int) ^ (1 + d0.fmod 2).toNat - 1 = 0 := hx
    rcases hf with h | h <;> rw [h] at hx' <;> exact absurd hx' (by decide)
  (rename Fr _ _ _ _ => F9); (rename News _ _ _ _ => N9)
  dsimp only at F9 N9
  (rename _ < _ ∧ _ < _ ∧ _ < _ ∧ _ < _ ∧ _ < _ => l1)
  obtain ⟨l1, l2, l3, l4, l5⟩ := l1
  refine ⟨rfl, _, _, _, _, _, _, _, _, _, _, _, _, _, _, _, _, _, _, _, _, rfl, lawC_of rfl rfl rfl rfl, F9, N9, l1, l2, fun p hp => ?_⟩
  simp only [List.mem_cons, List.not_mem_nil, or_false] at hp
  rcases hp with rfl | rfl | rfl
  · exact l3
  · exact l4
  · exact l5
end Mine
end PartE2
section PartC
open PySem PySem.W PyProof.Rows PySem.Calls PySem.Spec
namespace Mine

def ExcOwn (h : Heap) (e C t0 : Addr) : Prop := ∃ o vs, h.get? e = some o ∧ o.cls = .ref C ∧ o.data = .fields vs ∧ vs[0]? = some (.ref t0)
theorem ExcOwn.keeps {h h' : Heap} {e C t0 : Addr} (x : ExcOwn h e C t0) (k : ∀ b o, h.get? b = some o → h'.get? b = some o) : ExcOwn h' e C t0 :=
  let ⟨o, vs, a, b⟩ := x; ⟨o, vs, k _ _ a, b⟩
theorem ExcOwn.type {M : Model} {h : Heap} {e C t0 : Addr} (x : ExcOwn h e C t0) : Looks M h (typeOf (.ref e)) (.ref C) := by
  obtain ⟨o, _, ho, hc, _⟩ := x
  exact hc ▸ (Looks.ld ho).andThen .now
section
variable {prog : Program} {w : World} {A : Around} {E : Value → Shared → Prop} {s : Shared} {K : Frag} {e C t0 : Addr} {m : Str} {tk : Tok} {Q : Value → Shared → Prop}
theorem bexcArgs_own (x : ExcOwn s.heap e C t0) {items : List Value} {M : Model} {Q : Value × List Value → Shared → Prop} (ht : s.heap.TupAt t0 items) (hq : Q (.ref t0, items) s) :
    wpAny M A (Builtin.BaseException.bexcArgs (.ref e)) Q E s := by
  obtain ⟨o, vs, ho, _, hd, h0⟩ := x
  obtain ⟨ot, k, hto, _, htd⟩ := ht
  unfold Builtin.BaseException.bexcArgs
  refine wpAny_bind (wpAny_field ho hd h0 (wpAny_bind (wpAny_seqItems hto htd ?_)))
  show wpAny M A (pure (Value.ref t0, items.toArray.toList)) Q E s
  exact wpAny_pure (by simpa using hq)
theorem bexc_own (x : ExcOwn s.heap e C t0) (ht : s.heap.TupAt t0 [.str m tk]) {Q : Fin → Shared → Prop} (hq : Q (.done (.ret (.str m tk))) s) :
    wpAny (model prog w) A (Builtin.«BaseException.__str__» ⟨[.ref e], []⟩) Q E s := by
  unfold Builtin.«BaseException.__str__»
  repeat (first | with_reducible refine bexcArgs_own x ht ?_ | wp_step)
  exact hq
set_option maxRecDepth 100000 in
set_option maxHeartbeats 4000000 in
theorem call_own (X : K.In s.heap) (hs : subIn K (.ref C) (.type "BaseException") = some true) (x : ExcOwn s.heap e C t0) (ht : s.heap.TupAt t0 [.str m tk]) (hq : Q (.str m tk) s) :
    wpAny (model prog w) A (PySem.call (.builtin "BaseException.__str__") [.ref e]) Q E s := by
  have hi : Looks (model prog w) s.heap (isInstance (.ref e) (.type "BaseException")) true := by
    unfold isInstance
    exact x.type.andThen (looks_subIn X hs)
  refine wpAny_call ?_
  refine codeAny_call_builtin (b := Builtin.«BaseException.__str__») ?_ F.entry_bexc_str ?_
  · exact PySem.F.excStr_Exception.str.plain
  have h1 : builtinKind "BaseException.__str__" = some .slot := by decide +kernel
  have h2 : splitId "BaseException.__str__" = some ("BaseException", "__str__") := by decide +kernel
  refine @check_slot (model prog w) A.in1 _ s "BaseException.__str__" "BaseException" "__str__" (.ref e) [] [] _ h1 h2 hi (F.args_bexc_str _) ?_
  exact wpAny_mono (bexc_own (Q := fun fin s' => ∃ v, fin = .done (.ret v) ∧ Q v s') x ht ⟨_, rfl, hq⟩) (fun fin s' h' => by obtain ⟨v, rfl, hv⟩ := h'; exact hv) fun _ _ h => h
theorem call_own2 (X : K.In s.heap) (hs : subIn K (.ref C) (.type "BaseException") = some true) (x : ExcOwn s.heap e C t0) (ht : s.heap.TupAt t0 [.str m tk]) (hq : Q (.str m tk) s) :
    wpAny (model prog w) A (PySem.call (.builtin "BaseException.__str__") ([.ref e] ++ [])) Q E s := call_own X hs x ht hq
theorem strOf_own (X : K.In s.heap) (hf : findIn K (.ref C) "__str__" = some (some (.builtin "BaseException.__str__"))) (hs : subIn K (.ref C) (.type "BaseException") = some true) (hu : A.units < cLine)
    (x : ExcOwn s.heap e C t0) (ht : s.heap.TupAt t0 [.str m tk]) (hq : Q (.str m tk) s) : wpAny (model prog w) A (Builtin.Str.strOf (.ref e)) Q E s := by
  unfold Builtin.Str.strOf
  obtain ⟨o, vs, ho, hc, hd, h0⟩ := id x
  have hL := looks_findIn (M := model prog w) X hf
  repeat (first | with_reducible refine wpAny_cRoomFor hu ?_ | (with_reducible refine wpAny_loadPart_at ho ?_; rw [hc]) | with_reducible refine hL.here ?_ | with_reducible refine wpAny_holding ?_ | with_reducible refine call_own2 X hs x ht ?_ | (rw [PySem.F.excStr_Exception.str.bind]) | wp_step)
  exact hq
theorem str_own (X : K.In s.heap) (hf : findIn K (.ref C) "__str__" = some (some (.builtin "BaseException.__str__"))) (hs : subIn K (.ref C) (.type "BaseException") = some true) (hu : A.units + 2 < cLine)
    (x : ExcOwn s.heap e C t0) (ht : s.heap.TupAt t0 [.str m tk]) (hq : Q (.str m tk) s) : wpAny (model prog w) A (PySem.call (.type "str") [.ref e]) Q E s :=
  callType_new F.called_str (by decide) (F.typeCall_str_1 _) (F.newCall_str_1 _) (fun obj => F.args_object_init_2 obj _) F.entry_str_new
    (meets_str_new (S := fun A' R s' => A'.units + 1 < cLine ∧ K.In s'.heap ∧ ExcOwn s'.heap e C t0 ∧ s'.heap.TupAt t0 [.str m tk] ∧ R (.ok (.ret (.str m tk))) s')
      fun _ _ A' _ _ hq => strOf_own (A := A'.in1) hq.2.1 hf hs hq.1 hq.2.2.1 hq.2.2.2.1 hq.2.2.2.2)
    ⟨(show A.units + 1 + 1 < cLine from hu), X, x, ht, typeIs_str _ _ _, hq⟩
end
set_option maxRecDepth 100000 in
set_option maxHeartbeats 8000000 in
theorem own73 (w : World) : findIn (Mine.wn_hd.heap_39 w.params) (.ref 73) "__str__" = some (some (.builtin "BaseException.__str__")) ∧ subIn (Mine.wn_hd.heap_39 w.params) (.ref 73) (.type "BaseException") = some true := by
  constructor <;> k_is
end Mine
end PartC
section PartC2
open PySem PySem.W PyProof.Rows PySem.Calls PySem.Spec
namespace Mine

section
variable {prog : Program} {w : World} {A : Around} {E : Value → Shared → Prop} {s' : Shared} {h₀ h base : Heap} {L a e t C : Addr} {m : Str → Option Value} {name : Str} {scope : Scope} {cd : Value} {cells : List (Str × Addr)}
  {vs : List Value} {n : Str} {b₀ : Stmt} {suite : List Stmt} {pos np : Pos} {rest : List ExceptHandler} {Q : Flow → Shared → Prop} {news : List (Addr × Obj)} {KF : Frag} {bmB : List Value} {newId : String}
  {p : Program} {loose : List Str} {mean : ExcName → Option Value} {mg mb : Str → Option Value} {x : Str}
theorem caught_own (hA : A.frames = some [envX name scope L a cd cells]) (F : Fr h₀ L h m) (hsm : h.UpToSlots s'.heap) (R : RaisedK base [envX name scope L a cd cells] e (.ref C) t vs [] s'.heap)
    (hb0 : h₀.StaysIn base) (N : ∀ q ∈ news, base.get? q.1 = some q.2 ∧ q.1 ≠ L ∧ h₀.get? q.1 = none)
    (X : KF.In h₀) (T : TopRead p loose mg mb h₀) (ex : nsIn KF mainGlobals x = some (some (.ref C))) (q : excIn KF C bmB newId = true) (hbase : bmB.contains (.type "BaseException") = true)
    (k : ∀ h' tk oe ot, Fr h₀ L h' (fun y => if y = n then some (.ref e) else m y) → News h₀ L h' ((e, oe) :: (t, ot) :: news) → (oe.cls = .ref C ∧ ∃ ws, oe.data = .fields ws ∧ ws[0]? = some (.ref t)) → (ot.cls = .type "tuple" ∧ ∃ c, ot.data = .seq vs.toArray c) →
      wpAny (model prog w) (A.mark (some (.ref e))) (execs (b₀ :: suite) (envX name scope L a cd cells))
        (fun f s₄ => wpAny (model prog w) A (do bindName (envX name scope L a cd cells) n .none; unbindBehindTheSuite (envX name scope L a cd cells) n pos) (fun _ s₅ => Q f s₅) E s₄) NoE { s' with heap := h', toks := tk })
    (hk : scope.kind = .function := by rfl) (hlo : (envX name scope L a cd cells).kindOf n = some .local := by rfl) (hx : (envX name scope L a cd cells).kindOf x = some .globalImplicit := by rfl) (hd : (x == ("__debug__" : Str)) = false := by decide) :
    wpAny (model prog w) A (noteFrame (.ref e) (envX name scope L a cd cells))
      (fun _ s₂ => wpAny (model prog w) A (setFlight (.ref e) none) (fun _ s₃ =>
        wpAny (model prog w) A (handleBy (.ref e) (envX name scope L a cd cells) (.ExceptHandler (some (.Name x np)) (some n) (b₀ :: suite) pos :: rest)) Q E s₃) E s₂) E s' := by
  obtain ⟨⟨B, hB, _, hfl, hnew⟩, htup⟩ := R
  have hB0 : h₀.StaysIn B := fun b o z => hB b o (hb0 b o z)
  refine wpAny_looks_onW hA rfl hfl fun h₄ hheld₄ hsm₄ => ?_
  refine wpAny_landsW hheld₄ fun h₅ hheld hsm₅' => ?_
  have hsm₅ := hsm₄.trans hsm₅'
  have hheld' := flyingW_base hB0 hheld
  have F₅ := F.of_stays hheld'.1 (hsm.trans hsm₅)
  obtain ⟨ob, hob, hobc⟩ := hheld'.there
  refine wpAny_handleBy_cons (codeAny_handlers_test (nameX_K F₅ X T ex ?_ hk hx hd)) (by intro z; cases z)
  obtain ⟨bm, N', nm, qn, bs, hdct, sn, sub, ab, col, dd, k0, k1, k2, k3, k5, mN, hC, hN, hni, TL⟩ := ((own_of_in X T ex q).keeps F₅.keep).obj
  refine wpAny_excMatches_sub_self hC hob hobc (TL.hasType hbase) (codeAny_handlers_suite_as ?_)
  refine lands_againW hheld fun h₆ hfl₆ hsm₆ => ?_
  have hfl₆' := flyingW_base hB0 hfl₆
  have F₆ := F.of_stays hfl₆'.1 ((hsm.trans hsm₅).trans hsm₆)
  obtain ⟨oe, ws, hoe, hoec, hoed, hoe0⟩ := hfl₆'.first
  obtain ⟨ot, nt, hot, hotc, hotd⟩ := (htup.of_slots hsm₅).of_slots hsm₆
  have N₆ := News.more F₆ (News.more F₆ News.nil hot (fun es n z => by rw [hotd] at z; cases z) (fresh_of_stays hB0 hnew)) hoe (fun es n z => by rw [hoed] at z; cases z) hfl₆'.2.1
  have Nl : News h₀ L h₆ ((e, oe) :: (t, ot) :: news) := fun z hz => by
    rcases List.mem_cons.mp hz with rfl | hz
    · exact N₆ _ (.head _)
    · rcases List.mem_cons.mp hz with rfl | hz
      · exact N₆ _ (.tail _ (.head _))
      · exact ⟨hfl₆.1 _ _ (hB _ _ (N z hz).1), (N z hz).2.1, (N z hz).2.2⟩
  refine storeX_L F₆ Nl (fun h₇ F₇ N₇ => ?_) hk hlo
  exact wpAny_mono (k h₇ _ oe ot F₇ N₇ ⟨hoec, ws, hoed, hoe0⟩ ⟨hotc, nt, hotd⟩) (fun _ _ z => z) fun _ _ z => z.elim
end
end Mine
end PartC2
section PartT
open PySem PySem.W PyProof.Rows PySem.Calls PySem.Spec
namespace Mine

local macro_rules | `(tactic| walk_at "WN upd_same") => `(tactic| (intro p hp; repeat' (first | (cases hp; done) | (rcases List.mem_cons.mp hp with he | hp; · subst he; rfl))))
local macro_rules | `(tactic| walk_at "WN upd_rest") => `(tactic| (intro z hz; simp only [List.forall_mem_cons] at hz; (try dsimp only); simp only [Mine.upd, Mine.updO, hz, if_false, reduceIte]))
local macro_rules | `(tactic| walk_at "WN upd_restO") => `(tactic| (intro z hx hz; simp only [List.forall_mem_cons] at hz; (try dsimp only); simp only [Mine.upd, Mine.updO, hx, hz, if_false, reduceIte]))
local macro_rules | `(tactic| walk_at "WN upd_off") => `(tactic| (intro p hp; repeat' (first | (cases hp; done) | (rcases List.mem_cons.mp hp with he | hp; · (subst he; (try dsimp only); decide)))))
local macro_rules | `(tactic| walk_at "exec While Compare cons nil") => `(tactic| refine Mine.stop ?_)
local macro_rules | `(tactic| walk_at "exec For Name Call cons nil") => `(tactic| k_dflt (refine Mine.for_ok ?_))
local macro_rules | `(tactic| walk_at "pyIter ref") => `(tactic| refine Mine.stop ?_)
local macro_rules | `(tactic| walk_at "call builtin:list.append") => `(tactic| (k_here; (with_unfolding_all (show wpAny _ _ (PySem.call (Value.builtin _) [Value.ref _, _]) _ _ _)); k_dflt (refine' append_K ?k1 ?k2 ?k3 ?_ ?z; (case k1 => k_asm); (case k2 => k_asm); (case k3 => k_upd); (case z => size_fits); k_whole); intro h' F' N'; (try k_sweep)))

local macro_rules | `(tactic| walk_at "call ref") => `(tactic| refine Mine.stop ?_)
def forBody : Stmt → List Stmt
  | .For _ _ b _ _ => b
  | _ => []
def updU : List Str → (Str → Option Value) → (Str → Option Value) → Str → Option Value
  | [], _, m => m
  | x :: r, u, m => fun z => if z = x then u x else updU r u m z
theorem updU_eq {m' m : Str → Option Value} {z : Str} : ∀ {ns : List Str}, ((∀ x ∈ ns, z ≠ x) → m' z = m z) → m' z = updU ns m' m z
  | [], h => h fun _ hx => nomatch hx
  | x :: r, h => by
    show m' z = if z = x then m' x else updU r m' m z
    by_cases e : z = x
    · rw [if_pos e, e]
    · rw [if_neg e]
      exact updU_eq fun hr => h fun y hy => by
        rcases List.mem_cons.mp hy with rfl | hy
        · exact e
        · exact hr y hy
theorem fr_updU {b h : Heap} {L : Addr} {m' m : Str → Option Value} (ns : List Str) (F : Fr b L h m') (h2 : ∀ z, (∀ x ∈ ns, z ≠ x) → m' z = m z) : Fr b L h (updU ns m' m) := by
  have e : m' = updU ns m' m := funext fun z => updU_eq (h2 z)
  exact e ▸ F
abbrev turnNames : List Str := [Str.ofString "k", Str.ofString "number", Str.ofString "x", Str.ofString "second", Str.ofString "third", Str.ofString "mark", Str.ofString "reply", Str.ofString "answer", Str.ofString "refusal", Str.ofString "host", Str.ofString "place"]
abbrev lawMap (TL PT SZ D SL : Addr) (f ring step front : Int) (tf tr ts tfr : Tok) (m : Str → Option Value) : Str → Option Value :=
  upd [(Str.ofString "told", .ref TL), (Str.ofString "peer", .ref PT), (Str.ofString "sizes", .ref SZ), (Str.ofString "front", .int front tfr), (Str.ofString "step", .int step ts), (Str.ofString "ring", .int ring tr), (Str.ofString "first", .int f tf), (Str.ofString "drawn", .ref D), (Str.ofString "script", .ref SL)] m
def SizeOk (z : Int) : Prop := z = 1 ∨ z = 2 ∨ z = 3 ∨ z = 0 ∨ z = 127
def MarkC (mk : Str) : Prop := ∃ c, mk = ⟨#[c]⟩ ∧ c ∈ [44, 46, 32, 39, 124, 95, 45, 10]
theorem sizeOk_of (x : Int) : SizeOk ([1, 2, 3, 0, 127].getD (x.fmod 5).toNat 0) := by
  have h0 : x.fmod 5 = x % 5 := Int.fmod_eq_emod_of_nonneg _ (by decide)
  obtain ⟨j, hj⟩ : ∃ j, j = (x.fmod 5).toNat := ⟨_, rfl⟩
  have : j = 0 ∨ j = 1 ∨ j = 2 ∨ j = 3 ∨ j = 4 := by omega
  rw [← hj]
  unfold SizeOk
  rcases this with rfl | rfl | rfl | rfl | rfl <;> simp
theorem markC_of (x : Int) : MarkC (Txt.item (Str.ofString ",. '|_-\n") (x.fmod 8)) := by
  have h0 : x.fmod 8 = x % 8 := Int.fmod_eq_emod_of_nonneg _ (by decide)
  obtain ⟨j, hj⟩ : ∃ j, j = x.fmod 8 := ⟨_, rfl⟩
  have : j = 0 ∨ j = 1 ∨ j = 2 ∨ j = 3 ∨ j = 4 ∨ j = 5 ∨ j = 6 ∨ j = 7 := by omega
  rw [← hj]
  unfold MarkC
  rcases this with rfl | rfl | rfl | rfl | rfl | rfl | rfl | rfl
  · exact ⟨44, by decide +kernel, by simp⟩
  · exact ⟨46, by decide +kernel, by simp⟩
  · exact ⟨32, by decide +kernel, by simp⟩
  · exact ⟨39, by decide +kernel, by simp⟩
  · exact ⟨124, by decide +kernel, by simp⟩
  · exact ⟨95, by decide +kernel, by simp⟩
  · exact ⟨45, by decide +kernel, by simp⟩
  · exact ⟨10, by decide +kernel, by simp⟩
def PA (h₀ : Heap) (L : Addr) (m : Str → Option Value) (nw : List (Addr × Obj)) (s : Shared) (num : Int) (fl : Flow) (s' : Shared) : Prop :=
  fl = .next ∧ ∃ (sec thi x k : Int) (mk : Str) (q1 q2 q3 q4 q5 q6 : Tok) (h' : Heap) (tk' : Nat), s' = { s with heap := h', toks := tk' } ∧ SizeOk sec ∧ SizeOk thi ∧ MarkC mk ∧
    Fr h₀ L h' (upd [(Str.ofString "mark", .str mk q1), (Str.ofString "second", .int sec q3), (Str.ofString "third", .int thi q2), (Str.ofString "x", .int x q4), (Str.ofString "number", .int num q5), (Str.ofString "k", .int k q6)] m) ∧
    News h₀ L h' nw
set_option maxRecDepth 100000 in
set_option maxHeartbeats 8000000 in
theorem turn_a {w : World} {name qual : Str} {params : Arguments} {body : List Stmt} {scope : Scope} {cdv : Value} (hbody : LawAt w name qual params body scope cdv)
    {mean : ExcName → Option Value} {mg mb : Str → Option Value} {dp un : Nat} {fr : Option (List Env)} {gd : Option (List Code)} {s : Shared} {h₀ : Heap} {L fa : Addr} {h : Heap} {tk : Nat}
    (KX : (Mine.wn_hd.heap_39 w.params).In h₀) (T : Top Mine.wn_hd.view_39 (looseW Mine.wn_hd.view_39 [Str.ofString "_twin_re_1", Str.ofString "_twin_re_2"]) mean mg mb h₀) (hroom : dp + 40 < recursionLimit) (hu : un + 80 < cLine)
    {SL D TL PT SZ : Addr} {c : Nat} {d0 d1 d2 d3 d4 d5 : Int} {t0 t1 t2 t3 t4 t5 : Tok} (h4 : 0 ≤ d4 ∧ d4 < 1000000) (h5 : 0 ≤ d5 ∧ d5 < 1000000) {m u : Str → Option Value}
    {f ring step front : Int} (hC : LawC f ring step front) {i : Int} (hi : 0 ≤ i ∧ i < 10) {ti tf tr ts tfr t6 t7 u1 u2 u3 u4 u5 : Tok} {tv : List Value} {tc : Nat}
    (F : Fr h₀ L h (updU turnNames u (lawMap TL PT SZ D SL f ring step front tf tr ts tfr m))) {nw : List (Addr × Obj)}
    (N : News h₀ L h ((TL, listOf (List.toArray tv) tc) :: (PT, { cls := .type "tuple", data := .seq #[.str (Str.ofString "host") t6, .int step t7] }) :: (SZ, listOf #[.int 1 u1, .int 2 u2, .int 3 u3, .int 0 u4, .int 127 u5] 0) ::
      (D, listOf #[.int d0 t0, .int d1 t1, .int d2 t2, .int d3 t3, .int d4 t4, .int d5 t5] c) :: nw)):
    wpAny (model PySem.Challenge.rw_wn0012_01.row.prog w) ⟨none, dp, fr, gd, un⟩ (storeName (envOfC name scope L fa cdv) (Str.ofString "k") (.int i ti)) (fun _ s₂ => wpAny (model PySem.Challenge.rw_wn0012_01.row.prog w) ⟨none, dp, fr, gd, un⟩ (execs ((forBody (body.getD 9 (.Pass default))).take 4) (envOfC name scope L fa cdv))
      (PA h₀ L (updU turnNames u (lawMap TL PT SZ D SL f ring step front tf tr ts tfr m)) ((TL, listOf (List.toArray tv) tc) :: (PT, { cls := .type "tuple", data := .seq #[.str (Str.ofString "host") t6, .int step t7] }) :: (SZ, listOf #[.int 1 u1, .int 2 u2, .int 3 u3, .int 0 u4, .int 127 u5] 0) ::
      (D, listOf #[.int d0 t0, .int d1 t1, .int d2 t2, .int d3 t3, .int d4 t4, .int d5 t5] c) :: nw) s (front + i * step)) NoE s₂) NoE { s with heap := h, toks := tk } := by
  w_on
  obtain ⟨_, _, _, _, _, _, _, _, _, _, hb⟩ := hbody
  obtain ⟨rfl, rfl, rfl, rfl⟩ := law_open hb (by k_is)
  clear hb
  dsimp only [List.take, List.drop, List.getD, List.getElem?_cons_succ, List.getElem?_cons_zero, Option.getD, forBody]
  have hCC := hC
  obtain ⟨hc1, hc2, hc3, hc4, hc5, hc6⟩ := hC
  have hr : ring = 10 ∨ ring = 100 := by omega
  have hf : 1 ≤ f ∧ f ≤ 2 := by omega
  k_steps
  (rename Fr _ _ _ _ => F9); (rename News _ _ _ _ => N9)
  dsimp only at F9 N9
  exact ⟨rfl, _, _, _, _, _, _, _, _, _, _, _, _, _, rfl, sizeOk_of _, sizeOk_of _, markC_of _, F9, fun p hp => N9 p (.tail _ hp)⟩
end Mine
end PartT
section PartY
open PySem PySem.StrLaws PySem.Builtin.Str
namespace Mine
theorem cut_inj {c : Nat} : ∀ {l1 l2 r1 r2 : List Nat}, c ∉ l1 → c ∉ l2 → l1 ++ c :: r1 = l2 ++ c :: r2 → l1 = l2 ∧ r1 = r2
  | [], [], r1, r2, _, _, e => ⟨rfl, by simpa using e⟩
  | [], b :: l2, r1, r2, _, h2, e => by
    simp only [List.nil_append, List.cons_append, List.cons.injEq] at e
    exact absurd (e.1 ▸ .head _) h2
  | a :: l1, [], r1, r2, h1, _, e => by
    simp only [List.nil_append, List.cons_append, List.cons.injEq] at e
    exact absurd (e.1 ▸ .head _) h1
  | a :: l1, b :: l2, r1, r2, h1, h2, e => by
    simp only [List.cons_append, List.cons.injEq] at e
    obtain ⟨rfl, e⟩ := e
    obtain ⟨rfl, rfl⟩ := cut_inj (fun h => h1 (.tail _ h)) (fun h => h2 (.tail _ h)) e
    exact ⟨rfl, rfl⟩
theorem str_ext {x y : Str} (h : x.cps.toList = y.cps.toList) : x = y := Str.ext' (Array.toList_inj.mp h)
theorem app_list (x y : Str) : (x ++ y).cps.toList = x.cps.toList ++ y.cps.toList := by simp only [Str.cps_append, Array.toList_append]
theorem join_cons2 (m x y : Str) (r : List Str) : (Str.join m (x :: y :: r)).cps.toList = x.cps.toList ++ m.cps.toList ++ (Str.join m (y :: r)).cps.toList := by
  show (x ++ m ++ Str.join m (y :: r)).cps.toList = _
  rw [app_list, app_list]
theorem join_inj (c : Nat) : ∀ (A B : List Str), A ≠ [] → B ≠ [] → (∀ p ∈ A, c ∉ p.cps.toList) → (∀ p ∈ B, c ∉ p.cps.toList) → Str.join ⟨#[c]⟩ A = Str.join ⟨#[c]⟩ B → A = B
  | [], _, h, _, _, _, _ => absurd rfl h
  | _, [], _, h, _, _, _ => absurd rfl h
  | [x], [y], _, _, _, _, e => by rw [show x = y from e]
  | [x], y :: y2 :: r, _, _, h1, _, e => by
    have e' := congrArg (fun z : Str => z.cps.toList) e
    (try dsimp only at e')
    rw [join_cons2] at e'
    exact absurd (show c ∈ (Str.join ⟨#[c]⟩ [x]).cps.toList by rw [e']; simp) (h1 x (.head _))
  | x :: x2 :: r, [y], _, _, _, h2, e => by
    have e' := congrArg (fun z : Str => z.cps.toList) e
    (try dsimp only at e')
    rw [join_cons2] at e'
    exact absurd (show c ∈ (Str.join ⟨#[c]⟩ [y]).cps.toList by rw [← e']; simp) (h2 y (.head _))
  | x :: x2 :: r, y :: y2 :: r', _, _, h1, h2, e => by
    have e' := congrArg (fun z : Str => z.cps.toList) e
    (try dsimp only at e')
    rw [join_cons2, join_cons2, List.append_assoc, List.append_assoc] at e'
    obtain ⟨e1, e2⟩ := cut_inj (c := c) (h1 x (.head _)) (h2 y (.head _)) (by simpa using e')
    have := join_inj c (x2 :: r) (y2 :: r') (by simp) (by simp) (fun p hp => h1 p (.tail _ hp)) (fun p hp => h2 p (.tail _ hp)) (str_ext e2)
    rw [str_ext e1, this]
theorem join_mem (m : Str) : ∀ (A : List Str) (d : Nat), d ∈ (Str.join m A).cps.toList → d ∈ m.cps.toList ∨ ∃ p ∈ A, d ∈ p.cps.toList
  | [], d, h => by simp [Str.join, Str.empty] at h
  | [x], d, h => .inr ⟨x, .head _, h⟩
  | x :: y :: r, d, h => by
    rw [join_cons2] at h
    rcases List.mem_append.mp h with h | h
    · rcases List.mem_append.mp h with h | h
      · exact .inr ⟨x, .head _, h⟩
      · exact .inl h
    · rcases join_mem m (y :: r) d h with h | ⟨p, hp, h⟩
      · exact .inl h
      · exact .inr ⟨p, .tail _ hp, h⟩
theorem join_snoc (m : Str) : ∀ (A : List Str) (z : Str), A ≠ [] → (Str.join m (A ++ [z])).cps.toList = (Str.join m A).cps.toList ++ m.cps.toList ++ z.cps.toList
  | [], _, h => absurd rfl h
  | [x], z, _ => by
    show (Str.join m (x :: z :: [])).cps.toList = _
    rw [join_cons2]; rfl
  | x :: y :: r, z, _ => by
    show (Str.join m (x :: y :: (r ++ [z]))).cps.toList = _
    rw [join_cons2, join_cons2]
    have := join_snoc m (y :: r) z (by simp)
    rw [show (y :: (r ++ [z])) = (y :: r) ++ [z] from rfl, this]
    simp only [List.append_assoc]
def replyText (mk : Str) (gs : List Str) : Str := Str.ofString "229 (" ++ mk ++ Txt.join mk gs ++ mk ++ Str.ofString ")"
structure ReplyFacts (resp mk : Str) (gs : List Str) : Prop where
  len : resp.length ≤ 1000
  len8 : 8 ≤ resp.length
  h3 : Txt.slice resp none (some 3) = Str.ofString "229"
  hf1 : Txt.find resp (Str.ofString "(") = 4
  hf2 : Txt.find3 resp (Str.ofString ")") (Txt.find resp (Str.ofString "(") + 1) = (resp.length : Int) - 1
  hmk : Txt.item resp (Txt.find resp (Str.ofString "(") + 1) = Txt.item resp (Txt.find3 resp (Str.ofString ")") (Txt.find resp (Str.ofString "(") + 1) - 1)
  hsp : Txt.split (Txt.slice resp (some (Txt.find resp (Str.ofString "(") + 1)) (some (Txt.find3 resp (Str.ofString ")") (Txt.find resp (Str.ofString "(") + 1)))) (Txt.item resp (Txt.find resp (Str.ofString "(") + 1)) = Str.empty :: (gs ++ [Str.empty])
theorem par_open : Str.ofString "(" = ⟨#[40]⟩ := by decide +kernel
theorem par_close : Str.ofString ")" = ⟨#[41]⟩ := by decide +kernel
theorem head_list : (Str.ofString "229 (").cps.toList = [50, 50, 57, 32, 40] := by decide +kernel
theorem s229 : Str.ofString "229" = ⟨#[50, 50, 57]⟩ := by decide +kernel
theorem find_is (x : Str) (c : Nat) (k : Nat) (h : x.cps.toList[k]? = some c) (hn : ∀ v, v < k → x.cps.toList[v]? ≠ some c) : Txt.find x ⟨#[c]⟩ = (k : Int) := by
  have hk : k < x.length := by rw [len_list]; exact (List.getElem?_eq_some_iff.mp h).1
  have h3 := find3_spec x c 0
  have e : Txt.find3 x ⟨#[c]⟩ 0 = Txt.find x ⟨#[c]⟩ := by unfold Txt.find3 Txt.find; rfl
  have e0 : fromIndex x.length 0 = 0 := by simp [fromIndex]
  rw [e, e0] at h3
  rcases h3 with ⟨_, h3⟩ | ⟨j, h3, _, hj, hc, hv⟩
  · exact absurd (getD_of_getElem? h) (h3 k (Nat.zero_le _) hk)
  · rw [h3]
    rcases Nat.lt_trichotomy j k with q | q | q
    · exact absurd (getElem?_of_getD hj hc) (hn j q)
    · rw [q]
    · exact absurd (getD_of_getElem? h) (hv k (Nat.zero_le _) q)
theorem find3_is (x : Str) (c : Nat) (i k : Nat) (hik : i ≤ k) (h : x.cps.toList[k]? = some c) (hn : ∀ v, i ≤ v → v < k → x.cps.toList[v]? ≠ some c) : Txt.find3 x ⟨#[c]⟩ (i : Int) = (k : Int) := by
  have hk : k < x.length := by rw [len_list]; exact (List.getElem?_eq_some_iff.mp h).1
  have h3 := find3_spec x c (i : Int)
  have e0 : fromIndex x.length (i : Int) = i := by unfold fromIndex; split <;> omega
  rw [e0] at h3
  rcases h3 with ⟨_, h3⟩ | ⟨j, h3, hij, hj, hc, hv⟩
  · exact absurd (getD_of_getElem? h) (h3 k hik hk)
  · rw [h3]
    rcases Nat.lt_trichotomy j k with q | q | q
    · exact absurd (getElem?_of_getD hj hc) (hn j hij q)
    · rw [q]
    · exact absurd (getD_of_getElem? h) (hv k hik q)
theorem item_is (x : Str) (c k : Nat) (h : x.cps.toList[k]? = some c) : Txt.item x (k : Int) = ⟨#[c]⟩ := by
  have hk : k < x.length := by rw [len_list]; exact (List.getElem?_eq_some_iff.mp h).1
  unfold Txt.item Txt.charAt seqIndex?
  have e1 : ¬ ((k : Int) < 0) := by omega
  simp only [e1, if_false]
  have e2 : (decide ((0 : Int) ≤ (k : Int)) && decide ((k : Int) < (x.length : Int))) = true := by simp; omega
  rw [if_pos e2]
  simp only [Int.toNat_natCast, Option.bind_some]
  have : x.cps[k]? = some c := by rw [← h]; simp
  rw [this]; rfl
theorem reply_facts {c : Nat} (h40 : c ≠ 40) (h41 : c ≠ 41) (hcd : ¬ (48 ≤ c ∧ c ≤ 57)) {gs : List Str} (hg : ∀ y ∈ gs, ∀ d ∈ y.cps.toList, 48 ≤ d ∧ d ≤ 57) (hne : gs ≠ []) (hJ : (Txt.join ⟨#[c]⟩ gs).length ≤ 900) :
    ReplyFacts (replyText ⟨#[c]⟩ gs) ⟨#[c]⟩ gs := by
  obtain ⟨J, hJe⟩ : ∃ J, J = (Txt.join ⟨#[c]⟩ gs).cps.toList := ⟨_, rfl⟩
  have hjoin : Txt.join ⟨#[c]⟩ gs = Str.join ⟨#[c]⟩ gs := glued_eq_join _ _
  have hJl : J.length ≤ 900 := by rw [hJe, ← len_list]; exact hJ
  have hJm : ∀ d ∈ J, d = c ∨ (48 ≤ d ∧ d ≤ 57) := fun d hd => by
    rw [hJe, hjoin] at hd
    rcases join_mem _ _ _ hd with h | ⟨p, hp, h⟩
    · left; simpa using h
    · right; exact hg p hp d h
  have hcps : (replyText ⟨#[c]⟩ gs).cps.toList = [50, 50, 57, 32, 40] ++ ([c] ++ J ++ [c, 41]) := by
    unfold replyText
    simp only [app_list, head_list, par_close, ← hJe]
    simp only [List.append_assoc, List.cons_append, List.nil_append]
  generalize replyText ⟨#[c]⟩ gs = resp at hcps
  have hlen : resp.length = 8 + J.length := by rw [len_list, hcps]; simp; omega
  have g4 : resp.cps.toList[4]? = some 40 := by rw [hcps]; rfl
  have g5 : resp.cps.toList[5]? = some c := by rw [hcps]; rfl
  have gL : resp.cps.toList[6 + J.length]? = some c := by
    rw [hcps, List.getElem?_append_right (by simp; omega)]
    simp only [List.length_cons, List.length_nil]
    rw [List.getElem?_append_right (by simp; omega)]
    simp only [List.length_append, List.length_cons, List.length_nil]
    rw [show 6 + J.length - (0 + 1 + 1 + 1 + 1 + 1) - (0 + 1 + J.length) = 0 by omega]; rfl
  have gM : resp.cps.toList[7 + J.length]? = some 41 := by
    rw [hcps, List.getElem?_append_right (by simp; omega)]
    simp only [List.length_cons, List.length_nil]
    rw [List.getElem?_append_right (by simp; omega)]
    simp only [List.length_append, List.length_cons, List.length_nil]
    rw [show 7 + J.length - (0 + 1 + 1 + 1 + 1 + 1) - (0 + 1 + J.length) = 1 by omega]; rfl
  have f1 : Txt.find resp (Str.ofString "(") = 4 := by
    rw [par_open]
    refine find_is resp 40 4 g4 fun v hv => ?_
    rw [hcps]
    match v, hv with
    | 0, _ => simp
    | 1, _ => simp
    | 2, _ => simp
    | 3, _ => simp
  have f2 : Txt.find3 resp (Str.ofString ")") (Txt.find resp (Str.ofString "(") + 1) = ((7 + J.length : Nat) : Int) := by
    rw [f1, par_close]
    refine find3_is resp 41 5 (7 + J.length) (by omega) gM fun v h5 hv he => ?_
    rw [hcps, List.getElem?_append_right (by simpa using h5)] at he
    simp only [List.length_cons, List.length_nil] at he
    have hm : 41 ∈ [c] ++ J ++ [c] := by
      have e : [c] ++ J ++ [c, 41] = ([c] ++ J ++ [c]) ++ [41] := by simp
      rw [e, List.getElem?_append_left (by simp; omega)] at he
      exact List.mem_of_getElem? he
    simp only [List.mem_append, List.mem_singleton] at hm
    rcases hm with (h | h) | h
    · exact h41 h.symm
    · rcases hJm 41 h with h | h
      · exact h41 h.symm
      · omega
    · exact h41 h.symm
  have i5 : Txt.item resp (Txt.find resp (Str.ofString "(") + 1) = ⟨#[c]⟩ := by rw [f1]; exact item_is resp c 5 g5
  refine ⟨by omega, by omega, ?_, f1, by rw [f2, hlen]; omega, ?_, ?_⟩
  · rw [s229]
    show sliceText resp none (some 3) = _
    rw [sliceText_to ⟨by decide, by rw [← len_list]; omega⟩, hcps]
    rfl
  · rw [i5, f2]
    rw [show ((7 + J.length : Nat) : Int) - 1 = ((6 + J.length : Nat) : Int) by omega]
    exact (item_is resp c _ gL).symm
  · rw [i5, f2, f1]
    have es : Txt.slice resp (some (4 + 1)) (some ((7 + J.length : Nat) : Int)) = Str.join ⟨#[c]⟩ (Str.empty :: (gs ++ [Str.empty])) := by
      show sliceText resp (some ((5 : Nat) : Int)) (some ((7 + J.length : Nat) : Int)) = _
      rw [sliceText_nat resp (by omega) (by omega), hcps]
      apply str_ext
      obtain ⟨g, r, rfl⟩ : ∃ g r, gs = g :: r := by cases gs with | nil => exact absurd rfl hne | cons g r => exact ⟨g, r, rfl⟩
      show _ = (Str.join ⟨#[c]⟩ (Str.empty :: g :: (r ++ [Str.empty]))).cps.toList
      rw [join_cons2, show g :: (r ++ [Str.empty]) = (g :: r) ++ [Str.empty] from rfl, join_snoc _ _ _ (by simp), ← hjoin, ← hJe]
      simp only [List.drop_append, List.length_cons, List.length_nil, List.drop_nil, List.drop_succ_cons, Str.empty]
      simp
      rw [show c :: (J ++ [c, 41]) = (c :: (J ++ [c])) ++ [41] by simp]
      exact List.take_left' (by simp; omega)
    rw [es]
    refine join_inj c _ _ ?_ (by simp) (split_free _ c) ?_ (join_split _ _)
    · intro h
      have := join_split (Str.join ⟨#[c]⟩ (Str.empty :: (gs ++ [Str.empty]))) ⟨#[c]⟩
      rw [h] at this
      obtain ⟨g, r, rfl⟩ : ∃ g r, gs = g :: r := by cases gs with | nil => exact absurd rfl hne | cons g r => exact ⟨g, r, rfl⟩
      have e := congrArg (fun z : Str => z.cps.toList) this
      (try dsimp only at e)
      rw [show (Str.empty :: (g :: r ++ [Str.empty])) = Str.empty :: g :: (r ++ [Str.empty]) from rfl, join_cons2] at e
      simp [Str.join, Str.empty] at e
    · intro p hp hm
      rcases List.mem_cons.mp hp with rfl | hp
      · simp [Str.empty] at hm
      · rcases List.mem_append.mp hp with hp | hp
        · exact hcd (hg p hp c hm)
        · rw [List.mem_singleton.mp hp] at hm
          simp [Str.empty] at hm
end Mine
end PartY
section PartM
open PySem PySem.W PyProof.Rows PySem.Calls PySem.Spec
namespace Mine
def ofL (l : List Int) : Nat → Int := fun m => l.getD m 0
structure GroupsOk (f : Int) (figs : List Nat) (G : List (List Nat)) : Prop where
  flat : G.flatten = figs
  ne : G.all (fun y => !y.isEmpty) = true
  last : G.length = 3 → G[2]? = some (figs.drop (6 - f.toNat))
  len : G.length ≤ 6
def Told (f : Int) (xs : List Int) (three : Prop) : Prop := ∃ (val : Nat → Int) (fin : Bool) (n : Nat), Emits val fin xs none n ∧ (∀ m, m < n → 1 ≤ val m ∧ val m ≤ 3) ∧ (fin = false → 8 ≤ n) ∧
  ∀ a b c d e g : Nat, GroupsOk f [a, b, c, d, e, g] (repGo val n [a, b, c, d, e, g] []) ∧ ((repGo val n [a, b, c, d, e, g] []).length = 3 ↔ three)
theorem told_of {f : Int} {xs : List Int} {three : Prop} (val : Nat → Int) (fin : Bool) (n : Nat) (G : Nat → Nat → Nat → Nat → Nat → Nat → List (List Nat)) (k : Nat) (h1 : Emits val fin xs none n) (h2 : (List.range n).all (fun m => decide (1 ≤ val m ∧ val m ≤ 3)) = true) (h3 : fin = false → 8 ≤ n)
    (h4 : ∀ a b c d e g, repGo val n [a, b, c, d, e, g] [] = G a b c d e g) (h5 : ∀ a b c d e g, GroupsOk f [a, b, c, d, e, g] (G a b c d e g)) (h6 : ∀ a b c d e g, (G a b c d e g).length = k) (h7 : k = 3 ↔ three) : Told f xs three :=
  ⟨val, fin, n, h1, fun m hm => by have := List.all_eq_true.mp h2 m (List.mem_range.mpr hm); exact of_decide_eq_true this, h3, fun a b c d e g => by rw [h4]; exact ⟨h5 _ _ _ _ _ _, by rw [h6]; exact h7⟩⟩

theorem told_1_1_1 : Told 1 [1, 1, 1] (partsZ 1 1 1 = 3) := by
  refine told_of (ofL [1, 1, 1]) true 3 (fun a b c d e g => [[a], [b], [c], [d], [e], [g]]) 6 ?_ (by decide) (by decide) (fun _ _ _ _ _ _ => rfl) (fun _ _ _ _ _ _ => ⟨rfl, rfl, ?_, by show 6 ≤ 6; decide⟩) (fun _ _ _ _ _ _ => rfl) (by decide)
  · exact ⟨fun h => absurd h (by decide), fun h => absurd h (by decide), fun _ _ => ⟨2, rfl, rfl, fun _ => ⟨fun h => absurd h (by decide), fun h => absurd h (by decide), fun _ _ => ⟨1, rfl, rfl, fun _ => ⟨fun h => absurd h (by decide), fun h => absurd h (by decide), fun _ _ => ⟨0, rfl, rfl, fun _ => ⟨rfl, rfl⟩⟩⟩⟩⟩⟩⟩
  · intro h; exact absurd (show (6 : Nat) = 3 from h) (by decide)
theorem told_1_1_2 : Told 1 [1, 1, 2] (partsZ 1 1 2 = 3) := by
  refine told_of (ofL [2, 1, 1]) true 3 (fun a b c d e g => [[a], [b], [c, d], [e], [g]]) 5 ?_ (by decide) (by decide) (fun _ _ _ _ _ _ => rfl) (fun _ _ _ _ _ _ => ⟨rfl, rfl, ?_, by show 5 ≤ 6; decide⟩) (fun _ _ _ _ _ _ => rfl) (by decide)
  · exact ⟨fun h => absurd h (by decide), fun h => absurd h (by decide), fun _ _ => ⟨2, rfl, rfl, fun _ => ⟨fun h => absurd h (by decide), fun h => absurd h (by decide), fun _ _ => ⟨1, rfl, rfl, fun _ => ⟨fun h => absurd h (by decide), fun h => absurd h (by decide), fun _ _ => ⟨0, rfl, rfl, fun _ => ⟨rfl, rfl⟩⟩⟩⟩⟩⟩⟩
  · intro h; exact absurd (show (5 : Nat) = 3 from h) (by decide)
theorem told_1_1_3 : Told 1 [1, 1, 3] (partsZ 1 1 3 = 3) := by
  refine told_of (ofL [3, 1, 1]) true 3 (fun a b c d e g => [[a], [b, c, d], [e], [g]]) 4 ?_ (by decide) (by decide) (fun _ _ _ _ _ _ => rfl) (fun _ _ _ _ _ _ => ⟨rfl, rfl, ?_, by show 4 ≤ 6; decide⟩) (fun _ _ _ _ _ _ => rfl) (by decide)
  · exact ⟨fun h => absurd h (by decide), fun h => absurd h (by decide), fun _ _ => ⟨2, rfl, rfl, fun _ => ⟨fun h => absurd h (by decide), fun h => absurd h (by decide), fun _ _ => ⟨1, rfl, rfl, fun _ => ⟨fun h => absurd h (by decide), fun h => absurd h (by decide), fun _ _ => ⟨0, rfl, rfl, fun _ => ⟨rfl, rfl⟩⟩⟩⟩⟩⟩⟩
  · intro h; exact absurd (show (4 : Nat) = 3 from h) (by decide)
theorem told_1_1_0 : Told 1 [1, 1, 0] (partsZ 1 1 0 = 3) := by
  refine told_of (ofL [1, 1, 1, 1, 1, 1, 1, 1, 1]) false 9 (fun a b c d e g => [[a], [b], [c], [d], [e], [g]]) 6 ?_ (by decide) (by decide) (fun _ _ _ _ _ _ => by simp [repGo, ofL]) (fun _ _ _ _ _ _ => ⟨rfl, rfl, ?_, by show 6 ≤ 6; decide⟩) (fun _ _ _ _ _ _ => rfl) (by decide)
  · exact ⟨fun h => absurd h (by decide), fun h => absurd h (by decide), fun _ _ => ⟨8, rfl, rfl, fun _ => ⟨fun h => absurd h (by decide), fun h => absurd h (by decide), fun _ _ => ⟨7, rfl, rfl, fun _ => ⟨fun h => absurd h (by decide), fun _ => ⟨rfl, by decide, 1, rfl, by decide⟩, fun _ h => absurd rfl h⟩⟩⟩⟩⟩
  · intro h; exact absurd (show (6 : Nat) = 3 from h) (by decide)
theorem told_1_1_127 : Told 1 [1, 1, 127] (partsZ 1 1 127 = 3) := by
  refine told_of (ofL [1, 1]) true 2 (fun a b c d e g => [[a], [b], [c], [d], [e], [g]]) 6 ?_ (by decide) (by decide) (fun _ _ _ _ _ _ => rfl) (fun _ _ _ _ _ _ => ⟨rfl, rfl, ?_, by show 6 ≤ 6; decide⟩) (fun _ _ _ _ _ _ => rfl) (by decide)
  · exact ⟨fun h => absurd h (by decide), fun h => absurd h (by decide), fun _ _ => ⟨1, rfl, rfl, fun _ => ⟨fun h => absurd h (by decide), fun h => absurd h (by decide), fun _ _ => ⟨0, rfl, rfl, fun _ => ⟨fun _ => ⟨rfl, rfl⟩, fun h => absurd h (by decide), fun h => absurd rfl h⟩⟩⟩⟩⟩
  · intro h; exact absurd (show (6 : Nat) = 3 from h) (by decide)
theorem told_1_2_1 : Told 1 [1, 2, 1] (partsZ 1 2 1 = 3) := by
  refine told_of (ofL [1, 2, 1]) true 3 (fun a b c d e g => [[a], [b], [c], [d, e], [g]]) 5 ?_ (by decide) (by decide) (fun _ _ _ _ _ _ => rfl) (fun _ _ _ _ _ _ => ⟨rfl, rfl, ?_, by show 5 ≤ 6; decide⟩) (fun _ _ _ _ _ _ => rfl) (by decide)
  · exact ⟨fun h => absurd h (by decide), fun h => absurd h (by decide), fun _ _ => ⟨2, rfl, rfl, fun _ => ⟨fun h => absurd h (by decide), fun h => absurd h (by decide), fun _ _ => ⟨1, rfl, rfl, fun _ => ⟨fun h => absurd h (by decide), fun h => absurd h (by decide), fun _ _ => ⟨0, rfl, rfl, fun _ => ⟨rfl, rfl⟩⟩⟩⟩⟩⟩⟩
  · intro h; exact absurd (show (5 : Nat) = 3 from h) (by decide)
theorem told_1_2_2 : Told 1 [1, 2, 2] (partsZ 1 2 2 = 3) := by
  refine told_of (ofL [2, 2, 1]) true 3 (fun a b c d e g => [[a], [b, c], [d, e], [g]]) 4 ?_ (by decide) (by decide) (fun _ _ _ _ _ _ => rfl) (fun _ _ _ _ _ _ => ⟨rfl, rfl, ?_, by show 4 ≤ 6; decide⟩) (fun _ _ _ _ _ _ => rfl) (by decide)
  · exact ⟨fun h => absurd h (by decide), fun h => absurd h (by decide), fun _ _ => ⟨2, rfl, rfl, fun _ => ⟨fun h => absurd h (by decide), fun h => absurd h (by decide), fun _ _ => ⟨1, rfl, rfl, fun _ => ⟨fun h => absurd h (by decide), fun h => absurd h (by decide), fun _ _ => ⟨0, rfl, rfl, fun _ => ⟨rfl, rfl⟩⟩⟩⟩⟩⟩⟩
  · intro h; exact absurd (show (4 : Nat) = 3 from h) (by decide)
theorem told_1_2_3 : Told 1 [1, 2, 3] (partsZ 1 2 3 = 3) := by
  refine told_of (ofL [3, 2, 1]) true 3 (fun a b c d e g => [[a, b, c], [d, e], [g]]) 3 ?_ (by decide) (by decide) (fun _ _ _ _ _ _ => rfl) (fun _ _ _ _ _ _ => ⟨rfl, rfl, ?_, by show 3 ≤ 6; decide⟩) (fun _ _ _ _ _ _ => rfl) (by decide)
  · exact ⟨fun h => absurd h (by decide), fun h => absurd h (by decide), fun _ _ => ⟨2, rfl, rfl, fun _ => ⟨fun h => absurd h (by decide), fun h => absurd h (by decide), fun _ _ => ⟨1, rfl, rfl, fun _ => ⟨fun h => absurd h (by decide), fun h => absurd h (by decide), fun _ _ => ⟨0, rfl, rfl, fun _ => ⟨rfl, rfl⟩⟩⟩⟩⟩⟩⟩
  · intro h; rfl
theorem told_1_2_0 : Told 1 [1, 2, 0] (partsZ 1 2 0 = 3) := by
  refine told_of (ofL [2, 2, 2, 2, 2, 2, 2, 2, 1]) false 9 (fun a b c d e g => [[a], [b, c], [d, e], [g]]) 4 ?_ (by decide) (by decide) (fun _ _ _ _ _ _ => by simp [repGo, ofL]) (fun _ _ _ _ _ _ => ⟨rfl, rfl, ?_, by show 4 ≤ 6; decide⟩) (fun _ _ _ _ _ _ => rfl) (by decide)
  · exact ⟨fun h => absurd h (by decide), fun h => absurd h (by decide), fun _ _ => ⟨8, rfl, rfl, fun _ => ⟨fun h => absurd h (by decide), fun h => absurd h (by decide), fun _ _ => ⟨7, rfl, rfl, fun _ => ⟨fun h => absurd h (by decide), fun _ => ⟨rfl, by decide, 2, rfl, by decide⟩, fun _ h => absurd rfl h⟩⟩⟩⟩⟩
  · intro h; exact absurd (show (4 : Nat) = 3 from h) (by decide)
theorem told_1_2_127 : Told 1 [1, 2, 127] (partsZ 1 2 127 = 3) := by
  refine told_of (ofL [2, 1]) true 2 (fun a b c d e g => [[a], [b], [c], [d, e], [g]]) 5 ?_ (by decide) (by decide) (fun _ _ _ _ _ _ => rfl) (fun _ _ _ _ _ _ => ⟨rfl, rfl, ?_, by show 5 ≤ 6; decide⟩) (fun _ _ _ _ _ _ => rfl) (by decide)
  · exact ⟨fun h => absurd h (by decide), fun h => absurd h (by decide), fun _ _ => ⟨1, rfl, rfl, fun _ => ⟨fun h => absurd h (by decide), fun h => absurd h (by decide), fun _ _ => ⟨0, rfl, rfl, fun _ => ⟨fun _ => ⟨rfl, rfl⟩, fun h => absurd h (by decide), fun h => absurd rfl h⟩⟩⟩⟩⟩
  · intro h; exact absurd (show (5 : Nat) = 3 from h) (by decide)
theorem told_1_3_1 : Told 1 [1, 3, 1] (partsZ 1 3 1 = 3) := by
  refine told_of (ofL [1, 3, 1]) true 3 (fun a b c d e g => [[a], [b], [c, d, e], [g]]) 4 ?_ (by decide) (by decide) (fun _ _ _ _ _ _ => rfl) (fun _ _ _ _ _ _ => ⟨rfl, rfl, ?_, by show 4 ≤ 6; decide⟩) (fun _ _ _ _ _ _ => rfl) (by decide)
  · exact ⟨fun h => absurd h (by decide), fun h => absurd h (by decide), fun _ _ => ⟨2, rfl, rfl, fun _ => ⟨fun h => absurd h (by decide), fun h => absurd h (by decide), fun _ _ => ⟨1, rfl, rfl, fun _ => ⟨fun h => absurd h (by decide), fun h => absurd h (by decide), fun _ _ => ⟨0, rfl, rfl, fun _ => ⟨rfl, rfl⟩⟩⟩⟩⟩⟩⟩
  · intro h; exact absurd (show (4 : Nat) = 3 from h) (by decide)
theorem told_1_3_2 : Told 1 [1, 3, 2] (partsZ 1 3 2 = 3) := by
  refine told_of (ofL [2, 3, 1]) true 3 (fun a b c d e g => [[a, b], [c, d, e], [g]]) 3 ?_ (by decide) (by decide) (fun _ _ _ _ _ _ => rfl) (fun _ _ _ _ _ _ => ⟨rfl, rfl, ?_, by show 3 ≤ 6; decide⟩) (fun _ _ _ _ _ _ => rfl) (by decide)
  · exact ⟨fun h => absurd h (by decide), fun h => absurd h (by decide), fun _ _ => ⟨2, rfl, rfl, fun _ => ⟨fun h => absurd h (by decide), fun h => absurd h (by decide), fun _ _ => ⟨1, rfl, rfl, fun _ => ⟨fun h => absurd h (by decide), fun h => absurd h (by decide), fun _ _ => ⟨0, rfl, rfl, fun _ => ⟨rfl, rfl⟩⟩⟩⟩⟩⟩⟩
  · intro h; rfl
theorem told_1_3_3 : Told 1 [1, 3, 3] (partsZ 1 3 3 = 3) := by
  refine told_of (ofL [3, 3, 1]) true 3 (fun a b c d e g => [[a, b], [c, d, e], [g]]) 3 ?_ (by decide) (by decide) (fun _ _ _ _ _ _ => rfl) (fun _ _ _ _ _ _ => ⟨rfl, rfl, ?_, by show 3 ≤ 6; decide⟩) (fun _ _ _ _ _ _ => rfl) (by decide)
  · exact ⟨fun h => absurd h (by decide), fun h => absurd h (by decide), fun _ _ => ⟨2, rfl, rfl, fun _ => ⟨fun h => absurd h (by decide), fun h => absurd h (by decide), fun _ _ => ⟨1, rfl, rfl, fun _ => ⟨fun h => absurd h (by decide), fun h => absurd h (by decide), fun _ _ => ⟨0, rfl, rfl, fun _ => ⟨rfl, rfl⟩⟩⟩⟩⟩⟩⟩
  · intro h; rfl
theorem told_1_3_0 : Told 1 [1, 3, 0] (partsZ 1 3 0 = 3) := by
  refine told_of (ofL [3, 3, 3, 3, 3, 3, 3, 3, 1]) false 9 (fun a b c d e g => [[a, b], [c, d, e], [g]]) 3 ?_ (by decide) (by decide) (fun _ _ _ _ _ _ => by simp [repGo, ofL]) (fun _ _ _ _ _ _ => ⟨rfl, rfl, ?_, by show 3 ≤ 6; decide⟩) (fun _ _ _ _ _ _ => rfl) (by decide)
  · exact ⟨fun h => absurd h (by decide), fun h => absurd h (by decide), fun _ _ => ⟨8, rfl, rfl, fun _ => ⟨fun h => absurd h (by decide), fun h => absurd h (by decide), fun _ _ => ⟨7, rfl, rfl, fun _ => ⟨fun h => absurd h (by decide), fun _ => ⟨rfl, by decide, 3, rfl, by decide⟩, fun _ h => absurd rfl h⟩⟩⟩⟩⟩
  · intro h; rfl
theorem told_1_3_127 : Told 1 [1, 3, 127] (partsZ 1 3 127 = 3) := by
  refine told_of (ofL [3, 1]) true 2 (fun a b c d e g => [[a], [b], [c, d, e], [g]]) 4 ?_ (by decide) (by decide) (fun _ _ _ _ _ _ => rfl) (fun _ _ _ _ _ _ => ⟨rfl, rfl, ?_, by show 4 ≤ 6; decide⟩) (fun _ _ _ _ _ _ => rfl) (by decide)
  · exact ⟨fun h => absurd h (by decide), fun h => absurd h (by decide), fun _ _ => ⟨1, rfl, rfl, fun _ => ⟨fun h => absurd h (by decide), fun h => absurd h (by decide), fun _ _ => ⟨0, rfl, rfl, fun _ => ⟨fun _ => ⟨rfl, rfl⟩, fun h => absurd h (by decide), fun h => absurd rfl h⟩⟩⟩⟩⟩
  · intro h; exact absurd (show (4 : Nat) = 3 from h) (by decide)
theorem told_1_0_1 : Told 1 [1, 0, 1] (partsZ 1 0 1 = 3) := by
  refine told_of (ofL [1, 1, 1, 1, 1, 1, 1, 1]) false 8 (fun a b c d e g => [[a], [b], [c], [d], [e], [g]]) 6 ?_ (by decide) (by decide) (fun _ _ _ _ _ _ => by simp [repGo, ofL]) (fun _ _ _ _ _ _ => ⟨rfl, rfl, ?_, by show 6 ≤ 6; decide⟩) (fun _ _ _ _ _ _ => rfl) (by decide)
  · exact ⟨fun h => absurd h (by decide), fun h => absurd h (by decide), fun _ _ => ⟨7, rfl, rfl, fun _ => ⟨fun h => absurd h (by decide), fun _ => ⟨rfl, by decide, 1, rfl, by decide⟩, fun _ h => absurd rfl h⟩⟩⟩
  · intro h; exact absurd (show (6 : Nat) = 3 from h) (by decide)
theorem told_1_0_2 : Told 1 [1, 0, 2] (partsZ 1 0 2 = 3) := by
  refine told_of (ofL [1, 1, 1, 1, 1, 1, 1, 1]) false 8 (fun a b c d e g => [[a], [b], [c], [d], [e], [g]]) 6 ?_ (by decide) (by decide) (fun _ _ _ _ _ _ => by simp [repGo, ofL]) (fun _ _ _ _ _ _ => ⟨rfl, rfl, ?_, by show 6 ≤ 6; decide⟩) (fun _ _ _ _ _ _ => rfl) (by decide)
  · exact ⟨fun h => absurd h (by decide), fun h => absurd h (by decide), fun _ _ => ⟨7, rfl, rfl, fun _ => ⟨fun h => absurd h (by decide), fun _ => ⟨rfl, by decide, 1, rfl, by decide⟩, fun _ h => absurd rfl h⟩⟩⟩
  · intro h; exact absurd (show (6 : Nat) = 3 from h) (by decide)
theorem told_1_0_3 : Told 1 [1, 0, 3] (partsZ 1 0 3 = 3) := by
  refine told_of (ofL [1, 1, 1, 1, 1, 1, 1, 1]) false 8 (fun a b c d e g => [[a], [b], [c], [d], [e], [g]]) 6 ?_ (by decide) (by decide) (fun _ _ _ _ _ _ => by simp [repGo, ofL]) (fun _ _ _ _ _ _ => ⟨rfl, rfl, ?_, by show 6 ≤ 6; decide⟩) (fun _ _ _ _ _ _ => rfl) (by decide)
  · exact ⟨fun h => absurd h (by decide), fun h => absurd h (by decide), fun _ _ => ⟨7, rfl, rfl, fun _ => ⟨fun h => absurd h (by decide), fun _ => ⟨rfl, by decide, 1, rfl, by decide⟩, fun _ h => absurd rfl h⟩⟩⟩
  · intro h; exact absurd (show (6 : Nat) = 3 from h) (by decide)
theorem told_1_0_0 : Told 1 [1, 0, 0] (partsZ 1 0 0 = 3) := by
  refine told_of (ofL [1, 1, 1, 1, 1, 1, 1, 1]) false 8 (fun a b c d e g => [[a], [b], [c], [d], [e], [g]]) 6 ?_ (by decide) (by decide) (fun _ _ _ _ _ _ => by simp [repGo, ofL]) (fun _ _ _ _ _ _ => ⟨rfl, rfl, ?_, by show 6 ≤ 6; decide⟩) (fun _ _ _ _ _ _ => rfl) (by decide)
  · exact ⟨fun h => absurd h (by decide), fun h => absurd h (by decide), fun _ _ => ⟨7, rfl, rfl, fun _ => ⟨fun h => absurd h (by decide), fun _ => ⟨rfl, by decide, 1, rfl, by decide⟩, fun _ h => absurd rfl h⟩⟩⟩
  · intro h; exact absurd (show (6 : Nat) = 3 from h) (by decide)
theorem told_1_0_127 : Told 1 [1, 0, 127] (partsZ 1 0 127 = 3) := by
  refine told_of (ofL [1, 1, 1, 1, 1, 1, 1, 1]) false 8 (fun a b c d e g => [[a], [b], [c], [d], [e], [g]]) 6 ?_ (by decide) (by decide) (fun _ _ _ _ _ _ => by simp [repGo, ofL]) (fun _ _ _ _ _ _ => ⟨rfl, rfl, ?_, by show 6 ≤ 6; decide⟩) (fun _ _ _ _ _ _ => rfl) (by decide)
  · exact ⟨fun h => absurd h (by decide), fun h => absurd h (by decide), fun _ _ => ⟨7, rfl, rfl, fun _ => ⟨fun h => absurd h (by decide), fun _ => ⟨rfl, by decide, 1, rfl, by decide⟩, fun _ h => absurd rfl h⟩⟩⟩
  · intro h; exact absurd (show (6 : Nat) = 3 from h) (by decide)
theorem told_1_127_1 : Told 1 [1, 127, 1] (partsZ 1 127 1 = 3) := by
  refine told_of (ofL [1]) true 1 (fun a b c d e g => [[a], [b], [c], [d], [e], [g]]) 6 ?_ (by decide) (by decide) (fun _ _ _ _ _ _ => rfl) (fun _ _ _ _ _ _ => ⟨rfl, rfl, ?_, by show 6 ≤ 6; decide⟩) (fun _ _ _ _ _ _ => rfl) (by decide)
  · exact ⟨fun h => absurd h (by decide), fun h => absurd h (by decide), fun _ _ => ⟨0, rfl, rfl, fun _ => ⟨fun _ => ⟨rfl, rfl⟩, fun h => absurd h (by decide), fun h => absurd rfl h⟩⟩⟩
  · intro h; exact absurd (show (6 : Nat) = 3 from h) (by decide)
theorem told_1_127_2 : Told 1 [1, 127, 2] (partsZ 1 127 2 = 3) := by
  refine told_of (ofL [1]) true 1 (fun a b c d e g => [[a], [b], [c], [d], [e], [g]]) 6 ?_ (by decide) (by decide) (fun _ _ _ _ _ _ => rfl) (fun _ _ _ _ _ _ => ⟨rfl, rfl, ?_, by show 6 ≤ 6; decide⟩) (fun _ _ _ _ _ _ => rfl) (by decide)
  · exact ⟨fun h => absurd h (by decide), fun h => absurd h (by decide), fun _ _ => ⟨0, rfl, rfl, fun _ => ⟨fun _ => ⟨rfl, rfl⟩, fun h => absurd h (by decide), fun h => absurd rfl h⟩⟩⟩
  · intro h; exact absurd (show (6 : Nat) = 3 from h) (by decide)
theorem told_1_127_3 : Told 1 [1, 127, 3] (partsZ 1 127 3 = 3) := by
  refine told_of (ofL [1]) true 1 (fun a b c d e g => [[a], [b], [c], [d], [e], [g]]) 6 ?_ (by decide) (by decide) (fun _ _ _ _ _ _ => rfl) (fun _ _ _ _ _ _ => ⟨rfl, rfl, ?_, by show 6 ≤ 6; decide⟩) (fun _ _ _ _ _ _ => rfl) (by decide)
  · exact ⟨fun h => absurd h (by decide), fun h => absurd h (by decide), fun _ _ => ⟨0, rfl, rfl, fun _ => ⟨fun _ => ⟨rfl, rfl⟩, fun h => absurd h (by decide), fun h => absurd rfl h⟩⟩⟩
  · intro h; exact absurd (show (6 : Nat) = 3 from h) (by decide)
theorem told_1_127_0 : Told 1 [1, 127, 0] (partsZ 1 127 0 = 3) := by
  refine told_of (ofL [1]) true 1 (fun a b c d e g => [[a], [b], [c], [d], [e], [g]]) 6 ?_ (by decide) (by decide) (fun _ _ _ _ _ _ => rfl) (fun _ _ _ _ _ _ => ⟨rfl, rfl, ?_, by show 6 ≤ 6; decide⟩) (fun _ _ _ _ _ _ => rfl) (by decide)
  · exact ⟨fun h => absurd h (by decide), fun h => absurd h (by decide), fun _ _ => ⟨0, rfl, rfl, fun _ => ⟨fun _ => ⟨rfl, rfl⟩, fun h => absurd h (by decide), fun h => absurd rfl h⟩⟩⟩
  · intro h; exact absurd (show (6 : Nat) = 3 from h) (by decide)
theorem told_1_127_127 : Told 1 [1, 127, 127] (partsZ 1 127 127 = 3) := by
  refine told_of (ofL [1]) true 1 (fun a b c d e g => [[a], [b], [c], [d], [e], [g]]) 6 ?_ (by decide) (by decide) (fun _ _ _ _ _ _ => rfl) (fun _ _ _ _ _ _ => ⟨rfl, rfl, ?_, by show 6 ≤ 6; decide⟩) (fun _ _ _ _ _ _ => rfl) (by decide)
  · exact ⟨fun h => absurd h (by decide), fun h => absurd h (by decide), fun _ _ => ⟨0, rfl, rfl, fun _ => ⟨fun _ => ⟨rfl, rfl⟩, fun h => absurd h (by decide), fun h => absurd rfl h⟩⟩⟩
  · intro h; exact absurd (show (6 : Nat) = 3 from h) (by decide)
theorem told_2_1_1 : Told 2 [2, 1, 1] (partsZ 2 1 1 = 3) := by
  refine told_of (ofL [1, 1, 2]) true 3 (fun a b c d e g => [[a], [b], [c], [d], [e, g]]) 5 ?_ (by decide) (by decide) (fun _ _ _ _ _ _ => rfl) (fun _ _ _ _ _ _ => ⟨rfl, rfl, ?_, by show 5 ≤ 6; decide⟩) (fun _ _ _ _ _ _ => rfl) (by decide)
  · exact ⟨fun h => absurd h (by decide), fun h => absurd h (by decide), fun _ _ => ⟨2, rfl, rfl, fun _ => ⟨fun h => absurd h (by decide), fun h => absurd h (by decide), fun _ _ => ⟨1, rfl, rfl, fun _ => ⟨fun h => absurd h (by decide), fun h => absurd h (by decide), fun _ _ => ⟨0, rfl, rfl, fun _ => ⟨rfl, rfl⟩⟩⟩⟩⟩⟩⟩
  · intro h; exact absurd (show (5 : Nat) = 3 from h) (by decide)
theorem told_2_1_2 : Told 2 [2, 1, 2] (partsZ 2 1 2 = 3) := by
  refine told_of (ofL [2, 1, 2]) true 3 (fun a b c d e g => [[a], [b, c], [d], [e, g]]) 4 ?_ (by decide) (by decide) (fun _ _ _ _ _ _ => rfl) (fun _ _ _ _ _ _ => ⟨rfl, rfl, ?_, by show 4 ≤ 6; decide⟩) (fun _ _ _ _ _ _ => rfl) (by decide)
  · exact ⟨fun h => absurd h (by decide), fun h => absurd h (by decide), fun _ _ => ⟨2, rfl, rfl, fun _ => ⟨fun h => absurd h (by decide), fun h => absurd h (by decide), fun _ _ => ⟨1, rfl, rfl, fun _ => ⟨fun h => absurd h (by decide), fun h => absurd h (by decide), fun _ _ => ⟨0, rfl, rfl, fun _ => ⟨rfl, rfl⟩⟩⟩⟩⟩⟩⟩
  · intro h; exact absurd (show (4 : Nat) = 3 from h) (by decide)
theorem told_2_1_3 : Told 2 [2, 1, 3] (partsZ 2 1 3 = 3) := by
  refine told_of (ofL [3, 1, 2]) true 3 (fun a b c d e g => [[a, b, c], [d], [e, g]]) 3 ?_ (by decide) (by decide) (fun _ _ _ _ _ _ => rfl) (fun _ _ _ _ _ _ => ⟨rfl, rfl, ?_, by show 3 ≤ 6; decide⟩) (fun _ _ _ _ _ _ => rfl) (by decide)
  · exact ⟨fun h => absurd h (by decide), fun h => absurd h (by decide), fun _ _ => ⟨2, rfl, rfl, fun _ => ⟨fun h => absurd h (by decide), fun h => absurd h (by decide), fun _ _ => ⟨1, rfl, rfl, fun _ => ⟨fun h => absurd h (by decide), fun h => absurd h (by decide), fun _ _ => ⟨0, rfl, rfl, fun _ => ⟨rfl, rfl⟩⟩⟩⟩⟩⟩⟩
  · intro h; rfl
theorem told_2_1_0 : Told 2 [2, 1, 0] (partsZ 2 1 0 = 3) := by
  refine told_of (ofL [1, 1, 1, 1, 1, 1, 1, 1, 2]) false 9 (fun a b c d e g => [[a], [b], [c], [d], [e, g]]) 5 ?_ (by decide) (by decide) (fun _ _ _ _ _ _ => by simp [repGo, ofL]) (fun _ _ _ _ _ _ => ⟨rfl, rfl, ?_, by show 5 ≤ 6; decide⟩) (fun _ _ _ _ _ _ => rfl) (by decide)
  · exact ⟨fun h => absurd h (by decide), fun h => absurd h (by decide), fun _ _ => ⟨8, rfl, rfl, fun _ => ⟨fun h => absurd h (by decide), fun h => absurd h (by decide), fun _ _ => ⟨7, rfl, rfl, fun _ => ⟨fun h => absurd h (by decide), fun _ => ⟨rfl, by decide, 1, rfl, by decide⟩, fun _ h => absurd rfl h⟩⟩⟩⟩⟩
  · intro h; exact absurd (show (5 : Nat) = 3 from h) (by decide)
theorem told_2_1_127 : Told 2 [2, 1, 127] (partsZ 2 1 127 = 3) := by
  refine told_of (ofL [1, 2]) true 2 (fun a b c d e g => [[a], [b], [c], [d], [e, g]]) 5 ?_ (by decide) (by decide) (fun _ _ _ _ _ _ => rfl) (fun _ _ _ _ _ _ => ⟨rfl, rfl, ?_, by show 5 ≤ 6; decide⟩) (fun _ _ _ _ _ _ => rfl) (by decide)
  · exact ⟨fun h => absurd h (by decide), fun h => absurd h (by decide), fun _ _ => ⟨1, rfl, rfl, fun _ => ⟨fun h => absurd h (by decide), fun h => absurd h (by decide), fun _ _ => ⟨0, rfl, rfl, fun _ => ⟨fun _ => ⟨rfl, rfl⟩, fun h => absurd h (by decide), fun h => absurd rfl h⟩⟩⟩⟩⟩
  · intro h; exact absurd (show (5 : Nat) = 3 from h) (by decide)
theorem told_2_2_1 : Told 2 [2, 2, 1] (partsZ 2 2 1 = 3) := by
  refine told_of (ofL [1, 2, 2]) true 3 (fun a b c d e g => [[a], [b], [c, d], [e, g]]) 4 ?_ (by decide) (by decide) (fun _ _ _ _ _ _ => rfl) (fun _ _ _ _ _ _ => ⟨rfl, rfl, ?_, by show 4 ≤ 6; decide⟩) (fun _ _ _ _ _ _ => rfl) (by decide)
  · exact ⟨fun h => absurd h (by decide), fun h => absurd h (by decide), fun _ _ => ⟨2, rfl, rfl, fun _ => ⟨fun h => absurd h (by decide), fun h => absurd h (by decide), fun _ _ => ⟨1, rfl, rfl, fun _ => ⟨fun h => absurd h (by decide), fun h => absurd h (by decide), fun _ _ => ⟨0, rfl, rfl, fun _ => ⟨rfl, rfl⟩⟩⟩⟩⟩⟩⟩
  · intro h; exact absurd (show (4 : Nat) = 3 from h) (by decide)
theorem told_2_2_2 : Told 2 [2, 2, 2] (partsZ 2 2 2 = 3) := by
  refine told_of (ofL [2, 2, 2]) true 3 (fun a b c d e g => [[a, b], [c, d], [e, g]]) 3 ?_ (by decide) (by decide) (fun _ _ _ _ _ _ => rfl) (fun _ _ _ _ _ _ => ⟨rfl, rfl, ?_, by show 3 ≤ 6; decide⟩) (fun _ _ _ _ _ _ => rfl) (by decide)
  · exact ⟨fun h => absurd h (by decide), fun h => absurd h (by decide), fun _ _ => ⟨2, rfl, rfl, fun _ => ⟨fun h => absurd h (by decide), fun h => absurd h (by decide), fun _ _ => ⟨1, rfl, rfl, fun _ => ⟨fun h => absurd h (by decide), fun h => absurd h (by decide), fun _ _ => ⟨0, rfl, rfl, fun _ => ⟨rfl, rfl⟩⟩⟩⟩⟩⟩⟩
  · intro h; rfl
theorem told_2_2_3 : Told 2 [2, 2, 3] (partsZ 2 2 3 = 3) := by
  refine told_of (ofL [3, 2, 2]) true 3 (fun a b c d e g => [[a, b], [c, d], [e, g]]) 3 ?_ (by decide) (by decide) (fun _ _ _ _ _ _ => rfl) (fun _ _ _ _ _ _ => ⟨rfl, rfl, ?_, by show 3 ≤ 6; decide⟩) (fun _ _ _ _ _ _ => rfl) (by decide)
  · exact ⟨fun h => absurd h (by decide), fun h => absurd h (by decide), fun _ _ => ⟨2, rfl, rfl, fun _ => ⟨fun h => absurd h (by decide), fun h => absurd h (by decide), fun _ _ => ⟨1, rfl, rfl, fun _ => ⟨fun h => absurd h (by decide), fun h => absurd h (by decide), fun _ _ => ⟨0, rfl, rfl, fun _ => ⟨rfl, rfl⟩⟩⟩⟩⟩⟩⟩
  · intro h; rfl
theorem told_2_2_0 : Told 2 [2, 2, 0] (partsZ 2 2 0 = 3) := by
  refine told_of (ofL [2, 2, 2, 2, 2, 2, 2, 2, 2]) false 9 (fun a b c d e g => [[a, b], [c, d], [e, g]]) 3 ?_ (by decide) (by decide) (fun _ _ _ _ _ _ => by simp [repGo, ofL]) (fun _ _ _ _ _ _ => ⟨rfl, rfl, ?_, by show 3 ≤ 6; decide⟩) (fun _ _ _ _ _ _ => rfl) (by decide)
  · exact ⟨fun h => absurd h (by decide), fun h => absurd h (by decide), fun _ _ => ⟨8, rfl, rfl, fun _ => ⟨fun h => absurd h (by decide), fun h => absurd h (by decide), fun _ _ => ⟨7, rfl, rfl, fun _ => ⟨fun h => absurd h (by decide), fun _ => ⟨rfl, by decide, 2, rfl, by decide⟩, fun _ h => absurd rfl h⟩⟩⟩⟩⟩
  · intro h; rfl
theorem told_2_2_127 : Told 2 [2, 2, 127] (partsZ 2 2 127 = 3) := by
  refine told_of (ofL [2, 2]) true 2 (fun a b c d e g => [[a], [b], [c, d], [e, g]]) 4 ?_ (by decide) (by decide) (fun _ _ _ _ _ _ => rfl) (fun _ _ _ _ _ _ => ⟨rfl, rfl, ?_, by show 4 ≤ 6; decide⟩) (fun _ _ _ _ _ _ => rfl) (by decide)
  · exact ⟨fun h => absurd h (by decide), fun h => absurd h (by decide), fun _ _ => ⟨1, rfl, rfl, fun _ => ⟨fun h => absurd h (by decide), fun h => absurd h (by decide), fun _ _ => ⟨0, rfl, rfl, fun _ => ⟨fun _ => ⟨rfl, rfl⟩, fun h => absurd h (by decide), fun h => absurd rfl h⟩⟩⟩⟩⟩
  · intro h; exact absurd (show (4 : Nat) = 3 from h) (by decide)
theorem told_2_3_1 : Told 2 [2, 3, 1] (partsZ 2 3 1 = 3) := by
  refine told_of (ofL [1, 3, 2]) true 3 (fun a b c d e g => [[a], [b, c, d], [e, g]]) 3 ?_ (by decide) (by decide) (fun _ _ _ _ _ _ => rfl) (fun _ _ _ _ _ _ => ⟨rfl, rfl, ?_, by show 3 ≤ 6; decide⟩) (fun _ _ _ _ _ _ => rfl) (by decide)
  · exact ⟨fun h => absurd h (by decide), fun h => absurd h (by decide), fun _ _ => ⟨2, rfl, rfl, fun _ => ⟨fun h => absurd h (by decide), fun h => absurd h (by decide), fun _ _ => ⟨1, rfl, rfl, fun _ => ⟨fun h => absurd h (by decide), fun h => absurd h (by decide), fun _ _ => ⟨0, rfl, rfl, fun _ => ⟨rfl, rfl⟩⟩⟩⟩⟩⟩⟩
  · intro h; rfl
theorem told_2_3_2 : Told 2 [2, 3, 2] (partsZ 2 3 2 = 3) := by
  refine told_of (ofL [2, 3, 2]) true 3 (fun a b c d e g => [[a], [b, c, d], [e, g]]) 3 ?_ (by decide) (by decide) (fun _ _ _ _ _ _ => rfl) (fun _ _ _ _ _ _ => ⟨rfl, rfl, ?_, by show 3 ≤ 6; decide⟩) (fun _ _ _ _ _ _ => rfl) (by decide)
  · exact ⟨fun h => absurd h (by decide), fun h => absurd h (by decide), fun _ _ => ⟨2, rfl, rfl, fun _ => ⟨fun h => absurd h (by decide), fun h => absurd h (by decide), fun _ _ => ⟨1, rfl, rfl, fun _ => ⟨fun h => absurd h (by decide), fun h => absurd h (by decide), fun _ _ => ⟨0, rfl, rfl, fun _ => ⟨rfl, rfl⟩⟩⟩⟩⟩⟩⟩
  · intro h; rfl
theorem told_2_3_3 : Told 2 [2, 3, 3] (partsZ 2 3 3 = 3) := by
  refine told_of (ofL [3, 3, 2]) true 3 (fun a b c d e g => [[a], [b, c, d], [e, g]]) 3 ?_ (by decide) (by decide) (fun _ _ _ _ _ _ => rfl) (fun _ _ _ _ _ _ => ⟨rfl, rfl, ?_, by show 3 ≤ 6; decide⟩) (fun _ _ _ _ _ _ => rfl) (by decide)
  · exact ⟨fun h => absurd h (by decide), fun h => absurd h (by decide), fun _ _ => ⟨2, rfl, rfl, fun _ => ⟨fun h => absurd h (by decide), fun h => absurd h (by decide), fun _ _ => ⟨1, rfl, rfl, fun _ => ⟨fun h => absurd h (by decide), fun h => absurd h (by decide), fun _ _ => ⟨0, rfl, rfl, fun _ => ⟨rfl, rfl⟩⟩⟩⟩⟩⟩⟩
  · intro h; rfl
theorem told_2_3_0 : Told 2 [2, 3, 0] (partsZ 2 3 0 = 3) := by
  refine told_of (ofL [3, 3, 3, 3, 3, 3, 3, 3, 2]) false 9 (fun a b c d e g => [[a], [b, c, d], [e, g]]) 3 ?_ (by decide) (by decide) (fun _ _ _ _ _ _ => by simp [repGo, ofL]) (fun _ _ _ _ _ _ => ⟨rfl, rfl, ?_, by show 3 ≤ 6; decide⟩) (fun _ _ _ _ _ _ => rfl) (by decide)
  · exact ⟨fun h => absurd h (by decide), fun h => absurd h (by decide), fun _ _ => ⟨8, rfl, rfl, fun _ => ⟨fun h => absurd h (by decide), fun h => absurd h (by decide), fun _ _ => ⟨7, rfl, rfl, fun _ => ⟨fun h => absurd h (by decide), fun _ => ⟨rfl, by decide, 3, rfl, by decide⟩, fun _ h => absurd rfl h⟩⟩⟩⟩⟩
  · intro h; rfl
theorem told_2_3_127 : Told 2 [2, 3, 127] (partsZ 2 3 127 = 3) := by
  refine told_of (ofL [3, 2]) true 2 (fun a b c d e g => [[a], [b, c, d], [e, g]]) 3 ?_ (by decide) (by decide) (fun _ _ _ _ _ _ => rfl) (fun _ _ _ _ _ _ => ⟨rfl, rfl, ?_, by show 3 ≤ 6; decide⟩) (fun _ _ _ _ _ _ => rfl) (by decide)
  · exact ⟨fun h => absurd h (by decide), fun h => absurd h (by decide), fun _ _ => ⟨1, rfl, rfl, fun _ => ⟨fun h => absurd h (by decide), fun h => absurd h (by decide), fun _ _ => ⟨0, rfl, rfl, fun _ => ⟨fun _ => ⟨rfl, rfl⟩, fun h => absurd h (by decide), fun h => absurd rfl h⟩⟩⟩⟩⟩
  · intro h; rfl
theorem told_2_0_1 : Told 2 [2, 0, 1] (partsZ 2 0 1 = 3) := by
  refine told_of (ofL [2, 2, 2, 2, 2, 2, 2, 2]) false 8 (fun a b c d e g => [[a, b], [c, d], [e, g]]) 3 ?_ (by decide) (by decide) (fun _ _ _ _ _ _ => by simp [repGo, ofL]) (fun _ _ _ _ _ _ => ⟨rfl, rfl, ?_, by show 3 ≤ 6; decide⟩) (fun _ _ _ _ _ _ => rfl) (by decide)
  · exact ⟨fun h => absurd h (by decide), fun h => absurd h (by decide), fun _ _ => ⟨7, rfl, rfl, fun _ => ⟨fun h => absurd h (by decide), fun _ => ⟨rfl, by decide, 2, rfl, by decide⟩, fun _ h => absurd rfl h⟩⟩⟩
  · intro h; rfl
theorem told_2_0_2 : Told 2 [2, 0, 2] (partsZ 2 0 2 = 3) := by
  refine told_of (ofL [2, 2, 2, 2, 2, 2, 2, 2]) false 8 (fun a b c d e g => [[a, b], [c, d], [e, g]]) 3 ?_ (by decide) (by decide) (fun _ _ _ _ _ _ => by simp [repGo, ofL]) (fun _ _ _ _ _ _ => ⟨rfl, rfl, ?_, by show 3 ≤ 6; decide⟩) (fun _ _ _ _ _ _ => rfl) (by decide)
  · exact ⟨fun h => absurd h (by decide), fun h => absurd h (by decide), fun _ _ => ⟨7, rfl, rfl, fun _ => ⟨fun h => absurd h (by decide), fun _ => ⟨rfl, by decide, 2, rfl, by decide⟩, fun _ h => absurd rfl h⟩⟩⟩
  · intro h; rfl
theorem told_2_0_3 : Told 2 [2, 0, 3] (partsZ 2 0 3 = 3) := by
  refine told_of (ofL [2, 2, 2, 2, 2, 2, 2, 2]) false 8 (fun a b c d e g => [[a, b], [c, d], [e, g]]) 3 ?_ (by decide) (by decide) (fun _ _ _ _ _ _ => by simp [repGo, ofL]) (fun _ _ _ _ _ _ => ⟨rfl, rfl, ?_, by show 3 ≤ 6; decide⟩) (fun _ _ _ _ _ _ => rfl) (by decide)
  · exact ⟨fun h => absurd h (by decide), fun h => absurd h (by decide), fun _ _ => ⟨7, rfl, rfl, fun _ => ⟨fun h => absurd h (by decide), fun _ => ⟨rfl, by decide, 2, rfl, by decide⟩, fun _ h => absurd rfl h⟩⟩⟩
  · intro h; rfl
theorem told_2_0_0 : Told 2 [2, 0, 0] (partsZ 2 0 0 = 3) := by
  refine told_of (ofL [2, 2, 2, 2, 2, 2, 2, 2]) false 8 (fun a b c d e g => [[a, b], [c, d], [e, g]]) 3 ?_ (by decide) (by decide) (fun _ _ _ _ _ _ => by simp [repGo, ofL]) (fun _ _ _ _ _ _ => ⟨rfl, rfl, ?_, by show 3 ≤ 6; decide⟩) (fun _ _ _ _ _ _ => rfl) (by decide)
  · exact ⟨fun h => absurd h (by decide), fun h => absurd h (by decide), fun _ _ => ⟨7, rfl, rfl, fun _ => ⟨fun h => absurd h (by decide), fun _ => ⟨rfl, by decide, 2, rfl, by decide⟩, fun _ h => absurd rfl h⟩⟩⟩
  · intro h; rfl
theorem told_2_0_127 : Told 2 [2, 0, 127] (partsZ 2 0 127 = 3) := by
  refine told_of (ofL [2, 2, 2, 2, 2, 2, 2, 2]) false 8 (fun a b c d e g => [[a, b], [c, d], [e, g]]) 3 ?_ (by decide) (by decide) (fun _ _ _ _ _ _ => by simp [repGo, ofL]) (fun _ _ _ _ _ _ => ⟨rfl, rfl, ?_, by show 3 ≤ 6; decide⟩) (fun _ _ _ _ _ _ => rfl) (by decide)
  · exact ⟨fun h => absurd h (by decide), fun h => absurd h (by decide), fun _ _ => ⟨7, rfl, rfl, fun _ => ⟨fun h => absurd h (by decide), fun _ => ⟨rfl, by decide, 2, rfl, by decide⟩, fun _ h => absurd rfl h⟩⟩⟩
  · intro h; rfl
theorem told_2_127_1 : Told 2 [2, 127, 1] (partsZ 2 127 1 = 3) := by
  refine told_of (ofL [2]) true 1 (fun a b c d e g => [[a], [b], [c], [d], [e, g]]) 5 ?_ (by decide) (by decide) (fun _ _ _ _ _ _ => rfl) (fun _ _ _ _ _ _ => ⟨rfl, rfl, ?_, by show 5 ≤ 6; decide⟩) (fun _ _ _ _ _ _ => rfl) (by decide)
  · exact ⟨fun h => absurd h (by decide), fun h => absurd h (by decide), fun _ _ => ⟨0, rfl, rfl, fun _ => ⟨fun _ => ⟨rfl, rfl⟩, fun h => absurd h (by decide), fun h => absurd rfl h⟩⟩⟩
  · intro h; exact absurd (show (5 : Nat) = 3 from h) (by decide)
theorem told_2_127_2 : Told 2 [2, 127, 2] (partsZ 2 127 2 = 3) := by
  refine told_of (ofL [2]) true 1 (fun a b c d e g => [[a], [b], [c], [d], [e, g]]) 5 ?_ (by decide) (by decide) (fun _ _ _ _ _ _ => rfl) (fun _ _ _ _ _ _ => ⟨rfl, rfl, ?_, by show 5 ≤ 6; decide⟩) (fun _ _ _ _ _ _ => rfl) (by decide)
  · exact ⟨fun h => absurd h (by decide), fun h => absurd h (by decide), fun _ _ => ⟨0, rfl, rfl, fun _ => ⟨fun _ => ⟨rfl, rfl⟩, fun h => absurd h (by decide), fun h => absurd rfl h⟩⟩⟩
  · intro h; exact absurd (show (5 : Nat) = 3 from h) (by decide)
theorem told_2_127_3 : Told 2 [2, 127, 3] (partsZ 2 127 3 = 3) := by
  refine told_of (ofL [2]) true 1 (fun a b c d e g => [[a], [b], [c], [d], [e, g]]) 5 ?_ (by decide) (by decide) (fun _ _ _ _ _ _ => rfl) (fun _ _ _ _ _ _ => ⟨rfl, rfl, ?_, by show 5 ≤ 6; decide⟩) (fun _ _ _ _ _ _ => rfl) (by decide)
  · exact ⟨fun h => absurd h (by decide), fun h => absurd h (by decide), fun _ _ => ⟨0, rfl, rfl, fun _ => ⟨fun _ => ⟨rfl, rfl⟩, fun h => absurd h (by decide), fun h => absurd rfl h⟩⟩⟩
  · intro h; exact absurd (show (5 : Nat) = 3 from h) (by decide)
theorem told_2_127_0 : Told 2 [2, 127, 0] (partsZ 2 127 0 = 3) := by
  refine told_of (ofL [2]) true 1 (fun a b c d e g => [[a], [b], [c], [d], [e, g]]) 5 ?_ (by decide) (by decide) (fun _ _ _ _ _ _ => rfl) (fun _ _ _ _ _ _ => ⟨rfl, rfl, ?_, by show 5 ≤ 6; decide⟩) (fun _ _ _ _ _ _ => rfl) (by decide)
  · exact ⟨fun h => absurd h (by decide), fun h => absurd h (by decide), fun _ _ => ⟨0, rfl, rfl, fun _ => ⟨fun _ => ⟨rfl, rfl⟩, fun h => absurd h (by decide), fun h => absurd rfl h⟩⟩⟩
  · intro h; exact absurd (show (5 : Nat) = 3 from h) (by decide)
theorem told_2_127_127 : Told 2 [2, 127, 127] (partsZ 2 127 127 = 3) := by
  refine told_of (ofL [2]) true 1 (fun a b c d e g => [[a], [b], [c], [d], [e, g]]) 5 ?_ (by decide) (by decide) (fun _ _ _ _ _ _ => rfl) (fun _ _ _ _ _ _ => ⟨rfl, rfl, ?_, by show 5 ≤ 6; decide⟩) (fun _ _ _ _ _ _ => rfl) (by decide)
  · exact ⟨fun h => absurd h (by decide), fun h => absurd h (by decide), fun _ _ => ⟨0, rfl, rfl, fun _ => ⟨fun _ => ⟨rfl, rfl⟩, fun h => absurd h (by decide), fun h => absurd rfl h⟩⟩⟩
  · intro h; exact absurd (show (5 : Nat) = 3 from h) (by decide)
theorem told4_1 : Told 1 [1, 3, 0, 127] ((3 : Nat) = 3) := by
  refine told_of (ofL [3, 3, 3, 3, 3, 3, 3, 3, 1]) false 9 (fun a b c d e g => [[a, b], [c, d, e], [g]]) 3 ?_ (by decide) (by decide) (fun _ _ _ _ _ _ => by simp [repGo, ofL]) (fun _ _ _ _ _ _ => ⟨rfl, rfl, ?_, by show 3 ≤ 6; decide⟩) (fun _ _ _ _ _ _ => rfl) (by decide)
  · exact ⟨fun h => absurd h (by decide), fun h => absurd h (by decide), fun _ _ => ⟨8, rfl, rfl, fun _ => ⟨fun h => absurd h (by decide), fun h => absurd h (by decide), fun _ _ => ⟨7, rfl, rfl, fun _ => ⟨fun h => absurd h (by decide), fun _ => ⟨rfl, by decide, 3, rfl, by decide⟩, fun _ h => absurd rfl h⟩⟩⟩⟩⟩
  · intro h; rfl
theorem told4_2 : Told 2 [2, 3, 0, 127] ((3 : Nat) = 3) := by
  refine told_of (ofL [3, 3, 3, 3, 3, 3, 3, 3, 2]) false 9 (fun a b c d e g => [[a], [b, c, d], [e, g]]) 3 ?_ (by decide) (by decide) (fun _ _ _ _ _ _ => by simp [repGo, ofL]) (fun _ _ _ _ _ _ => ⟨rfl, rfl, ?_, by show 3 ≤ 6; decide⟩) (fun _ _ _ _ _ _ => rfl) (by decide)
  · exact ⟨fun h => absurd h (by decide), fun h => absurd h (by decide), fun _ _ => ⟨8, rfl, rfl, fun _ => ⟨fun h => absurd h (by decide), fun h => absurd h (by decide), fun _ _ => ⟨7, rfl, rfl, fun _ => ⟨fun h => absurd h (by decide), fun _ => ⟨rfl, by decide, 3, rfl, by decide⟩, fun _ h => absurd rfl h⟩⟩⟩⟩⟩
  · intro h; rfl
theorem told_all {f s t : Int} (hf : f = 1 ∨ f = 2) (hs : SizeOk s) (ht : SizeOk t) : Told f [f, s, t] (partsZ f s t = 3) := by
  rcases hf with rfl | rfl <;> rcases hs with rfl | rfl | rfl | rfl | rfl <;> rcases ht with rfl | rfl | rfl | rfl | rfl
  · exact told_1_1_1
  · exact told_1_1_2
  · exact told_1_1_3
  · exact told_1_1_0
  · exact told_1_1_127
  · exact told_1_2_1
  · exact told_1_2_2
  · exact told_1_2_3
  · exact told_1_2_0
  · exact told_1_2_127
  · exact told_1_3_1
  · exact told_1_3_2
  · exact told_1_3_3
  · exact told_1_3_0
  · exact told_1_3_127
  · exact told_1_0_1
  · exact told_1_0_2
  · exact told_1_0_3
  · exact told_1_0_0
  · exact told_1_0_127
  · exact told_1_127_1
  · exact told_1_127_2
  · exact told_1_127_3
  · exact told_1_127_0
  · exact told_1_127_127
  · exact told_2_1_1
  · exact told_2_1_2
  · exact told_2_1_3
  · exact told_2_1_0
  · exact told_2_1_127
  · exact told_2_2_1
  · exact told_2_2_2
  · exact told_2_2_3
  · exact told_2_2_0
  · exact told_2_2_127
  · exact told_2_3_1
  · exact told_2_3_2
  · exact told_2_3_3
  · exact told_2_3_0
  · exact told_2_3_127
  · exact told_2_0_1
  · exact told_2_0_2
  · exact told_2_0_3
  · exact told_2_0_0
  · exact told_2_0_127
  · exact told_2_127_1
  · exact told_2_127_2
  · exact told_2_127_3
  · exact told_2_127_0
  · exact told_2_127_127
theorem told_four {f : Int} (hf : f = 1 ∨ f = 2) : Told f [f, 3, 0, 127] ((3 : Nat) = 3) := by
  rcases hf with rfl | rfl
  · exact told4_1
  · exact told4_2
theorem int_one : ∀ a, a < 10 → PySem.intText? ⟨#[48 + a]⟩ = some (a : Int) := by decide +kernel
theorem int_two : ∀ a, a < 10 → ∀ b, b < 10 → PySem.intText? ⟨#[48 + a, 48 + b]⟩ = some ((10 * a + b : Nat) : Int) := by decide +kernel
end Mine
end PartM
section PartM2
open PySem PySem.W PyProof.Rows PySem.Calls PySem.Spec
namespace Mine
structure ParseFacts (resp : Str) (v : Int) (parts : List Str) (three : Prop) : Prop where
  len : resp.length ≤ 1000
  len8 : 8 ≤ resp.length
  h3 : Txt.slice resp none (some 3) = Str.ofString "229"
  hf1 : Txt.find resp (Str.ofString "(") = 4
  hf2 : Txt.find3 resp (Str.ofString ")") (Txt.find resp (Str.ofString "(") + 1) = (resp.length : Int) - 1
  hmk : Txt.item resp (Txt.find resp (Str.ofString "(") + 1) = Txt.item resp (Txt.find3 resp (Str.ofString ")") (Txt.find resp (Str.ofString "(") + 1) - 1)
  hsp : Txt.split (Txt.slice resp (some (Txt.find resp (Str.ofString "(") + 1)) (some (Txt.find3 resp (Str.ofString ")") (Txt.find resp (Str.ofString "(") + 1)))) (Txt.item resp (Txt.find resp (Str.ofString "(") + 1)) = parts
  five : parts.length = 5 ↔ three
  port : parts.length = 5 → ∃ y, parts[3]? = some y ∧ PySem.intText? y = some v ∧ y.length ≤ 640
theorem figs_digit (num : Int) : ∀ d ∈ figs6 num, 48 ≤ d ∧ d ≤ 57 := by
  intro d hd
  simp only [figs6, List.mem_cons, List.not_mem_nil, or_false] at hd
  rcases hd with rfl | rfl | rfl | rfl | rfl | rfl <;> omega
theorem str_one {y : Str} {l : List Nat} (h : y.cps.toList = l) : y = ⟨l.toArray⟩ := by
  apply str_ext
  rw [h]
theorem parse_facts {f ring step front num : Int} (hC : LawC f ring step front) (hnum : 100000 ≤ num ∧ num ≤ 999999) {mk : Str} (hmk : MarkC mk) {G : List (List Nat)} {three : Prop} (hG : GroupsOk f (figs6 num) G) (h3 : G.length = 3 ↔ three)
    {lp : List (Str × Tok)} (hlp : cpsOf lp = G) :
    ParseFacts (Str.ofString "229 (" ++ mk ++ Txt.join mk (lp.map fun x => x.1) ++ mk ++ Str.ofString ")") (num % ring) (Str.empty :: (lp.map (fun x => x.1) ++ [Str.empty])) three := by
  obtain ⟨c, rfl, hc⟩ := hmk
  have hcc : c ≠ 40 ∧ c ≠ 41 ∧ ¬ (48 ≤ c ∧ c ≤ 57) := by
    simp only [List.mem_cons, List.not_mem_nil, or_false] at hc
    omega
  have hGe : G = (lp.map fun x => x.1).map fun y => y.cps.toList := by rw [← hlp]; unfold cpsOf; rw [List.map_map]; rfl
  have hGl : G.length = (lp.map fun x => x.1).length := by rw [hGe, List.length_map]
  have hll : lp.length ≤ 6 := by have := hG.len; rw [hGl, List.length_map] at this; exact this
  have hdig : ∀ y ∈ lp.map fun x => x.1, ∀ d ∈ y.cps.toList, 48 ≤ d ∧ d ≤ 57 := fun y hy d hd => by
    refine figs_digit num d ?_
    rw [← hG.flat, hGe]
    exact List.mem_flatten.mpr ⟨_, List.mem_map.mpr ⟨y, hy, rfl⟩, hd⟩
  have hyl : ∀ p ∈ lp, p.1.length ≤ 1000 := fun p hp => by
    have hm : p.1.cps.toList ∈ G := by rw [hGe]; exact List.mem_map.mpr ⟨p.1, List.mem_map.mpr ⟨p, hp, rfl⟩, rfl⟩
    have h6 : p.1.cps.toList.length ≤ G.flatten.length := by
      obtain ⟨a, b, e⟩ := List.append_of_mem hm
      rw [e]; simp only [List.flatten_append, List.flatten_cons, List.length_append]; omega
    rw [hG.flat] at h6
    rw [len_list]
    simp only [figs6, List.length_cons, List.length_nil] at h6
    omega
  have hne : (lp.map fun x => x.1) ≠ [] := by
    intro h
    rw [h] at hGe
    have := hG.flat
    rw [hGe] at this
    simp [figs6] at this
  have hJ : (Txt.join (⟨#[c]⟩ : Str) (lp.map fun x => x.1)).length ≤ 900 := by
    have e : Txt.join (⟨#[c]⟩ : Str) (lp.map fun x => x.1) = Str.join ⟨#[c]⟩ (lp.map fun x => x.1) := StrLaws.glued_eq_join _ _
    have h0 := StrLaws.join_length_le ⟨#[c]⟩ (lp.map fun x => x.1)
    have h1 : ((lp.map fun x => x.1).map (·.length)).sum = G.flatten.length := by
      rw [hGe, List.length_flatten]
      simp only [List.map_map]
      congr 1
    rw [hG.flat] at h1
    have h2 : (⟨#[c]⟩ : Str).length = 1 := rfl
    rw [e]
    rw [h1, h2, List.length_map] at h0
    simp only [figs6, List.length_cons, List.length_nil] at h0
    omega
  have R := reply_facts hcc.1 hcc.2.1 hcc.2.2 hdig hne hJ
  have hpl : (Str.empty :: (lp.map (fun x => x.1) ++ [Str.empty])).length = 5 ↔ G.length = 3 := by
    rw [hGl]; simp only [List.length_cons, List.length_append, List.length_nil]; omega
  refine ⟨R.len, R.len8, R.h3, R.hf1, R.hf2, R.hmk, R.hsp, hpl.trans h3, fun h5 => ?_⟩
  have h3' := hpl.mp h5
  have hl := hG.last h3'
  have hl3 : (lp.map fun x => x.1).length = 3 := by rw [← hGl]; exact h3'
  obtain ⟨y, hy⟩ : ∃ y, (lp.map fun x => x.1)[2]? = some y := ⟨_, List.getElem?_eq_getElem (by omega)⟩
  have hyG : y.cps.toList = (figs6 num).drop (6 - f.toNat) := by
    rw [hGe, List.getElem?_map, hy] at hl
    exact Option.some.inj hl
  refine ⟨y, ?_, ?_, ?_⟩
  · rw [List.getElem?_cons_succ, List.getElem?_append_left (by omega)]; exact hy
  · rcases hC.1 with ⟨rfl, rfl⟩ | ⟨rfl, rfl⟩
    · have e : y = ⟨#[48 + (num % 10).toNat]⟩ := str_one hyG
      rw [e, int_one _ (by omega)]
      congr 1; omega
    · have e : y = ⟨#[48 + (num / 10 % 10).toNat, 48 + (num % 10).toNat]⟩ := str_one hyG
      rw [e, int_two _ (by omega) _ (by omega)]
      congr 1; omega
  · rw [len_list, hyG, List.length_drop]
    simp only [figs6, List.length_cons, List.length_nil]; omega
end Mine
end PartM2
section PartT2
open PySem PySem.W PyProof.Rows PySem.Calls PySem.Spec
namespace Mine

local macro_rules | `(tactic| walk_at "WN upd_same") => `(tactic| (intro p hp; repeat' (first | (cases hp; done) | (rcases List.mem_cons.mp hp with he | hp; · subst he; rfl))))
local macro_rules | `(tactic| walk_at "WN upd_rest") => `(tactic| (intro z hz; simp only [List.forall_mem_cons] at hz; (try dsimp only); simp only [Mine.upd, Mine.updO, hz, if_false, reduceIte]))
local macro_rules | `(tactic| walk_at "WN upd_restO") => `(tactic| (intro z hx hz; simp only [List.forall_mem_cons] at hz; (try dsimp only); simp only [Mine.upd, Mine.updO, hx, hz, if_false, reduceIte]))
local macro_rules | `(tactic| walk_at "WN upd_off") => `(tactic| (intro p hp; repeat' (first | (cases hp; done) | (rcases List.mem_cons.mp hp with he | hp; · (subst he; (try dsimp only); decide)))))
local macro_rules | `(tactic| walk_at "exec While Compare cons nil") => `(tactic| refine Mine.stop ?_)
local macro_rules | `(tactic| walk_at "exec For Name Call cons nil") => `(tactic| k_dflt (refine Mine.for_ok ?_))
local macro_rules | `(tactic| walk_at "pyIter ref") => `(tactic| refine Mine.stop ?_)
local macro_rules | `(tactic| walk_at "call builtin:list.append") => `(tactic| (k_here; (with_unfolding_all (show wpAny _ _ (PySem.call (Value.builtin _) [Value.ref _, _]) _ _ _)); k_dflt (refine' append_K ?k1 ?k2 ?k3 ?_ ?z; (case k1 => k_asm); (case k2 => k_asm); (case k3 => k_upd); (case z => size_fits); k_whole); intro h' F' N'; (try k_sweep)))

local macro_rules | `(tactic| walk_at "call ref") => `(tactic| refine Mine.stop ?_)
abbrev turnMap (num sec thi x k : Int) (mk : Str) (q1 q2 q3 q4 q5 q6 : Tok) (m : Str → Option Value) : Str → Option Value :=
  upd [(Str.ofString "mark", .str mk q1), (Str.ofString "second", .int sec q3), (Str.ofString "third", .int thi q2), (Str.ofString "x", .int x q4), (Str.ofString "number", .int num q5), (Str.ofString "k", .int k q6)] m
abbrev replyOf (mk : Str) (lp : List (Str × Tok)) : Str := Str.ofString "229 (" ++ mk ++ Txt.join mk (lp.map fun x => x.1) ++ mk ++ Str.ofString ")"
def PB (h₀ : Heap) (L : Addr) (m : Str → Option Value) (nw : List (Addr × Obj)) (s : Shared) (mk : Str) (R : List (Str × Tok) → Prop) (fl : Flow) (s' : Shared) : Prop :=
  fl = .next ∧ ∃ (lp : List (Str × Tok)) (q : Tok) (h' : Heap) (tk' : Nat) (gens : Array GenState), s' = { s with heap := h', toks := tk', gens := gens } ∧ (AllBare s.gens → AllBare gens) ∧ R lp ∧
    Fr h₀ L h' (upd [(Str.ofString "reply", .str (replyOf mk lp) q)] m) ∧ News h₀ L h' nw
theorem markC_len {mk : Str} (h : MarkC mk) : mk.length = 1 := by obtain ⟨c, rfl, _⟩ := h; rfl
set_option maxRecDepth 100000 in
set_option maxHeartbeats 8000000 in
theorem turn_b {w : World} {name qual : Str} {params : Arguments} {body : List Stmt} {scope : Scope} {cdv : Value} (hbody : LawAt w name qual params body scope cdv)
    {mean : ExcName → Option Value} {mg mb : Str → Option Value} {dp un : Nat} {fr : Option (List Env)} {gd : Option (List Code)} {s : Shared} {h₀ : Heap} {L fa : Addr} {h : Heap} {tk : Nat} {g0 : Array GenState}
    (KX : (Mine.wn_hd.heap_39 w.params).In h₀) (T : Top Mine.wn_hd.view_39 (looseW Mine.wn_hd.view_39 [Str.ofString "_twin_re_1", Str.ofString "_twin_re_2"]) mean mg mb h₀) (hroom : dp + 40 < recursionLimit) (hu : un + 80 < cLine)
    {SL D TL PT SZ : Addr} {m u : Str → Option Value}
    {f ring step front num sec thi x k : Int} {mk : Str} {tf tr ts tfr q1 q2 q3 q4 q5 q6 : Tok} (hnum : 100000 ≤ num ∧ num ≤ 999999) (hmk : MarkC mk) {three : Prop} (hT : Told f [f, sec, thi] three)
    (F : Fr h₀ L h (turnMap num sec thi x k mk q1 q2 q3 q4 q5 q6 (updU turnNames u (lawMap TL PT SZ D SL f ring step front tf tr ts tfr m)))) {nw : List (Addr × Obj)} (N : News h₀ L h nw) :
    wpAny (model PySem.Challenge.rw_wn0012_01.row.prog w) ⟨none, dp, fr, gd, un⟩ (execs (((forBody (body.getD 9 (.Pass default))).drop 4).take 1) (envOfC name scope L fa cdv))
      (PB h₀ L (turnMap num sec thi x k mk q1 q2 q3 q4 q5 q6 (updU turnNames u (lawMap TL PT SZ D SL f ring step front tf tr ts tfr m))) nw { s with gens := g0 } mk
        (fun lp => ∃ G, GroupsOk f (figs6 num) G ∧ (G.length = 3 ↔ three) ∧ cpsOf lp = G)) NoE { s with heap := h, toks := tk, gens := g0 } := by
  w_on
  obtain ⟨_, _, _, _, _, _, _, _, _, _, hb⟩ := hbody
  obtain ⟨rfl, rfl, rfl, rfl⟩ := law_open hb (by k_is)
  clear hb
  dsimp only [List.take, List.drop, List.getD, List.getElem?_cons_succ, List.getElem?_cons_zero, Option.getD, forBody]
  k_steps
  refine Stopped.go ?_
  (rename Fr _ _ _ _ => F9); (rename News _ _ _ _ => N9)
  dsimp only at F9 N9 ⊢
  obtain ⟨val, fin, n, hE, hval, hnf, hG⟩ := hT
  obtain ⟨G1, G2⟩ := hG (48 + (num / 100000 % 10).toNat) (48 + (num / 10000 % 10).toNat) (48 + (num / 1000 % 10).toNat) (48 + (num / 100 % 10).toNat) (48 + (num / 10 % 10).toNat) (48 + (num % 10).toNat)
  refine reply_spec (n := n) (val := val) (fin := fin) (xs := [f, sec, thi]) (ws := #[.int f tf, .int sec q3, .int thi q2]) (KX.keeps F9.keep) ((Top.keeps T) F9.keep) hroom hu ⟨⟨_, rfl⟩, ⟨_, rfl⟩, ⟨_, rfl⟩, rfl⟩ hE ⟨_, (N9 _ (.head _)).1, rfl, _, rfl⟩ hval hnf hnum (markC_len hmk) ?_
  intro h' tk' tv gens lp hx hb hlp
  rw [digits6 hnum] at hlp
  have F8 := Fr.keptAll F9 hx
  have N8 := news_ext N9 hx
  clear F9 N9
  k_steps
  (rename Fr _ _ _ _ => F7); (rename News _ _ _ _ => N7)
  dsimp only at F7 N7 ⊢
  exact ⟨rfl, lp, _, _, _, _, rfl, hb, ⟨_, G1, G2, hlp⟩, F7, fun p hp => N7 p (.tail _ hp)⟩
end Mine
end PartT2
section PartT3
open PySem PySem.W PyProof.Rows PySem.Calls PySem.Spec
namespace Mine

local macro_rules | `(tactic| walk_at "WN upd_same") => `(tactic| (intro p hp; repeat' (first | (cases hp; done) | (rcases List.mem_cons.mp hp with he | hp; · subst he; rfl))))
local macro_rules | `(tactic| walk_at "WN upd_rest") => `(tactic| (intro z hz; simp only [List.forall_mem_cons] at hz; (try dsimp only); simp only [Mine.upd, Mine.updO, hz, if_false, reduceIte]))
local macro_rules | `(tactic| walk_at "WN upd_restO") => `(tactic| (intro z hx hz; simp only [List.forall_mem_cons] at hz; (try dsimp only); simp only [Mine.upd, Mine.updO, hx, hz, if_false, reduceIte]))
local macro_rules | `(tactic| walk_at "WN upd_off") => `(tactic| (intro p hp; repeat' (first | (cases hp; done) | (rcases List.mem_cons.mp hp with he | hp; · (subst he; (try dsimp only); decide)))))
local macro_rules | `(tactic| walk_at "exec While Compare cons nil") => `(tactic| refine Mine.stop ?_)
local macro_rules | `(tactic| walk_at "exec For Name Call cons nil") => `(tactic| k_dflt (refine Mine.for_ok ?_))
local macro_rules | `(tactic| walk_at "pyIter ref") => `(tactic| refine Mine.stop ?_)
local macro_rules | `(tactic| walk_at "call builtin:list.append") => `(tactic| (k_here; (with_unfolding_all (show wpAny _ _ (PySem.call (Value.builtin _) [Value.ref _, _]) _ _ _)); k_dflt (refine' append_K ?k1 ?k2 ?k3 ?_ ?z; (case k1 => k_asm); (case k2 => k_asm); (case k3 => k_upd); (case z => size_fits); k_whole); intro h' F' N'; (try k_sweep)))

local macro_rules | `(tactic| walk_at "call ref") => `(tactic| refine Mine.stop ?_)
local macro_rules | `(tactic| walk_at "call type:str") => `(tactic| refine Mine.stop ?_)
local macro_rules | `(tactic| walk_at "bind") => `(tactic| refine Mine.stop ?_)
theorem below_law {env : Env} {dp un : Nat} {gd : Option (List Code)} {h₀ h : Heap} {L : Addr} {m : Str → Option Value} (hf : env.frame = some L) (hk : env.scope.kind = .function) (F : Fr h₀ L h m) :
    Below ⟨none, dp, some [env], gd, un⟩ (hideAll h [L]) [env] h :=
  ⟨rfl, fun b o e => of_hideAll _ e, .cons (by rw [hk]; decide) hf F.ns (hideAll_none _ (.head _)) trivial⟩
def PC (h₀ : Heap) (L : Addr) (m : Str → Option Value) (nw : List (Addr × Obj)) (s : Shared) (resp : Str) (v : Int) (three : Prop) (fl : Flow) (s' : Shared) : Prop :=
  fl = .next ∧ ∃ (av : Value) (u' : Str → Option Value) (nw' : List (Addr × Obj)) (h' : Heap) (tk' : Nat), s' = { s with heap := h', toks := tk' } ∧
    Fr h₀ L h' (upd [(Str.ofString "answer", av)] (updU [Str.ofString "refusal"] u' m)) ∧ News h₀ L h' (nw' ++ nw) ∧
    ((three ∧ ∃ R t1 t2, av = .ref R ∧ nw' = [(R, { cls := .type "tuple", data := .seq #[.str (Str.ofString "host") t1, .int v t2] })]) ∨ (¬ three ∧ nw' = [] ∧ ∃ t, av = .str resp t))
theorem PC.go {h₀ : Heap} {L : Addr} {m m' : Str → Option Value} {nw nw' : List (Addr × Obj)} {s : Shared} {resp : Str} {v : Int} {three : Prop} {av : Value} {h' : Heap} {tk' : Nat} (F : Fr h₀ L h' m') (N : News h₀ L h' (nw' ++ nw))
    (h1 : m' (Str.ofString "answer") = some av) (h2 : ∀ z, z ≠ Str.ofString "answer" → z ≠ Str.ofString "refusal" → m' z = m z)
    (h3 : (three ∧ ∃ R t1 t2, av = .ref R ∧ nw' = [(R, { cls := .type "tuple", data := .seq #[.str (Str.ofString "host") t1, .int v t2] })]) ∨ (¬ three ∧ nw' = [] ∧ ∃ t, av = .str resp t)) :
    PC h₀ L m nw s resp v three .next { s with heap := h', toks := tk' } := by
  have e : m' = upd [(Str.ofString "answer", av)] (updU [Str.ofString "refusal"] m' m) := funext fun z => by
    simp only [upd, updU]
    by_cases ha : z = Str.ofString "answer"
    · rw [if_pos ha, ha, h1]
    · rw [if_neg ha]
      by_cases hr : z = Str.ofString "refusal"
      · rw [if_pos hr, hr]
      · rw [if_neg hr]; exact h2 z ha hr
  exact ⟨rfl, av, m', nw', h', tk', rfl, e ▸ F, N, h3⟩
theorem name_goes_X {prog : Program} {w : World} {A : Around} {E : Value → Shared → Prop} {s : Shared} {h₀ : Heap} {L a : Addr} {m : Str → Option Value} {name : Str} {scope : Scope} {cd : Value} {cells : List (Str × Addr)} {n : Str} {pos : Pos} {Q : Unit → Shared → Prop} {news : List (Addr × Obj)} (F : Fr h₀ L s.heap m) (N : News h₀ L s.heap news)
    (h : ∀ h' v, Fr h₀ L h' (fun x => if x = n then v else m x) → News h₀ L h' news → Q () { s with heap := h', toks := s.toks + 1 })
    (hk : scope.kind = .function := by rfl) (hl : (envX name scope L a cd cells).kindOf n = some .local := by rfl) :
    wpAny (model prog w) A (do bindName (envX name scope L a cd cells) n .none; unbindBehindTheSuite (envX name scope L a cd cells) n pos) Q E s :=
  wpAny_nameGoes_keeps hl F.ns (by show (scope.kind == .class || (scope.kind == .module && L != mainGlobals)) = false; rw [hk]; rfl) fun h' v hn hs => h h' v (F.set hn hs) (N.set hs)
set_option maxRecDepth 100000 in
set_option maxHeartbeats 8000000 in
theorem turn_c {w : World} {name qual : Str} {params : Arguments} {body : List Stmt} {scope : Scope} {cdv : Value} (hbody : LawAt w name qual params body scope cdv)
    {mean : ExcName → Option Value} {mg mb : Str → Option Value} {dp un : Nat} {gd : Option (List Code)} {s : Shared} {h₀ : Heap} {L fa : Addr} {h : Heap} {tk : Nat} {g0 : Array GenState}
    (KX : (Mine.wn_hd.heap_39 w.params).In h₀) (T : Top Mine.wn_hd.view_39 (looseW Mine.wn_hd.view_39 [Str.ofString "_twin_re_1", Str.ofString "_twin_re_2"]) mean mg mb h₀) (hroom : dp + 40 < recursionLimit) (hu : un + 80 < cLine)
    {SL D TL PT SZ : Addr} {m u : Str → Option Value}
    {f ring step front num sec thi x k : Int} {mk resp : Str} {tf tr ts tfr q1 q2 q3 q4 q5 q6 q7 t6 t7 : Tok} {parts : List Str} {three : Prop} {v : Int} (P : ParseFacts resp v parts three)
    (F : Fr h₀ L h (upd [(Str.ofString "reply", .str resp q7)] (turnMap num sec thi x k mk q1 q2 q3 q4 q5 q6 (updU turnNames u (lawMap TL PT SZ D SL f ring step front tf tr ts tfr m))))) {nw : List (Addr × Obj)} (N : News h₀ L h ((PT, { cls := .type "tuple", data := .seq #[.str (Str.ofString "host") t6, .int step t7] }) :: nw)) :
    wpAny (model PySem.Challenge.rw_wn0012_01.row.prog w) ⟨none, dp, some [envOfC name scope L fa cdv], gd, un⟩ (execs (((forBody (body.getD 9 (.Pass default))).drop 5).take 1) (envOfC name scope L fa cdv))
      (PC h₀ L (upd [(Str.ofString "reply", .str resp q7)] (turnMap num sec thi x k mk q1 q2 q3 q4 q5 q6 (updU turnNames u (lawMap TL PT SZ D SL f ring step front tf tr ts tfr m)))) ((PT, { cls := .type "tuple", data := .seq #[.str (Str.ofString "host") t6, .int step t7] }) :: nw) { s with gens := g0 } resp v three) NoE { s with heap := h, toks := tk, gens := g0 } := by
  w_on
  obtain ⟨_, _, _, _, _, _, _, _, _, _, hb⟩ := hbody
  obtain ⟨rfl, rfl, rfl, rfl⟩ := law_open hb (by k_is)
  clear hb
  dsimp only [List.take, List.drop, List.getD, List.getElem?_cons_succ, List.getElem?_cons_zero, Option.getD, forBody]
  k_steps
  refine Stopped.go ?_
  (rename Fr _ _ _ _ => F9); (rename News _ _ _ _ => N9)
  (try dsimp only at F9 N9 ⊢)
  refine parse_spec (KX.keeps F9.keep) ((Top.keeps T) F9.keep) hroom hu (below_law rfl rfl F9) (News.isTup N9 (.head _)) P.len P.len8 P.h3 P.hf1 P.hf2 P.hmk P.hsp P.port (fun h5 h' tk' R t1 t2 hx hR hR0 => ?_) (fun h5 h' tk' e t hR hU => ?_)
  · have F8 := Fr.keptAll F9 hx
    have N8 := news_ext N9 hx
    have hRb : h₀.get? R = none := by
      cases hb : h₀.get? R with
      | none => rfl
      | some o => have := F9.keep _ _ hb; dsimp only at hR0; rw [hR0] at this; cases this
    have hRL : R ≠ L := fun q => by
      obtain ⟨o, ho, hd⟩ := ns_dict F9.ns
      dsimp only at hR0
      rw [← q, hR0] at ho; cases ho
    have N7 : News h₀ L h' ((R, { cls := .type "tuple", data := .seq #[.str (Str.ofString "host") t1, .int v t2] }) :: (PT, { cls := .type "tuple", data := .seq #[.str (Str.ofString "host") t6, .int step t7] }) :: nw) := fun p hp => by
      rcases List.mem_cons.mp hp with rfl | hp
      · exact ⟨hR, hRL, hRb⟩
      · exact N8 p hp
    clear F9 N9 N8 hx hR hR0
    k_steps
    (rename Fr _ _ _ _ => F5); (rename News _ _ _ _ => N5)
    (try dsimp only at F5 N5 ⊢)
    exact PC.go F5 N5 rfl (fun z h1 h2 => by simp only [h1, if_false]) (.inl ⟨P.five.mp h5, R, t1, t2, rfl, rfl⟩)
  · have hb0 : h₀.StaysIn (hideAll h [L]) := fun b o q => hideAll_get _ (F9.keep b o q) (by
      intro hm
      rw [List.mem_singleton.mp hm] at q
      exact Nat.lt_irrefl _ (Nat.lt_of_lt_of_le (Heap.lt_size q) F9.above))
    refine caught_own (bmB := [.type "Exception", .type "BaseException", .type "object"]) (newId := "Exception.__new__") rfl F9 hU hR hb0 (news := (PT, { cls := .type "tuple", data := .seq #[.str (Str.ofString "host") t6, .int step t7] }) :: nw)
      (fun q hq => ⟨hideAll_get _ (N9 q hq).1 (fun hm => (N9 q hq).2.1 (List.mem_singleton.mp hm)), (N9 q hq).2⟩) KX (topRead_of T) (by k_is) (by k_exc) rfl (fun h7 tk7 oe ot F7 N7 hoe hot => ?_)
    clear F9 N9 hb0 hU hR
    k_steps
    refine Stopped.go ?_
    (rename Fr _ _ _ _ => F5); (rename News _ _ _ _ => N5)
    (try dsimp only at F5 N5 ⊢)
    obtain ⟨hoc, ws, hod, hw0⟩ := hoe
    obtain ⟨htc, c, htd⟩ := hot
    refine str_own (C := 73) (t0 := t) (KX.keeps F5.keep) (own73 w).1 (own73 w).2 ?hu1 ⟨oe, ws, (N5 _ (.head _)).1, hoc, hod, hw0⟩ ⟨ot, c, (N5 _ (.tail _ (.head _))).1, htc, htd⟩ ?_
    case hu1 => show un + 2 < _; omega
    k_steps
    refine Stopped.go ?_
    (rename Fr _ _ _ _ => F4); (rename News _ _ _ _ => N4)
    (try dsimp only at F4 N4 ⊢)
    refine name_goes_X F4 N4 fun h9 v9 F3 N3 => ?_
    clear F4 N4
    (try dsimp only at F3 N3 ⊢)
    refine wpAny_execs_nil ?_
    exact PC.go (nw' := []) F3 (fun p hp => N3 p (.tail _ (.tail _ hp))) rfl (fun z h1 h2 => by simp only [h1, h2, if_false]) (.inr ⟨fun h => h5 (P.five.mpr h), rfl, _, rfl⟩)
end Mine
end PartT3
section PartT4
open PySem PySem.W PyProof.Rows PySem.Calls PySem.Spec
namespace Mine

local macro_rules | `(tactic| walk_at "WN upd_same") => `(tactic| (intro p hp; repeat' (first | (cases hp; done) | (rcases List.mem_cons.mp hp with he | hp; · subst he; rfl))))
local macro_rules | `(tactic| walk_at "WN upd_rest") => `(tactic| (intro z hz; simp only [List.forall_mem_cons] at hz; (try dsimp only); simp only [Mine.upd, Mine.updO, hz, if_false, reduceIte]))
local macro_rules | `(tactic| walk_at "WN upd_restO") => `(tactic| (intro z hx hz; simp only [List.forall_mem_cons] at hz; (try dsimp only); simp only [Mine.upd, Mine.updO, hx, hz, if_false, reduceIte]))
local macro_rules | `(tactic| walk_at "WN upd_off") => `(tactic| (intro p hp; repeat' (first | (cases hp; done) | (rcases List.mem_cons.mp hp with he | hp; · (subst he; (try dsimp only); decide)))))
local macro_rules | `(tactic| walk_at "exec While Compare cons nil") => `(tactic| refine Mine.stop ?_)
local macro_rules | `(tactic| walk_at "exec For Name Call cons nil") => `(tactic| k_dflt (refine Mine.for_ok ?_))
local macro_rules | `(tactic| walk_at "pyIter ref") => `(tactic| refine Mine.stop ?_)
local macro_rules | `(tactic| walk_at "call builtin:list.append") => `(tactic| (k_here; (with_unfolding_all (show wpAny _ _ (PySem.call (Value.builtin _) [Value.ref _, _]) _ _ _)); k_dflt (refine' append_K ?k1 ?k2 ?k3 ?_ ?z; (case k1 => k_asm); (case k2 => k_asm); (case k3 => k_upd); (case z => size_fits); k_whole); intro h' F' N'; (try k_sweep)))

local macro_rules | `(tactic| walk_at "call ref") => `(tactic| refine Mine.stop ?_)
abbrev ansMap (av : Value) (u' : Str → Option Value) (resp : Str) (q7 : Tok) (m : Str → Option Value) : Str → Option Value :=
  upd [(Str.ofString "answer", av)] (updU [Str.ofString "refusal"] u' (upd [(Str.ofString "reply", .str resp q7)] m))
def PD (h₀ : Heap) (L : Addr) (m : Str → Option Value) (nw : List (Addr × Obj)) (s : Shared) (fl : Flow) (s' : Shared) : Prop :=
  fl = .next ∧ ∃ (h' : Heap) (tk' : Nat), s' = { s with heap := h', toks := tk' } ∧ Fr h₀ L h' m ∧ News h₀ L h' nw
set_option maxRecDepth 100000 in
set_option maxHeartbeats 8000000 in
theorem turn_d1 {w : World} {name qual : Str} {params : Arguments} {body : List Stmt} {scope : Scope} {cdv : Value} (hbody : LawAt w name qual params body scope cdv)
    {mean : ExcName → Option Value} {mg mb : Str → Option Value} {dp un : Nat} {fr : Option (List Env)} {gd : Option (List Code)} {s : Shared} {h₀ : Heap} {L fa : Addr} {h : Heap} {tk : Nat} {g0 : Array GenState}
    (KX : (Mine.wn_hd.heap_39 w.params).In h₀) (T : Top Mine.wn_hd.view_39 (looseW Mine.wn_hd.view_39 [Str.ofString "_twin_re_1", Str.ofString "_twin_re_2"]) mean mg mb h₀) (hroom : dp + 40 < recursionLimit) (hu : un + 80 < cLine)
    {SL D TL PT SZ : Addr} {m u u' : Str → Option Value}
    {f ring step front num sec thi x k : Int} (hC : LawC f ring step front) (hnum : 100000 ≤ num ∧ num ≤ 999999) (hs : SizeOk sec) (ht : SizeOk thi) {mk resp : Str} {tf tr ts tfr q1 q2 q3 q4 q5 q6 q7 q8 q9 : Tok} {R : Addr} (h3 : partsZ f sec thi = 3)
    (F : Fr h₀ L h (ansMap (.ref R) u' resp q7 (turnMap num sec thi x k mk q1 q2 q3 q4 q5 q6 (updU turnNames u (lawMap TL PT SZ D SL f ring step front tf tr ts tfr m))))) {nw : List (Addr × Obj)}
    (N : News h₀ L h ((R, { cls := .type "tuple", data := .seq #[.str (Str.ofString "host") q8, .int (num % ring) q9] }) :: nw)) :
    wpAny (model PySem.Challenge.rw_wn0012_01.row.prog w) ⟨none, dp, fr, gd, un⟩ (execs (((forBody (body.getD 9 (.Pass default))).drop 6).take 1) (envOfC name scope L fa cdv))
      (PD h₀ L (ansMap (.ref R) u' resp q7 (turnMap num sec thi x k mk q1 q2 q3 q4 q5 q6 (updU turnNames u (lawMap TL PT SZ D SL f ring step front tf tr ts tfr m)))) nw { s with gens := g0 }) NoE { s with heap := h, toks := tk, gens := g0 } := by
  w_on
  obtain ⟨_, _, _, _, _, _, _, _, _, _, hb⟩ := hbody
  obtain ⟨rfl, rfl, rfl, rfl⟩ := law_open hb (by k_is)
  clear hb
  dsimp only [List.take, List.drop, List.getD, List.getElem?_cons_succ, List.getElem?_cons_zero, Option.getD, forBody]
  obtain ⟨hc1, hc2, hc3, hc4, hc5, hc6⟩ := id hC
  have hr : ring = 10 ∨ ring = 100 := by omega
  have hf : f = 1 ∨ f = 2 := by omega
  k_steps
  refine Stopped.go ?_
  (rename Fr _ _ _ _ => F9); (rename News _ _ _ _ => N9)
  (try dsimp only at F9 N9 ⊢)
  refine parts_spec (KX.keeps F9.keep) ((Top.keeps T) F9.keep) (Nat.lt_of_le_of_lt (by omega) hroom) (Nat.lt_of_le_of_lt (by omega) hu) hf (by unfold SizeOk at hs; omega) (by unfold SizeOk at ht; omega) (fun h' tk' tv hx => ?_)
  rw [h3]
  have F8 := Fr.keptAll F9 hx
  have N8 := news_ext N9 hx
  clear F9 N9 hx
  have hfm : num % ring = num.fmod ring := (Int.fmod_eq_emod_of_nonneg _ (by omega)).symm
  k_steps
  · (rename Fr _ _ _ _ => F7); (rename News _ _ _ _ => N7)
    (try dsimp only at F7 N7 ⊢)
    exact ⟨rfl, _, _, rfl, F7, fun p hp => N7 p (.tail _ (.tail _ hp))⟩
  · exact absurd hfm (by assumption)
set_option maxRecDepth 100000 in
set_option maxHeartbeats 8000000 in
theorem turn_d2 {w : World} {name qual : Str} {params : Arguments} {body : List Stmt} {scope : Scope} {cdv : Value} (hbody : LawAt w name qual params body scope cdv)
    {mean : ExcName → Option Value} {mg mb : Str → Option Value} {dp un : Nat} {fr : Option (List Env)} {gd : Option (List Code)} {s : Shared} {h₀ : Heap} {L fa : Addr} {h : Heap} {tk : Nat} {g0 : Array GenState}
    (KX : (Mine.wn_hd.heap_39 w.params).In h₀) (T : Top Mine.wn_hd.view_39 (looseW Mine.wn_hd.view_39 [Str.ofString "_twin_re_1", Str.ofString "_twin_re_2"]) mean mg mb h₀) (hroom : dp + 40 < recursionLimit) (hu : un + 80 < cLine)
    {SL D TL PT SZ : Addr} {m u u' : Str → Option Value}
    {f ring step front num sec thi x k : Int} (hC : LawC f ring step front) (hnum : 100000 ≤ num ∧ num ≤ 999999) (hs : SizeOk sec) (ht : SizeOk thi) {mk resp : Str} {tf tr ts tfr q1 q2 q3 q4 q5 q6 q7 q8 : Tok} (h3 : partsZ f sec thi ≠ 3)
    (F : Fr h₀ L h (ansMap (.str resp q8) u' resp q7 (turnMap num sec thi x k mk q1 q2 q3 q4 q5 q6 (updU turnNames u (lawMap TL PT SZ D SL f ring step front tf tr ts tfr m))))) {nw : List (Addr × Obj)}
    (N : News h₀ L h nw) :
    wpAny (model PySem.Challenge.rw_wn0012_01.row.prog w) ⟨none, dp, fr, gd, un⟩ (execs (((forBody (body.getD 9 (.Pass default))).drop 6).take 1) (envOfC name scope L fa cdv))
      (PD h₀ L (ansMap (.str resp q8) u' resp q7 (turnMap num sec thi x k mk q1 q2 q3 q4 q5 q6 (updU turnNames u (lawMap TL PT SZ D SL f ring step front tf tr ts tfr m)))) nw { s with gens := g0 }) NoE { s with heap := h, toks := tk, gens := g0 } := by
  w_on
  obtain ⟨_, _, _, _, _, _, _, _, _, _, hb⟩ := hbody
  obtain ⟨rfl, rfl, rfl, rfl⟩ := law_open hb (by k_is)
  clear hb
  dsimp only [List.take, List.drop, List.getD, List.getElem?_cons_succ, List.getElem?_cons_zero, Option.getD, forBody]
  obtain ⟨hc1, hc2, hc3, hc4, hc5, hc6⟩ := id hC
  have hr : ring = 10 ∨ ring = 100 := by omega
  have hf : f = 1 ∨ f = 2 := by omega
  k_steps
  refine Stopped.go ?_
  (rename Fr _ _ _ _ => F9); (rename News _ _ _ _ => N9)
  (try dsimp only at F9 N9 ⊢)
  refine parts_spec (KX.keeps F9.keep) ((Top.keeps T) F9.keep) (Nat.lt_of_le_of_lt (by omega) hroom) (Nat.lt_of_le_of_lt (by omega) hu) hf (by unfold SizeOk at hs; omega) (by unfold SizeOk at ht; omega) (fun h' tk' tv hx => ?_)
  have F8 := Fr.keptAll F9 hx
  have N8 := news_ext N9 hx
  clear F9 N9 hx
  generalize hz : partsZ f sec thi = z at *
  k_steps
  · exact absurd (by assumption) h3
  · exfalso
    (rename (_ != _) = true => hc)
    simp at hc
  · (rename Fr _ _ _ _ => F7); (rename News _ _ _ _ => N7)
    (try dsimp only at F7 N7 ⊢)
    exact ⟨rfl, _, _, rfl, F7, N7⟩
end Mine
end PartT4
section PartT5
open PySem PySem.W PyProof.Rows PySem.Calls PySem.Spec
namespace Mine

local macro_rules | `(tactic| walk_at "WN upd_same") => `(tactic| (intro p hp; repeat' (first | (cases hp; done) | (rcases List.mem_cons.mp hp with he | hp; · subst he; rfl))))
local macro_rules | `(tactic| walk_at "WN upd_rest") => `(tactic| (intro z hz; simp only [List.forall_mem_cons] at hz; (try dsimp only); simp only [Mine.upd, Mine.updO, hz, if_false, reduceIte]))
local macro_rules | `(tactic| walk_at "WN upd_restO") => `(tactic| (intro z hx hz; simp only [List.forall_mem_cons] at hz; (try dsimp only); simp only [Mine.upd, Mine.updO, hx, hz, if_false, reduceIte]))
local macro_rules | `(tactic| walk_at "WN upd_off") => `(tactic| (intro p hp; repeat' (first | (cases hp; done) | (rcases List.mem_cons.mp hp with he | hp; · (subst he; (try dsimp only); decide)))))
local macro_rules | `(tactic| walk_at "exec While Compare cons nil") => `(tactic| refine Mine.stop ?_)
local macro_rules | `(tactic| walk_at "exec For Name Call cons nil") => `(tactic| k_dflt (refine Mine.for_ok ?_))
local macro_rules | `(tactic| walk_at "pyIter ref") => `(tactic| refine Mine.stop ?_)
local macro_rules | `(tactic| walk_at "call builtin:list.append") => `(tactic| (k_here; (with_unfolding_all (show wpAny _ _ (PySem.call (Value.builtin _) [Value.ref _, _]) _ _ _)); k_dflt (refine' append_K ?k1 ?k2 ?k3 ?_ ?z; (case k1 => k_asm); (case k2 => k_asm); (case k3 => k_upd); (case z => size_fits); k_whole); intro h' F' N'; (try k_sweep)))

local macro_rules | `(tactic| walk_at "call ref") => `(tactic| refine Mine.stop ?_)
def PE (h₀ : Heap) (L : Addr) (m : Str → Option Value) (nw : List (Addr × Obj)) (s : Shared) (v : Int) (fl : Flow) (s' : Shared) : Prop :=
  fl = .next ∧ ∃ (q8 q9 : Tok) (h' : Heap) (tk' : Nat) (gens : Array GenState), s' = { s with heap := h', toks := tk', gens := gens } ∧ (AllBare s.gens → AllBare gens) ∧
    Fr h₀ L h' (upd [(Str.ofString "place", .int v q9), (Str.ofString "host", .str (Str.ofString "host") q8)] m) ∧ News h₀ L h' nw
set_option maxRecDepth 100000 in
set_option maxHeartbeats 8000000 in
theorem turn_e {w : World} {name qual : Str} {params : Arguments} {body : List Stmt} {scope : Scope} {cdv : Value} (hbody : LawAt w name qual params body scope cdv)
    {mean : ExcName → Option Value} {mg mb : Str → Option Value} {dp un : Nat} {gd : Option (List Code)} {s : Shared} {h₀ : Heap} {L fa : Addr} {h : Heap} {tk : Nat} {g0 : Array GenState}
    (KX : (Mine.wn_hd.heap_39 w.params).In h₀) (T : Top Mine.wn_hd.view_39 (looseW Mine.wn_hd.view_39 [Str.ofString "_twin_re_1", Str.ofString "_twin_re_2"]) mean mg mb h₀) (hroom : dp + 40 < recursionLimit) (hu : un + 80 < cLine)
    {SL D TL PT SZ : Addr} {m u u' : Str → Option Value}
    {f ring step front num sec thi x k : Int} (hC : LawC f ring step front) (hnum : 100000 ≤ num ∧ num ≤ 999999) {mk resp : Str} (hmk : MarkC mk) {av : Value} {tf tr ts tfr q1 q2 q3 q4 q5 q6 q7 t6 t7 : Tok}
    (F : Fr h₀ L h (ansMap av u' resp q7 (turnMap num sec thi x k mk q1 q2 q3 q4 q5 q6 (updU turnNames u (lawMap TL PT SZ D SL f ring step front tf tr ts tfr m))))) {nw : List (Addr × Obj)}
    (N : News h₀ L h ((PT, { cls := .type "tuple", data := .seq #[.str (Str.ofString "host") t6, .int step t7] }) :: nw)) :
    wpAny (model PySem.Challenge.rw_wn0012_01.row.prog w) ⟨none, dp, some [envOfC name scope L fa cdv], gd, un⟩ (execs (((forBody (body.getD 9 (.Pass default))).drop 7).take 1) (envOfC name scope L fa cdv))
      (PE h₀ L (ansMap av u' resp q7 (turnMap num sec thi x k mk q1 q2 q3 q4 q5 q6 (updU turnNames u (lawMap TL PT SZ D SL f ring step front tf tr ts tfr m)))) ((PT, { cls := .type "tuple", data := .seq #[.str (Str.ofString "host") t6, .int step t7] }) :: nw) { s with gens := g0 } (num % ring)) NoE { s with heap := h, toks := tk, gens := g0 } := by
  w_on
  obtain ⟨_, _, _, _, _, _, _, _, _, _, hb⟩ := hbody
  obtain ⟨rfl, rfl, rfl, rfl⟩ := law_open hb (by k_is)
  clear hb
  dsimp only [List.take, List.drop, List.getD, List.getElem?_cons_succ, List.getElem?_cons_zero, Option.getD, forBody]
  obtain ⟨hc1, hc2, hc3, hc4, hc5, hc6⟩ := id hC
  have hf : f = 1 ∨ f = 2 := by omega
  k_steps
  refine Stopped.go ?_
  (rename Fr _ _ _ _ => F9); (rename News _ _ _ _ => N9)
  (try dsimp only at F9 N9 ⊢)
  obtain ⟨val, fin, n, hE, hval, hnf, hG⟩ := told_four hf
  obtain ⟨G1, G2⟩ := hG (48 + (num / 100000 % 10).toNat) (48 + (num / 10000 % 10).toNat) (48 + (num / 1000 % 10).toNat) (48 + (num / 100 % 10).toNat) (48 + (num / 10 % 10).toNat) (48 + (num % 10).toNat)
  refine reply_spec (n := n) (val := val) (fin := fin) (xs := [f, 3, 0, 127]) (KX.keeps F9.keep) ((Top.keeps T) F9.keep) hroom hu ?hxs hE ⟨_, (N9 _ (.head _)).1, rfl, _, rfl⟩ hval hnf hnum (markC_len hmk) ?_
  case hxs => exact ⟨⟨_, rfl⟩, ⟨_, rfl⟩, ⟨_, rfl⟩, ⟨_, rfl⟩, rfl⟩
  intro h' tk' tv gens lp hx hb hlp
  rw [digits6 hnum] at hlp
  have F8 := Fr.keptAll F9 hx
  have N8 := news_ext N9 hx
  have P := parse_facts hC hnum hmk G1 G2 hlp
  clear F9 N9 hx
  k_steps
  refine Stopped.go ?_
  (rename Fr _ _ _ _ => F9); (rename News _ _ _ _ => N9)
  (try dsimp only at F9 N9 ⊢)
  refine parse_spec (KX.keeps F9.keep) ((Top.keeps T) F9.keep) hroom hu (below_law rfl rfl F9) (News.isTup N9 (.tail _ (.head _))) P.len P.len8 P.h3 P.hf1 P.hf2 P.hmk P.hsp P.port (fun h5 h' tk' R t1 t2 hx hR hR0 => ?_) (fun h5 => absurd (P.five.mpr rfl) h5)
  have F7 := Fr.keptAll F9 hx
  have N8 := news_ext N9 hx
  have hRb : h₀.get? R = none := by
    cases hb : h₀.get? R with
    | none => rfl
    | some o => have := F9.keep _ _ hb; dsimp only at hR0; rw [hR0] at this; cases this
  have hRL : R ≠ L := fun q => by
    obtain ⟨o, ho, hd⟩ := ns_dict F9.ns
    dsimp only at hR0
    rw [← q, hR0] at ho; cases ho
  have N7 : News h₀ L h' ((R, { cls := .type "tuple", data := .seq #[.str (Str.ofString "host") t1, .int (num % ring) t2] }) :: (PT, { cls := .type "tuple", data := .seq #[.str (Str.ofString "host") t6, .int step t7] }) :: nw) := fun p hp => by
    rcases List.mem_cons.mp hp with rfl | hp
    · exact ⟨hR, hRL, hRb⟩
    · exact N8 p (.tail _ hp)
  clear F9 N9 N8 hx hR hR0
  k_steps
  (rename Fr _ _ _ _ => F5); (rename News _ _ _ _ => N5)
  (try dsimp only at F5 N5 ⊢)
  exact ⟨rfl, _, _, _, _, _, rfl, hb, F5, fun p hp => N5 p (.tail _ hp)⟩
end Mine
end PartT5
section PartT6
open PySem PySem.W PyProof.Rows PySem.Calls PySem.Spec
namespace Mine

local macro_rules | `(tactic| walk_at "WN upd_same") => `(tactic| (intro p hp; repeat' (first | (cases hp; done) | (rcases List.mem_cons.mp hp with he | hp; · subst he; rfl))))
local macro_rules | `(tactic| walk_at "WN upd_rest") => `(tactic| (intro z hz; simp only [List.forall_mem_cons] at hz; (try dsimp only); simp only [Mine.upd, Mine.updO, hz, if_false, reduceIte]))
local macro_rules | `(tactic| walk_at "WN upd_restO") => `(tactic| (intro z hx hz; simp only [List.forall_mem_cons] at hz; (try dsimp only); simp only [Mine.upd, Mine.updO, hx, hz, if_false, reduceIte]))
local macro_rules | `(tactic| walk_at "WN upd_off") => `(tactic| (intro p hp; repeat' (first | (cases hp; done) | (rcases List.mem_cons.mp hp with he | hp; · (subst he; (try dsimp only); decide)))))
local macro_rules | `(tactic| walk_at "exec While Compare cons nil") => `(tactic| refine Mine.stop ?_)
local macro_rules | `(tactic| walk_at "exec For Name Call cons nil") => `(tactic| k_dflt (refine Mine.for_ok ?_))
local macro_rules | `(tactic| walk_at "pyIter ref") => `(tactic| refine Mine.stop ?_)
local macro_rules | `(tactic| walk_at "call builtin:list.append") => `(tactic| (k_here; (with_unfolding_all (show wpAny _ _ (PySem.call (Value.builtin _) [Value.ref _, _]) _ _ _)); k_dflt (refine' append_K ?k1 ?k2 ?k3 ?_ ?z; (case k1 => k_asm); (case k2 => k_asm); (case k3 => k_upd); (case z => size_fits); k_whole); intro h' F' N'; (try k_sweep)))

local macro_rules | `(tactic| walk_at "call builtin:list.append") => `(tactic| refine Mine.stop ?_)
abbrev placeMap (v : Int) (q8 q9 : Tok) (av : Value) (u' : Str → Option Value) (resp : Str) (q7 : Tok) (m : Str → Option Value) : Str → Option Value :=
  upd [(Str.ofString "place", .int v q9), (Str.ofString "host", .str (Str.ofString "host") q8)] (ansMap av u' resp q7 m)
def PF (h₀ : Heap) (L TL : Addr) (m : Str → Option Value) (nw : List (Addr × Obj)) (s : Shared) (told : List Int) (v : Int) (fl : Flow) (s' : Shared) : Prop :=
  ∃ (tv' : List Value) (tc' : Nat) (h' : Heap) (tk' : Nat), s' = { s with heap := h', toks := tk' } ∧ Fr h₀ L h' m ∧ News h₀ L h' ((TL, listOf (List.toArray tv') tc') :: nw) ∧
    ((fl = .brk ∧ v ∈ told ∧ IntsAre tv' told) ∨ (fl = .next ∧ v ∉ told ∧ IntsAre tv' (told ++ [v])))
set_option maxRecDepth 100000 in
set_option maxHeartbeats 8000000 in
theorem turn_f {w : World} {name qual : Str} {params : Arguments} {body : List Stmt} {scope : Scope} {cdv : Value} (hbody : LawAt w name qual params body scope cdv)
    {mean : ExcName → Option Value} {mg mb : Str → Option Value} {dp un : Nat} {fr : Option (List Env)} {gd : Option (List Code)} {s : Shared} {h₀ : Heap} {L fa : Addr} {h : Heap} {tk : Nat} {g0 : Array GenState}
    (KX : (Mine.wn_hd.heap_39 w.params).In h₀) (T : Top Mine.wn_hd.view_39 (looseW Mine.wn_hd.view_39 [Str.ofString "_twin_re_1", Str.ofString "_twin_re_2"]) mean mg mb h₀) (hroom : dp + 40 < recursionLimit) (hu : un + 80 < cLine)
    {SL D TL PT SZ : Addr} {m u u' : Str → Option Value}
    {f ring step front num sec thi x k : Int} (hC : LawC f ring step front) (hnum : 100000 ≤ num ∧ num ≤ 999999) {mk resp : Str} {av : Value} {tf tr ts tfr q1 q2 q3 q4 q5 q6 q7 q8 q9 : Tok} {tv : List Value} {tc : Nat} {told : List Int} (hI : IntsAre tv told) (hlen : told.length ≤ 10)
    (F : Fr h₀ L h (placeMap (num % ring) q8 q9 av u' resp q7 (turnMap num sec thi x k mk q1 q2 q3 q4 q5 q6 (updU turnNames u (lawMap TL PT SZ D SL f ring step front tf tr ts tfr m))))) {nw : List (Addr × Obj)}
    (N : News h₀ L h ((TL, listOf (List.toArray tv) tc) :: nw)) (hne : ∀ p ∈ nw, p.1 ≠ TL) :
    wpAny (model PySem.Challenge.rw_wn0012_01.row.prog w) ⟨none, dp, fr, gd, un⟩ (execs ((forBody (body.getD 9 (.Pass default))).drop 8) (envOfC name scope L fa cdv))
      (PF h₀ L TL (placeMap (num % ring) q8 q9 av u' resp q7 (turnMap num sec thi x k mk q1 q2 q3 q4 q5 q6 (updU turnNames u (lawMap TL PT SZ D SL f ring step front tf tr ts tfr m)))) nw { s with gens := g0 } told (num % ring)) NoE { s with heap := h, toks := tk, gens := g0 } := by
  w_on
  obtain ⟨_, _, _, _, _, _, _, _, _, _, hb⟩ := hbody
  obtain ⟨rfl, rfl, rfl, rfl⟩ := law_open hb (by k_is)
  clear hb
  dsimp only [List.take, List.drop, List.getD, List.getElem?_cons_succ, List.getElem?_cons_zero, Option.getD, forBody]
  obtain ⟨hc1, hc2, hc3, hc4, hc5, hc6⟩ := id hC
  have hr : ring = 10 ∨ ring = 100 := by omega
  have hfm : num % ring = num.fmod ring := (Int.fmod_eq_emod_of_nonneg _ (by omega)).symm
  have hwl : tv.length = told.length := hI.length
  have hwb : tv.length < 1000 := by omega
  k_steps
  · (rename Fr _ _ _ _ => F5); (rename News _ _ _ _ => N5)
    (rename List.any told _ = true => hany)
    (try dsimp only at F5 N5 ⊢)
    refine ⟨tv, tc, _, _, rfl, F5, fun p hp => N5 p (.tail _ (.tail _ hp)), .inl ⟨rfl, ?_, hI⟩⟩
    obtain ⟨y, hy, e⟩ := List.any_eq_true.mp hany
    rw [beq_iff_eq] at e
    exact e ▸ hy
  · (rename Fr _ _ _ _ => F5); (rename News _ _ _ _ => N5)
    (rename List.any told _ = false => hany)
    (try dsimp only at F5 N5 ⊢)
    refine Stopped.go ?_
    refine append_K F5 (fun p hp => N5 p (.tail _ (.tail _ hp))) (Upd.head hne) (fun h7 F7 N7 => ?_) (by rw [List.size_toArray]; unfold sizeLine; omega)
    clear F5 N5
    k_steps
    (rename Fr _ _ _ _ => F5); (rename News _ _ _ _ => N5)
    (try dsimp only at F5 N5 ⊢)
    rw [List.push_toArray] at N5
    refine ⟨_, _, _, _, rfl, F5, N5, .inr ⟨rfl, ?_, ints_snoc hI _ _⟩⟩
    intro hm
    have := List.any_eq_false.mp hany _ hm
    simp at this
  · exact absurd hfm (by assumption)
end Mine
end PartT6
section PartT7
open PySem PySem.W PyProof.Rows PySem.Calls PySem.Spec
namespace Mine
theorem execs_cut3 (n : Nat) {M : Model} {A : Around} {env : Env} {Q : Flow → Shared → Prop} {l : List Stmt} {s : Shared} {P : Flow → Shared → Prop} (hP : ∀ fl s', P fl s' → fl = .next)
    (h : wpAny M A (execs (l.take n) env) P NoE s) (h2 : ∀ s', P .next s' → wpAny M A (execs (l.drop n) env) Q NoE s') : wpAny M A (execs l env) Q NoE s := by
  refine execs_cut n (wpAny_mono h (fun fl s' h' => ?_) fun _ _ e => e)
  have := hP _ _ h'
  subst this
  exact h2 _ h'
def pl (step ring : Int) (i : Nat) : Int := ((i : Int) * step) % ring
def places (step ring : Int) (n : Nat) : List Int := (List.range n).map (pl step ring)
theorem places_succ (step ring : Int) (n : Nat) : places step ring (n + 1) = places step ring n ++ [pl step ring n] := by
  unfold places; rw [List.range_succ, List.map_append]; rfl
theorem pl_of {f ring step front : Int} (hC : LawC f ring step front) (i : Nat) : (front + (i : Int) * step) % ring = pl step ring i := by
  obtain ⟨h1, _, _, _, _, h6⟩ := hC
  unfold pl
  generalize (i : Int) * step = z
  rcases h1 with ⟨_, rfl⟩ | ⟨_, rfl⟩ <;> omega
def PT1 (h₀ : Heap) (L TL : Addr) (m : Str → Option Value) (nw : List (Addr × Obj)) (s : Shared) (told : List Int) (v : Int) (fl : Flow) (s' : Shared) : Prop :=
  ∃ (u : Str → Option Value) (tv' : List Value) (tc' : Nat) (h' : Heap) (tk' : Nat) (g' : Array GenState), s' = { s with heap := h', toks := tk', gens := g' } ∧ AllBare g' ∧ Fr h₀ L h' (updU turnNames u m) ∧ News h₀ L h' ((TL, listOf (List.toArray tv') tc') :: nw) ∧
    ((fl = .brk ∧ v ∈ told ∧ IntsAre tv' told) ∨ (fl = .next ∧ v ∉ told ∧ IntsAre tv' (told ++ [v])))
abbrev lawBase (PT SZ D : Addr) (step : Int) (t6 t7 u1 u2 u3 u4 u5 : Tok) (d0 d1 d2 d3 d4 d5 : Int) (t0 t1 t2 t3 t4 t5 : Tok) (c : Nat) (nw : List (Addr × Obj)) : List (Addr × Obj) :=
  (PT, { cls := .type "tuple", data := .seq #[.str (Str.ofString "host") t6, .int step t7] }) :: (SZ, listOf #[.int 1 u1, .int 2 u2, .int 3 u3, .int 0 u4, .int 127 u5] 0) :: (D, listOf #[.int d0 t0, .int d1 t1, .int d2 t2, .int d3 t3, .int d4 t4, .int d5 t5] c) :: nw
theorem law_turn {w : World} {name qual : Str} {params : Arguments} {body : List Stmt} {scope : Scope} {cdv : Value} (hbody : LawAt w name qual params body scope cdv)
    {mean : ExcName → Option Value} {mg mb : Str → Option Value} {dp un : Nat} {gd : Option (List Code)} {s : Shared} {h₀ : Heap} {L fa : Addr} {h : Heap} {tk : Nat} {g0 : Array GenState}
    (KX : (Mine.wn_hd.heap_39 w.params).In h₀) (T : Top Mine.wn_hd.view_39 (looseW Mine.wn_hd.view_39 [Str.ofString "_twin_re_1", Str.ofString "_twin_re_2"]) mean mg mb h₀) (hroom : dp + 40 < recursionLimit) (hu : un + 80 < cLine)
    {SL D TL PT SZ : Addr} {c : Nat} {d0 d1 d2 d3 d4 d5 : Int} {t0 t1 t2 t3 t4 t5 : Tok} (h4 : 0 ≤ d4 ∧ d4 < 1000000) (h5 : 0 ≤ d5 ∧ d5 < 1000000) {m u : Str → Option Value}
    {f ring step front : Int} (hC : LawC f ring step front) {i : Nat} (hi : i < 10) {ti tf tr ts tfr t6 t7 u1 u2 u3 u4 u5 : Tok} {tv : List Value} {tc : Nat} (hI : IntsAre tv (places step ring i)) (hg : AllBare g0)
    (F : Fr h₀ L h (updU turnNames u (lawMap TL PT SZ D SL f ring step front tf tr ts tfr m))) {nw : List (Addr × Obj)}
    (N : News h₀ L h ((TL, listOf (List.toArray tv) tc) :: lawBase PT SZ D step t6 t7 u1 u2 u3 u4 u5 d0 d1 d2 d3 d4 d5 t0 t1 t2 t3 t4 t5 c nw)) (hne : ∀ p ∈ lawBase PT SZ D step t6 t7 u1 u2 u3 u4 u5 d0 d1 d2 d3 d4 d5 t0 t1 t2 t3 t4 t5 c nw, p.1 ≠ TL) :
    wpAny (model PySem.Challenge.rw_wn0012_01.row.prog w) ⟨none, dp, some [envOfC name scope L fa cdv], gd, un⟩ (storeName (envOfC name scope L fa cdv) (Str.ofString "k") (.int (i : Int) ti)) (fun _ s₂ => wpAny (model PySem.Challenge.rw_wn0012_01.row.prog w) ⟨none, dp, some [envOfC name scope L fa cdv], gd, un⟩ (execs (forBody (body.getD 9 (.Pass default))) (envOfC name scope L fa cdv))
      (PT1 h₀ L TL (lawMap TL PT SZ D SL f ring step front tf tr ts tfr m) (lawBase PT SZ D step t6 t7 u1 u2 u3 u4 u5 d0 d1 d2 d3 d4 d5 t0 t1 t2 t3 t4 t5 c nw) s (places step ring i) (pl step ring i)) NoE s₂) NoE { s with heap := h, toks := tk, gens := g0 } := by
  have hC' := hC
  obtain ⟨hc1, hc2, hc3, hc4, hc5, hc6⟩ := hC'
  have hf : f = 1 ∨ f = 2 := by omega
  have hi' : (0 : Int) ≤ (i : Int) ∧ (i : Int) < 10 := by omega
  have hmul : 0 ≤ (i : Int) * step ∧ (i : Int) * step ≤ 891 := by
    constructor
    · exact Int.mul_nonneg (by omega) (by omega)
    · have : (i : Int) * step ≤ 9 * 99 := Int.mul_le_mul (by omega) (by omega) (by omega) (by omega)
      omega
  have hnum : 100000 ≤ front + (i : Int) * step ∧ front + (i : Int) * step ≤ 999999 := by omega
  refine wpAny_mono (turn_a (s := { s with gens := g0 }) hbody KX T hroom hu h4 h5 hC hi' F N) (fun _ s₂ h₂ => ?_) fun _ _ e => e
  refine execs_cut3 4 (fun fl s' h => h.1) h₂ fun s' hA => ?_
  obtain ⟨_, sec, thi, x, k, mk, q1, q2, q3, q4, q5, q6, h1, tk1, rfl, hs, ht, hmk, F1, N1⟩ := hA
  refine execs_cut3 1 (fun fl s' h => h.1) (turn_b (s := s) hbody KX T hroom hu hnum hmk (told_all hf hs ht) F1 N1) fun s' hB => ?_
  obtain ⟨_, lp, q7, h2, tk2, g2, rfl, hb2, ⟨G, G1, G2, hlp⟩, F2, N2⟩ := hB
  have P := parse_facts hC hnum hmk G1 G2 hlp
  rw [List.drop_drop]
  have N2' : News h₀ L h2 ((PT, { cls := .type "tuple", data := .seq #[.str (Str.ofString "host") t6, .int step t7] }) :: (TL, listOf (List.toArray tv) tc) :: lawBase PT SZ D step t6 t7 u1 u2 u3 u4 u5 d0 d1 d2 d3 d4 d5 t0 t1 t2 t3 t4 t5 c nw) := fun p hp => by
    rcases List.mem_cons.mp hp with rfl | hp
    · exact N2 _ (.tail _ (.head _))
    · exact N2 p hp
  refine execs_cut3 1 (fun fl s' h => h.1) (turn_c (s := s) hbody KX T hroom hu P F2 N2') fun s' hC3 => ?_
  obtain ⟨_, av, u', nw', h3, tk3, rfl, F3, N3, hcase⟩ := hC3
  rw [List.drop_drop]
  have hD : wpAny (model PySem.Challenge.rw_wn0012_01.row.prog w) ⟨none, dp, some [envOfC name scope L fa cdv], gd, un⟩ (execs (((forBody (body.getD 9 (.Pass default))).drop 6).take 1) (envOfC name scope L fa cdv))
      (PD h₀ L (ansMap av u' (replyOf mk lp) q7 (turnMap (front + (i : Int) * step) sec thi x k mk q1 q2 q3 q4 q5 q6 (updU turnNames u (lawMap TL PT SZ D SL f ring step front tf tr ts tfr m))))
        ((PT, { cls := .type "tuple", data := .seq #[.str (Str.ofString "host") t6, .int step t7] }) :: (TL, listOf (List.toArray tv) tc) :: lawBase PT SZ D step t6 t7 u1 u2 u3 u4 u5 d0 d1 d2 d3 d4 d5 t0 t1 t2 t3 t4 t5 c nw) { s with gens := g2 }) NoE { s with heap := h3, toks := tk3, gens := g2 } := by
    rcases hcase with ⟨h3p, R, r1, r2, rfl, rfl⟩ | ⟨h3p, rfl, r1, rfl⟩
    · exact turn_d1 (s := s) hbody KX T hroom hu hC hnum hs ht h3p F3 N3
    · exact turn_d2 (s := s) hbody KX T hroom hu hC hnum hs ht h3p F3 N3
  refine execs_cut3 1 (fun fl s' h => h.1) hD fun s' hD' => ?_
  obtain ⟨_, h4', tk4, rfl, F4, N4⟩ := hD'
  rw [List.drop_drop]
  refine execs_cut3 1 (fun fl s' h => h.1) (turn_e (s := s) hbody KX T hroom hu hC hnum hmk F4 N4) fun s' hE' => ?_
  obtain ⟨_, q8, q9, h5', tk5, g5, rfl, hb5, F5, N5⟩ := hE'
  rw [List.drop_drop]
  have hlen : (places step ring i).length ≤ 10 := by unfold places; rw [List.length_map, List.length_range]; omega
  refine wpAny_mono (turn_f (s := s) (nw := lawBase PT SZ D step t6 t7 u1 u2 u3 u4 u5 d0 d1 d2 d3 d4 d5 t0 t1 t2 t3 t4 t5 c nw) hbody KX T hroom hu hC hnum hI hlen F5 (fun p hp => N5 p (.tail _ hp)) hne) (fun fl s' hF => ?_) fun _ _ e => e
  obtain ⟨tv', tc', h6, tk6, rfl, F6, N6, hcs⟩ := hF
  refine ⟨_, tv', tc', h6, tk6, g5, rfl, hb5 (hb2 hg), fr_updU turnNames F6 ?_, N6, ?_⟩
  · intro z hz
    simp only [turnNames, List.forall_mem_cons] at hz
    simp only [placeMap, ansMap, turnMap, turnNames, upd, updU, hz, if_false]
  · rw [pl_of hC] at hcs
    exact hcs
end Mine
end PartT7
section PartT8
open PySem PySem.W PyProof.Rows PySem.Calls PySem.Spec
namespace Mine

local macro_rules | `(tactic| walk_at "WN upd_same") => `(tactic| (intro p hp; repeat' (first | (cases hp; done) | (rcases List.mem_cons.mp hp with he | hp; · subst he; rfl))))
local macro_rules | `(tactic| walk_at "WN upd_rest") => `(tactic| (intro z hz; simp only [List.forall_mem_cons] at hz; (try dsimp only); simp only [Mine.upd, Mine.updO, hz, if_false, reduceIte]))
local macro_rules | `(tactic| walk_at "WN upd_restO") => `(tactic| (intro z hx hz; simp only [List.forall_mem_cons] at hz; (try dsimp only); simp only [Mine.upd, Mine.updO, hx, hz, if_false, reduceIte]))
local macro_rules | `(tactic| walk_at "WN upd_off") => `(tactic| (intro p hp; repeat' (first | (cases hp; done) | (rcases List.mem_cons.mp hp with he | hp; · (subst he; (try dsimp only); decide)))))
local macro_rules | `(tactic| walk_at "exec While Compare cons nil") => `(tactic| refine Mine.stop ?_)
local macro_rules | `(tactic| walk_at "exec For Name Call cons nil") => `(tactic| k_dflt (refine Mine.for_ok ?_))
local macro_rules | `(tactic| walk_at "pyIter ref") => `(tactic| refine Mine.stop ?_)
local macro_rules | `(tactic| walk_at "call builtin:list.append") => `(tactic| (k_here; (with_unfolding_all (show wpAny _ _ (PySem.call (Value.builtin _) [Value.ref _, _]) _ _ _)); k_dflt (refine' append_K ?k1 ?k2 ?k3 ?_ ?z; (case k1 => k_asm); (case k2 => k_asm); (case k3 => k_upd); (case z => size_fits); k_whole); intro h' F' N'; (try k_sweep)))

def PL (h₀ : Heap) (L TL : Addr) (m : Str → Option Value) (nw : List (Addr × Obj)) (s : Shared) (step ring : Int) (fl : Flow) (s' : Shared) : Prop :=
  fl = .next ∧ ∃ (n : Nat) (u : Str → Option Value) (tv' : List Value) (tc' : Nat) (h' : Heap) (tk' : Nat) (g' : Array GenState), s' = { s with heap := h', toks := tk', gens := g' } ∧ AllBare g' ∧ Fr h₀ L h' (updU turnNames u m) ∧ News h₀ L h' ((TL, listOf (List.toArray tv') tc') :: nw) ∧
    IntsAre tv' (places step ring n) ∧ (places step ring n).Nodup ∧ 1 ≤ n ∧ n ≤ 10
set_option maxRecDepth 100000 in
set_option maxHeartbeats 8000000 in
theorem law_loop {w : World} {name qual : Str} {params : Arguments} {body : List Stmt} {scope : Scope} {cdv : Value} (hbody : LawAt w name qual params body scope cdv)
    {mean : ExcName → Option Value} {mg mb : Str → Option Value} {dp un : Nat} {gd : Option (List Code)} {s : Shared} {h₀ : Heap} {L fa : Addr} {h : Heap} {tk : Nat}
    (KX : (Mine.wn_hd.heap_39 w.params).In h₀) (T : Top Mine.wn_hd.view_39 (looseW Mine.wn_hd.view_39 [Str.ofString "_twin_re_1", Str.ofString "_twin_re_2"]) mean mg mb h₀) (hroom : dp + 40 < recursionLimit) (hu : un + 80 < cLine)
    {SL D TL PT SZ : Addr} {c : Nat} {d0 d1 d2 d3 d4 d5 : Int} {t0 t1 t2 t3 t4 t5 : Tok} (h3 : 0 ≤ d3 ∧ d3 < 1000000) (h4 : 0 ≤ d4 ∧ d4 < 1000000) (h5 : 0 ≤ d5 ∧ d5 < 1000000) {m : Str → Option Value}
    {f ring step front : Int} (hC : LawC f ring step front) {tf tr ts tfr t6 t7 u1 u2 u3 u4 u5 : Tok} (hg : AllBare s.gens)
    (F : Fr h₀ L h (lawMap TL PT SZ D SL f ring step front tf tr ts tfr m)) {nw : List (Addr × Obj)}
    (N : News h₀ L h ((TL, listOf #[] 0) :: lawBase PT SZ D step t6 t7 u1 u2 u3 u4 u5 d0 d1 d2 d3 d4 d5 t0 t1 t2 t3 t4 t5 c nw)) (hne : ∀ p ∈ lawBase PT SZ D step t6 t7 u1 u2 u3 u4 u5 d0 d1 d2 d3 d4 d5 t0 t1 t2 t3 t4 t5 c nw, p.1 ≠ TL) :
    wpAny (model PySem.Challenge.rw_wn0012_01.row.prog w) ⟨none, dp, some [envOfC name scope L fa cdv], gd, un⟩ (execs ((body.drop 9).take 1) (envOfC name scope L fa cdv))
      (PL h₀ L TL (lawMap TL PT SZ D SL f ring step front tf tr ts tfr m) (lawBase PT SZ D step t6 t7 u1 u2 u3 u4 u5 d0 d1 d2 d3 d4 d5 t0 t1 t2 t3 t4 t5 c nw) s step ring) NoE { s with heap := h, toks := tk } := by
  w_on
  have hbody' := hbody
  obtain ⟨_, _, _, _, _, _, _, _, _, _, hb⟩ := hbody
  obtain ⟨rfl, rfl, rfl, rfl⟩ := law_open hb (by k_is)
  clear hb
  dsimp only [List.take, List.drop]
  k_steps
  refine Stopped.go ?_
  (rename Fr _ _ _ _ => F9); (rename News _ _ _ _ => N9); (rename IsRange _ _ _ _ _ _ _ _ => R9)
  (try dsimp only at F9 N9 R9 ⊢)
  have hfm : d3.fmod 9 = d3 % 9 := Int.fmod_eq_emod_of_nonneg _ (by decide)
  refine range_turns (N := (2 + d3.fmod 9).toNat) rfl R9 (small_one (by decide) (by decide) ?b1 ?b2) (rangeN ?b3) F9 N9
    (fun i m₁ news₁ g => ∃ u tv tc, m₁ = updU turnNames u (lawMap TL PT SZ D SL f ring step front tf tr ts tfr m) ∧ news₁ = (TL, listOf (List.toArray tv) tc) :: lawBase PT SZ D step t6 t7 u1 u2 u3 u4 u5 d0 d1 d2 d3 d4 d5 t0 t1 t2 t3 t4 t5 c nw ∧ IntsAre tv (places step ring i) ∧ (places step ring i).Nodup ∧ AllBare g) ?zj ?zt ?zd
  case b1 => show _ ≤ 2 + d3.fmod 9; omega
  case b2 => show 2 + d3.fmod 9 < _; omega
  case b3 => show 0 ≤ 2 + d3.fmod 9; omega
  case zj =>
    refine ⟨lawMap TL PT SZ D SL f ring step front tf tr ts tfr m, [], 0, ?_, rfl, .nil, List.Pairwise.nil, hg⟩
    exact funext fun z => updU_eq fun _ => rfl
  case zt =>
    rintro i t m₁ news₁ h' tk' g wr ow hi ⟨u, tv, tc, rfl, rfl, hI, hnd, hgb⟩ hwr F5 N5
    have N6 : News h₀ L h' ((TL, listOf (List.toArray tv) tc) :: lawBase PT SZ D step t6 t7 u1 u2 u3 u4 u5 d0 d1 d2 d3 d4 d5 t0 t1 t2 t3 t4 t5 c ((wr, ow) :: nw)) := fun p hp => N5 p (by
      simp only [List.mem_cons] at hp ⊢
      rcases hp with hp | hp | hp | hp | hp | hp
      · exact .inr (.inl hp)
      · exact .inr (.inr (.inl hp))
      · exact .inr (.inr (.inr (.inl hp)))
      · exact .inr (.inr (.inr (.inr (.inl hp))))
      · exact .inl hp
      · exact .inr (.inr (.inr (.inr (.inr hp)))))
    have hne6 : ∀ p ∈ lawBase PT SZ D step t6 t7 u1 u2 u3 u4 u5 d0 d1 d2 d3 d4 d5 t0 t1 t2 t3 t4 t5 c ((wr, ow) :: nw), p.1 ≠ TL := fun p hp => by
      have hh : p ∈ lawBase PT SZ D step t6 t7 u1 u2 u3 u4 u5 d0 d1 d2 d3 d4 d5 t0 t1 t2 t3 t4 t5 c nw ∨ p = (wr, ow) := by
        simp only [List.mem_cons] at hp ⊢
        rcases hp with hp | hp | hp | hp | hp
        · exact .inl (.inl hp)
        · exact .inl (.inr (.inl hp))
        · exact .inl (.inr (.inr (.inl hp)))
        · exact .inr hp
        · exact .inl (.inr (.inr (.inr hp)))
      rcases hh with hh | rfl
      · exact hne p hh
      · exact Ne.symm (hwr _ (.head _))
    have e0 : (0 : Int) + (i : Int) = (i : Int) := by omega
    rw [e0]
    have hi10 : i < 10 := by omega
    refine wpAny_mono (law_turn (s := s) (nw := (wr, ow) :: nw) hbody' KX T hroom hu h4 h5 hC hi10 hI hgb F5 N6 hne6) (fun _ s₂ h₂ => wpAny_mono h₂ (fun fl s₃ hP => ?_) fun _ _ e => e) fun _ _ e => e
    obtain ⟨u7, tv7, tc7, h7, tk7, g7, rfl, hgb7, F7, N7, hcs⟩ := hP
    have N8 : News h₀ L h7 ((wr, ow) :: (TL, listOf (List.toArray tv7) tc7) :: lawBase PT SZ D step t6 t7 u1 u2 u3 u4 u5 d0 d1 d2 d3 d4 d5 t0 t1 t2 t3 t4 t5 c nw) := fun p hp => N7 p (by
      simp only [List.mem_cons] at hp ⊢
      rcases hp with hp | hp | hp | hp | hp | hp
      · exact .inr (.inr (.inr (.inr (.inl hp))))
      · exact .inl hp
      · exact .inr (.inl hp)
      · exact .inr (.inr (.inl hp))
      · exact .inr (.inr (.inr (.inl hp)))
      · exact .inr (.inr (.inr (.inr (.inr hp)))))
    rcases hcs with ⟨rfl, hm, hI7⟩ | ⟨rfl, hm, hI7⟩
    · dsimp only
      have h1 : 1 ≤ i := by
        rcases Nat.eq_zero_or_pos i with h | h
        · subst h; simp [places] at hm
        · exact h
      refine wpAny_execs_nil ?_
      exact ⟨rfl, i, u7, tv7, tc7, h7, tk7, g7, rfl, hgb7, F7, fun p hp => N8 p (.tail _ hp), hI7, hnd, h1, by omega⟩
    · dsimp only
      refine REnd.go _ F7 N8 ?_ ⟨u7, tv7, tc7, rfl, rfl, by rw [places_succ]; exact hI7, ?_, hgb7⟩
      · intro p hp
        rcases List.mem_cons.mp hp with rfl | hp
        · exact hwr (TL, listOf (List.toArray tv) tc) (.head _)
        · exact hwr p (.tail _ hp)
      · rw [places_succ]
        exact List.nodup_append.mpr ⟨hnd, by simp, fun a ha b hb => by rw [List.mem_singleton.mp hb]; exact fun h => hm (h ▸ ha)⟩
  case zd =>
    rintro m₁ news₁ h' tk' g ⟨u, tv, tc, rfl, rfl, hI, hnd, hgb⟩ F5 N5
    refine wpAny_execs_nil ?_
    exact ⟨rfl, _, u, tv, tc, h', tk', g, rfl, hgb, F5, N5, hI, hnd, by omega, by omega⟩
end Mine
end PartT8
section PartU
open PySem PySem.W PyProof.Rows PySem.Calls PySem.Spec
namespace Mine

local macro_rules | `(tactic| walk_at "WN upd_same") => `(tactic| (intro p hp; repeat' (first | (cases hp; done) | (rcases List.mem_cons.mp hp with he | hp; · subst he; rfl))))
local macro_rules | `(tactic| walk_at "WN upd_rest") => `(tactic| (intro z hz; simp only [List.forall_mem_cons] at hz; (try dsimp only); simp only [Mine.upd, Mine.updO, hz, if_false, reduceIte]))
local macro_rules | `(tactic| walk_at "WN upd_restO") => `(tactic| (intro z hx hz; simp only [List.forall_mem_cons] at hz; (try dsimp only); simp only [Mine.upd, Mine.updO, hx, hz, if_false, reduceIte]))
local macro_rules | `(tactic| walk_at "WN upd_off") => `(tactic| (intro p hp; repeat' (first | (cases hp; done) | (rcases List.mem_cons.mp hp with he | hp; · (subst he; (try dsimp only); decide)))))
local macro_rules | `(tactic| walk_at "exec While Compare cons nil") => `(tactic| refine Mine.stop ?_)
local macro_rules | `(tactic| walk_at "exec For Name Call cons nil") => `(tactic| k_dflt (refine Mine.for_ok ?_))
local macro_rules | `(tactic| walk_at "pyIter ref") => `(tactic| refine Mine.stop ?_)
local macro_rules | `(tactic| walk_at "call builtin:list.append") => `(tactic| (k_here; (with_unfolding_all (show wpAny _ _ (PySem.call (Value.builtin _) [Value.ref _, _]) _ _ _)); k_dflt (refine' append_K ?k1 ?k2 ?k3 ?_ ?z; (case k1 => k_asm); (case k2 => k_asm); (case k3 => k_upd); (case z => size_fits); k_whole); intro h' F' N'; (try k_sweep)))

local macro_rules | `(tactic| walk_at "call ref") => `(tactic| refine Mine.stop ?_)
def EndOk (e : Str) : Prop := e = Str.ofString "\n" ∨ e = Str.ofString "\r" ∨ e = Str.ofString "\r\n"
def PU (h₀ : Heap) (L : Addr) (m : Str → Option Value) (nw : List (Addr × Obj)) (s : Shared) (fl : Flow) (s' : Shared) : Prop :=
  fl = .next ∧ ∃ (e : Str) (q : Tok) (h' : Heap) (tk' : Nat), s' = { s with heap := h', toks := tk' } ∧ EndOk e ∧ Fr h₀ L h' (upd [(Str.ofString "end", .str e q)] m) ∧ News h₀ L h' nw
set_option maxRecDepth 100000 in
set_option maxHeartbeats 8000000 in
theorem post_a {w : World} {name qual : Str} {params : Arguments} {body : List Stmt} {scope : Scope} {cdv : Value} (hbody : LawAt w name qual params body scope cdv)
    {mean : ExcName → Option Value} {mg mb : Str → Option Value} {dp un : Nat} {fr : Option (List Env)} {gd : Option (List Code)} {s : Shared} {h₀ : Heap} {L fa : Addr} {h : Heap} {tk : Nat} {g0 : Array GenState}
    (KX : (Mine.wn_hd.heap_39 w.params).In h₀) (T : Top Mine.wn_hd.view_39 (looseW Mine.wn_hd.view_39 [Str.ofString "_twin_re_1", Str.ofString "_twin_re_2"]) mean mg mb h₀) (hroom : dp + 40 < recursionLimit) (hu : un + 80 < cLine)
    {SL D TL PT SZ : Addr} {c : Nat} {d0 d1 d2 d3 d4 d5 : Int} {t0 t1 t2 t3 t4 t5 : Tok} (h5 : 0 ≤ d5 ∧ d5 < 1000000) {m u : Str → Option Value}
    {f ring step front : Int} {tf tr ts tfr : Tok}
    (F : Fr h₀ L h (updU turnNames u (lawMap TL PT SZ D SL f ring step front tf tr ts tfr m))) {tv : List Value} {tc : Nat} {o1 o2 : Obj}
    (N : News h₀ L h [(TL, listOf (List.toArray tv) tc), (D, listOf #[.int d0 t0, .int d1 t1, .int d2 t2, .int d3 t3, .int d4 t4, .int d5 t5] c), (L + 1 + 1, o2), (L + 1, o1)]) :
    wpAny (model PySem.Challenge.rw_wn0012_01.row.prog w) ⟨none, dp, fr, gd, un⟩ (execs ((body.drop 10).take 1) (envOfC name scope L fa cdv))
      (PU h₀ L (updU turnNames u (lawMap TL PT SZ D SL f ring step front tf tr ts tfr m)) [(TL, listOf (List.toArray tv) tc), (D, listOf #[.int d0 t0, .int d1 t1, .int d2 t2, .int d3 t3, .int d4 t4, .int d5 t5] c), (L + 1 + 1, o2), (L + 1, o1)] { s with gens := g0 }) NoE { s with heap := h, toks := tk, gens := g0 } := by
  w_on
  obtain ⟨_, _, _, _, _, _, _, _, _, _, hb⟩ := hbody
  obtain ⟨rfl, rfl, rfl, rfl⟩ := law_open hb (by k_is)
  clear hb
  dsimp only [List.take, List.drop]
  k_steps
  all_goals (
    (rename Fr _ _ _ _ => F9); (rename News _ _ _ _ => N9)
    (try dsimp only at F9 N9 ⊢)
    refine ⟨rfl, _, _, _, _, rfl, ?_, F9, fun p hp => N9 p (.tail _ hp)⟩)
  · exact .inl rfl
  · exact .inr (.inl rfl)
  · exact .inr (.inr rfl)
end Mine
end PartU
section PartU2
open PySem PySem.W PyProof.Rows PySem.Calls PySem.Spec
namespace Mine

local macro_rules | `(tactic| walk_at "WN upd_same") => `(tactic| (intro p hp; repeat' (first | (cases hp; done) | (rcases List.mem_cons.mp hp with he | hp; · subst he; rfl))))
local macro_rules | `(tactic| walk_at "WN upd_rest") => `(tactic| (intro z hz; simp only [List.forall_mem_cons] at hz; (try dsimp only); simp only [Mine.upd, Mine.updO, hz, if_false, reduceIte]))
local macro_rules | `(tactic| walk_at "WN upd_restO") => `(tactic| (intro z hx hz; simp only [List.forall_mem_cons] at hz; (try dsimp only); simp only [Mine.upd, Mine.updO, hx, hz, if_false, reduceIte]))
local macro_rules | `(tactic| walk_at "WN upd_off") => `(tactic| (intro p hp; repeat' (first | (cases hp; done) | (rcases List.mem_cons.mp hp with he | hp; · (subst he; (try dsimp only); decide)))))
local macro_rules | `(tactic| walk_at "exec While Compare cons nil") => `(tactic| refine Mine.stop ?_)
local macro_rules | `(tactic| walk_at "exec For Name Call cons nil") => `(tactic| k_dflt (refine Mine.for_ok ?_))
local macro_rules | `(tactic| walk_at "pyIter ref") => `(tactic| refine Mine.stop ?_)
local macro_rules | `(tactic| walk_at "call builtin:list.append") => `(tactic| (k_here; (with_unfolding_all (show wpAny _ _ (PySem.call (Value.builtin _) [Value.ref _, _]) _ _ _)); k_dflt (refine' append_K ?k1 ?k2 ?k3 ?_ ?z; (case k1 => k_asm); (case k2 => k_asm); (case k3 => k_upd); (case z => size_fits); k_whole); intro h' F' N'; (try k_sweep)))

local macro_rules | `(tactic| walk_at "storeName ref") => `(tactic| refine Mine.stop ?_)
local macro_rules | `(tactic| walk_at "call ref") => `(tactic| refine Mine.stop ?_)
theorem news_d2 {h₀ h : Heap} {L : Addr} {a b c : Addr × Obj} {r : List (Addr × Obj)} (N : News h₀ L h (a :: b :: c :: r)) : News h₀ L h (a :: r) := fun p hp => N p (by
  rcases List.mem_cons.mp hp with rfl | hp
  · exact .head _
  · exact .tail _ (.tail _ (.tail _ hp)))
def PV (h₀ : Heap) (L TL D : Addr) (dO : Obj) (m : Str → Option Value) (s : Shared) (tv : List Value) (tc : Nat) (o2 : Obj) (nw : List (Addr × Obj)) (told : List Int) (ring : Int) (fl : Flow) (s' : Shared) : Prop :=
  fl = .next ∧ ∃ (E : Addr) (pv : List Value) (ps : List Int) (o1' : Obj) (h' : Heap) (tk' : Nat), s' = { s with heap := h', toks := tk' } ∧ IntsAre pv (ps ++ [ring]) ∧ ps.Perm told ∧ List.Pairwise (fun a b : Int => a ≤ b) ps ∧ o1'.data = .cell (some (.ref E)) ∧
    Fr h₀ L h' m ∧ News h₀ L h' ((E, listOf (List.toArray pv) 0) :: (TL, listOf (List.toArray tv) tc) :: (D, dO) :: (L + 1 + 1, o2) :: (L + 1, o1') :: nw) ∧ L + 1 + 1 < E
set_option maxRecDepth 100000 in
set_option maxHeartbeats 8000000 in
theorem post_b {w : World} {name qual : Str} {params : Arguments} {body : List Stmt} {scope : Scope} {cdv : Value} (hbody : LawAt w name qual params body scope cdv)
    {mean : ExcName → Option Value} {mg mb : Str → Option Value} {dp un : Nat} {fr : Option (List Env)} {gd : Option (List Code)} {s : Shared} {h₀ : Heap} {L fa : Addr} {h : Heap} {tk : Nat} {g0 : Array GenState}
    (KX : (Mine.wn_hd.heap_39 w.params).In h₀) (T : Top Mine.wn_hd.view_39 (looseW Mine.wn_hd.view_39 [Str.ofString "_twin_re_1", Str.ofString "_twin_re_2"]) mean mg mb h₀) (hroom : dp + 40 < recursionLimit) (hu : un + 80 < cLine)
    {SL D TL PT SZ : Addr} {m u : Str → Option Value}
    {f ring step front : Int} (hC : LawC f ring step front) {tf tr ts tfr qe : Tok} {tv : List Value} {tc : Nat} {told : List Int} {e : Str} (hI : IntsAre tv told) (hlen : 1 ≤ told.length ∧ told.length ≤ 10)
    (F : Fr h₀ L h (upd [(Str.ofString "end", .str e qe)] (updU turnNames u (lawMap TL PT SZ D SL f ring step front tf tr ts tfr m)))) {o1 o2 : Obj} (ho1 : o1.data = .cell none) (ho2 : o2.data = .cell none) (hTL : L + 1 + 1 < TL) {dO : Obj} (hD1 : @Ne Nat D (L + 1))
    (N : News h₀ L h [(TL, listOf (List.toArray tv) tc), (D, dO), (L + 1 + 1, o2), (L + 1, o1)]) :
    wpAny (model PySem.Challenge.rw_wn0012_01.row.prog w) ⟨none, dp, fr, gd, un⟩ (execs ((body.drop 11).take 1) (envOfC name scope L fa cdv))
      (PV h₀ L TL D dO (upd [(Str.ofString "end", .str e qe)] (updU turnNames u (lawMap TL PT SZ D SL f ring step front tf tr ts tfr m))) { s with gens := g0 } tv tc o2 [] told ring) NoE { s with heap := h, toks := tk, gens := g0 } := by
  w_on
  obtain ⟨_, _, _, _, _, _, _, _, _, _, hb⟩ := hbody
  obtain ⟨rfl, rfl, rfl, rfl⟩ := law_open hb (by k_is)
  clear hb
  dsimp only [List.take, List.drop]
  obtain ⟨hc1, hc2, hc3, hc4, hc5, hc6⟩ := id hC
  have hr : ring = 10 ∨ ring = 100 := by omega
  have hwl : tv.length = told.length := hI.length
  k_steps
  refine Stopped.go ?_
  (rename Fr _ _ _ _ => F9); (rename News _ _ _ _ => N9)
  (try dsimp only at F9 N9 ⊢)
  (rename List.Perm _ told => hp); (rename List.Pairwise _ _ => hpw); (rename IntsAre _ (_ ++ [ring]) => hIE)
  (rename _ < _ ∧ _ < _ ∧ _ < _ ∧ _ < _ ∧ _ < _ ∧ _ < _ => l1)
  obtain ⟨_, _, l3, l3', l4, l5⟩ := l1
  have N8 := news_d2 N9
  refine storeX_C F9 N8 (c := L + 1) rfl (.tail ?n1 (.tail ?n2 (.tail ?n2' (.tail ?n3 (.head ?n4))))) ho1 (fun h' o' F' N' ho' => ?_)
  case n1 => exact Nat.ne_of_gt l5
  case n2 => exact Nat.ne_of_gt (Nat.lt_of_succ_lt hTL)
  case n2' => exact hD1
  case n3 => exact Nat.ne_of_gt (Nat.lt_succ_self _)
  case n4 => intro p hp; exact nomatch hp
  refine wpAny_execs_nil ?_
  exact ⟨rfl, _, _, _, o', _, _, rfl, hIE, hp, hpw, ho', F', N', l4⟩
end Mine
end PartU2
section PartU3
open PySem PySem.W PyProof.Rows PySem.Calls PySem.Spec
namespace Mine

local macro_rules | `(tactic| walk_at "WN upd_same") => `(tactic| (intro p hp; repeat' (first | (cases hp; done) | (rcases List.mem_cons.mp hp with he | hp; · subst he; rfl))))
local macro_rules | `(tactic| walk_at "WN upd_rest") => `(tactic| (intro z hz; simp only [List.forall_mem_cons] at hz; (try dsimp only); simp only [Mine.upd, Mine.updO, hz, if_false, reduceIte]))
local macro_rules | `(tactic| walk_at "WN upd_restO") => `(tactic| (intro z hx hz; simp only [List.forall_mem_cons] at hz; (try dsimp only); simp only [Mine.upd, Mine.updO, hx, hz, if_false, reduceIte]))
local macro_rules | `(tactic| walk_at "WN upd_off") => `(tactic| (intro p hp; repeat' (first | (cases hp; done) | (rcases List.mem_cons.mp hp with he | hp; · (subst he; (try dsimp only); decide)))))
local macro_rules | `(tactic| walk_at "exec While Compare cons nil") => `(tactic| refine Mine.stop ?_)
local macro_rules | `(tactic| walk_at "exec For Name Call cons nil") => `(tactic| k_dflt (refine Mine.for_ok ?_))
local macro_rules | `(tactic| walk_at "pyIter ref") => `(tactic| refine Mine.stop ?_)
local macro_rules | `(tactic| walk_at "call builtin:list.append") => `(tactic| (k_here; (with_unfolding_all (show wpAny _ _ (PySem.call (Value.builtin _) [Value.ref _, _]) _ _ _)); k_dflt (refine' append_K ?k1 ?k2 ?k3 ?_ ?z; (case k1 => k_asm); (case k2 => k_asm); (case k3 => k_upd); (case z => size_fits); k_whole); intro h' F' N'; (try k_sweep)))

local macro_rules | `(tactic| walk_at "binaryOp Mult str int") => `(tactic| refine Mine.stop ?_)
local macro_rules | `(tactic| walk_at "CompSrc") => `(tactic| refine Mine.stop ?_)
local macro_rules | `(tactic| walk_at "call builtin:str.join") => `(tactic| refine Mine.stop ?_)
theorem item_ints {prog : Program} {w : World} {A : Around} {E : Value → Shared → Prop} {s : Shared} {value slice : PySem.Expr} {l : Addr} {vs : List Value} {zs : List Int} {k : Int} {u : Tok} {Q : Value → Shared → Prop} (hl : s.heap.IsList l vs.toArray) (hI : IntsAre vs zs) (h0 : 0 ≤ k) (h1 : k < (zs.length : Int)) (h2 : zs.length ≤ 1000)
    (h : ∀ t, Q (.int (zs.getD k.toNat 0) t) s) (hs : subscripted slice false (.ref l) (.int k u) = operate [.ref l, .int k u] (getItem (.ref l) (.int k u)) := by with_unfolding_all rfl) : wpAny (model prog w) A (subscriptTail value slice (.ref l) (.int k u)) Q E s := by
  have hlt : k.toNat < vs.length := by rw [hI.length]; omega
  obtain ⟨n, t, hv, hn⟩ := IntsAre.at hI k.toNat vs[k.toNat] (List.getElem?_eq_getElem hlt)
  refine item_litK (v := .int n t) hl h0 (by omega) (by rw [← hv]; exact List.getElem?_eq_getElem hlt) ?_ hs
  have e : zs.getD k.toNat 0 = n := by rw [List.getD_eq_getElem?_getD, hn]; rfl
  rw [← e]
  exact h t
local macro_rules | `(tactic| walk_at "subscriptTail Name BinOp ref int") => `(tactic| (k_here; refine item_ints (by is_list) (by assumption) (by omega) (by simp only [List.length_append, List.length_cons, List.length_nil]; omega) (by simp only [List.length_append, List.length_cons, List.length_nil]; omega) ?_; intro t'))
local macro_rules | `(tactic| walk_at "subscriptTail Name Name ref int") => `(tactic| (k_here; refine item_ints (by is_list) (by assumption) (by omega) (by simp only [List.length_append, List.length_cons, List.length_nil]; omega) (by simp only [List.length_append, List.length_cons, List.length_nil]; omega) ?_; intro t'))
def gapAt (zs : List Int) (k : Int) : Int := zs.getD (k + 1).toNat 0 - zs.getD k.toNat 0
theorem getD_bound {zs : List Int} {a b : Int} (h : ∀ x ∈ zs, a ≤ x ∧ x ≤ b) (h0 : a ≤ 0 ∧ 0 ≤ b) (i : Nat) : a ≤ zs.getD i 0 ∧ zs.getD i 0 ≤ b := by
  rw [List.getD_eq_getElem?_getD]
  cases hx : zs[i]? with
  | none => exact h0
  | some x => exact h x (List.mem_of_getElem? hx)
theorem mulOk_dot {n : Int} (h : -1000 ≤ n ∧ n ≤ 1000) : MulOk (Str.ofString ".") n := by
  have hl : (Str.ofString ".").length = 1 := by decide +kernel
  refine ⟨?_, fun h1 _ => ?_, fun h1 _ => ?_⟩
  · simp only [Bool.or_eq_false_iff, decide_eq_false_iff_not]; omega
  · rw [hl]
    have h3 : (1 : Int) ≤ (2 ^ 63 - 1) / n := by
      rw [Int.le_ediv_iff_mul_le (by omega)]; omega
    omega
  · rw [hl]
    unfold Builtin.Str.tooLong sizeLine
    rw [decide_eq_false_iff_not]; omega
def dotText (n : Int) : Str := Txt.mul (Str.ofString ".") n
local macro_rules | `(tactic| walk_at "call ref") => `(tactic| refine Mine.stop ?_)
theorem dotText_len {n : Int} (h : n ≤ 1000) : (dotText n).length ≤ 1000 := by
  have hl : (Str.ofString ".").length = 1 := by decide +kernel
  unfold dotText Txt.mul
  split
  · exact Nat.zero_le _
  · split
    · rw [hl]; decide
    · have : ∀ (k : Nat) (acc : Array Nat), (List.foldl (fun x1 x2 => x1 ++ x2) acc (List.replicate k (Str.ofString ".").cps)).size = acc.size + k := by
        intro k
        induction k with
        | zero => intro acc; rfl
        | succ k ih =>
          intro acc
          rw [List.replicate_succ, List.foldl_cons, ih, Array.size_append]
          have : (Str.ofString ".").cps.size = 1 := hl
          omega
      show (List.foldl (fun x1 x2 => x1 ++ x2) #[] (List.replicate n.toNat (Str.ofString ".").cps)).size ≤ 1000
      rw [this]
      simp; omega
def gapTexts (zs : List Int) (n : Nat) : List Str := (rangeKs 0 n).map fun k => dotText (gapAt zs k)
def PX (h₀ : Heap) (L : Addr) (m : Str → Option Value) (nw : List (Addr × Obj)) (s : Shared) (x : Str) (fl : Flow) (s' : Shared) : Prop :=
  fl = .next ∧ ∃ (q : Tok) (h' : Heap) (tk' : Nat), s' = { s with heap := h', toks := tk' } ∧ Fr h₀ L h' (upd [(Str.ofString "page", .str x q)] m) ∧ News h₀ L h' nw
set_option maxRecDepth 100000 in
set_option maxHeartbeats 8000000 in
theorem post_c {w : World} {name qual : Str} {params : Arguments} {body : List Stmt} {scope : Scope} {cdv : Value} (hbody : LawAt w name qual params body scope cdv)
    {mean : ExcName → Option Value} {mg mb : Str → Option Value} {dp un : Nat} {fr : Option (List Env)} {gd : Option (List Code)} {s : Shared} {h₀ : Heap} {L fa : Addr} {h : Heap} {tk : Nat} {g0 : Array GenState}
    (KX : (Mine.wn_hd.heap_39 w.params).In h₀) (T : Top Mine.wn_hd.view_39 (looseW Mine.wn_hd.view_39 [Str.ofString "_twin_re_1", Str.ofString "_twin_re_2"]) mean mg mb h₀) (hroom : dp + 40 < recursionLimit) (hu : un + 80 < cLine)
    {SL D TL PT SZ : Addr} {m u : Str → Option Value}
    {f ring step front : Int} (hC : LawC f ring step front) {tf tr ts tfr qe : Tok} {tv pv : List Value} {tc : Nat} {told ps : List Int} {e : Str} (hI : IntsAre tv told) (hlen : 1 ≤ told.length ∧ told.length ≤ 10) (he : e.length ≤ 2) {E : Addr}
    (hP : IntsAre pv (ps ++ [ring])) (hpl : ps.length = told.length) (hpr : ∀ x ∈ ps, 0 ≤ x ∧ x ≤ 100)
    (F : Fr h₀ L h (upd [(Str.ofString "end", .str e qe)] (updU turnNames u (lawMap TL PT SZ D SL f ring step front tf tr ts tfr m)))) {o1 o2 : Obj} (ho1 : o1.data = .cell (some (.ref E))) (ho2 : o2.data = .cell none) (hTL : L + 1 + 1 < TL) (hE : L + 1 + 1 < E) {dO : Obj}
    (N : News h₀ L h [(E, listOf (List.toArray pv) 0), (TL, listOf (List.toArray tv) tc), (D, dO), (L + 1 + 1, o2), (L + 1, o1)]) :
    wpAny (model PySem.Challenge.rw_wn0012_01.row.prog w) ⟨none, dp, fr, gd, un⟩ (execs ((body.drop 12).take 1) (envOfC name scope L fa cdv))
      (PX h₀ L (upd [(Str.ofString "end", .str e qe)] (updU turnNames u (lawMap TL PT SZ D SL f ring step front tf tr ts tfr m))) [(E, listOf (List.toArray pv) 0), (TL, listOf (List.toArray tv) tc), (D, dO), (L + 1 + 1, o2), (L + 1, o1)] { s with gens := g0 } (Txt.join e (gapTexts (ps ++ [ring]) told.length))) NoE { s with heap := h, toks := tk, gens := g0 } := by
  w_on
  obtain ⟨_, _, _, _, _, _, _, _, _, _, hb⟩ := hbody
  obtain ⟨rfl, rfl, rfl, rfl⟩ := law_open hb (by k_is)
  clear hb
  dsimp only [List.take, List.drop]
  obtain ⟨hc1, hc2, hc3, hc4, hc5, hc6⟩ := id hC
  have hr : ring = 10 ∨ ring = 100 := by omega
  have hwl : tv.length = told.length := hI.length
  have hzl : (ps ++ [ring]).length = told.length + 1 := by simp only [List.length_append, List.length_cons, List.length_nil]; omega
  k_steps
  refine Stopped.go ?_
  (rename Fr _ _ _ _ => F9); (rename News _ _ _ _ => N9); (rename IsRange _ _ _ _ _ _ _ _ => R9)
  (try dsimp only at F9 N9 R9 ⊢)
  refine LCg.CompSrc.range rfl F9 N9 R9 (small_one (by decide) (by decide) (by omega) (by omega)) (rangeN (by omega)) (by unfold sizeLine; omega) ?_
  intro g'
  refine kct_range (fun k => dotText (gapAt (ps ++ [ring]) k)) (fun k' t' I' oI' C' oC' D' m' ys' h' tk' E' hlo' hhi' hC' hx' F' N' off' ne' => ?_) ?_
  · simp only [LCg.Off3, and_true] at off'
    intro _
    have hk1 : k' < (told.length : Int) := by clear off' ne' F9 N9; omega
    have hmo : MulOk (Str.ofString ".") ((ps ++ [ring]).getD (k' + 1).toNat 0 - (ps ++ [ring]).getD k'.toNat 0) := by
      have hb : ∀ x ∈ ps ++ [ring], 0 ≤ x ∧ x ≤ 100 := fun x hx => by
        rcases List.mem_append.mp hx with hx | hx
        · exact hpr x hx
        · rw [List.mem_singleton.mp hx]; clear off' ne'; omega
      have hb1 := getD_bound hb (by decide) (k' + 1).toNat
      have hb2 := getD_bound hb (by decide) k'.toNat
      clear off' ne'
      exact mulOk_dot (by omega)
    clear F9 N9 R9
    k_steps
    refine Stopped.go ?_
    refine SB.mul hmo (fun t9 k9 => ?_)
    k_steps
    exact ⟨rfl, t9, rfl⟩
  · intro ys hc hl
    have hb : ∀ x ∈ ps ++ [ring], 0 ≤ x ∧ x ≤ 100 := fun x hx => by
      rcases List.mem_append.mp hx with hx | hx
      · exact hpr x hx
      · rw [List.mem_singleton.mp hx]; omega
    have en : ((told.length : Nat) : Int).toNat = told.length := Int.toNat_natCast _
    have hc2 : CarriedAll ys ((gapTexts (ps ++ [ring]) told.length).map PyData.str) := by
      unfold gapTexts
      rw [List.map_map, ← en]
      exact hc
    obtain ⟨l, hyl, hlm⟩ := carried_strs hc2
    have hll : l.length = told.length := by
      rw [← List.length_map (f := fun x : Str × Tok => x.1), hlm]
      unfold gapTexts
      rw [List.length_map, rangeKs_length]
    have hls : ∀ p ∈ l, p.1.length ≤ 1000 := fun p hp => by
      have hm : p.1 ∈ gapTexts (ps ++ [ring]) told.length := by rw [← hlm]; exact List.mem_map.mpr ⟨p, hp, rfl⟩
      obtain ⟨k, _, hk⟩ := List.mem_map.mp hm
      rw [← hk]
      refine dotText_len ?_
      have hb1 := getD_bound hb (by decide) (k + 1).toNat
      have hb2 := getD_bound hb (by decide) k.toNat
      unfold gapAt
      omega
    have hjo : JoinOk e (l.map (·.1)) = true := join_ok (by omega) (by omega) hls
    subst hyl
    clear F9 N9 R9 hc hc2 hl
    k_steps
    refine Stopped.go ?_
    (rename Fr _ _ _ _ => F8); (rename News _ _ _ _ => N8)
    (try dsimp only at F8 N8 ⊢)
    refine SC.join (l := l) ⟨_, (N8 _ (.head _)).1, rfl, _, rfl⟩ rfl hjo fun t' k => ?_
    k_steps
    (rename Fr _ _ _ _ => F7); (rename News _ _ _ _ => N7)
    (try dsimp only at F7 N7 ⊢)
    rw [← hlm]
    exact ⟨rfl, _, _, _, rfl, F7, fun p hp => N7 p (.tail _ hp)⟩
end Mine
end PartU3
section PartU4
open PySem PySem.W PyProof.Rows PySem.Calls PySem.Spec
namespace Mine

local macro_rules | `(tactic| walk_at "WN upd_same") => `(tactic| (intro p hp; repeat' (first | (cases hp; done) | (rcases List.mem_cons.mp hp with he | hp; · subst he; rfl))))
local macro_rules | `(tactic| walk_at "WN upd_rest") => `(tactic| (intro z hz; simp only [List.forall_mem_cons] at hz; (try dsimp only); simp only [Mine.upd, Mine.updO, hz, if_false, reduceIte]))
local macro_rules | `(tactic| walk_at "WN upd_restO") => `(tactic| (intro z hx hz; simp only [List.forall_mem_cons] at hz; (try dsimp only); simp only [Mine.upd, Mine.updO, hx, hz, if_false, reduceIte]))
local macro_rules | `(tactic| walk_at "WN upd_off") => `(tactic| (intro p hp; repeat' (first | (cases hp; done) | (rcases List.mem_cons.mp hp with he | hp; · (subst he; (try dsimp only); decide)))))
local macro_rules | `(tactic| walk_at "exec While Compare cons nil") => `(tactic| refine Mine.stop ?_)
local macro_rules | `(tactic| walk_at "exec For Name Call cons nil") => `(tactic| k_dflt (refine Mine.for_ok ?_))
local macro_rules | `(tactic| walk_at "pyIter ref") => `(tactic| refine Mine.stop ?_)
local macro_rules | `(tactic| walk_at "call builtin:list.append") => `(tactic| (k_here; (with_unfolding_all (show wpAny _ _ (PySem.call (Value.builtin _) [Value.ref _, _]) _ _ _)); k_dflt (refine' append_K ?k1 ?k2 ?k3 ?_ ?z; (case k1 => k_asm); (case k2 => k_asm); (case k3 => k_upd); (case z => size_fits); k_whole); intro h' F' N'; (try k_sweep)))

local macro_rules | `(tactic| walk_at "CompSrc") => `(tactic| refine Mine.stop ?_)
local macro_rules | `(tactic| walk_at "call builtin:str.join") => `(tactic| refine Mine.stop ?_)
local macro_rules | `(tactic| walk_at "call ref") => `(tactic| refine Mine.stop ?_)
abbrev pageMap (x : Str) (q : Tok) (e : Str) (qe : Tok) (m : Str → Option Value) : Str → Option Value := upd [(Str.ofString "page", .str x q)] (upd [(Str.ofString "end", .str e qe)] m)
def PY (h₀ : Heap) (L : Addr) (m : Str → Option Value) (nw : List (Addr × Obj)) (o1 : Obj) (s : Shared) (d4 : Int) (fl : Flow) (s' : Shared) : Prop :=
  fl = .next ∧ ∃ (o2' : Obj) (t : Tok) (h' : Heap) (tk' : Nat), s' = { s with heap := h', toks := tk' } ∧ o2'.data = .cell (some (.int (1 + d4 % 2) t)) ∧ Fr h₀ L h' m ∧ News h₀ L h' ((L + 1 + 1, o2') :: (L + 1, o1) :: nw)
set_option maxRecDepth 100000 in
set_option maxHeartbeats 8000000 in
theorem post_d {w : World} {name qual : Str} {params : Arguments} {body : List Stmt} {scope : Scope} {cdv : Value} (hbody : LawAt w name qual params body scope cdv)
    {mean : ExcName → Option Value} {mg mb : Str → Option Value} {dp un : Nat} {fr : Option (List Env)} {gd : Option (List Code)} {s : Shared} {h₀ : Heap} {L fa : Addr} {h : Heap} {tk : Nat} {g0 : Array GenState}
    (KX : (Mine.wn_hd.heap_39 w.params).In h₀) (T : Top Mine.wn_hd.view_39 (looseW Mine.wn_hd.view_39 [Str.ofString "_twin_re_1", Str.ofString "_twin_re_2"]) mean mg mb h₀) (hroom : dp + 40 < recursionLimit) (hu : un + 80 < cLine)
    {SL D TL PT SZ : Addr} {c : Nat} {d0 d1 d2 d3 d4 d5 : Int} {t0 t1 t2 t3 t4 t5 : Tok} {m u : Str → Option Value}
    {f ring step front : Int} {tf tr ts tfr qe q : Tok} {tv : List Value} {tc : Nat} {e x : Str}
    (F : Fr h₀ L h (pageMap x q e qe (updU turnNames u (lawMap TL PT SZ D SL f ring step front tf tr ts tfr m)))) {o1 o2 : Obj} (ho2 : o2.data = .cell none) (hTL : L + 1 + 1 < TL) (hDL : D ≠ L + 1 + 1)
    (N : News h₀ L h [(TL, listOf (List.toArray tv) tc), (D, listOf #[.int d0 t0, .int d1 t1, .int d2 t2, .int d3 t3, .int d4 t4, .int d5 t5] c), (L + 1 + 1, o2), (L + 1, o1)]) :
    wpAny (model PySem.Challenge.rw_wn0012_01.row.prog w) ⟨none, dp, fr, gd, un⟩ (execs ((body.drop 13).take 1) (envOfC name scope L fa cdv))
      (PY h₀ L (pageMap x q e qe (updU turnNames u (lawMap TL PT SZ D SL f ring step front tf tr ts tfr m))) [(TL, listOf (List.toArray tv) tc), (D, listOf #[.int d0 t0, .int d1 t1, .int d2 t2, .int d3 t3, .int d4 t4, .int d5 t5] c)] o1 { s with gens := g0 } d4) NoE { s with heap := h, toks := tk, gens := g0 } := by
  w_on
  obtain ⟨_, _, _, _, _, _, _, _, _, _, hb⟩ := hbody
  obtain ⟨rfl, rfl, rfl, rfl⟩ := law_open hb (by k_is)
  clear hb
  dsimp only [List.take, List.drop]
  have hfm : d4.fmod 2 = d4 % 2 := Int.fmod_eq_emod_of_nonneg _ (by decide)
  k_steps
  (rename Fr _ _ _ _ => F9); (rename News _ _ _ _ => N9)
  (try dsimp only at F9 N9 ⊢)
  (rename Obj.data _ = _ => hd)
  have hd2 := hd
  rw [show (([d0, d1, d2, d3, d4, d5] : List Int).getD (Int.toNat 4) 0) = d4 from rfl, hfm] at hd2
  refine ⟨rfl, _, _, _, _, rfl, hd2, F9, fun p hp => N9 p ?_⟩
  simp only [List.mem_cons, List.not_mem_nil, or_false] at hp
  rcases hp with hp | hp | hp | hp
  · exact List.mem_append_right _ (hp ▸ .head _)
  · exact List.mem_append_right _ (hp ▸ .tail _ (.head _))
  · exact List.mem_append_left _ (hp ▸ .head _)
  · exact List.mem_append_left _ (hp ▸ .tail _ (.head _))
end Mine
end PartU4
section PartU5
open PySem PySem.W PyProof.Rows PySem.Calls PySem.Spec
namespace Mine

local macro_rules | `(tactic| walk_at "WN upd_same") => `(tactic| (intro p hp; repeat' (first | (cases hp; done) | (rcases List.mem_cons.mp hp with he | hp; · subst he; rfl))))
local macro_rules | `(tactic| walk_at "WN upd_rest") => `(tactic| (intro z hz; simp only [List.forall_mem_cons] at hz; (try dsimp only); simp only [Mine.upd, Mine.updO, hz, if_false, reduceIte]))
local macro_rules | `(tactic| walk_at "WN upd_restO") => `(tactic| (intro z hx hz; simp only [List.forall_mem_cons] at hz; (try dsimp only); simp only [Mine.upd, Mine.updO, hx, hz, if_false, reduceIte]))
local macro_rules | `(tactic| walk_at "WN upd_off") => `(tactic| (intro p hp; repeat' (first | (cases hp; done) | (rcases List.mem_cons.mp hp with he | hp; · (subst he; (try dsimp only); decide)))))
local macro_rules | `(tactic| walk_at "exec While Compare cons nil") => `(tactic| refine Mine.stop ?_)
local macro_rules | `(tactic| walk_at "exec For Name Call cons nil") => `(tactic| k_dflt (refine Mine.for_ok ?_))
local macro_rules | `(tactic| walk_at "pyIter ref") => `(tactic| refine Mine.stop ?_)
local macro_rules | `(tactic| walk_at "call builtin:list.append") => `(tactic| (k_here; (with_unfolding_all (show wpAny _ _ (PySem.call (Value.builtin _) [Value.ref _, _]) _ _ _)); k_dflt (refine' append_K ?k1 ?k2 ?k3 ?_ ?z; (case k1 => k_asm); (case k2 => k_asm); (case k3 => k_upd); (case z => size_fits); k_whole); intro h' F' N'; (try k_sweep)))

local macro_rules | `(tactic| walk_at "CompSrc") => `(tactic| refine Mine.stop ?_)
local macro_rules | `(tactic| walk_at "call builtin:str.join") => `(tactic| refine Mine.stop ?_)
local macro_rules | `(tactic| walk_at "call ref") => `(tactic| refine Mine.stop ?_)
def quo (x : Str) : Str := ⟨(sub1 (sub2 x.cps).toArray).toArray⟩
def quoN : Nat → Str → Str
  | 0, x => x
  | n + 1, x => quo (quoN n x)
theorem page_step {h₀ h : Heap} {L : Addr} {m m' : Str → Option Value} {x y : Str} {q q9 : Tok} {e : Str} {qe : Tok} (F : Fr h₀ L h m') (h1 : m' (Str.ofString "page") = some (.str y q9)) (h2 : ∀ z, z ≠ Str.ofString "page" → z ≠ Str.ofString "turn" → m' z = pageMap x q e qe m z) :
    Fr h₀ L h (updU [Str.ofString "turn"] m' (pageMap y q9 e qe m)) := by
  refine fr_updU _ F fun z hz => ?_
  have hz1 : z ≠ Str.ofString "turn" := hz _ (.head _)
  by_cases hp : z = Str.ofString "page"
  · rw [hp, h1]; simp only [pageMap, upd, if_true]
  · rw [h2 z hp hz1]; simp only [pageMap, upd, hp, if_false]
def PZ (h₀ : Heap) (L : Addr) (e : Str) (qe : Tok) (m : Str → Option Value) (nw : List (Addr × Obj)) (s : Shared) (x : Str) (fl : Flow) (s' : Shared) : Prop :=
  fl = .next ∧ ∃ (u : Str → Option Value) (q : Tok) (h' : Heap) (tk' : Nat), s' = { s with heap := h', toks := tk' } ∧ Fr h₀ L h' (updU [Str.ofString "turn"] u (pageMap x q e qe m)) ∧ News h₀ L h' nw
set_option maxRecDepth 100000 in
set_option maxHeartbeats 8000000 in
theorem post_e {w : World} {name qual : Str} {params : Arguments} {body : List Stmt} {scope : Scope} {cdv : Value} (hbody : LawAt w name qual params body scope cdv)
    {mean : ExcName → Option Value} {mg mb : Str → Option Value} {dp un : Nat} {fr : Option (List Env)} {gd : Option (List Code)} {s : Shared} {h₀ : Heap} {L fa : Addr} {h : Heap} {tk : Nat} {g0 : Array GenState}
    (KX : (Mine.wn_hd.heap_39 w.params).In h₀) (T : Top Mine.wn_hd.view_39 (looseW Mine.wn_hd.view_39 [Str.ofString "_twin_re_1", Str.ofString "_twin_re_2"]) mean mg mb h₀) (hroom : dp + 40 < recursionLimit) (hu : un + 80 < cLine)
    {SL D TL PT SZ : Addr} {m u : Str → Option Value}
    {f ring step front sn : Int} {tf tr ts tfr qe q tsn : Tok} {tv : List Value} {tc : Nat} {e x : Str} (hsn : 0 ≤ sn ∧ sn ≤ 100) (hsz : ∀ i : Nat, (i : Int) < sn → (quoN i x).cps.size ≤ 10000)
    (F : Fr h₀ L h (pageMap x q e qe (updU turnNames u (lawMap TL PT SZ D SL f ring step front tf tr ts tfr m)))) {o1 o2 : Obj} (ho2 : o2.data = .cell (some (.int sn tsn)))
    (N : News h₀ L h [(TL, listOf (List.toArray tv) tc), (L + 1 + 1, o2)]) :
    wpAny (model PySem.Challenge.rw_wn0012_01.row.prog w) ⟨none, dp, fr, gd, un⟩ (execs ((body.drop 14).take 1) (envOfC name scope L fa cdv))
      (PZ h₀ L e qe (updU turnNames u (lawMap TL PT SZ D SL f ring step front tf tr ts tfr m)) [(TL, listOf (List.toArray tv) tc), (L + 1 + 1, o2)] { s with gens := g0 } (quoN sn.toNat x)) NoE { s with heap := h, toks := tk, gens := g0 } := by
  w_on
  obtain ⟨_, _, _, _, _, _, _, _, _, _, hb⟩ := hbody
  obtain ⟨rfl, rfl, rfl, rfl⟩ := law_open hb (by k_is)
  clear hb
  dsimp only [List.take, List.drop]
  k_steps
  refine Stopped.go ?_
  (rename Fr _ _ _ _ => F9); (rename News _ _ _ _ => N9); (rename IsRange _ _ _ _ _ _ _ _ => R9)
  (try dsimp only at F9 N9 R9 ⊢)
  refine range_turns (N := sn.toNat) rfl R9 (small_one (by decide) (by decide) (by omega) (by omega)) (rangeN hsn.1) F9 N9
    (fun i m₁ news₁ g => ∃ u7 q7, m₁ = updU [Str.ofString "turn"] u7 (pageMap (quoN i x) q7 e qe (updU turnNames u (lawMap TL PT SZ D SL f ring step front tf tr ts tfr m))) ∧ news₁ = [(TL, listOf (List.toArray tv) tc), (L + 1 + 1, o2)] ∧ g = g0) ?zj ?zt ?zd
  case zj =>
    refine ⟨_, q, funext fun z => updU_eq fun _ => rfl, rfl, rfl⟩
  case zt =>
    rintro i t m₁ news₁ h' tk' g wr ow hi ⟨u7, q7, rfl, rfl, rfl⟩ hwr F5 N5
    clear F9 N9 R9
    k_steps
    refine Stopped.go ?_
    (rename Fr _ _ _ _ => F9); (rename News _ _ _ _ => N9)
    (try dsimp only at F9 N9 ⊢)
    refine quote_spec (KX.keeps F9.keep) ((Top.keeps T) F9.keep) (Nat.lt_of_le_of_lt (by omega) hroom) (Nat.lt_of_le_of_lt (by omega) hu) (hsz i (by omega)) (fun h' tk' tv' hx => ?_)
    have F8 := Fr.keptAll F9 hx
    have N8 := news_ext N9 hx
    clear F9 N9 hx
    k_steps
    (rename Fr _ _ _ _ => F9); (rename News _ _ _ _ => N9)
    (try dsimp only at F9 N9 ⊢)
    refine REnd.go _ (page_step F9 rfl (x := quoN i x) (q := q7) (e := e) (qe := qe) (m := updU turnNames u (lawMap TL PT SZ D SL f ring step front tf tr ts tfr m)) (fun z h1 h2 => ?_)) N9 hwr ⟨_, _, rfl, rfl, rfl⟩
    simp only [updU, h1, h2, if_false]
  case zd =>
    rintro m₁ news₁ h' tk' g ⟨u7, q7, rfl, rfl, rfl⟩ F5 N5
    refine wpAny_execs_nil ?_
    exact ⟨rfl, u7, q7, h', tk', rfl, F5, N5⟩
end Mine
end PartU5
section PartU6
open PySem PySem.W PyProof.Rows PySem.Calls PySem.Spec
namespace Mine

local macro_rules | `(tactic| walk_at "WN upd_same") => `(tactic| (intro p hp; repeat' (first | (cases hp; done) | (rcases List.mem_cons.mp hp with he | hp; · subst he; rfl))))
local macro_rules | `(tactic| walk_at "WN upd_rest") => `(tactic| (intro z hz; simp only [List.forall_mem_cons] at hz; (try dsimp only); simp only [Mine.upd, Mine.updO, hz, if_false, reduceIte]))
local macro_rules | `(tactic| walk_at "WN upd_restO") => `(tactic| (intro z hx hz; simp only [List.forall_mem_cons] at hz; (try dsimp only); simp only [Mine.upd, Mine.updO, hx, hz, if_false, reduceIte]))
local macro_rules | `(tactic| walk_at "WN upd_off") => `(tactic| (intro p hp; repeat' (first | (cases hp; done) | (rcases List.mem_cons.mp hp with he | hp; · (subst he; (try dsimp only); decide)))))
local macro_rules | `(tactic| walk_at "exec While Compare cons nil") => `(tactic| refine Mine.stop ?_)
local macro_rules | `(tactic| walk_at "exec For Name Call cons nil") => `(tactic| k_dflt (refine Mine.for_ok ?_))
local macro_rules | `(tactic| walk_at "pyIter ref") => `(tactic| refine Mine.stop ?_)
local macro_rules | `(tactic| walk_at "call builtin:list.append") => `(tactic| (k_here; (with_unfolding_all (show wpAny _ _ (PySem.call (Value.builtin _) [Value.ref _, _]) _ _ _)); k_dflt (refine' append_K ?k1 ?k2 ?k3 ?_ ?z; (case k1 => k_asm); (case k2 => k_asm); (case k3 => k_upd); (case z => size_fits); k_whole); intro h' F' N'; (try k_sweep)))

local macro_rules | `(tactic| walk_at "eval ListComp BinOp cons") => `(tactic| (k_here; k_dflt (refine LCg.ListComp_U (F₀ := by k_asm) (by with_unfolding_all rfl) (by decide) (by rfl) (by decide) (by rfl) ?_)))
local macro_rules | `(tactic| walk_at "CompSrc") => `(tactic| refine Mine.stop ?_)
local macro_rules | `(tactic| walk_at "call builtin:str.join") => `(tactic| refine Mine.stop ?_)
local macro_rules | `(tactic| walk_at "call ref") => `(tactic| refine Mine.stop ?_)
def PR (h₀ : Heap) (L : Addr) (s : Shared) (b : Bool) (fl : Flow) (s' : Shared) : Prop :=
  fl = .ret (.bool b) ∧ ∃ (m' : Str → Option Value) (h' : Heap) (tk' : Nat), s' = { s with heap := h', toks := tk' } ∧ Fr h₀ L h' m'
def rowTexts (rows : List Int) (sn : Int) : List Str := rows.map fun r => dotText (r + sn)
set_option maxRecDepth 100000 in
set_option maxHeartbeats 8000000 in
theorem post_f {w : World} {name qual : Str} {params : Arguments} {body : List Stmt} {scope : Scope} {cdv : Value} (hbody : LawAt w name qual params body scope cdv)
    {mean : ExcName → Option Value} {mg mb : Str → Option Value} {dp un : Nat} {fr : Option (List Env)} {gd : Option (List Code)} {s : Shared} {h₀ : Heap} {L fa : Addr} {h : Heap} {tk : Nat} {g0 : Array GenState}
    (KX : (Mine.wn_hd.heap_39 w.params).In h₀) (T : Top Mine.wn_hd.view_39 (looseW Mine.wn_hd.view_39 [Str.ofString "_twin_re_1", Str.ofString "_twin_re_2"]) mean mg mb h₀) (hroom : dp + 40 < recursionLimit) (hu : un + 80 < cLine)
    {SL D TL PT SZ : Addr} {m u u7 : Str → Option Value}
    {f ring step front sn : Int} (hC : LawC f ring step front) {tf tr ts tfr qe q tsn : Tok} {tv : List Value} {tc : Nat} {told : List Int} (hI : IntsAre tv told) (hlen : 1 ≤ told.length ∧ told.length ≤ 10) {e x : Str} (hsn : 0 ≤ sn ∧ sn ≤ 100) (hrows : ∀ r ∈ rowsZ step ring told.length, 0 ≤ r ∧ r ≤ 100) (hrl : (rowsZ step ring told.length).length ≤ 10)
    (F : Fr h₀ L h (updU [Str.ofString "turn"] u7 (pageMap x q e qe (updU turnNames u (lawMap TL PT SZ D SL f ring step front tf tr ts tfr m))))) {o1 o2 : Obj} (ho2 : o2.data = .cell (some (.int sn tsn)))
    (N : News h₀ L h [(TL, listOf (List.toArray tv) tc), (L + 1 + 1, o2)]) :
    wpAny (model PySem.Challenge.rw_wn0012_01.row.prog w) ⟨none, dp, fr, gd, un⟩ (execs (body.drop 15) (envOfC name scope L fa cdv))
      (PR h₀ L { s with gens := g0 } (x == Txt.join (Str.ofString "\r\n") (rowTexts (rowsZ step ring told.length) sn))) NoE { s with heap := h, toks := tk, gens := g0 } := by
  w_on
  obtain ⟨_, _, _, _, _, _, _, _, _, _, hb⟩ := hbody
  obtain ⟨rfl, rfl, rfl, rfl⟩ := law_open hb (by k_is)
  clear hb
  dsimp only [List.take, List.drop]
  obtain ⟨hc1, hc2, hc3, hc4, hc5, hc6⟩ := id hC
  have hwl : tv.length = told.length := hI.length
  k_steps
  refine Stopped.go ?_
  (rename Fr _ _ _ _ => F9); (rename News _ _ _ _ => N9)
  (try dsimp only at F9 N9 ⊢)
  refine rows_spec (KX.keeps F9.keep) ((Top.keeps T) F9.keep) (Nat.lt_of_le_of_lt (by omega) hroom) (Nat.lt_of_le_of_lt (by omega) hu) (count := (told.length : Int)) (by omega) (fun h' tk' DR ws nn hx hD hD0 hIR => ?_)
  have F8 := Fr.keptAll F9 hx
  have N8 := news_ext N9 hx
  have hRb : h₀.get? DR = none := by
    cases hb : h₀.get? DR with
    | none => rfl
    | some o => have := F9.keep _ _ hb; dsimp only at hD0; rw [hD0] at this; cases this
  have hRL : DR ≠ L := fun q => by
    obtain ⟨o, ho, hd⟩ := ns_dict F9.ns
    dsimp only at hD0
    rw [← q, hD0] at ho; cases ho
  have N7 : News h₀ L h' ((DR, listOf (List.toArray ws) nn) :: [(TL, listOf (List.toArray tv) tc), (L + 1 + 1, o2)]) := fun p hp => by
    rcases List.mem_cons.mp hp with rfl | hp
    · exact ⟨hD, hRL, hRb⟩
    · exact N8 p hp
  clear F9 N9 N8 hx hD hD0
  k_steps
  refine Stopped.go ?_
  (try dsimp only)
  have hwsl : ws.length = (rowsZ step ring told.length).length := hIR.length
  refine LCg.CompSrc.ledger (its := ws.toArray) rfl F8 N7 (.head _) (by rw [List.size_toArray]; unfold sizeLine; omega) ?_
  intro g'
  refine kct_list (fun r => dotText (r + sn)) hIR (fun k' t' I' oI' C' oC' D' m' ys' h' tk' E' hk' hC' hx' F' N' off' ne' => ?_) ?_
  · simp only [LCg.Off3, and_true] at off'
    intro _
    have hkb := hrows k' hk'
    clear F8 N7
    k_steps
    exact ⟨rfl, _, rfl⟩
  · intro ys hc hl
    have hc2 : CarriedAll ys ((rowTexts (rowsZ step ring told.length) sn).map PyData.str) := by
      unfold rowTexts
      rw [List.map_map]
      exact hc
    obtain ⟨l, hyl, hlm⟩ := carried_strs hc2
    have hll : l.length = (rowsZ step ring told.length).length := by
      rw [← List.length_map (f := fun x : Str × Tok => x.1), hlm]
      unfold rowTexts
      rw [List.length_map]
    have hls : ∀ p ∈ l, p.1.length ≤ 1000 := fun p hp => by
      have hm : p.1 ∈ rowTexts (rowsZ step ring told.length) sn := by rw [← hlm]; exact List.mem_map.mpr ⟨p, hp, rfl⟩
      obtain ⟨k, hk, hke⟩ := List.mem_map.mp hm
      rw [← hke]
      have := hrows k hk
      exact dotText_len (by omega)
    have h2l : (Str.ofString "\r\n").length = 2 := by decide +kernel
    have hjo : JoinOk (Str.ofString "\r\n") (l.map (·.1)) = true := join_ok (by omega) (by omega) hls
    subst hyl
    clear F8 N7 hc hc2 hl
    k_steps
    refine Stopped.go ?_
    (rename Fr _ _ _ _ => F8); (rename News _ _ _ _ => N8)
    (try dsimp only at F8 N8 ⊢)
    refine SC.join (l := l) ⟨_, (N8 _ (.head _)).1, rfl, _, rfl⟩ rfl hjo fun t' k => ?_
    rw [← hlm]
    k_steps
    (rename Fr _ _ _ _ => F7); (rename News _ _ _ _ => N7)
    (try dsimp only at F7 N7 ⊢)
    exact ⟨rfl, _, _, _, rfl, F7⟩
end Mine
end PartU6
section PartN
open PySem
namespace Mine
def dots (g : Nat) : List Nat := List.replicate g 46
def rowsText (e : List Nat) (g : Nat) (r : List Nat) : List Nat := dots g ++ (r.map fun k => e ++ dots k).flatten
theorem getD_app (P R : List Nat) (j : Nat) : (P ++ R).toArray.getD (P.length + j) 0 = R.getD j 0 := by
  have : (P ++ R).toArray.getD (P.length + j) 0 = (P ++ R).getD (P.length + j) 0 := by simp [List.getD]
  rw [this, List.getD_eq_getElem?_getD, List.getElem?_append_right (by omega), Nat.add_sub_cancel_left, ← List.getD_eq_getElem?_getD]
theorem getD_dots (g j : Nat) (R : List Nat) (h : j < g) : (dots g ++ R).getD j 0 = 46 := by
  rw [List.getD_eq_getElem?_getD, List.getElem?_append_left (by unfold dots; rw [List.length_replicate]; exact h)]
  unfold dots
  rw [List.getElem?_replicate]; simp [h]
theorem getD_behind (g j : Nat) (R : List Nat) : (dots g ++ R).getD (g + j) 0 = R.getD j 0 := by
  rw [List.getD_eq_getElem?_getD, List.getElem?_append_right (by unfold dots; rw [List.length_replicate]; omega)]
  unfold dots
  rw [List.length_replicate, Nat.add_sub_cancel_left, ← List.getD_eq_getElem?_getD]
theorem ext_app (P M R : List Nat) : ((P ++ (M ++ R)).toArray.extract P.length (P.length + M.length)).toList = M := by
  simp
theorem ext_all (P M : List Nat) : ((P ++ M).toArray.extract P.length (P ++ M).toArray.size).toList = M := by
  simp
theorem skip2 (text : Array Nat) (lim : Nat) : ∀ (k s : Nat), (∀ j, j < k → is2 (text.getD (s + j) 0) = false) → s + k ≤ lim → nx2 text lim (lim - s) s = nx2 text lim (lim - (s + k)) (s + k)
  | 0, s, _, _ => rfl
  | k + 1, s, h, hl => by
    obtain ⟨n, hn⟩ : ∃ n, lim - s = n + 1 := ⟨lim - s - 1, by omega⟩
    have h0 := h 0 (by omega)
    rw [Nat.add_zero] at h0
    rw [hn, show nx2 text lim (n + 1) s = if is2 (text.getD s 0) = true then some (at2 text lim s) else nx2 text lim n (s + 1) from rfl]
    rw [h0, if_neg (by decide), show n = lim - (s + 1) by omega, skip2 text lim k (s + 1) (fun j hj => by rw [Nat.add_assoc, Nat.add_comm 1 j]; exact h (j + 1) (by omega)) (by omega)]
    rw [show s + 1 + k = s + (k + 1) by omega]
theorem skip1 (text : Array Nat) (lim : Nat) : ∀ (k s : Nat), (∀ j, j < k → hit1 text lim (s + j) = false) → s + k ≤ lim → nx1 text lim (lim - s) s = nx1 text lim (lim - (s + k)) (s + k)
  | 0, s, _, _ => rfl
  | k + 1, s, h, hl => by
    obtain ⟨n, hn⟩ : ∃ n, lim - s = n + 1 := ⟨lim - s - 1, by omega⟩
    have h0 := h 0 (by omega)
    rw [Nat.add_zero] at h0
    rw [hn, show nx1 text lim (n + 1) s = if hit1 text lim s = true then some (s, s + 1) else nx1 text lim n (s + 1) from rfl]
    rw [h0, if_neg (by decide), show n = lim - (s + 1) by omega, skip1 text lim k (s + 1) (fun j hj => by rw [Nat.add_assoc, Nat.add_comm 1 j]; exact h (j + 1) (by omega)) (by omega)]
    rw [show s + 1 + k = s + (k + 1) by omega]
theorem found2 (text : Array Nat) (lim s : Nat) (h : is2 (text.getD s 0) = true) (hl : s < lim) : nx2 text lim (lim - s) s = some (at2 text lim s) := by
  obtain ⟨n, hn⟩ : ∃ n, lim - s = n + 1 := ⟨lim - s - 1, by omega⟩
  rw [hn]; unfold nx2; rw [if_pos h]
theorem found1 (text : Array Nat) (lim s : Nat) (h : hit1 text lim s = true) (hl : s < lim) : nx1 text lim (lim - s) s = some (s, s + 1) := by
  obtain ⟨n, hn⟩ : ∃ n, lim - s = n + 1 := ⟨lim - s - 1, by omega⟩
  rw [hn]; unfold nx1; rw [if_pos h]
def EndL (e : List Nat) : Prop := e = [10] ∨ e = [13] ∨ e = [13, 10]
theorem dots_len (g : Nat) : (dots g).length = g := by unfold dots; exact List.length_replicate
theorem sub2_go (e : List Nat) (he : EndL e) : ∀ (r : List Nat) (g : Nat) (P : List Nat) (f : Nat), (∀ k ∈ r, 1 ≤ k) → r.length + 1 ≤ f →
    outG (P ++ rowsText e g r).toArray [13, 10] (fun d => nx2 (P ++ rowsText e g r).toArray (P ++ rowsText e g r).toArray.size ((P ++ rowsText e g r).toArray.size - d) d) f P.length = rowsText [13, 10] g r
  | [], g, P, f, _, hf => by
    obtain ⟨f, rfl⟩ : ∃ f', f = f' + 1 := ⟨f - 1, by omega⟩
    have ex : rowsText e g [] = dots g := by unfold rowsText; simp
    have ex2 : rowsText [13, 10] g [] = dots g := by unfold rowsText; simp
    rw [ex, ex2]
    have hz : (P ++ dots g).toArray.size = P.length + g := by rw [List.size_toArray, List.length_append, dots_len]
    have hn : nx2 (P ++ dots g).toArray (P ++ dots g).toArray.size ((P ++ dots g).toArray.size - P.length) P.length = none := by
      rw [skip2 _ _ g P.length (fun j hj => ?_) (by omega), hz, Nat.sub_self]; rfl
      rw [getD_app]
      have := getD_dots g j [] hj
      rw [List.append_nil] at this
      rw [this]; rfl
    unfold outG
    simp only [hn]
    exact ext_all P (dots g)
  | g2 :: r, g, P, f, hr, hf => by
    obtain ⟨f, rfl⟩ : ∃ f', f = f' + 1 := ⟨f - 1, by omega⟩
    have ex : rowsText e g (g2 :: r) = dots g ++ (e ++ rowsText e g2 r) := by unfold rowsText; simp
    have ex2 : rowsText [13, 10] g (g2 :: r) = dots g ++ ([13, 10] ++ rowsText [13, 10] g2 r) := by unfold rowsText; simp
    have hg2 := hr g2 (.head _)
    have hel : 1 ≤ e.length ∧ e.length ≤ 2 := by rcases he with rfl | rfl | rfl <;> decide
    have e0 : is2 (e.getD 0 0) = true := by rcases he with rfl | rfl | rfl <;> rfl
    obtain ⟨xs, hxs⟩ : ∃ xs, xs = P ++ rowsText e g (g2 :: r) := ⟨_, rfl⟩
    have hxs1 : xs = P ++ (dots g ++ (e ++ rowsText e g2 r)) := by rw [hxs, ex]
    have hxs2 : xs = (P ++ dots g ++ e) ++ rowsText e g2 r := by rw [hxs1]; simp
    have hrl : 1 ≤ (rowsText e g2 r).length := by unfold rowsText; rw [List.length_append, dots_len]; omega
    have hz : xs.toArray.size = P.length + g + e.length + (rowsText e g2 r).length := by
      rw [hxs2, List.size_toArray]; simp only [List.length_append, dots_len]
    have gat : ∀ j, xs.toArray.getD (P.length + g + j) 0 = (e ++ rowsText e g2 r).getD j 0 := fun j => by
      rw [hxs1, Nat.add_assoc, getD_app, getD_behind]
    have hn : nx2 xs.toArray xs.toArray.size (xs.toArray.size - P.length) P.length = some (P.length + g, P.length + g + e.length) := by
      rw [skip2 _ _ g P.length (fun j hj => ?_) (by omega), found2 _ _ _ ?_ (by omega)]
      · unfold at2
        congr 1
        have g0 := gat 0
        have g1 := gat 1
        rw [Nat.add_zero] at g0
        rw [g0, g1]
        have hd : (rowsText e g2 r).getD 0 0 = 46 := by unfold rowsText; exact getD_dots g2 0 _ (by omega)
        rcases he with rfl | rfl | rfl
        · rw [if_neg (by intro h; exact absurd (show (10 : Nat) = 13 from h.1) (by decide))]; rfl
        · rw [if_neg (by intro h; have h' : (rowsText [13] g2 r).getD 0 0 = 10 := h.2.2; rw [hd] at h'; exact absurd h' (by decide))]; rfl
        · rw [if_pos ⟨rfl, by omega, rfl⟩]; rfl
      · have g0 := gat 0
        rw [Nat.add_zero] at g0
        rw [g0]
        have : (e ++ rowsText e g2 r).getD 0 0 = e.getD 0 0 := by rcases he with rfl | rfl | rfl <;> rfl
        rw [this]; exact e0
      · rw [hxs1, getD_app, getD_dots g j _ hj]; rfl
    have ih := sub2_go e he r g2 (P ++ dots g ++ e) f (fun k hk => hr k (.tail _ hk)) (by simp only [List.length_cons] at hf; omega)
    rw [← hxs2] at ih
    rw [← hxs, ex2]
    unfold outG
    simp only [hn]
    have hl2 : (P ++ dots g ++ e).length = P.length + g + e.length := by simp only [List.length_append, dots_len]
    rw [hl2] at ih
    rw [ih]
    congr 1
    have := ext_app P (dots g) (e ++ rowsText e g2 r)
    rw [dots_len, ← hxs1] at this
    exact this
theorem sub2_rows {e : List Nat} (he : EndL e) (g : Nat) (r : List Nat) (hr : ∀ k ∈ r, 1 ≤ k) : sub2 (rowsText e g r).toArray = rowsText [13, 10] g r := by
  have h := sub2_go e he r g [] ((rowsText e g r).toArray.size + 1) hr (by
    have : r.length ≤ ((r.map fun k => e ++ dots k).flatten).length := by
      clear he
      induction r with
      | nil => exact Nat.le_refl _
      | cons k r ih =>
        have := ih (fun k hk => hr k (.tail _ hk))
        have hk := hr k (.head _)
        simp only [List.map_cons, List.flatten_cons, List.length_append, List.length_cons, dots_len] at *
        omega
    rw [List.size_toArray]
    unfold rowsText
    rw [List.length_append]; omega)
  rw [List.nil_append] at h
  exact h
end Mine
end PartN
section PartN2
open PySem
namespace Mine
theorem dots_succ (g : Nat) : dots (g + 1) = 46 :: dots g := List.replicate_succ
theorem rows_split {e : List Nat} {g : Nat} {r : List Nat} : rowsText e (g + 1) r = 46 :: rowsText e g r := by unfold rowsText; rw [dots_succ]; rfl
theorem hit_no {text : Array Nat} {lim s : Nat} (h0 : s ≠ 0) (h : text.getD (s - 1) 0 ≠ 10) : hit1 text lim s = false := by
  unfold hit1
  have a : (s == 0) = false := by simpa using h0
  have b : (text.getD (s - 1) 0 == 10) = false := by simpa using h
  rw [a, b]; rfl
theorem sub1_go : ∀ (r : List Nat) (k : Nat) (P : List Nat) (f : Nat), (∀ g ∈ r, 1 ≤ g) → r.length + 1 ≤ f →
    outG (P ++ rowsText [13, 10] (k + 1) r).toArray [46, 46] (fun d => nx1 (P ++ rowsText [13, 10] (k + 1) r).toArray (P ++ rowsText [13, 10] (k + 1) r).toArray.size ((P ++ rowsText [13, 10] (k + 1) r).toArray.size - d) d) f (P.length + 1) = rowsText [13, 10] k (r.map (· + 1))
  | [], k, P, f, _, hf => by
    obtain ⟨f, rfl⟩ : ∃ f', f = f' + 1 := ⟨f - 1, by omega⟩
    have ex : rowsText [13, 10] (k + 1) [] = dots (k + 1) := by unfold rowsText; simp
    have ex2 : rowsText [13, 10] k (List.map (· + 1) []) = dots k := by unfold rowsText; simp
    rw [ex, ex2]
    have hz : (P ++ dots (k + 1)).toArray.size = P.length + 1 + k := by rw [List.size_toArray, List.length_append, dots_len]; omega
    have hn : nx1 (P ++ dots (k + 1)).toArray (P ++ dots (k + 1)).toArray.size ((P ++ dots (k + 1)).toArray.size - (P.length + 1)) (P.length + 1) = none := by
      rw [skip1 _ _ k (P.length + 1) (fun j hj => ?_) (by omega), hz, Nat.sub_self]; rfl
      refine hit_no (by omega) ?_
      rw [show P.length + 1 + j - 1 = P.length + j by omega, getD_app]
      have := getD_dots (k + 1) j [] (by omega)
      rw [List.append_nil] at this
      rw [this]; decide
    unfold outG
    simp only [hn]
    have e : P ++ dots (k + 1) = (P ++ [46]) ++ dots k := by rw [dots_succ]; simp
    have hl : P.length + 1 = (P ++ [46]).length := by simp
    rw [e, hl]
    exact ext_all (P ++ [46]) (dots k)
  | g2 :: r, k, P, f, hr, hf => by
    obtain ⟨f, rfl⟩ : ∃ f', f = f' + 1 := ⟨f - 1, by omega⟩
    have hg2 := hr g2 (.head _)
    obtain ⟨g3, rfl⟩ : ∃ g3, g2 = g3 + 1 := ⟨g2 - 1, by omega⟩
    have ex : rowsText [13, 10] (k + 1) ((g3 + 1) :: r) = dots (k + 1) ++ ([13, 10] ++ rowsText [13, 10] (g3 + 1) r) := by unfold rowsText; simp
    have ex2 : rowsText [13, 10] k (List.map (· + 1) ((g3 + 1) :: r)) = (dots k ++ [13, 10]) ++ ([46, 46] ++ rowsText [13, 10] g3 (List.map (· + 1) r)) := by
      unfold rowsText
      simp only [List.map_cons, List.flatten_cons, dots_succ]
      simp
    obtain ⟨xs, hxs⟩ : ∃ xs, xs = P ++ rowsText [13, 10] (k + 1) ((g3 + 1) :: r) := ⟨_, rfl⟩
    have hxs1 : xs = P ++ (dots (k + 1) ++ ([13, 10] ++ rowsText [13, 10] (g3 + 1) r)) := by rw [hxs, ex]
    have hxs2 : xs = (P ++ dots (k + 1) ++ [13, 10]) ++ rowsText [13, 10] (g3 + 1) r := by rw [hxs1]; simp
    have hrl : 1 ≤ (rowsText [13, 10] (g3 + 1) r).length := by rw [rows_split]; simp
    have hz : xs.toArray.size = P.length + (k + 1) + 2 + (rowsText [13, 10] (g3 + 1) r).length := by
      rw [hxs2, List.size_toArray]; simp only [List.length_append, dots_len, List.length_cons, List.length_nil]
    have gd : ∀ j, j < k + 1 → xs.toArray.getD (P.length + j) 0 = 46 := fun j hj => by rw [hxs1, getD_app, getD_dots _ _ _ hj]
    have gat : ∀ j, xs.toArray.getD (P.length + (k + 1) + j) 0 = ([13, 10] ++ rowsText [13, 10] (g3 + 1) r).getD j 0 := fun j => by
      rw [hxs1, Nat.add_assoc, getD_app, getD_behind]
    have hh : hit1 xs.toArray xs.toArray.size (P.length + 1 + (k + 2)) = true := by
      unfold hit1
      have h1 := gat 1
      have h2 := gat 2
      rw [show P.length + (k + 1) + 1 = P.length + 1 + (k + 2) - 1 by omega] at h1
      rw [show P.length + (k + 1) + 2 = P.length + 1 + (k + 2) by omega] at h2
      rw [h1, h2, rows_split]
      have h3 : decide (P.length + 1 + (k + 2) < xs.toArray.size) = true := by rw [decide_eq_true_eq]; omega
      rw [h3]
      simp
    have hn : nx1 xs.toArray xs.toArray.size (xs.toArray.size - (P.length + 1)) (P.length + 1) = some (P.length + 1 + (k + 2), P.length + 1 + (k + 2) + 1) := by
      rw [skip1 _ _ (k + 2) (P.length + 1) (fun j hj => ?_) (by omega), found1 _ _ _ hh (by omega)]
      refine hit_no (by omega) ?_
      rw [show P.length + 1 + j - 1 = P.length + j by omega]
      by_cases hj1 : j < k + 1
      · rw [gd j hj1]; decide
      · have : j = k + 1 := by omega
        subst this
        have := gat 0
        rw [Nat.add_zero] at this
        rw [this]
        exact (show (13 : Nat) ≠ 10 by decide)
    have ih := sub1_go r g3 (P ++ dots (k + 1) ++ [13, 10]) f (fun k hk => hr k (.tail _ hk)) (by simp only [List.length_cons] at hf; omega)
    rw [← hxs2] at ih
    rw [← hxs, ex2]
    unfold outG
    simp only [hn]
    have hl2 : (P ++ dots (k + 1) ++ [13, 10]).length + 1 = P.length + 1 + (k + 2) + 1 := by simp only [List.length_append, dots_len, List.length_cons, List.length_nil]; omega
    rw [hl2] at ih
    rw [ih]
    congr 1
    have e : xs = (P ++ [46]) ++ ((dots k ++ [13, 10]) ++ rowsText [13, 10] (g3 + 1) r) := by rw [hxs1, dots_succ]; simp
    have hl : P.length + 1 = (P ++ [46]).length := by simp
    have := ext_app (P ++ [46]) (dots k ++ [13, 10]) (rowsText [13, 10] (g3 + 1) r)
    have hl3 : (dots k ++ [13, 10]).length = k + 2 := by simp only [List.length_append, dots_len, List.length_cons, List.length_nil]
    rw [← e, ← hl, hl3] at this
    exact this
theorem rows_len {e : List Nat} (g : Nat) (r : List Nat) (hr : ∀ k ∈ r, 1 ≤ k) : g + r.length ≤ (rowsText e g r).length := by
  unfold rowsText
  rw [List.length_append, dots_len]
  have : r.length ≤ ((r.map fun k => e ++ dots k).flatten).length := by
    induction r with
    | nil => exact Nat.le_refl _
    | cons k r ih =>
      have := ih (fun k hk => hr k (.tail _ hk))
      have hk := hr k (.head _)
      simp only [List.map_cons, List.flatten_cons, List.length_append, List.length_cons, dots_len] at *
      omega
  omega
theorem sub1_rows (g : Nat) (r : List Nat) (hg : 1 ≤ g) (hr : ∀ k ∈ r, 1 ≤ k) : sub1 (rowsText [13, 10] g r).toArray = rowsText [13, 10] (g + 1) (r.map (· + 1)) := by
  obtain ⟨k, rfl⟩ : ∃ k, g = k + 1 := ⟨g - 1, by omega⟩
  have hlen := rows_len (e := [13, 10]) (k + 1) r hr
  have h := sub1_go r k [] (rowsText [13, 10] (k + 1) r).toArray.size hr (by rw [List.size_toArray]; omega)
  rw [List.nil_append] at h
  have hh : hit1 (rowsText [13, 10] (k + 1) r).toArray (rowsText [13, 10] (k + 1) r).toArray.size 0 = true := by
    rw [rows_split]
    unfold hit1
    simp
  have hn : nx1 (rowsText [13, 10] (k + 1) r).toArray (rowsText [13, 10] (k + 1) r).toArray.size ((rowsText [13, 10] (k + 1) r).toArray.size - 0) 0 = some (0, 1) := found1 _ _ 0 hh (by rw [List.size_toArray]; omega)
  unfold sub1 outG
  simp only [hn]
  rw [show ([] : List Nat).length + 1 = 1 from rfl] at h
  rw [h, rows_split, rows_split]
  simp [rows_split]
end Mine
end PartN2
section PartV
open PySem PySem.W PyProof.Rows PySem.Calls PySem.Spec
namespace Mine
def ins (a : Int) : List Int → List Int
  | [] => [a]
  | b :: r => if a ≤ b then a :: b :: r else b :: ins a r
def isort : List Int → List Int
  | [] => []
  | a :: r => ins a (isort r)
theorem ins_perm (a : Int) : ∀ r : List Int, (ins a r).Perm (a :: r)
  | [] => .refl _
  | b :: r => by
    unfold ins
    split
    · exact .refl _
    · exact ((ins_perm a r).cons b).trans (.swap a b r)
theorem isort_perm : ∀ r : List Int, (isort r).Perm r
  | [] => .refl _
  | a :: r => (ins_perm a _).trans ((isort_perm r).cons a)
theorem ins_sorted (a : Int) : ∀ r : List Int, r.Pairwise (fun x y : Int => x ≤ y) → (ins a r).Pairwise (fun x y : Int => x ≤ y)
  | [], _ => List.pairwise_singleton _ _
  | b :: r, h => by
    unfold ins
    have hb := List.pairwise_cons.mp h
    split
    · rename_i hab
      refine List.pairwise_cons.mpr ⟨fun c hc => ?_, h⟩
      rcases List.mem_cons.mp hc with rfl | hc
      · exact hab
      · exact Int.le_trans hab (hb.1 c hc)
    · rename_i hab
      refine List.pairwise_cons.mpr ⟨fun c hc => ?_, ins_sorted a r hb.2⟩
      rcases List.mem_cons.mp ((ins_perm a r).mem_iff.mp hc) with rfl | hc
      · omega
      · exact hb.1 c hc
theorem isort_sorted : ∀ r : List Int, (isort r).Pairwise (fun x y : Int => x ≤ y)
  | [] => List.Pairwise.nil
  | a :: r => ins_sorted a _ (isort_sorted r)
theorem sorted_eq : ∀ {a b : List Int}, a.Perm b → a.Pairwise (fun x y : Int => x ≤ y) → b.Pairwise (fun x y : Int => x ≤ y) → a = b
  | [], b, h, _, _ => by rw [h.nil_eq]
  | x :: a, [], h, _, _ => by exact absurd h.length_eq (by simp)
  | x :: a, y :: b, h, ha, hb => by
    have ha' := List.pairwise_cons.mp ha
    have hb' := List.pairwise_cons.mp hb
    have hxy : x = y := by
      have h1 : x ∈ y :: b := h.mem_iff.mp (.head _)
      have h2 : y ∈ x :: a := h.mem_iff.mpr (.head _)
      have l1 : y ≤ x := by
        rcases List.mem_cons.mp h1 with e | e
        · omega
        · exact hb'.1 x e
      have l2 : x ≤ y := by
        rcases List.mem_cons.mp h2 with e | e
        · omega
        · exact ha'.1 y e
      omega
    subst hxy
    rw [sorted_eq (List.Perm.cons_inv h) ha'.2 hb'.2]
def nodupB : List Int → Bool
  | [] => true
  | a :: r => !(r.any fun x => x == a) && nodupB r
theorem nodupB_of : ∀ {l : List Int}, l.Nodup → nodupB l = true
  | [], _ => rfl
  | a :: r, h => by
    have h' := List.nodup_cons.mp h
    unfold nodupB
    rw [nodupB_of h'.2, Bool.and_true, Bool.not_eq_true', List.any_eq_false]
    intro x hx hxa
    rw [beq_iff_eq] at hxa
    exact h'.1 (hxa ▸ hx)
def gapsOf (zs : List Int) (n : Nat) : List Int := (rangeKs 0 n).map (gapAt zs)
def okOne (step ring : Int) (n : Nat) : Bool :=
  let p := places step ring n
  !(nodupB p) || (gapsOf (isort p ++ [ring]) n == rowsZ step ring n && (rowsZ step ring n).all fun r => decide (1 ≤ r) && decide (r ≤ 100))
def okSome (ring : Int) (a m : Nat) : Bool := (List.range m).all fun s => (List.range 10).all fun n => okOne ((a + s + 1 : Nat) : Int) ring (n + 1)
theorem okSome_at {ring : Int} {a m : Nat} (h : okSome ring a m = true) {s n : Nat} (h1 : a < s) (h2 : s ≤ a + m) (h3 : 1 ≤ n) (h4 : n ≤ 10) : okOne (s : Int) ring n = true := by
  have h5 := List.all_eq_true.mp (List.all_eq_true.mp h (s - a - 1) (List.mem_range.mpr (by omega))) (n - 1) (List.mem_range.mpr (by omega))
  rw [show a + (s - a - 1) + 1 = s by omega, show n - 1 + 1 = n by omega] at h5
  exact h5
set_option maxRecDepth 100000 in
theorem ok_10_0 : okSome 10 0 9 = true := by decide +kernel
set_option maxRecDepth 100000 in
theorem ok_100_0 : okSome 100 0 9 = true := by decide +kernel
set_option maxRecDepth 100000 in
theorem ok_100_9 : okSome 100 9 9 = true := by decide +kernel
set_option maxRecDepth 100000 in
theorem ok_100_18 : okSome 100 18 9 = true := by decide +kernel
set_option maxRecDepth 100000 in
theorem ok_100_27 : okSome 100 27 9 = true := by decide +kernel
set_option maxRecDepth 100000 in
theorem ok_100_36 : okSome 100 36 9 = true := by decide +kernel
set_option maxRecDepth 100000 in
theorem ok_100_45 : okSome 100 45 9 = true := by decide +kernel
set_option maxRecDepth 100000 in
theorem ok_100_54 : okSome 100 54 9 = true := by decide +kernel
set_option maxRecDepth 100000 in
theorem ok_100_63 : okSome 100 63 9 = true := by decide +kernel
set_option maxRecDepth 100000 in
theorem ok_100_72 : okSome 100 72 9 = true := by decide +kernel
set_option maxRecDepth 100000 in
theorem ok_100_81 : okSome 100 81 9 = true := by decide +kernel
set_option maxRecDepth 100000 in
theorem ok_100_90 : okSome 100 90 9 = true := by decide +kernel
theorem ok_all {ring : Int} {s n : Nat} (hr : ring = 10 ∧ s ≤ 9 ∨ ring = 100 ∧ s ≤ 99) (h1 : 1 ≤ s) (h3 : 1 ≤ n) (h4 : n ≤ 10) : okOne (s : Int) ring n = true := by
  rcases hr with ⟨rfl, h⟩ | ⟨rfl, h⟩
  · exact okSome_at ok_10_0 (by omega) (by omega) h3 h4
  by_cases h0 : s ≤ 9
  · exact okSome_at ok_100_0 (by omega) (by omega) h3 h4
  by_cases h9 : s ≤ 18
  · exact okSome_at ok_100_9 (by omega) (by omega) h3 h4
  by_cases h18 : s ≤ 27
  · exact okSome_at ok_100_18 (by omega) (by omega) h3 h4
  by_cases h27 : s ≤ 36
  · exact okSome_at ok_100_27 (by omega) (by omega) h3 h4
  by_cases h36 : s ≤ 45
  · exact okSome_at ok_100_36 (by omega) (by omega) h3 h4
  by_cases h45 : s ≤ 54
  · exact okSome_at ok_100_45 (by omega) (by omega) h3 h4
  by_cases h54 : s ≤ 63
  · exact okSome_at ok_100_54 (by omega) (by omega) h3 h4
  by_cases h63 : s ≤ 72
  · exact okSome_at ok_100_63 (by omega) (by omega) h3 h4
  by_cases h72 : s ≤ 81
  · exact okSome_at ok_100_72 (by omega) (by omega) h3 h4
  by_cases h81 : s ≤ 90
  · exact okSome_at ok_100_81 (by omega) (by omega) h3 h4
  by_cases h90 : s ≤ 99
  · exact okSome_at ok_100_90 (by omega) (by omega) h3 h4
  omega
theorem three_gaps {f ring step front : Int} (hC : LawC f ring step front) {n : Nat} (h1 : 1 ≤ n) (h2 : n ≤ 10) (hnd : (places step ring n).Nodup) {ps : List Int} (hp : ps.Perm (places step ring n)) (hs : ps.Pairwise (fun a b : Int => a ≤ b)) :
    gapsOf (ps ++ [ring]) n = rowsZ step ring n ∧ ∀ r ∈ rowsZ step ring n, 1 ≤ r ∧ r ≤ 100 := by
  obtain ⟨hc1, hc2, hc3, _⟩ := hC
  obtain ⟨s, rfl⟩ := Int.eq_ofNat_of_zero_le (show 0 ≤ step by omega)
  have h := ok_all (ring := ring) (s := s) (n := n) (by omega) (by omega) h1 h2
  have e : ps = isort (places s ring n) := sorted_eq (hp.trans (isort_perm _).symm) hs (isort_sorted _)
  unfold okOne at h
  dsimp only at h
  rw [nodupB_of hnd, Bool.not_true, Bool.false_or, Bool.and_eq_true, beq_iff_eq, ← e] at h
  refine ⟨h.1, fun r hr => ?_⟩
  have := List.all_eq_true.mp h.2 r hr
  rw [Bool.and_eq_true, decide_eq_true_eq, decide_eq_true_eq] at this
  exact this
end Mine
end PartV
section PartV2
open PySem PySem.W PyProof.Rows PySem.Calls PySem.Spec
namespace Mine
theorem fold_dots : ∀ (k : Nat) (acc : Array Nat), (List.foldl (fun x1 x2 => x1 ++ x2) acc (List.replicate k (Str.ofString ".").cps)).toList = acc.toList ++ dots k := by
  have h46 : (Str.ofString ".").cps.toList = [46] := by decide +kernel
  intro k
  induction k with
  | zero => intro acc; simp [dots]
  | succ k ih =>
    intro acc
    rw [List.replicate_succ, List.foldl_cons, ih, Array.toList_append, h46, dots_succ]
    simp
theorem dotText_list {n : Int} (h : 1 ≤ n) : (dotText n).cps.toList = dots n.toNat := by
  have h46 : (Str.ofString ".").cps.toList = [46] := by decide +kernel
  have hl : ((Str.ofString ".").length == 0) = false := by decide +kernel
  unfold dotText Txt.mul
  rw [if_neg (by omega), hl, Bool.or_false]
  by_cases h1 : n = 1
  · subst h1
    rw [if_pos (by decide), h46]; rfl
  · rw [if_neg (by simpa using h1)]
    exact (fold_dots n.toNat #[]).trans (by simp)
theorem join_rows (e : Str) : ∀ (gr : List Int) (g : Int), 1 ≤ g → (∀ k ∈ gr, 1 ≤ k) → (Str.join e (dotText g :: gr.map dotText)).cps.toList = rowsText e.cps.toList g.toNat (gr.map Int.toNat)
  | [], g, hg, _ => by
    show (dotText g).cps.toList = _
    rw [dotText_list hg]; unfold rowsText; simp
  | g2 :: gr, g, hg, h => by
    rw [List.map_cons, join_cons2, join_rows e gr g2 (h g2 (.head _)) (fun k hk => h k (.tail _ hk)), dotText_list hg]
    unfold rowsText; simp
def rowsStr (e : List Nat) (g : Nat) (r : List Nat) : Str := ⟨(rowsText e g r).toArray⟩
theorem quo_rows {e : List Nat} (he : EndL e) (g : Nat) (r : List Nat) (hg : 1 ≤ g) (hr : ∀ k ∈ r, 1 ≤ k) : quo (rowsStr e g r) = rowsStr [13, 10] (g + 1) (r.map (· + 1)) := by
  unfold quo rowsStr
  rw [show (⟨(rowsText e g r).toArray⟩ : Str).cps = (rowsText e g r).toArray from rfl, sub2_rows he g r hr, sub1_rows g r hg hr]
theorem endL_of {e : Str} (h : EndOk e) : EndL e.cps.toList := by
  rcases h with rfl | rfl | rfl
  · exact .inl (by decide +kernel)
  · exact .inr (.inl (by decide +kernel))
  · exact .inr (.inr (by decide +kernel))
theorem rowsText_le {e : List Nat} (he : e.length ≤ 2) (M : Nat) : ∀ (r : List Nat) (g : Nat), (∀ k ∈ r, k ≤ M) → (rowsText e g r).length ≤ g + r.length * (2 + M) := by
  intro r g hr
  unfold rowsText
  rw [List.length_append, dots_len]
  have : ((r.map fun k => e ++ dots k).flatten).length ≤ r.length * (2 + M) := by
    induction r with
    | nil => simp
    | cons k r ih =>
      have := ih (fun k hk => hr k (.tail _ hk))
      have hk := hr k (.head _)
      rw [List.map_cons, List.flatten_cons, List.length_append, List.length_append, dots_len, List.length_cons, Nat.succ_mul]
      omega
  omega
theorem rowsGo_length (st : RS) (count : Int) : ∀ (n : Nat) (k : Int), (rowsGo st count n k).length = n
  | 0, _ => rfl
  | n + 1, k => by show (_ :: rowsGo st count n _).length = _; rw [List.length_cons, rowsGo_length st count n]
theorem rowsZ_length (step ring : Int) (n : Nat) : (rowsZ step ring n).length = n := by
  unfold rowsZ; rw [rowsGo_length]; exact Int.toNat_natCast n
theorem page_law {e : Str} (he : EndOk e) {R : List Int} (hne : 1 ≤ R.length) (hl : R.length ≤ 10) (hR : ∀ r ∈ R, 1 ≤ r ∧ r ≤ 100) {sn : Int} (hsn : sn = 1 ∨ sn = 2) :
    (∀ i : Nat, (i : Int) < sn → (quoN i (Txt.join e (R.map dotText))).cps.size ≤ 10000) ∧ quoN sn.toNat (Txt.join e (R.map dotText)) = Txt.join (Str.ofString "\r\n") (rowTexts R sn) := by
  obtain ⟨g, gr, rfl⟩ : ∃ g gr, R = g :: gr := by cases R with | nil => exact absurd hne (by decide) | cons g gr => exact ⟨g, gr, rfl⟩
  have hg := hR g (.head _)
  have hgr : ∀ k ∈ gr, 1 ≤ k ∧ k ≤ 100 := fun k hk => hR k (.tail _ hk)
  have hcr : (Str.ofString "\r\n").cps.toList = [13, 10] := by decide +kernel
  have hx : Txt.join e ((g :: gr).map dotText) = rowsStr e.cps.toList g.toNat (gr.map Int.toNat) := by
    apply str_ext
    rw [show Txt.join e ((g :: gr).map dotText) = Str.join e ((g :: gr).map dotText) from StrLaws.glued_eq_join _ _, List.map_cons, join_rows e gr g hg.1 (fun k hk => (hgr k hk).1)]
    rfl
  have hy : Txt.join (Str.ofString "\r\n") (rowTexts (g :: gr) sn) = rowsStr [13, 10] (g.toNat + sn.toNat) ((gr.map Int.toNat).map (· + sn.toNat)) := by
    apply str_ext
    have e1 : rowTexts (g :: gr) sn = dotText (g + sn) :: (gr.map (· + sn)).map dotText := by
      unfold rowTexts; rw [List.map_cons, List.map_map]; rfl
    rw [show Txt.join (Str.ofString "\r\n") (rowTexts (g :: gr) sn) = Str.join (Str.ofString "\r\n") (rowTexts (g :: gr) sn) from StrLaws.glued_eq_join _ _, e1, join_rows _ _ _ (by omega) (fun k hk => by
      obtain ⟨k', hk', rfl⟩ := List.mem_map.mp hk
      have := hgr k' hk'
      omega), hcr]
    have e2 : (g + sn).toNat = g.toNat + sn.toNat := by omega
    have e3 : (gr.map (· + sn)).map Int.toNat = (gr.map Int.toNat).map (· + sn.toNat) := by
      rw [List.map_map, List.map_map]
      refine List.map_congr_left fun k hk => ?_
      have := hgr k hk
      show (k + sn).toNat = k.toNat + sn.toNat
      omega
    rw [e2, e3]; rfl
  rw [hx, hy]
  have hgn : 1 ≤ g.toNat := by omega
  have hrn : ∀ k ∈ gr.map Int.toNat, 1 ≤ k := fun k hk => by
    obtain ⟨k', hk', rfl⟩ := List.mem_map.mp hk
    have := hgr k' hk'
    omega
  have hrm : ∀ k ∈ gr.map Int.toNat, k ≤ 100 := fun k hk => by
    obtain ⟨k', hk', rfl⟩ := List.mem_map.mp hk
    have := hgr k' hk'
    omega
  have hrl : (gr.map Int.toNat).length ≤ 9 := by rw [List.length_map]; simp only [List.length_cons] at hl; omega
  have q1 := quo_rows (endL_of he) g.toNat (gr.map Int.toNat) hgn hrn
  have hr1 : ∀ k ∈ (gr.map Int.toNat).map (· + 1), 1 ≤ k ∧ k ≤ 101 := fun k hk => by
    obtain ⟨k', hk', rfl⟩ := List.mem_map.mp hk
    have := hrm k' hk'
    omega
  have q2 := quo_rows (e := [13, 10]) (.inr (.inr rfl)) (g.toNat + 1) ((gr.map Int.toNat).map (· + 1)) (by omega) (fun k hk => (hr1 k hk).1)
  have hel : e.cps.toList.length ≤ 2 := by rcases endL_of he with h | h | h <;> rw [h] <;> decide
  have z0 : (rowsStr e.cps.toList g.toNat (gr.map Int.toNat)).cps.size ≤ 10000 := by
    show (rowsText e.cps.toList g.toNat (gr.map Int.toNat)).toArray.size ≤ 10000
    rw [List.size_toArray]
    have := rowsText_le hel 100 (gr.map Int.toNat) g.toNat hrm
    have h9 : (gr.map Int.toNat).length * (2 + 100) ≤ 9 * (2 + 100) := Nat.mul_le_mul hrl (Nat.le_refl _)
    omega
  have z1 : (rowsStr [13, 10] (g.toNat + 1) ((gr.map Int.toNat).map (· + 1))).cps.size ≤ 10000 := by
    show (rowsText [13, 10] (g.toNat + 1) ((gr.map Int.toNat).map (· + 1))).toArray.size ≤ 10000
    rw [List.size_toArray]
    have := rowsText_le (e := [13, 10]) (by decide) 101 ((gr.map Int.toNat).map (· + 1)) (g.toNat + 1) (fun k hk => (hr1 k hk).2)
    have h9 : ((gr.map Int.toNat).map (· + 1)).length * (2 + 101) ≤ 9 * (2 + 101) := Nat.mul_le_mul (by rw [List.length_map]; exact hrl) (Nat.le_refl _)
    omega
  rcases hsn with rfl | rfl
  · refine ⟨fun i hi => ?_, ?_⟩
    · have : i = 0 := by omega
      subst this; exact z0
    · show quo (rowsStr _ _ _) = _
      rw [q1]; rfl
  · refine ⟨fun i hi => ?_, ?_⟩
    · have : i = 0 ∨ i = 1 := by omega
      rcases this with rfl | rfl
      · exact z0
      · show (quo (rowsStr _ _ _)).cps.size ≤ _
        rw [q1]; exact z1
    · show quo (quo (rowsStr _ _ _)) = _
      rw [q1, q2, List.map_map]; rfl
end Mine
end PartV2
section PartW
open PySem PySem.W PyProof.Rows PySem.Calls PySem.Spec
namespace Mine
def PEnd (h₀ : Heap) (L : Addr) (s : Shared) (fl : Flow) (s' : Shared) : Prop :=
  fl = .ret (.bool true) ∧ ∃ (m' : Str → Option Value) (h' : Heap) (tk' : Nat) (g' : Array GenState), s' = { s with heap := h', toks := tk', gens := g' } ∧ AllBare g' ∧ Fr h₀ L h' m'
theorem ints_of6 {ys : List Value} {a b c d e f : Int} (h : IntsAre ys [a, b, c, d, e, f]) : ∃ t0 t1 t2 t3 t4 t5, ys = [.int a t0, .int b t1, .int c t2, .int d t3, .int e t4, .int f t5] := by
  cases h with | cons a t0 h => cases h with | cons b t1 h => cases h with | cons c t2 h => cases h with | cons d t3 h => cases h with | cons e t4 h => cases h with | cons f t5 h => cases h with | nil => exact ⟨t0, t1, t2, t3, t4, t5, rfl⟩
theorem cell_ne {h₀ h : Heap} {L a b : Addr} {news : List (Addr × Obj)} {xs : Array Value} {n : Nat} {o : Obj} (N : News h₀ L h news) (h1 : (a, listOf xs n) ∈ news) (h2 : (b, o) ∈ news) {v : Option Value} (ho : o.data = .cell v) : @Ne Nat a b := fun q => by
  have e1 : h.get? a = some (listOf xs n) := (N _ h1).1
  have e2 : h.get? b = some o := (N _ h2).1
  rw [show a = b from q, e2] at e1
  have := congrArg Obj.data (Option.some.inj e1)
  rw [ho] at this
  cases this
theorem drawn_bound {xs : List Int} : ∀ d ∈ ((xs.take 6).map fun k : Int => k.fmod 1000000) ++ [41, 20, 32, 5, 14, 9].drop ((xs.take 6).map fun k : Int => k.fmod 1000000).length, 0 ≤ d ∧ d < 1000000 := by
  intro d hd
  rcases List.mem_append.mp hd with hd | hd
  · obtain ⟨k, _, rfl⟩ := List.mem_map.mp hd
    have h0 : k.fmod 1000000 = k % 1000000 := Int.fmod_eq_emod_of_nonneg _ (by decide)
    (try dsimp only)
    omega
  · have := List.mem_of_mem_drop hd
    simp only [List.mem_cons, List.not_mem_nil, or_false] at this
    omega
theorem drawn_len (xs : List Int) : (((xs.take 6).map fun k : Int => k.fmod 1000000) ++ [41, 20, 32, 5, 14, 9].drop ((xs.take 6).map fun k : Int => k.fmod 1000000).length).length = 6 := by
  rw [List.length_append, List.length_drop, List.length_map, List.length_take]
  simp only [List.length_cons, List.length_nil]
  omega
theorem law_body {w : World} {name qual : Str} {params : Arguments} {body : List Stmt} {scope : Scope} {cdv : Value} (hbody : LawAt w name qual params body scope cdv)
    {mean : ExcName → Option Value} {mg mb : Str → Option Value} {dp un : Nat} {gd : Option (List Code)} {s : Shared} {h₀ : Heap} {L fa : Addr} {h : Heap} {tk : Nat}
    (KX : (Mine.wn_hd.heap_39 w.params).In h₀) (T : Top Mine.wn_hd.view_39 (looseW Mine.wn_hd.view_39 [Str.ofString "_twin_re_1", Str.ofString "_twin_re_2"]) mean mg mb h₀) (hroom : dp + 40 < recursionLimit) (hu : un + 80 < cLine)
    {SL : Addr} {ws : List Value} {xs : List Int} (hL : h₀.IsList SL ws.toArray) (hI : IntsAre ws xs) (hlen : xs.length ≤ 63) (m : Str → Option Value) (hg : AllBare s.gens)
    (F : Fr h₀ L h (upd [(Str.ofString "script", .ref SL)] m)) {o1 o2 : Obj} (ho1 : o1.data = .cell none) (ho2 : o2.data = .cell none) (N : News h₀ L h [(L + 1 + 1, o2), (L + 1, o1)]) :
    wpAny (model PySem.Challenge.rw_wn0012_01.row.prog w) ⟨none, dp, some [envOfC name scope L fa cdv], gd, un⟩ (execs body (envOfC name scope L fa cdv)) (PEnd h₀ L s) NoE { s with heap := h, toks := tk } := by
  refine execs_cut3 1 (fun fl s' h => h.1) (law_pre0 hbody KX T hroom hu hL hI hlen m F N) fun s' hA => ?_
  obtain ⟨_, D0, ys0, c0, zs, h1, tk1, rfl, F1, N1, I1, rfl⟩ := hA
  refine execs_cut3 1 (fun fl s' h => h.1) (law_pre1 hbody KX T hroom hu I1 (by rw [List.length_map, List.length_take]; omega) m F1 N1) fun s' hB => ?_
  obtain ⟨_, D, ys, c, us, h2, tk2, rfl, F2, N2, I2, hus⟩ := hB
  rw [List.drop_drop]
  have hbnd := drawn_bound (xs := xs)
  have hl6 := drawn_len xs
  rw [← hus] at hbnd hl6
  obtain ⟨d0, d1, d2, d3, d4, d5, rfl⟩ := ints6 hl6
  obtain ⟨t0, t1, t2, t3, t4, t5, rfl⟩ := ints_of6 I2
  have b0 := hbnd d0 (by simp)
  have b1 := hbnd d1 (by simp)
  have b2 := hbnd d2 (by simp)
  have b3 := hbnd d3 (by simp)
  have b4 := hbnd d4 (by simp)
  have b5 := hbnd d5 (by simp)
  clear hus hbnd hl6 I2 I1
  refine execs_cut3 7 (fun fl s' h => h.1) (law_pre2 hbody KX T hroom hu b0 b1 b2 m F2 N2) fun s' hC => ?_
  obtain ⟨_, f, ring, step, front, tf, tr, ts, tfr, t6, t7, u1, u2, u3, u4, u5, SZ, PT, TL, h3, tk3, rfl, hC, F3, N3, hPT, hSZ, hlt⟩ := hC
  rw [List.drop_drop]
  have hne : ∀ p ∈ lawBase PT SZ D step t6 t7 u1 u2 u3 u4 u5 d0 d1 d2 d3 d4 d5 t0 t1 t2 t3 t4 t5 c [(L + 1 + 1, o2), (L + 1, o1)], p.1 ≠ TL := fun p hp => by
    rcases List.mem_cons.mp hp with rfl | hp
    · exact Nat.ne_of_lt hPT
    · rcases List.mem_cons.mp hp with rfl | hp
      · exact Nat.ne_of_lt hSZ
      · exact Nat.ne_of_lt (hlt p hp)
  have hTL : L + 1 + 1 < TL := hlt (L + 1 + 1, o2) (.tail _ (.head _))
  refine execs_cut3 1 (fun fl s' h => h.1) (law_loop hbody KX T hroom hu b3 b4 b5 hC hg F3 N3 hne) fun s' hP => ?_
  obtain ⟨_, n, u, tv, tc, h4, tk4, g4, rfl, hg4, F4, N4, hI4, hnd, hn1, hn10⟩ := hP
  rw [List.drop_drop]
  have hpl : (places step ring n).length = n := by unfold places; rw [List.length_map, List.length_range]
  have N5 : News h₀ L h4 [(TL, listOf (List.toArray tv) tc), (D, listOf #[.int d0 t0, .int d1 t1, .int d2 t2, .int d3 t3, .int d4 t4, .int d5 t5] c), (L + 1 + 1, o2), (L + 1, o1)] := fun p hp => N4 p (by
    rcases List.mem_cons.mp hp with rfl | hp
    · exact .head _
    · exact .tail _ (.tail _ (.tail _ hp)))
  refine execs_cut3 1 (fun fl s' h => h.1) (post_a (s := s) hbody KX T hroom hu b5 F4 N5) fun s' hA => ?_
  obtain ⟨_, e, qe, h5, tk5, rfl, he, F5, N6⟩ := hA
  rw [List.drop_drop]
  have hD1 : @Ne Nat D (L + 1) := cell_ne N6 (.tail _ (.head _)) (.tail _ (.tail _ (.tail _ (.head _)))) ho1
  have hD2 : @Ne Nat D (L + 1 + 1) := cell_ne N6 (.tail _ (.head _)) (.tail _ (.tail _ (.head _))) ho2
  refine execs_cut3 1 (fun fl s' h => h.1) (post_b (s := s) hbody KX T hroom hu hC hI4 (by rw [hpl]; exact ⟨hn1, hn10⟩) F5 ho1 ho2 hTL hD1 N6) fun s' hB => ?_
  obtain ⟨_, E, pv, ps, o1', h6, tk6, rfl, hpv, hperm, hsort, ho1', F6, N7, hE⟩ := hB
  rw [List.drop_drop]
  have hpsl : ps.length = (places step ring n).length := hperm.length_eq
  have hC' := hC
  obtain ⟨hc1, hc2, hc3, hc4, hc5, hc6⟩ := hC'
  have hpr : ∀ x ∈ ps, 0 ≤ x ∧ x ≤ 100 := fun x hx => by
    have := hperm.mem_iff.mp hx
    obtain ⟨i, _, rfl⟩ := List.mem_map.mp this
    unfold pl
    have h1 := Int.emod_nonneg ((i : Int) * step) (show ring ≠ 0 by omega)
    have h2 := Int.emod_lt_of_pos ((i : Int) * step) (show 0 < ring by omega)
    omega
  have hel : e.length ≤ 2 := by rcases he with rfl | rfl | rfl <;> decide +kernel
  refine execs_cut3 1 (fun fl s' h => h.1) (post_c (s := s) hbody KX T hroom hu hC hI4 (by rw [hpl]; exact ⟨hn1, hn10⟩) hel hpv hpsl hpr F6 ho1' ho2 hTL hE N7) fun s' hX => ?_
  obtain ⟨_, q, h7, tk7, rfl, F7, N8⟩ := hX
  rw [List.drop_drop]
  have N9 : News h₀ L h7 [(TL, listOf (List.toArray tv) tc), (D, listOf #[.int d0 t0, .int d1 t1, .int d2 t2, .int d3 t3, .int d4 t4, .int d5 t5] c), (L + 1 + 1, o2), (L + 1, o1')] := fun p hp => N8 p (.tail _ hp)
  refine execs_cut3 1 (fun fl s' h => h.1) (post_d (s := s) hbody KX T hroom hu F7 ho2 hTL hD2 N9) fun s' hY => ?_
  obtain ⟨_, o2', tsn, h8, tk8, rfl, ho2', F8, N10⟩ := hY
  rw [List.drop_drop]
  have hgap := three_gaps hC hn1 hn10 hnd hperm hsort
  have hsn : (1 + d4 % 2 = 1) ∨ (1 + d4 % 2 = 2) := by omega
  have htext : gapTexts (ps ++ [ring]) (places step ring n).length = (rowsZ step ring n).map dotText := by
    rw [hpl, ← hgap.1]
    unfold gapTexts gapsOf
    rw [List.map_map]; rfl
  have hrl := rowsZ_length step ring n
  obtain ⟨hq1, hq2⟩ := page_law he (R := rowsZ step ring n) (by omega) (by omega) hgap.2 hsn
  rw [← htext] at hq1 hq2
  have N11 : News h₀ L h8 [(TL, listOf (List.toArray tv) tc), (L + 1 + 1, o2')] := fun p hp => N10 p (by
    rcases List.mem_cons.mp hp with rfl | hp
    · exact .tail _ (.tail _ (.head _))
    · rw [List.mem_singleton.mp hp]; exact .head _)
  refine execs_cut3 1 (fun fl s' h => h.1) (post_e (s := s) (o1 := o1) hbody KX T hroom hu (by omega) hq1 F8 ho2' N11) fun s' hZ => ?_
  obtain ⟨_, u7, q7, h9, tk9, rfl, F9, N12⟩ := hZ
  rw [List.drop_drop, hq2] at *
  refine wpAny_mono (post_f (s := s) (o1 := o1) hbody KX T hroom hu hC hI4 (by rw [hpl]; exact ⟨hn1, hn10⟩) (by omega) (fun r hr => by rw [hpl] at hr; have := hgap.2 r hr; omega) (by rw [hpl]; omega) F9 ho2' N12) (fun fl s' hR => ?_) fun _ _ e => e
  obtain ⟨rfl, m', h10, tk10, rfl, F10⟩ := hR
  rw [hpl]
  exact ⟨by rw [beq_self_eq_true], m', h10, tk10, g4, rfl, hg4, F10⟩
end Mine
end PartW
section PartZ
open PySem PySem.W PyProof.Rows PySem.Calls PySem.Spec
namespace Mine
set_option maxRecDepth 100000 in
set_option maxHeartbeats 8000000 in
theorem law_all : PySem.Challenge.rw_wn0012_01.Holds := by
  refine wn_hd ?_
  k_fill
  intro w s₀ s₁ mg mb G Y fa o pm cd doc dV kV ho hd hcd hD hmg hg args vals as hpre hlay hrd hwl hlo
  have KX := kIn_of Y
  have X := (Ground.X G).1
  have V := (Ground.X G).2
  refine Ground.open G ?_
  intro T B D TE TW
  try (refine guard_noD D (by decide +kernel) ?_; clear D)
  obtain ⟨_, _, he, B0⟩ := based_of_top T rfl hmg ho hd
  have he' : cd = _ := he
  have hc122 := law_code (x := PySem.Str.ofString "law") (c := 122) (P := 120) KX (Top.g T) (by kernel_rfl) hmg ho hd
  have hcd122 : cd = .ref 122 := hc122
  clear hc122 he he'
  subst hcd122
  clear hmg
  wrow_args hpre hlay hrd hwl hlo
  refine enter_call ?_
  w_top on
  w_call any ho hd hcd hD T F
  rename_i h1 tk1 oA oB hA hB N0 X0
  (rename IntsAre _ _ => hI); (rename Heap.IsList _ _ _ => hLs)
  have hlen : ∀ {l : List Int}, ¬ ((63 : Nat) : Int) < ((l.length : Nat) : Int) → l.length ≤ 63 := fun h => by omega
  have hb0 : AllBare s₁.gens := AllBare.of_eq hg
  refine' wpAny_mono (law_body (w := w) (s := s₁) (o1 := oB) (o2 := oA) ?k1 KX T ?r1 ?r2 hLs hI (hlen (by assumption)) (fun _ => none) hb0 ?F1 ?c1 ?c2 N0) (fun fl s' hP => ?_) (fun _ _ e => e.elim)
  case k1 => exact ⟨_, _, _, _, _, _, _, _, _, _, by k_is⟩
  case r1 => decide
  case r2 => decide
  case F1 => exact F
  case c1 => exact hB
  case c2 => exact hA
  obtain ⟨rfl, m', h9, tk9, g9, rfl, hg9, F9⟩ := hP
  dsimp only
  clear F N0 hA hB X0
  wrow_closeG
end Mine
end PartZ
open PySem PySem.W PyProof.Rows
set_option maxRecDepth 100000 in
set_option maxHeartbeats 8000000 in
theorem PySem.Challenge.cw_wn0012_01_holds : PySem.Challenge.rw_wn0012_01.Holds := by
  exact Mine.law_all
