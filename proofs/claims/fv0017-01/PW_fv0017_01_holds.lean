import PyProof.Rows.All
import Wide.All
import OpenK.AllK
import Wide.FinOn
import Lean
import PySem.Challenge.RW_fv0017_01
set_option Elab.async false
set_option maxRecDepth 100000
set_option maxHeartbeats 0

section
open PySem PySem.W PyProof.Rows
namespace Mine
open Lean Elab Tactic Meta in
def mkKK : TacticM Unit := do
  let g ← getMainGoal
  let p ← PySem.W.progOf (mkConst ``PySem.Challenge.pw_fv0017_01)
  let some (h, h') ← PySem.W.twoRuns p | throwError "twoRuns"
  let v ← withLocalDeclD `P (mkConst ``PySem.Params) fun P => do
    let fr := PySem.W.xFragOf P (some "law") h h'
    let pr := mkApp2 (mkConst ``Prod [0, 0]) (mkConst ``Nat) (mkConst ``PySem.Obj)
    mkLambdaFVars #[P] (PySem.W.listE pr (fr.map fun (a, _, e) => mkApp4 (mkConst ``Prod.mk [0, 0]) (mkConst ``Nat) (mkConst ``PySem.Obj) (mkRawNatLit a) e))
  g.assign v
noncomputable def KK : PySem.Params → PySem.W.Frag := by run_tac mkKK
end Mine
end

section
open PySem PySem.Spec PySem.Calls PyProof.Rows PySem.W PySem.W.X
namespace Mine

structure Cfg where
  c : Code
  md : Option (List Frame)
  k : Kont
  t : Sem Fin
  gl : List GenState
  tk : Nat

def fresher (T : List (Addr × Obj)) (a : Addr) : Bool := match T with
  | [] => true
  | p :: r => match Nat.beq p.1 a with
    | true => false
    | false => fresher r a

noncomputable def skim (V : XV) (T : List (Addr × Obj)) : Nat → Cfg → Cfg
  | 0, x => x
  | n + 1, x => match x with
    | ⟨c, md, κ, t, gl, tk⟩ => match t with
      | .pure fin => match fin with
        | .done f => match md with
          | none => match κ with
            | .ret c' _ k κ' => skim V T n ⟨c', none, κ', k (.ok f), gl, tk⟩
            | .base => x
            | .gen .. => x
            | .genS .. => x
          | some fs => match fs with
            | f' :: fs' => match f' with
              | .ret k _ _ _ c₁ _ _ => skim V T n ⟨c₁, some fs', κ, k (.ok f), gl, tk⟩
              | .gen .. => x
            | [] => x
        | .again c' => match c'.quiet with
          | true => skim V T n ⟨c', md, κ, denote table c', gl, tk⟩
          | false => x
      | .raise e => match md with
          | none => match κ with
            | .ret c' _ k κ' => skim V T n ⟨c', none, κ', k (.error e), gl, tk⟩
            | .base => x
            | .gen .. => x
            | .genS .. => x
          | some fs => match fs with
            | f' :: fs' => match f' with
              | .ret k _ _ _ c₁ _ _ => skim V T n ⟨c₁, some fs', κ, k (.error e), gl, tk⟩
              | .gen .. => x
            | [] => x
      | .rule _ k => skim V T n ⟨c, md, κ, k (), gl, tk⟩
      | .at _ k => skim V T n ⟨c, md, κ, k (), gl, tk⟩
      | .point _ k => skim V T n ⟨c, md, κ, k (), gl, tk⟩
      | .ask k => skim V T n ⟨c, md, κ, k ⟨V.prog, V.w.params⟩, gl, tk⟩
      | .load a _ k => match Nat.blt a V.n₁ with
        | true => match fresher T a with
          | true => match V.kt.get a with
            | some o => skim V T n ⟨c, md, κ, k o, gl, tk⟩
            | none => x
          | false => x
        | false => x
      | .loadIfAlive a k => match Nat.blt a V.n₁ with
        | true => match fresher T a with
          | true => match V.kt.get a with
            | some o => skim V T n ⟨c, md, κ, k (some o), gl, tk⟩
            | none => x
          | false => x
        | false => x
      | .fresh k => skim V T n ⟨c, md, κ, k tk, gl, Nat.succ tk⟩
      | .call c' hd _ _ k => match md with
        | none => match okMark hd with
          | true => skim V T n ⟨c', none, .ret c hd k κ, denote table c', gl, tk⟩
          | false => x
        | some _ => x
      | .handled own k => match own with
        | false => match md with
          | none => skim V T n ⟨c, md, κ, k (aroundOf V true κ).handled, gl, tk⟩
          | some fs => skim V T n ⟨c, md, κ, k ((aroundOf V false κ).over c fs).handled, gl, tk⟩
        | true => x
      | .unsupported _ => x
      | .finish _ => x
      | .register .. => x
      | .choose .. => x
      | .os .. => x
      | .fork .. => x
      | .thread _ => x
      | .await .. => x
      | .stack _ => x
      | .alloc .. => x
      | .update .. => x
      | .newGen .. => x
      | .genState .. => x
      | .resume .. => x
      | .yield .. => x

/-- what is known of the heap: V.h₀ is the heap at the segment's start, S what it may change of it, T what is changed of the top's, L what is known -/
structure Led (V : XV) (S : List Addr) (T L : List (Addr × Obj)) (h : Heap) : Prop where
  n1 : V.n₁ ≤ V.h₀.objs.size
  sz : V.h₀.objs.size ≤ h.objs.size
  base : ∀ b o, (V.kt.get b = some o ∨ V.h₀.get? b = some o) → b < V.n₁ → (∀ p ∈ T, p.1 ≠ b) → h.get? b = some o
  keep : ∀ b o, V.h₀.get? b = some o → V.n₁ ≤ b → b ∉ S → h.get? b = some o
  atT : ∀ p ∈ T, p.1 < V.n₁ ∧ h.get? p.1 = some p.2
  atL : ∀ p ∈ L, V.n₁ ≤ p.1 ∧ h.get? p.1 = some p.2 ∧ (p.1 ∈ S ∨ V.h₀.get? p.1 = none)
  ndT : (T.map (·.1)).Nodup
  nd : (L.map (·.1)).Nodup

structure J (V : XV) (S : List Addr) (T L : List (Addr × Obj)) (x : Cfg) : Prop where
  app : ∀ h, Led V S T L h → Means V x.c x.md x.k x.t ⟨h, ⟨x.gl⟩, V.d, x.tk, V.os⟩

theorem fresher_ne {T : List (Addr × Obj)} {a : Addr} (h : fresher T a = true) : ∀ p ∈ T, p.1 ≠ a := by
  induction T with
  | nil => intro p hp; cases hp
  | cons q r ih =>
    intro p hp e
    unfold fresher at h
    split at h
    · cases h
    · rename_i hq
      rcases List.mem_cons.mp hp with rfl | hp
      · rw [e, Nat.beq_refl] at hq; cases hq
      · exact ih h p hp e

section
variable {V : XV} {S : List Addr} {T L : List (Addr × Obj)} {c : Code} {md : Option (List Frame)} {κ : Kont} {gl : List GenState} {tk : Nat}

theorem Led.load0 {h : Heap} (D : Led V S T L h) {a : Addr} {o : Obj} (hb : Nat.blt a V.n₁ = true) (hf : fresher T a = true) (hk : V.kt.get a = some o) : h.get? a = some o :=
  D.base a o (.inl hk) (blt_true hb) (fresher_ne hf)

theorem j_load0 {a : Addr} {q : Option Value} {k : Obj → Sem Fin} {o : Obj} (ho : ∀ h, Led V S T L h → h.get? a = some o) (H : J V S T L ⟨c, md, κ, k o, gl, tk⟩) :
    J V S T L ⟨c, md, κ, .load a q k, gl, tk⟩ := .mk fun h D => by
  have z := H.app h D
  cases md with
  | none => exact y_load _ _ _ _ _ _ _ _ _ _ _ _ _ _ _ _ (ho h D) z
  | some fs => exact s_load _ _ _ _ _ _ _ _ _ _ _ _ _ _ _ (ho h D) z
theorem j_alive0 {a : Addr} {k : Option Obj → Sem Fin} {o : Obj} (ho : ∀ h, Led V S T L h → h.get? a = some o) (H : J V S T L ⟨c, md, κ, k (some o), gl, tk⟩) :
    J V S T L ⟨c, md, κ, .loadIfAlive a k, gl, tk⟩ := .mk fun h D => by
  have z := H.app h D
  cases md with
  | none => exact y_alive _ _ _ _ _ _ _ _ _ _ _ _ _ _ _ (ho h D) z
  | some fs => exact s_alive _ _ _ _ _ _ _ _ _ _ _ _ _ _ (ho h D) z
theorem j_call {c' : Code} {hd : Option Value} {g : Bool} {l : List Value} {k : Result → Sem Fin} (q : okMark hd = true) (H : J V S T L ⟨c', none, .ret c hd k κ, denote table c', gl, tk⟩) :
    J V S T L ⟨c, none, κ, .call c' hd g l k, gl, tk⟩ := .mk fun h D => by
  have hnb : hd ≠ some byPass := by
    intro e
    subst e
    simp [okMark] at q
  exact y_call _ _ _ _ _ _ _ _ _ _ _ _ _ hnb (y_code _ _ _ _ _ _ (H.app h D))
theorem j_callS {c' : Code} {hd : Option Value} {g : Bool} {l : List Value} {k : Result → Sem Fin} {fs : List Frame} (H : ∀ p : Pos, J V S T L ⟨c', some (.ret k hd g l c p [] :: fs), κ, denote table c', gl, tk⟩) :
    J V S T L ⟨c, some fs, κ, .call c' hd g l k, gl, tk⟩ := .mk fun h D => s_call _ _ _ _ _ _ _ _ _ _ _ _ fun p => (H p).app h D
theorem j_again {c' : Code} (q : c'.quiet = true) (H : J V S T L ⟨c', md, κ, denote table c', gl, tk⟩) : J V S T L ⟨c, md, κ, .pure (.again c'), gl, tk⟩ := .mk fun h D => by
  have z := H.app h D
  cases md with
  | none => exact y_pure _ _ _ _ _ _ _ _ _ (y_again _ _ _ _ _ _ q (y_code _ _ _ _ _ _ z))
  | some fs => exact s_again _ _ _ _ _ _ _ _ q z
def leafOf' (r : Result) : Sem Fin := match r with | .ok f => .pure (.done f) | .error e => .raise e
theorem j_ret {r : Result} {c' : Code} {hd : Option Value} {k : Result → Sem Fin} {κ' : Kont} (H : J V S T L ⟨c', none, κ', k r, gl, tk⟩) : J V S T L ⟨c, none, .ret c' hd k κ', leafOf' r, gl, tk⟩ := .mk fun h D => by
  have z := H.app h D
  have key : endOf V (.ret c' hd k κ') r ⟨h, ⟨gl⟩, V.d, tk, V.os⟩ := z
  cases r with
  | ok f => exact y_pure _ _ _ _ _ _ _ _ _ (y_done _ _ _ _ _ _ key)
  | error e => exact y_raise _ _ _ _ _ _ _ _ _ (y_err _ _ _ key)
theorem j_pop {r : Result} {c₁ : Code} {hd : Option Value} {k : Result → Sem Fin} {g : Bool} {l : List Value} {p₁ : Pos} {kp : List Value} {fs : List Frame} (H : J V S T L ⟨c₁, some fs, κ, k r, gl, tk⟩) :
    J V S T L ⟨c, some (.ret k hd g l c₁ p₁ kp :: fs), κ, leafOf' r, gl, tk⟩ := .mk fun h D => by
  have ht : leafOf' r = leafOf r := by cases r <;> rfl
  exact s_pop _ _ _ _ _ _ _ r _ ht k hd g l c₁ p₁ kp (H.app h D)
theorem j_skim1 {t : Sem Fin} {g : Setting} (hg : g = ⟨V.prog, V.w.params⟩) (H : J V S T L ⟨c, md, κ, PySem.W.X.skim g 1 t, gl, tk⟩) : J V S T L ⟨c, md, κ, t, gl, tk⟩ := .mk fun h D => by
  subst hg
  have z := H.app h D
  cases md with
  | none => exact y_skim _ _ _ _ _ _ _ _ _ 1 z
  | some fs => exact s_skim _ _ _ _ _ _ _ _ 1 z
theorem j_fresh {k : Tok → Sem Fin} (H : J V S T L ⟨c, md, κ, k tk, gl, Nat.succ tk⟩) : J V S T L ⟨c, md, κ, .fresh k, gl, tk⟩ := .mk fun h D => by
  have z := H.app h D
  cases md with
  | none => exact y_fresh _ _ _ _ _ _ _ _ _ _ _ _ _ z
  | some fs => exact s_fresh _ _ _ _ _ _ _ _ _ _ _ _ z
theorem j_handled {k : Option Value → Sem Fin} (H : J V S T L ⟨c, md, κ, k (match md with | none => (aroundOf V true κ).handled | some fs => ((aroundOf V false κ).over c fs).handled), gl, tk⟩) : J V S T L ⟨c, md, κ, .handled false k, gl, tk⟩ := .mk fun h D => by
  have z := H.app h D
  cases md with
  | none => exact y_handled _ _ _ _ _ _ _ _ _ z
  | some fs => exact s_handled _ _ _ _ _ _ _ _ z

theorem skim_ok : ∀ (n : Nat) (x : Cfg), J V S T L (skim V T n x) → J V S T L x
  | 0, _, H => H
  | n + 1, ⟨c, md, κ, t, gl, tk⟩, H => by
    cases t with
    | pure fin =>
      cases fin with
      | done f =>
        cases md with
        | none =>
          cases κ with
          | ret c' hd k κ' => exact j_ret (r := .ok f) (skim_ok n _ H)
          | base => exact H
          | gen => exact H
          | genS => exact H
        | some fs =>
          cases fs with
          | nil => exact H
          | cons f' fs' =>
            cases f' with
            | ret k hd g l c₁ p₁ kp => exact j_pop (r := .ok f) (skim_ok n _ H)
            | gen => exact H
      | again c' =>
        simp only [skim] at H
        split at H
        · rename_i q
          exact j_again q (skim_ok n _ H)
        · exact H
    | raise e =>
        cases md with
        | none =>
          cases κ with
          | ret c' hd k κ' => exact j_ret (r := .error e) (skim_ok n _ H)
          | base => exact H
          | gen => exact H
          | genS => exact H
        | some fs =>
          cases fs with
          | nil => exact H
          | cons f' fs' =>
            cases f' with
            | ret k hd g l c₁ p₁ kp => exact j_pop (r := .error e) (skim_ok n _ H)
            | gen => exact H
    | rule tag k => exact j_skim1 rfl (skim_ok n _ H)
    | «at» q k => exact j_skim1 rfl (skim_ok n _ H)
    | point l k => exact j_skim1 rfl (skim_ok n _ H)
    | ask k => exact j_skim1 rfl (skim_ok n _ H)
    | load a q k =>
      simp only [skim] at H
      split at H
      · rename_i hb
        split at H
        · rename_i hf
          split at H
          · rename_i o hk
            exact j_load0 (fun h D => D.load0 hb hf hk) (skim_ok n _ H)
          · exact H
        · exact H
      · exact H
    | loadIfAlive a k =>
      simp only [skim] at H
      split at H
      · rename_i hb
        split at H
        · rename_i hf
          split at H
          · rename_i o hk
            exact j_alive0 (fun h D => D.load0 hb hf hk) (skim_ok n _ H)
          · exact H
        · exact H
      · exact H
    | fresh k => exact j_fresh (skim_ok n _ H)
    | call c' hd g l k =>
      cases md with
      | none =>
        simp only [skim] at H
        split at H
        · rename_i q
          exact j_call q (skim_ok n _ H)
        · exact H
      | some fs => exact H
    | handled own k =>
      cases own with
      | true => exact H
      | false =>
        cases md with
        | none => exact j_handled (skim_ok n _ H)
        | some fs => exact j_handled (skim_ok n _ H)
    | unsupported w => exact H
    | finish e => exact H
    | register => exact H
    | choose => exact H
    | os => exact H
    | fork => exact H
    | thread => exact H
    | await => exact H
    | stack => exact H
    | alloc => exact H
    | update => exact H
    | newGen => exact H
    | genState => exact H
    | resume => exact H
    | yield => exact H
end
end Mine
end

section
open PySem PySem.Spec PySem.Calls PyProof.Rows PySem.W PySem.W.X
namespace Mine
section
variable {V : XV} {S : List Addr} {T L : List (Addr × Obj)} {c : Code} {md : Option (List Frame)} {κ : Kont} {gl : List GenState} {tk : Nat}

theorem n_load (i : Nat) {a : Addr} {q : Option Value} {k : Obj → Sem Fin} {o : Obj} (hi : L[i]? = some (a, o)) (H : J V S T L ⟨c, md, κ, k o, gl, tk⟩) :
    J V S T L ⟨c, md, κ, .load a q k, gl, tk⟩ := j_load0 (fun _ D => (D.atL _ (List.mem_of_getElem? hi)).2.1) H
theorem n_loadT (i : Nat) {a : Addr} {q : Option Value} {k : Obj → Sem Fin} {o : Obj} (hi : T[i]? = some (a, o)) (H : J V S T L ⟨c, md, κ, k o, gl, tk⟩) :
    J V S T L ⟨c, md, κ, .load a q k, gl, tk⟩ := j_load0 (fun _ D => (D.atT _ (List.mem_of_getElem? hi)).2) H
theorem n_alive (i : Nat) {a : Addr} {k : Option Obj → Sem Fin} {o : Obj} (hi : L[i]? = some (a, o)) (H : J V S T L ⟨c, md, κ, k (some o), gl, tk⟩) :
    J V S T L ⟨c, md, κ, .loadIfAlive a k, gl, tk⟩ := j_alive0 (fun _ D => (D.atL _ (List.mem_of_getElem? hi)).2.1) H

theorem mem_set {α : Type} {l : List α} {i : Nat} {x y : α} (h : y ∈ l.set i x) : y = x ∨ y ∈ l := by
  rcases List.mem_or_eq_of_mem_set h with h | h
  · exact .inr h
  · exact .inl h
theorem set_fst {l : List (Addr × Obj)} {i : Nat} {a : Addr} {o o' : Obj} (hi : l[i]? = some (a, o)) : (l.set i (a, o')).map (·.1) = l.map (·.1) := by
  rw [List.map_set]
  have : (l.map (·.1))[i]? = some a := by rw [List.getElem?_map, hi]; rfl
  exact set_same this

theorem Led.update {h : Heap} (D : Led V S T L h) {i : Nat} {a : Addr} {o : Obj} {f : Obj → Obj} (hi : L[i]? = some (a, o)) (hf : (f o).isFreed = false) : Led V S T (L.set i (a, f o)) (h.update a f) := by
  have hm := List.mem_of_getElem? hi
  obtain ⟨hn, ho, hS⟩ := D.atL _ hm
  have hs : Heap.SameBut a h (h.update a f) := Heap.SameBut.update ..
  have ge : (h.update a f).get? a = some (f o) := by first | exact Heap.get?_update_self f ho hf | exact Heap.get?_update_self _ ho hf | (rw [Heap.get?_update_self _ ho]; exact hf)
  refine ⟨D.n1, by rw [hs.1]; exact D.sz, fun b ob e hb hT => ?_, fun b ob e hb hS' => ?_, fun p hp => ?_, fun p hp => ?_, D.ndT, by rw [set_fst hi]; exact D.nd⟩
  · have ne : b ≠ a := fun e' => by subst e'; exact absurd hb (Nat.not_lt.mpr hn)
    exact (hs.2 b ne).trans (D.base b ob e hb hT)
  · have ne : b ≠ a := fun e' => by
      subst e'
      rcases hS with q | q
      · exact hS' q
      · rw [e] at q; cases q
    exact (hs.2 b ne).trans (D.keep b ob e hb hS')
  · obtain ⟨h1, h2⟩ := D.atT p hp
    have ne : p.1 ≠ a := fun e' => by rw [e'] at h1; exact absurd h1 (Nat.not_lt.mpr hn)
    exact ⟨h1, (hs.2 _ ne).trans h2⟩
  · by_cases e' : p.1 = a
    · have hp' : p = (a, f o) := by
        have hx : (a, f o) ∈ L.set i (a, f o) := List.mem_set (List.getElem?_eq_some_iff.mp hi).1 _
        exact key_unique (by rw [set_fst hi]; exact D.nd) hp hx e'
      subst hp'
      exact ⟨hn, ge, hS⟩
    · rcases mem_set hp with rfl | hp
      · exact absurd rfl e'
      · obtain ⟨h1, h2, h3⟩ := D.atL p hp
        exact ⟨h1, (hs.2 _ e').trans h2, h3⟩

theorem n_update (i : Nat) {a : Addr} {q : Option Value} {f : Obj → Obj} {k : Unit → Sem Fin} {o : Obj} (o' : Obj) {L' : List (Addr × Obj)} (hi : L[i]? = some (a, o)) (hf : f o = o') (hfr : o'.isFreed = false) (hL : L.set i (a, o') = L')
    (H : J V S T L' ⟨c, md, κ, k (), gl, tk⟩) : J V S T L ⟨c, md, κ, .update a q f k, gl, tk⟩ := .mk fun h D => by
  subst hf
  subst hL
  have ho := (D.atL _ (List.mem_of_getElem? hi)).2.1
  have z := H.app _ (D.update hi hfr)
  cases md with
  | none => exact wpOwn_bind (m := updatePart a q f) (f := k) (wpOwn_of_wpAny (wpAny_updatePart ho z))
  | some fs => exact s_cmd _ _ _ _ _ _ (m := updatePart a q f) (k := k) (wpAny_updatePart ho z)

theorem Led.updateT {h : Heap} (D : Led V S T L h) {i : Nat} {a : Addr} {o : Obj} {f : Obj → Obj} (hi : T[i]? = some (a, o)) (hf : (f o).isFreed = false) : Led V S (T.set i (a, f o)) L (h.update a f) := by
  have hm := List.mem_of_getElem? hi
  obtain ⟨hn, ho⟩ := D.atT _ hm
  have hs : Heap.SameBut a h (h.update a f) := Heap.SameBut.update ..
  have ge : (h.update a f).get? a = some (f o) := by first | exact Heap.get?_update_self f ho hf | exact Heap.get?_update_self _ ho hf | (rw [Heap.get?_update_self _ ho]; exact hf)
  have hx : (a, f o) ∈ T.set i (a, f o) := List.mem_set (List.getElem?_eq_some_iff.mp hi).1 _
  refine ⟨D.n1, by rw [hs.1]; exact D.sz, fun b ob e hb hT => ?_, fun b ob e hb hS' => ?_, fun p hp => ?_, fun p hp => ?_, by rw [set_fst hi]; exact D.ndT, D.nd⟩
  · have ne : b ≠ a := fun e' => hT _ hx e'.symm
    refine (hs.2 b ne).trans (D.base b ob e hb fun p hp e' => ?_)
    have hm' : p.1 ∈ (T.set i (a, f o)).map (·.1) := by rw [set_fst hi]; exact List.mem_map_of_mem hp
    obtain ⟨q, hq, hq'⟩ := List.mem_map.mp hm'
    exact hT q hq (hq'.trans e')
  · have ne : b ≠ a := fun e' => by subst e'; exact absurd hn (Nat.not_lt.mpr hb)
    exact (hs.2 b ne).trans (D.keep b ob e hb hS')
  · by_cases e' : p.1 = a
    · have hp' : p = (a, f o) := key_unique (by rw [set_fst hi]; exact D.ndT) hp hx e'
      subst hp'
      exact ⟨hn, ge⟩
    · rcases mem_set hp with rfl | hp
      · exact absurd rfl e'
      · obtain ⟨h1, h2⟩ := D.atT p hp
        exact ⟨h1, (hs.2 _ e').trans h2⟩
  · obtain ⟨h1, h2, h3⟩ := D.atL p hp
    have ne : p.1 ≠ a := fun e' => by rw [e'] at h1; exact absurd hn (Nat.not_lt.mpr h1)
    exact ⟨h1, (hs.2 _ ne).trans h2, h3⟩
theorem n_updateT (i : Nat) {a : Addr} {q : Option Value} {f : Obj → Obj} {k : Unit → Sem Fin} {o : Obj} (o' : Obj) {T' : List (Addr × Obj)} (hi : T[i]? = some (a, o)) (hf : f o = o') (hfr : o'.isFreed = false) (hT : T.set i (a, o') = T')
    (H : J V S T' L ⟨c, md, κ, k (), gl, tk⟩) : J V S T L ⟨c, md, κ, .update a q f k, gl, tk⟩ := .mk fun h D => by
  subst hf
  subst hT
  have ho := (D.atT _ (List.mem_of_getElem? hi)).2
  have z := H.app _ (D.updateT hi hfr)
  cases md with
  | none => exact wpOwn_bind (m := updatePart a q f) (f := k) (wpOwn_of_wpAny (wpAny_updatePart ho z))
  | some fs => exact s_cmd _ _ _ _ _ _ (m := updatePart a q f) (k := k) (wpAny_updatePart ho z)
theorem Led.moreT {h : Heap} (D : Led V S T L h) {a : Addr} {o : Obj} (hb : Nat.blt a V.n₁ = true) (hf : fresher T a = true) (hk : V.kt.get a = some o) : Led V S ((a, o) :: T) L h := by
  refine ⟨D.n1, D.sz, fun b ob e hb hT => D.base b ob e hb fun p hp => hT p (.tail _ hp), D.keep, fun p hp => ?_, D.atL, ?_, D.nd⟩
  · rcases List.mem_cons.mp hp with rfl | hp
    · exact ⟨blt_true hb, D.load0 hb hf hk⟩
    · exact D.atT p hp
  · rw [List.map_cons]
    refine List.nodup_cons.mpr ⟨fun hm => ?_, D.ndT⟩
    obtain ⟨p, hp, e⟩ := List.mem_map.mp hm
    exact fresher_ne hf p hp e
theorem n_moreT {x : Cfg} {a : Addr} {o : Obj} (hb : Nat.blt a V.n₁ = true) (hf : fresher T a = true) (hk : V.kt.get a = some o) (H : J V S ((a, o) :: T) L x) : J V S T L x := .mk fun h D => H.app h (D.moreT hb hf hk)

theorem Led.alloc {h : Heap} (D : Led V S T L h) {o : Obj} (hf : o.isFreed = false) : Led V S T ((h.objs.size, o) :: L) (h.push o) := by
  have up : ∀ b ob, h.get? b = some ob → (h.push o).get? b = some ob := fun b ob e => Heap.get?_push_of_some _ e
  refine ⟨D.n1, Nat.le_trans D.sz (by rw [Heap.size_push]; exact Nat.le_succ _), fun b ob e hb hT => up _ _ (D.base b ob e hb hT), fun b ob e hb hS' => up _ _ (D.keep b ob e hb hS'), fun p hp => ⟨(D.atT p hp).1, up _ _ (D.atT p hp).2⟩, fun p hp => ?_, D.ndT, ?_⟩
  · rcases List.mem_cons.mp hp with rfl | hp
    · refine ⟨Nat.le_trans D.n1 D.sz, Heap.get?_push_size _ hf, .inr ?_⟩
      cases q : V.h₀.get? h.objs.size with
      | none => rfl
      | some o' => exact absurd (Heap.lt_size q) (Nat.not_lt.mpr D.sz)
    · obtain ⟨h1, h2, h3⟩ := D.atL p hp
      exact ⟨h1, up _ _ h2, h3⟩
  · rw [List.map_cons]
    refine List.nodup_cons.mpr ⟨fun hm => ?_, D.nd⟩
    obtain ⟨p, hp, e⟩ := List.mem_map.mp hm
    exact absurd (Heap.lt_size (D.atL p hp).2.1) (by rw [e]; exact Nat.lt_irrefl _)
theorem n_alloc {o : Obj} (o' : Obj) {k : Addr → Sem Fin} (ho : o = o') (hf : o'.isFreed = false) (H : ∀ a, J V S T ((a, o') :: L) ⟨c, md, κ, k a, gl, tk⟩) : J V S T L ⟨c, md, κ, .alloc o k, gl, tk⟩ := .mk fun h D => by
  subst ho
  have z := (H _).app _ (D.alloc hf)
  cases md with
  | none => exact wpOwn_bind (m := alloc o) (f := k) (wpOwn_of_wpAny (wpAny_alloc z))
  | some fs => exact s_cmd _ _ _ _ _ _ (m := PySem.alloc o) (k := k) (wpAny_alloc z)

theorem n_stack {k : List (Code × Pos) → Sem Fin} (H : ∀ (p : Pos) (below : List (Code × Pos)), Lies (match md with | none => (aroundOf V true κ).under c | some fs => (aroundOf V false κ).over c fs) ((c, p) :: below) → J V S T L ⟨c, md, κ, k ((c, p) :: below), gl, tk⟩) :
    J V S T L ⟨c, md, κ, .stack k, gl, tk⟩ := .mk fun h D => by
  cases md with
  | none => exact y_stack _ _ _ _ _ _ _ _ _ fun p below l => (H p below l).app h D
  | some fs => exact s_stack _ _ _ _ _ _ _ _ fun p below l => (H p below l).app h D
theorem n_newGen {c' : Code} {k : Nat → Sem Fin} (H : J V S T L ⟨c, md, κ, k gl.length, gl ++ [.fresh c'], tk⟩) : J V S T L ⟨c, md, κ, .newGen c' k, gl, tk⟩ := .mk fun h D => by
  have z := H.app h D
  cases md with
  | none => exact y_newGen _ _ _ _ _ _ _ _ _ _ _ _ _ _ (by rw [push_gens]; exact z)
  | some fs => exact s_newGen _ _ _ _ _ _ _ _ _ _ _ _ _ (by rw [push_gens]; exact z)
theorem n_genState {g : Nat} {k : GenStatus × Option (List (Code × Pos)) → Sem Fin} {gs : GenState} (e : gl[g]? = some gs) (H : J V S T L ⟨c, md, κ, k gs.seen, gl, tk⟩) : J V S T L ⟨c, md, κ, .genState g k, gl, tk⟩ := .mk fun h D => by
  have z := H.app h D
  cases md with
  | none => exact y_genState _ _ _ _ _ _ _ _ _ _ gs ((get_gens gl g).trans e) z
  | some fs => exact s_genState _ _ _ _ _ _ _ _ _ gs ((get_gens gl g).trans e) z
def woken (md : Option (List Frame)) (g : Nat) (c : Code) (k : GenResult → Sem Fin) (κ : Kont) : Kont := match md with | none => .gen g c k κ | some fs => .genS g c fs k κ
theorem n_resumeF {g : Nat} {l : List Value} {k : GenResult → Sem Fin} {c₀ : Code} (e : gl[g]? = some (.fresh c₀)) (H : J V S T L ⟨c₀, some [], woken md g c k κ, denote table c₀, gl.set g .running, tk⟩) :
    J V S T L ⟨c, md, κ, .resume g (.send .none) l k, gl, tk⟩ := .mk fun h D => by
  have hg : (⟨gl⟩ : Array GenState)[g]? = some (.fresh c₀) := (get_gens gl g).trans e
  have z := H.app h D
  cases md with
  | none => exact y_resume_f _ _ _ _ _ _ _ _ _ _ _ _ hg (by rw [set_gens]; exact z)
  | some fs => exact s_resume_f _ _ _ _ _ _ _ _ _ _ _ hg (by rw [set_gens]; exact z)
theorem n_resumeS {g : Nat} {r : Resume} {l : List Value} {k : GenResult → Sem Fin} {k₀ : Resume → Sem Fin} {l₀ : List Value} {c₀ : Code} {p₀ : Pos} {fs₀ : List Frame} {cl : Bool} (e : gl[g]? = some (.suspended k₀ l₀ c₀ p₀ fs₀ cl))
    (H : J V S T L ⟨c₀, some fs₀, woken md g c k κ, k₀ r, gl.set g .running, tk⟩) : J V S T L ⟨c, md, κ, .resume g r l k, gl, tk⟩ := .mk fun h D => by
  have hg := (get_gens gl g).trans e
  have z := H.app h D
  cases md with
  | none => exact y_resume_s _ _ _ _ _ _ _ _ _ _ _ _ _ _ _ _ _ _ hg (by rw [set_gens]; exact z)
  | some fs => exact s_resume_s _ _ _ _ _ _ _ _ _ _ _ _ _ _ _ _ _ hg (by rw [set_gens]; exact z)
/-- a generator's body comes to an end, or yields: its waker goes on -/
def wakeC (e : End) (κ : Kont) (gl : List GenState) (tk : Nat) : Option Cfg := match κ with
  | .gen g c k κ' => some ⟨c, none, κ', k e.result, gl.set g e.genState, tk⟩
  | .genS g c fs k κ' => some ⟨c, some fs, κ', k e.result, gl.set g e.genState, tk⟩
  | .base => none
  | .ret .. => none
theorem wake_of {e : End} {x : Cfg} {h : Heap} (hx : wakeC e κ gl tk = some x) (H : J V S T L x) (D : Led V S T L h) : wakeOf V κ e ⟨h, ⟨gl⟩, V.d, tk, V.os⟩ := by
  cases κ with
  | base => cases hx
  | ret => cases hx
  | gen g c k κ =>
    cases hx
    have z := H.app h D
    rw [← set_gens] at z
    exact z
  | genS g c fs k κ =>
    cases hx
    have z := H.app h D
    rw [← set_gens] at z
    exact z
theorem n_wake {r : Result} {t : Sem Fin} (ht : t = leafOf r) {x : Cfg} (hx : wakeC (.ret r) κ gl tk = some x) (H : J V S T L x) : J V S T L ⟨c, some [], κ, t, gl, tk⟩ := .mk fun _ D =>
  s_end _ _ _ _ _ _ r t ht (wake_of hx H D)
theorem n_yield {v : Value} {l : List Value} {k : Resume → Sem Fin} {fs : List Frame} (h1 : splitAtGen fs = none) (h2 : fs.any Frame.guarded = false) (X : Pos → Cfg)
    (hx : ∀ p : Pos, wakeC (.susp v false l k c p fs) κ gl tk = some (X p)) (H : ∀ p : Pos, J V S T L (X p)) : J V S T L ⟨c, some fs, κ, .yield v false l k, gl, tk⟩ := .mk fun h D =>
  s_yield _ _ _ _ _ _ _ _ _ _ h1 h2 fun p => wake_of (hx p) (H p) D

/-- the twin of skim -/
theorem skim_by {sk : XV → List (Addr × Obj) → Nat → Cfg → Cfg} (e : @skim = sk) (n : Nat) (x y : Cfg) (h : sk V T n x = y) (H : J V S T L y) : J V S T L x := by
  subst e
  subst h
  exact skim_ok n x H
theorem J.drop {x : Cfg} {L' : List (Addr × Obj)} (h : L'.Sublist L) (H : J V S T L' x) : J V S T L x := .mk fun hp D =>
  H.app hp ⟨D.n1, D.sz, D.base, D.keep, D.atT, fun p hp => D.atL p (h.subset hp), D.ndT, D.nd.sublist (h.map _)⟩
theorem J.facts {x : Cfg} (H : (∃ h, Led V S T L h) → J V S T L x) : J V S T L x := .mk fun h D => (H ⟨h, D⟩).app h D
theorem addr_ne (hD : ∃ h, Led V S T L h) {i j : Nat} {a b : Addr} {oa ob : Obj} (hi : L[i]? = some (a, oa)) (hj : L[j]? = some (b, ob)) (ij : Nat.beq i j = false) : ¬ a = b := by
  obtain ⟨h, D⟩ := hD
  intro e
  subst e
  have hi' : (L.map (·.1))[i]? = some a := by rw [List.getElem?_map, hi]; rfl
  have hj' : (L.map (·.1))[j]? = some a := by rw [List.getElem?_map, hj]; rfl
  have := (List.getElem?_inj (List.getElem?_eq_some_iff.mp hi').1 D.nd).mp (hi'.trans hj'.symm)
  exact Nat.ne_of_beq_eq_false ij this
theorem addr_ne0 (hD : ∃ h, Led V S T L h) {i : Nat} {a b : Addr} {oa : Obj} (hi : L[i]? = some (a, oa)) (hb : Nat.blt b V.n₁ = true) : ¬ a = b := by
  obtain ⟨h, D⟩ := hD
  intro e
  subst e
  exact absurd (blt_true hb) (Nat.not_lt.mpr (D.atL _ (List.mem_of_getElem? hi)).1)
theorem addr_ne0' (hD : ∃ h, Led V S T L h) {i : Nat} {a b : Addr} {oa : Obj} (hi : L[i]? = some (a, oa)) (hb : Nat.blt b V.n₁ = true) : ¬ b = a := fun e => addr_ne0 hD hi hb e.symm
end
end Mine
end

section
open PySem PySem.Spec PySem.Calls PyProof.Rows PySem.W PySem.W.X
namespace Mine
structure ALe (A B : Around) : Prop where
  handled : A.handled = B.handled
  depth : A.depth ≤ B.depth
  units : A.units ≤ B.units
  frames : B.frames = none ∨ B.frames = A.frames
  guards : B.guards = none
theorem codeAny_le {M : Model} {A B : Around} (h : ALe A B) {c : Code} {R : Result → Shared → Prop} {s : Shared} (x : codeAny M B c R s) : codeAny M A c R s := fun Γ p hc hΓ =>
  x Γ p hc ⟨hΓ.1.trans h.handled, Nat.le_trans hΓ.2.1 h.depth, fun l hl => (by rcases h.frames with q | q <;> rw [q] at hl; (cases hl); exact hΓ.2.2.1 l hl), fun g hg => (by rw [h.guards] at hg; cases hg), Nat.le_trans hΓ.2.2.2.2 h.units⟩

theorem Led.same {V V' : XV} {S : List Addr} {T L : List (Addr × Obj)} {h : Heap} (e1 : V.n₁ = V'.n₁) (e2 : V.h₀ = V'.h₀) (e3 : V.kt = V'.kt) (D : Led V S T L h) : Led V' S T L h := by
  obtain ⟨a, b, c, d, e, f, g, i⟩ := D
  rw [e1, e2] at a
  rw [e2] at b
  rw [e3, e2, e1] at c
  rw [e2, e1] at d
  rw [e1] at e
  rw [e1, e2] at f
  exact ⟨a, b, c, d, e, f, g, i⟩

section
variable {V V' : XV} {S : List Addr} {T L : List (Addr × Obj)} {c c' c'' : Code} {κ : Kont} {gl : List GenState} {tk : Nat} {k : Result → Sem Fin}
/-- a call, walked under a room of its own -/
theorem J.callee {g : Bool} {l : List Value} (hp : V.prog = V'.prog) (hw : V.w = V'.w) (e1 : V.n₁ = V'.n₁) (e2 : V.h₀ = V'.h₀) (e3 : V.kt = V'.kt) (e4 : V.d = V'.d) (e5 : V.os = V'.os)
    (hle : ALe (aroundOf V true (.ret c none k κ)) V'.A₀) (hR : V'.R₀ = endOf V (.ret c none k κ))
    (H : J V' S T L ⟨c', none, .base, denote table c', gl, tk⟩) : J V S T L ⟨c, none, κ, .call c' none g l k, gl, tk⟩ := .mk fun h D => by
  have z := H.app h (D.same e1 e2 e3)
  have z1 : codeAny (model V'.prog V'.w) V'.A₀ c' V'.R₀ ⟨h, ⟨gl⟩, V'.d, tk, V'.os⟩ := y_code _ _ _ _ _ _ z
  have z2 := codeAny_le hle z1
  rw [← hp, ← hw, ← e4, ← e5, hR] at z2
  exact y_call _ _ _ _ _ _ _ _ _ _ _ _ _ (by intro x; cases x) z2
theorem J.back {r : Result} (hp : V.prog = V'.prog) (hw : V.w = V'.w) (e1 : V.n₁ = V'.n₁) (e2 : V.h₀ = V'.h₀) (e3 : V.kt = V'.kt) (e4 : V.d = V'.d) (e5 : V.os = V'.os)
    (hR : V'.R₀ = endOf V (.ret c none k κ)) (H : J V S T L ⟨c, none, κ, k r, gl, tk⟩) : J V' S T L ⟨c'', none, .base, leafOf' r, gl, tk⟩ := .mk fun h D => by
  have z := H.app h (D.same e1.symm e2.symm e3.symm)
  have key : V'.R₀ r ⟨h, ⟨gl⟩, V'.d, tk, V'.os⟩ := by rw [hR, ← e4, ← e5]; exact z
  cases r with
  | ok f => exact y_pure _ _ _ _ _ _ _ _ _ (y_done _ _ _ _ _ _ key)
  | error e => exact y_raise _ _ _ _ _ _ _ _ _ (y_err _ _ _ key)
theorem J.perm {x : Cfg} {L' : List (Addr × Obj)} (p : L.Perm L') (H : J V S T L' x) : J V S T L x := .mk fun h D =>
  H.app h ⟨D.n1, D.sz, D.base, D.keep, D.atT, fun q hq => D.atL q (p.mem_iff.mpr hq), D.ndT, (p.map _).nodup_iff.mp D.nd⟩
theorem perm_pull : ∀ (i : Nat) (L : List (Addr × Obj)) (p : Addr × Obj), L[i]? = some p → L.Perm (p :: L.eraseIdx i)
  | _, [], _, h => by cases h
  | 0, x :: L, p, h => by
    cases h
    exact List.Perm.refl _
  | i + 1, x :: L, p, h => by
    have z := perm_pull i L p (by simpa using h)
    exact (List.Perm.cons x z).trans (List.Perm.swap p x _)
theorem J.pull {x : Cfg} (i : Nat) (p : Addr × Obj) {L' : List (Addr × Obj)} (hi : L[i]? = some p) (e : L.eraseIdx i = L') (H : J V S T (p :: L') x) : J V S T L x := by
  subst e
  exact J.perm (perm_pull i L p hi) H
theorem J.skip {x : Cfg} {p : Addr × Obj} (H : J V S T L x) : J V S T (p :: L) x := J.drop (List.sublist_cons_self _ _) H
theorem J.castL {x : Cfg} {L' : List (Addr × Obj)} (e : L = L') (H : J V S T L' x) : J V S T L x := by rw [e]; exact H
theorem J.castT {t' : Sem Fin} {md : Option (List Frame)} {t : Sem Fin} (e : t = t') (H : J V S T L ⟨c, md, κ, t', gl, tk⟩) : J V S T L ⟨c, md, κ, t, gl, tk⟩ := by rw [e]; exact H
end
noncomputable abbrev mkV0 (kt : PySem.Params → KT) (w : World) (h : Heap) (A : Around) (R : Result → Shared → Prop) (d : Drawn) (os : OsState) : XV := ⟨PySem.Challenge.pw_fv0017_01, w, h, 805, kt w.params, [], A, R, d, 0, os⟩
end Mine
end

section
open PySem PySem.Spec PySem.Calls PyProof.Rows PySem.W PySem.W.X
namespace Mine
open Lean Elab Tactic Meta

/-- one constant for each object of the top, one tree -/
def mkTop : TacticM Unit := do
  let g ← getMainGoal
  let p ← PySem.W.progOf (mkConst ``PySem.Challenge.pw_fv0017_01)
  let some (h, h') ← PySem.W.twoRuns p | throwError "twoRuns"
  let P := mkConst ``PySem.Params
  let fr ← withLocalDeclD `P P fun q => do
    (PySem.W.xFragOf q (some "law") h h').mapM fun (a, _, e) => do
      let e ← match ← PySem.W.ZFast.quick e with | some (e', _) => pure e' | none => pure e
      let n : Lean.Name := (`Mine.ob).str (toString a)
      addDecl (.defnDecl { name := n, levelParams := [], type := ← mkArrow P (mkConst ``PySem.Obj), value := ← mkLambdaFVars #[q] e, hints := .abbrev, safety := .safe })
      return (a, n)
  let v ← withLocalDeclD `P P fun q => do mkLambdaFVars #[q] (← PySem.W.ZRun.ktE q fr)
  g.assign v
noncomputable def KTop : PySem.Params → PySem.W.X.KT := by run_tac mkTop

/-- the twins of skim and of denote: made once, named -/
def mkTwin (c nm : Lean.Name) : TacticM Unit := do
  ZFast.laying.set true
  let r ← ZFast.prime c
  ZFast.laying.set false
  let some (a, b) := r | throwError "no twin"
  let ty ← inferType (mkConst a)
  addDecl (.defnDecl { name := nm, levelParams := [], type := ty, value := mkConst a, hints := .abbrev, safety := .safe })
  let l := mkConst c
  addDecl (.thmDecl { name := nm.appendAfter "_eq", levelParams := [], type := ← mkEq l (mkConst nm), value := ← mkExpectedTypeHint (mkConst b) (← mkEq l (mkConst nm)) })
  (← getMainGoal).assign (mkConst ``True.intro)
theorem twins : True := by run_tac mkTwin ``Mine.skim `Mine.skimZ

structure DS where
  V : Lean.Expr
  S : Lean.Expr
  T : List (Lean.Expr × Lean.Expr)
  L : List (Lean.Expr × Lean.Expr)
  tl : Lean.Expr
  c : Lean.Expr
  md : Lean.Expr
  k : Lean.Expr
  t : Lean.Expr
  gl : Lean.Expr
  tk : Lean.Expr

def DS.TE (d : DS) : Lean.Expr := XRun.newsE d.T
def consE (l : List (Lean.Expr × Lean.Expr)) (tl : Lean.Expr) : Lean.Expr := l.foldr (fun (a, o) r => mkApp3 (mkConst ``List.cons [0]) XRun.tyPair (XRun.pairE a o) r) tl
def DS.LE (d : DS) : Lean.Expr := consE d.L d.tl
def DS.cfg (d : DS) : Lean.Expr := mkAppN (mkConst ``Cfg.mk) #[d.c, d.md, d.k, d.t, d.gl, d.tk]
def DS.goal (d : DS) : Lean.Expr := mkAppN (mkConst ``J) #[d.V, d.S, d.TE, d.LE, d.cfg]
/-- V S T L c md κ gl tk -/
def DS.pre (d : DS) : Array Lean.Expr := #[d.V, d.S, d.TE, d.LE, d.c, d.md, d.k, d.gl, d.tk]

def pairsOf (fuel : Nat) (e : Lean.Expr) : MetaM (List (Lean.Expr × Lean.Expr) × Lean.Expr) := do
  match fuel with
  | 0 => throwError "pairs"
  | fuel + 1 =>
    let e' ← whnfD e
    if e'.isAppOfArity ``List.cons 3 then
      let p ← whnfD e'.getAppArgs[1]!
      unless p.isAppOfArity ``Prod.mk 4 do throwError "pairs: {p}"
      let (l, tl) ← pairsOf fuel e'.getAppArgs[2]!
      let a := p.getAppArgs[2]!
      let a ← (if a.isFVar then pure a else XRun.addrOf a : MetaM Lean.Expr)
      return ((a, p.getAppArgs[3]!) :: l, tl)
    if e'.isAppOfArity ``List.nil 1 then return ([], e')
    return ([], e)

def DS.ofGoal (g : MVarId) : MetaM DS := g.withContext do
  let ty ← whnfR (← instantiateMVars (← g.getType))
  unless ty.isAppOfArity ``J 5 do throwError "no J goal: {ty.getAppFn}"
  let a := ty.getAppArgs
  let x ← whnfR a[4]!
  unless x.isAppOfArity ``Cfg.mk 6 do throwError "no config"
  let y := x.getAppArgs
  let (T, _) ← pairsOf 1000 a[2]!
  let (L, tl) ← pairsOf 1000 a[3]!
  return { V := a[0]!, S := a[1]!, T, L, tl, c := y[0]!, md := y[1]!, k := y[2]!, t := y[3]!, gl := y[4]!, tk := y[5]! }

/-- whnf by the kernel, unless a constructor stands there -/
def kq (e : Lean.Expr) : MetaM Lean.Expr := do
  if ← XRun.isCtor e then return e
  XRun.kw e

/-- an object laid out as far as its lists are known; what is not known stands as it stood -/
def nL (fuel : Nat) (e : Lean.Expr) : MetaM Lean.Expr := do
  match fuel with
  | 0 => return e
  | fuel + 1 =>
    let e' ← kq e
    if e'.isAppOfArity ``List.cons 3 then
      let a := e'.getAppArgs
      return mkApp3 e'.getAppFn a[0]! (← kq a[1]!) (← nL fuel a[2]!)
    if e'.isAppOf ``List.nil then return e'
    return e
def nA (e : Lean.Expr) : MetaM Lean.Expr := do
  let e' ← kq e
  if e'.isAppOfArity ``Array.mk 2 then
    let a := e'.getAppArgs
    return mkApp2 e'.getAppFn a[0]! (← nL 2000 a[1]!)
  return e
def nO (e : Lean.Expr) : MetaM Lean.Expr := do
  let e ← kq e
  unless e.isAppOfArity ``PySem.Obj.mk 4 do return e
  let a := e.getAppArgs
  let dt ← kq a[2]!
  let x := dt.getAppArgs
  let dt ← match dt.getAppFn.constName? with
    | some ``PySem.Data.dict => pure (mkApp2 dt.getAppFn (← nA x[0]!) (← kq x[1]!))
    | some ``PySem.Data.seq => pure (mkApp2 dt.getAppFn (← nA x[0]!) (← kq x[1]!))
    | some ``PySem.Data.fields => pure (mkApp dt.getAppFn (← nA x[0]!))
    | _ => pure dt
  return mkApp4 (mkConst ``PySem.Obj.mk) (← kq a[0]!) (← kq a[1]!) dt (← nA a[3]!)

structure Opt where
  /-- a code where the run is to stop -/
  stop : Lean.Expr → MetaM Bool
  /-- most micro steps of one check -/
  batch : Nat := 80
  say : Bool := false
  /-- places of the text where the run is to stop -/
  places : List (Nat × Nat) := []
  trace : Bool := false
  deep : Bool := false
  /-- a goal that is shown already -/
  meet : Option (Lean.Expr × Lean.Expr) := none

structure Left where
  goal : MVarId
  why : String

def tt : Lean.Expr := XRun.rflAt (mkConst ``Bool) (mkConst ``Bool.true)
def ff : Lean.Expr := XRun.rflAt (mkConst ``Bool) (mkConst ``Bool.false)
def rflO (ty v : Lean.Expr) : Lean.Expr := XRun.rflAt (mkApp (mkConst ``Option [0]) ty) (mkApp2 (mkConst ``Option.some [0]) ty v)
def unitE : Lean.Expr := mkConst ``Unit.unit
def okR (f : Lean.Expr) : Lean.Expr := mkApp3 (mkConst ``Except.ok [0,0]) (mkConst ``Value) (mkConst ``Flow) f
def errR (f : Lean.Expr) : Lean.Expr := mkApp3 (mkConst ``Except.error [0,0]) (mkConst ``Value) (mkConst ``Flow) f
def denE (c : Lean.Expr) : MetaM Lean.Expr := do
  return mkApp (← denF) c
where
  denF : MetaM Lean.Expr := do
    let some (den, _) ← ZFast.quick (mkApp (mkConst ``denote) (mkConst ``table)) | throwError "quick"
    return den

def idxOf (l : List (Lean.Expr × Lean.Expr)) (a : Lean.Expr) : Option (Nat × Lean.Expr) := Id.run do
  let mut i := 0
  for (x, o) in l do
    if x == a then return some (i, o)
    i := i + 1
  return none

/-- one step that skim makes: the new state, or none -/
inductive Mic where
  | step (d : DS)
  | other (t : Lean.Expr)
  | stuck (t : Lean.Expr)

def micro (o : Opt) (den kt setting : Lean.Expr) (n1 : Nat) (d : DS) : MetaM Mic := do
  let t ← kq d.t
  let some n := t.getAppFn.constName? | return .stuck t
  let x := t.getAppArgs
  let go (t' : Lean.Expr) : MetaM Mic := return .step { d with t := t'.headBeta }
  let back (r : Lean.Expr) : MetaM Mic := do
    let md ← kq d.md
    if md.isAppOf ``Option.none then
      let κ ← kq d.k
      if κ.isAppOfArity ``Kont.ret 4 then
        let y := κ.getAppArgs
        return .step { d with c := y[0]!, k := y[3]!, t := (mkApp y[2]! r).headBeta }
      return .other t
    else
      let fs ← kq md.appArg!
      if fs.isAppOfArity ``List.cons 3 then
        let f ← kq fs.getAppArgs[1]!
        if f.isAppOfArity ``Frame.ret 7 then
          let y := f.getAppArgs
          return .step { d with c := y[4]!, md := mkApp2 (mkConst ``Option.some [0]) (mkApp (mkConst ``List [0]) (mkConst ``Frame)) fs.getAppArgs[2]!, t := (mkApp y[0]! r).headBeta }
      return .other t
  match n with
  | ``Sem.pure =>
    let fin ← kq x[1]!
    if fin.isAppOf ``Fin.again then
      let c ← kq fin.appArg!
      if ← o.stop c then return .other t
      unless (← kq (mkApp (mkConst ``PySem.Code.quiet) c)).isConstOf ``Bool.true do return .other t
      return .step { d with c, t := mkApp den c }
    if fin.isAppOf ``Fin.done then return ← back (okR fin.appArg!)
    return .stuck t
  | ``Sem.raise => back (errR x[1]!)
  | ``Sem.at =>
    unless o.places.isEmpty do
      let p ← kq x[1]!
      if p.isAppOfArity ``PySem.Pos.mk 4 then
        if let (.lit (.natVal a), .lit (.natVal b)) := (← kq p.getAppArgs[0]!, ← kq p.getAppArgs[1]!) then
          if o.places.contains (a, b) then return .other t
    go (mkApp x[2]! unitE)
  | ``Sem.rule | ``Sem.point => go (mkApp x[2]! unitE)
  | ``Sem.ask => go (mkApp x[1]! setting)
  | ``Sem.fresh => return .step { d with t := (mkApp x[1]! d.tk).headBeta, tk := mkApp (mkConst ``Nat.succ) d.tk }
  | ``Sem.load | ``Sem.loadIfAlive =>
    let ad ← XRun.addrOf x[1]!
    match XRun.litOf ad with
    | some k =>
      if k < n1 && (idxOf d.T ad).isNone then
        let r ← kq (mkApp2 (mkConst ``KT.get) kt (mkRawNatLit k))
        unless r.isAppOfArity ``Option.some 2 do return .other t
        if n == ``Sem.load then go (mkApp x[3]! r.appArg!) else go (mkApp x[2]! r)
      else return .other t
    | none => return .other t
  | ``Sem.call =>
    let md ← kq d.md
    unless md.isAppOf ``Option.none do return .other t
    let c ← kq x[1]!
    if ← o.stop c then return .other t
    unless (← kq (mkApp (mkConst ``okMark) x[2]!)).isConstOf ``Bool.true do return .other t
    return .step { d with c, t := mkApp den c, k := mkAppN (mkConst ``Kont.ret) #[d.c, ← kq x[2]!, x[5]!, d.k] }
  | ``Sem.handled =>
    let own ← kq x[1]!
    unless own.isConstOf ``Bool.false do return .other t
    let md ← kq d.md
    let A := if md.isAppOf ``Option.none then mkApp3 (mkConst ``aroundOf) d.V (mkConst ``Bool.true) d.k else mkApp3 (mkConst ``PySem.Around.over) (mkApp3 (mkConst ``aroundOf) d.V (mkConst ``Bool.false) d.k) d.c md.appArg!
    let hd ← kq (mkApp (mkConst ``PySem.Around.handled) A)
    go (mkApp x[2]! hd)
  | _ =>
    match (← getEnv).find? n with
    | some (.ctorInfo _) => return .other t
    | _ => return .stuck t

end Mine
end

section
open PySem PySem.Spec PySem.Calls PyProof.Rows PySem.W PySem.W.X
namespace Mine
theorem den_by {V : XV} {S : List Addr} {T L : List (Addr × Obj)} {c : Code} {md : Option (List Frame)} {κ : Kont} {gl : List GenState} {tk : Nat} {c' : Code} {den : Code → Sem Fin} (e : denote table = den)
    (H : J V S T L ⟨c, md, κ, den c', gl, tk⟩) : J V S T L ⟨c, md, κ, denote table c', gl, tk⟩ := by rw [e]; exact H
theorem row_meet (b : Bool) (F : Bool → Prop) (G : Prop) (hT : G → F true) (hF : G → F false) (H : G) : F b := by
  cases b with
  | true => exact hT H
  | false => exact hF H
theorem by_bool (G : Prop) (b : Bool) (x : b = true → G) (y : b = false → G) : G := by
  cases h : b with
  | true => exact x h
  | false => exact y h
theorem concatR_app {α : Type} (l : List α) (v : α) : W.R.concatR l v = l ++ [v] := by
  rw [← W.R.concatR_eq]
  exact List.concat_eq_append
theorem size_mk {α : Type} (l : List α) : (Array.mk l).size = l.length := rfl
theorem sizeLine_num : sizeLine = 16777216 := by rw [sizeLine]
open Lean Elab Tactic Meta

def dbg (_ : String) : MetaM Unit := pure ()
structure Env0 where
  den : Lean.Expr
  denEq : Lean.Expr
  kt : Lean.Expr
  setting : Lean.Expr
  n1 : Nat
  o : Opt
  simp : Option (Lean.Expr → TacticM (Option (Lean.Expr × Lean.Expr))) := none
  cnt : IO.Ref (Nat × Nat × Nat × Nat × Nat)

def Env0.of (d : DS) (o : Opt) : MetaM Env0 := do
  let some (den, e) ← ZFast.quick (mkApp (mkConst ``denote) (mkConst ``table)) | throwError "quick"
  let V ← whnfD d.V
  unless V.isAppOfArity ``XV.mk 11 do throwError "V is not written out"
  let a := V.getAppArgs
  let .lit (.natVal n1) ← kq a[3]! | throwError "n1"
  return { den, denEq := e, kt := a[4]!, setting := mkApp2 (mkConst ``Setting.mk) a[0]! (mkApp (mkConst ``World.params) a[1]!), n1, o := { o with trace := (← IO.getEnv "MINE_TRACE").isSome, deep := (← IO.getEnv "MINE_DEEP").isSome }, cnt := ← IO.mkRef (0, 0, 0, 0, 0) }

def putDebug : Bool := false
def put (g : MVarId) (pf : Lean.Expr → Lean.Expr) (ty : Lean.Expr) : MetaM MVarId := do
  if putDebug then
    g.withContext do
      let l ← withLocalDeclD `z ty fun z => mkLambdaFVars #[z] (pf z)
      let lctx ← instantiateLCtxMVars (← getLCtx)
      let l ← instantiateMVars l
      match Kernel.check (← getEnv) lctx l with
      | .ok _ => pure ()
      | .error ex => throwError "put: {ex.toMessageData {}}"
  let m ← mkFreshExprSyntheticOpaqueMVar ty
  g.assign (pf m)
  return m.mvarId!

def flush (g : MVarId) (d0 d : DS) (n : Nat) : MetaM MVarId := do
  put g (fun m => mkAppN (mkConst ``skim_by) #[d0.V, d0.S, d0.TE, d0.LE, mkConst `Mine.skimZ, mkConst `Mine.skimZ_eq, mkRawNatLit n, d0.cfg, d.cfg, mkApp2 (mkConst ``Eq.refl [1]) (mkConst ``Cfg) d.cfg, m]) d.goal

def isOpq (s : Lean.Expr) : Option Lean.Name := match s.getAppFn with | .proj _ _ (.const on _) => some on | _ => none

/-- what the context says of p -/
def said (p : Lean.Expr) : MetaM (Option (Bool × Lean.Expr)) := do
  let np := mkApp (mkConst ``Not) p
  for x in (← getLCtx).foldr (fun d l => l.push d) #[] do
    if x.isImplementationDetail then continue
    let t ← instantiateMVars x.type
    if t == p then return some (true, x.toExpr)
    if t == np then return some (false, x.toExpr)
    if t.isAppOfArity ``Ne 3 then
      let a := t.getAppArgs
      if p == mkApp3 (mkConst ``Eq t.getAppFn.constLevels!) a[0]! a[1]! a[2]! then return some (false, x.toExpr)
  return none

def lieOf (st : Lean.Expr) : MetaM (Option (Lean.Expr × Lean.Expr)) := do
  for x in (← getLCtx).foldr (fun d l => l.push d) #[] do
    if x.isImplementationDetail then continue
    let t ← instantiateMVars x.type
    if t.isAppOfArity ``Lies 2 then
      if t.appArg! == st then return some (x.toExpr, t.appFn!.appArg!)
  return none

/-- two addresses -/
def addrsApart (d : DS) (hD l r : Lean.Expr) : MetaM (Option Lean.Expr) := do
  let pr := XRun.tyPair
  let at_ (a o : Lean.Expr) := rflO pr (XRun.pairE a o)
  match idxOf d.L l, idxOf d.L r with
  | some (i, oi), some (j, oj) => if i == j then return none else return some (mkAppN (mkConst ``addr_ne) #[d.V, d.S, d.TE, d.LE, hD, mkRawNatLit i, mkRawNatLit j, l, r, oi, oj, at_ l oi, at_ r oj, ff])
  | some (i, oi), none => if (XRun.litOf r).isSome then return some (mkAppN (mkConst ``addr_ne0) #[d.V, d.S, d.TE, d.LE, hD, mkRawNatLit i, l, r, oi, at_ l oi, tt]) else return none
  | none, some (j, oj) => if (XRun.litOf l).isSome then return some (mkAppN (mkConst ``addr_ne0') #[d.V, d.S, d.TE, d.LE, hD, mkRawNatLit j, r, l, oj, at_ r oj, tt]) else return none
  | none, none => return none

/-- one step that only looks -/
def peek1 (e : Env0) (d : DS) : MetaM (Option DS) := do
  match ← micro e.o e.den e.kt e.setting e.n1 d with
  | .step d' => return some { d' with t := ← kq d'.t }
  | .other t =>
    if t.isAppOfArity ``Sem.load 4 || t.isAppOfArity ``Sem.loadIfAlive 3 then
      let x := t.getAppArgs
      let ad ← XRun.addrOf x[1]!
      match (idxOf d.L ad).orElse fun _ => idxOf d.T ad with
      | some (_, o) =>
        let t' := if t.isAppOf ``Sem.load then mkApp x[3]! o else mkApp x[2]! (mkApp2 (mkConst ``Option.some [0]) (mkConst ``PySem.Obj) o)
        return some { d with t := ← kq t'.headBeta }
      | none => return none
    else return none
  | .stuck _ => return none
/-- two ways, step by step: where they meet -/
def meeting (e : Env0) (fuel : Nat) (a b : Option DS) (sa sb : Std.HashMap Lean.Expr Nat) : MetaM (Option DS) := do
  match fuel with
  | 0 => return none
  | fuel + 1 =>
    if let some x := a then
      if sb.contains x.goal then return some x
    let sa := match a with | some x => sa.insert x.goal 0 | none => sa
    if let some x := b then
      if sa.contains x.goal then return some x
    let sb := match b with | some x => sb.insert x.goal 0 | none => sb
    if a.isNone && b.isNone then return none
    let a' ← (match a with | some x => peek1 e x | none => pure none : MetaM _)
    let b' ← (match b with | some x => peek1 e x | none => pure none : MetaM _)
    meeting e fuel a' b' sa sb

structure Say where
  nodes : Nat := 0
  micros : Nat := 0

def lens (p : Lean.Expr) : TacticM (Option Lean.Expr) := do
  unless (p.find? fun y => y.isConstOf ``Array.size || y.isConstOf ``List.length || y.isConstOf ``sizeLine || y.isConstOf ``Str.length).isSome do return none
  let m ← mkFreshExprSyntheticOpaqueMVar p
  let saved ← saveState
  try
    let gs ← Tactic.run m.mvarId! (do evalTactic (← `(tactic| first
      | (simp only [List.size_toArray, Int.reduceLT, Int.reduceNeg, sizeLine_num, ↓reduceIte, List.length_append, List.length_cons, List.length_nil, Nat.ble_eq, Nat.blt_eq, Nat.beq_eq, decide_eq_true_eq, Bool.not_eq_true, Nat.succ_eq_add_one, Int.ofNat_eq_natCast]; omega)
      | (simp only [Str.length, List.size_toArray, Int.reduceLT, Int.reduceNeg, sizeLine_num, ↓reduceIte, List.length_append, List.length_cons, List.length_nil, Nat.ble_eq, Nat.blt_eq, Nat.beq_eq, decide_eq_true_eq, Bool.not_eq_true, Nat.succ_eq_add_one, Int.ofNat_eq_natCast]; omega))))
    if gs.isEmpty then return some (← instantiateMVars m)
    saved.restore
    return none
  catch _ =>
    saved.restore
    return none
def tryDecide (p : Lean.Expr) : TacticM (Option (Bool × Lean.Expr)) := do
  if let some r ← said p then return some r
  if let some (_, l, r) := p.eq? then
    if l == r then return some (true, ← mkExpectedTypeHint (← mkEqRefl l) p)
  if !p.hasFVar then
    if let some r ← ZRun.byKernel p false then return some r
  if let some h ← lens p then return some (true, h)
  if let some h ← lens (mkApp (mkConst ``Not) p) then return some (false, h)
  if let some h ← XRun.byOmega p then return some (true, h)
  if let some h ← XRun.byOmega (mkApp (mkConst ``Not) p) then return some (false, h)
  return none

def kcheck (e : Lean.Expr) : MetaM Bool := do
  match Kernel.check (← getEnv) (← instantiateLCtxMVars (← getLCtx)) (← instantiateMVars e) with
  | .ok _ => return true
  | .error ex =>
    return false

/-- a recursor's motive that does not look at its major -/
def plainMotive (fuel : Nat) (m : Lean.Expr) : Bool := match fuel with
  | 0 => false
  | fuel + 1 => match m with
    | .lam _ _ b _ => if b.isLambda then plainMotive fuel b else !b.hasLooseBVars
    | _ => false
/-- its place in the tree, its place in the one around it, itself, whether that place bears any term of its type -/
abbrev Scr := (Lean.Expr → Lean.Expr) × (Lean.Expr → Lean.Expr) × Lean.Expr × Bool
/-- the scrutinees of a stuck tree, from without inwards -/
def digAll (fuel : Nat) (e : Lean.Expr) (c : Lean.Expr → Lean.Expr) (acc : Array Scr) : MetaM (Array Scr) := do
  match fuel with
  | 0 => return acc
  | fuel + 1 =>
    match e.getAppFn with
    | .const n _ =>
      match (← getEnv).find? n with
      | some (.recInfo r) =>
        let args := e.getAppArgs
        let i := r.getMajorIdx
        if h : i < args.size then
          let M := args[i]
          let plain := r.numMotives == 1 && plainMotive 10 (args[r.numParams]?.getD M)
          let loc := fun x => mkAppN e.getAppFn (args.set! i x)
          let c' := fun x => c (loc x)
          let M' ← kq M
          let acc := acc.push (c', loc, M, plain)
          let acc := if (isOpq M').isSome && M' != M then acc.push (c', id, M', true) else acc
          digAll fuel M' c' acc
        else return acc
      | _ => return acc
    | .proj sn k b =>
      if b.isConst then return acc
      let args := e.getAppArgs
      let loc := fun x => mkAppN (.proj sn k x) args
      let c' := fun x => c (loc x)
      let b' ← kq b
      if b'.isFVar then return acc
      digAll fuel b' c' (acc.push (c', loc, b, true))
    | _ => return acc

def congrE (α β a b f h : Lean.Expr) : MetaM Lean.Expr := do
  let u ← getLevel α
  let v ← getLevel β
  return mkAppN (mkConst ``congrArg [u, v]) #[α, β, a, b, f, h]

/-- what the context says that o is -/
def equalTo (o : Lean.Expr) : MetaM (Option (Lean.Expr × Lean.Expr)) := do
  if o.isFVar then return none
  for x in (← getLCtx).foldr (fun d l => l.push d) #[] do
    if x.isImplementationDetail then continue
    let t ← instantiateMVars x.type
    if let some (_, l, r) := t.eq? then
      if l == o && !(l == r) then return some (r, x.toExpr)
  return none

/-- an object by the context's Bool facts: the new object, and why it is the same -/
def byFacts (o : Lean.Expr) : MetaM (Lean.Expr × Option Lean.Expr) := do
  let mut cur := o
  let mut pf : Option Lean.Expr := none
  for x in (← getLCtx).foldr (fun d l => l.push d) #[] do
    if x.isImplementationDetail then continue
    let t ← instantiateMVars x.type
    if let some (ty, l, r) := t.eq? then
      if ((ty.isConstOf ``Bool && (r.isConstOf ``Bool.true || r.isConstOf ``Bool.false)) || x.userName.eraseMacroScopes.toString.startsWith "rw") && l.hasFVar then
        if (cur.find? fun y => y == l).isSome then
          let F ← withLocalDeclD `b ty fun b => do mkLambdaFVars #[b] (cur.replace fun y => if y == l then some b else none)
          let e ← mkCongrArg F x.toExpr
          let new := (mkApp F r).headBeta
          let e ← mkExpectedTypeHint e (← mkEq cur new)
          pf ← (match pf with | none => return some e | some p => return some (← mkEqTrans p e) : MetaM (Option Lean.Expr))
          cur := new
  return (cur, pf)

/-- lists grown at the end, as sums -/
def byAppend (o : Lean.Expr) : TacticM (Lean.Expr × Option Lean.Expr) := do
  unless (o.find? fun y => y.isConstOf ``W.R.concatR).isSome do return (o, none)
  let saved ← saveState
  try
    let dummy ← mkFreshExprSyntheticOpaqueMVar (mkConst ``True)
    setGoals [dummy.mvarId!]
    let { ctx, simprocs, .. } ← mkSimpContext (← `(tactic| simp only [concatR_app, List.append_assoc, List.cons_append, List.nil_append])) (eraseLocal := false)
    let (r, _) ← Meta.simp o ctx simprocs
    let h ← r.getProof
    return (← instantiateMVars r.expr, some (← instantiateMVars h))
  catch _ =>
    saved.restore
    return (o, none)

/-- an object made tidy: the new one, and why it is the same -/
def tidy (o : Lean.Expr) : TacticM (Lean.Expr × Option Lean.Expr) := do
  let o ← Core.betaReduce o
  let (o1, w1) ← byAppend o
  let (o2, w2) ← byFacts o1
  match w1, w2 with
  | none, w => return (o2, w)
  | some h, none => return (o2, some h)
  | some h, some h' => return (o2, some (← mkEqTrans h h'))
def strBytes0 (fuel : Nat) (l : Lean.Expr) : MetaM String := do
  match fuel with
  | 0 => return ""
  | fuel + 1 =>
    let l ← kq l
    if l.isAppOfArity ``List.cons 3 then
      let n ← kq (mkApp (mkConst ``UInt8.toNat) l.getAppArgs[1]!)
      return String.singleton (Char.ofNat (n.rawNatLit?.getD 63)) ++ (← strBytes0 fuel l.getAppArgs[2]!)
    return ""
def strOf0 (e : Lean.Expr) : MetaM String := do
  match e with
  | .lit (.strVal s) => return s
  | _ =>
    let bs ← XRun.kw (mkApp (mkConst ``String.toByteArray) e)
    let a ← XRun.kw (.proj ``ByteArray 0 bs)
    strBytes0 200 (.proj ``Array 0 a)
/-- the driver: from goal g (state d, and d0 where the open batch began, n steps ago) -/
def drive (e : Env0) : Nat → MVarId → DS → DS → Nat → TacticM (List Left)
  | 0, g, _, _, _ => return [⟨g, "fuel"⟩]
  | fuel + 1, g, d0, d, n => g.withContext do
    if let some (G, hG) := e.o.meet then
      let t ← kq d.t
      let d' := { d with t }
      if d'.goal == G then
        let g ← flush g d0 d' n
        g.assign hG
        return []
    if n ≥ e.o.batch then
      let t ← kq d.t
      let d := { d with t }
      let g ← flush g d0 d n
      return ← drive e fuel g d d 0
    let a0 ← IO.monoNanosNow
    let mi ← micro e.o e.den e.kt e.setting e.n1 d
    let a1 ← IO.monoNanosNow
    if e.o.say && a1 - a0 > 300000000 then dbg s!"slow micro {(a1 - a0) / 1000000} ms"
    e.cnt.modify fun (a, b, c, x, y) => (a + 1, b, c, x + (a1 - a0), y)
    match mi with
    | .step d' =>
      if e.o.trace then
        let t ← kq d.t
        if t.isAppOf ``Sem.call then
          let c ← kq t.getAppArgs[1]!
          let mut w := toString c.getAppFn.constName!
          if c.isAppOf ``Code.call || c.isAppOf ``Code.builtin then
            let f ← kq c.getAppArgs[0]!
            if f.isAppOfArity ``Value.builtin 1 then w := w ++ " " ++ (← strOf0 f.appArg!)
            else if c.isAppOf ``Code.builtin then w := w ++ " b:" ++ (← strOf0 c.getAppArgs[0]!)
            else w := w ++ " " ++ ((toString (← ppExpr f)).take 60).toString
          dbg s!"CALL {w}"
      drive e fuel g d0 d' (n + 1)
    | .other t =>
      e.cnt.modify fun (a, b, c, x, y) => (a, b + 1, c, x, y)
      let d := { d with t }
      let g ← flush g d0 d n
      let x := t.getAppArgs
      let pr := XRun.tyPair
      let at_ (a o : Lean.Expr) := rflO pr (XRun.pairE a o)
      let next (g : MVarId) (d : DS) : TacticM (List Left) := drive e fuel g d d 0
      let stop (w : String) : TacticM (List Left) := return [⟨g, w⟩]
      match t.getAppFn.constName?.getD .anonymous with
      | ``Sem.load =>
        let ad ← XRun.addrOf x[1]!
        match idxOf d.L ad with
        | some (i, o) =>
          let d' := { d with t := (mkApp x[3]! o).headBeta }
          next (← put g (fun m => mkAppN (mkConst ``n_load) (d.pre ++ #[mkRawNatLit i, ad, x[2]!, x[3]!, o, at_ ad o, m])) d'.goal) d'
        | none => match idxOf d.T ad with
          | some (i, o) =>
            let d' := { d with t := (mkApp x[3]! o).headBeta }
            next (← put g (fun m => mkAppN (mkConst ``n_loadT) (d.pre ++ #[mkRawNatLit i, ad, x[2]!, x[3]!, o, at_ ad o, m])) d'.goal) d'
          | none => stop s!"load: no object"
      | ``Sem.loadIfAlive =>
        let ad ← XRun.addrOf x[1]!
        match idxOf d.L ad with
        | some (i, o) =>
          let d' := { d with t := (mkApp x[2]! (mkApp2 (mkConst ``Option.some [0]) (mkConst ``PySem.Obj) o)).headBeta }
          next (← put g (fun m => mkAppN (mkConst ``n_alive) (d.pre ++ #[mkRawNatLit i, ad, x[2]!, o, at_ ad o, m])) d'.goal) d'
        | none => stop "alive: no object"
      | ``Sem.update =>
        let ad ← XRun.addrOf x[1]!
        match idxOf d.L ad with
        | some (i, o) =>
          let o1 ← nO (mkApp x[3]! o)
          let (o', why) ← tidy o1
          let d' := { d with L := d.L.set i (ad, o'), t := (mkApp x[4]! unitE).headBeta }
          let rf (ty v : Lean.Expr) := mkApp2 (mkConst ``Eq.refl [1]) ty v
          let q ← mkEq (mkApp x[3]! o) o'
          let hf ← (match why with | none => pure (rf (mkConst ``PySem.Obj) o') | some h => mkExpectedTypeHint h q : MetaM Lean.Expr)
          let lT := mkApp (mkConst ``List [0]) pr
          next (← put g (fun m => mkAppN (mkConst ``n_update) (d.pre ++ #[mkRawNatLit i, ad, x[2]!, x[3]!, x[4]!, o, o', d'.LE, at_ ad o, hf, ff, rf lT d'.LE, m])) d'.goal) d'
        | none => match idxOf d.T ad with
          | some (i, o) =>
            let o' ← nO (mkApp x[3]! o)
            let d' := { d with T := d.T.set i (ad, o'), t := (mkApp x[4]! unitE).headBeta }
            let rf (ty v : Lean.Expr) := mkApp2 (mkConst ``Eq.refl [1]) ty v
            let lT := mkApp (mkConst ``List [0]) pr
            next (← put g (fun m => mkAppN (mkConst ``n_updateT) (d.pre ++ #[mkRawNatLit i, ad, x[2]!, x[3]!, x[4]!, o, o', d'.TE, at_ ad o, rf (mkConst ``PySem.Obj) o', ff, rf lT d'.TE, m])) d'.goal) d'
          | none =>
            let some k := XRun.litOf ad | stop "update: an object that is not known"
            let r ← kq (mkApp2 (mkConst ``KT.get) e.kt (mkRawNatLit k))
            unless r.isAppOfArity ``Option.some 2 do return ← stop "update: an object of the top that is not known"
            let o := r.appArg!
            let d' := { d with T := (ad, o) :: d.T }
            next (← put g (fun m => mkAppN (mkConst ``n_moreT) #[d.V, d.S, d.TE, d.LE, d.cfg, ad, o, tt, tt, rflO (mkConst ``PySem.Obj) o, m]) d'.goal) d'
      | ``Sem.alloc =>
        let o1 ← nO x[1]!
        let (o', why) ← tidy o1
        let ho ← (match why with
          | none => pure (mkApp2 (mkConst ``Eq.refl [1]) (mkConst ``PySem.Obj) o')
          | some h => do
            let q ← mkEq x[1]! o'
            mkExpectedTypeHint h q : MetaM Lean.Expr)
        let ty ← withLocalDeclD `a (mkConst ``Nat) fun a => do mkForallFVars #[a] { d with L := (a, o') :: d.L, t := (mkApp x[2]! a).headBeta }.goal
        let g ← put g (fun m => mkAppN (mkConst ``n_alloc) (d.pre ++ #[x[1]!, o', x[2]!, ho, ff, m])) ty
        let (a, g) ← g.intro1P
        next g { d with L := (mkFVar a, o') :: d.L, t := (mkApp x[2]! (mkFVar a)).headBeta }
      | ``Sem.stack =>
        let cp := mkApp2 (mkConst ``Prod [0, 0]) (mkConst ``Code) (mkConst ``Pos)
        let stOf (p below : Lean.Expr) := mkApp3 (mkConst ``List.cons [0]) cp (mkApp4 (mkConst ``Prod.mk [0, 0]) (mkConst ``Code) (mkConst ``Pos) d.c p) below
        let md ← kq d.md
        let Au := if md.isAppOf ``Option.none then mkApp2 (mkConst ``PySem.Around.under) (mkApp3 (mkConst ``aroundOf) d.V (mkConst ``Bool.true) d.k) d.c else mkApp3 (mkConst ``PySem.Around.over) (mkApp3 (mkConst ``aroundOf) d.V (mkConst ``Bool.false) d.k) d.c md.appArg!
        let ty ← withLocalDeclD `p (mkConst ``Pos) fun p => withLocalDeclD `below (mkApp (mkConst ``List [0]) cp) fun below => do
          withLocalDeclD `l (mkApp2 (mkConst ``Lies) Au (stOf p below)) fun l => mkForallFVars #[p, below, l] { d with t := (mkApp x[1]! (stOf p below)).headBeta }.goal
        let g ← put g (fun m => mkAppN (mkConst ``n_stack) (d.pre ++ #[x[1]!, m])) ty
        let (fs, g) ← g.introNP 3
        next g { d with t := (mkApp x[1]! (stOf (mkFVar fs[0]!) (mkFVar fs[1]!))).headBeta }
      | ``Sem.call =>
        let c ← kq x[1]!
        if ← e.o.stop c then return ← stop "call"
        let md ← kq d.md
        unless md.isAppOfArity ``Option.some 2 do return ← stop "call: its mark"
        let vT := mkConst ``Value
        let fs := md.appArg!
        let frames (p : Lean.Expr) := mkApp3 (mkConst ``List.cons [0]) (mkConst ``Frame) (mkAppN (mkConst ``Frame.ret) #[x[5]!, x[2]!, x[3]!, x[4]!, d.c, p, mkApp (mkConst ``List.nil [0]) vT]) fs
        let mdOf (p : Lean.Expr) := mkApp2 (mkConst ``Option.some [0]) (mkApp (mkConst ``List [0]) (mkConst ``Frame)) (frames p)
        let den0 := mkApp2 (mkConst ``denote) (mkConst ``table) c
        let ty ← withLocalDeclD `p (mkConst ``Pos) fun p => mkForallFVars #[p] { d with c, md := mdOf p, t := den0 }.goal
        let g ← put g (fun m => mkAppN (mkConst ``j_callS) #[d.V, d.S, d.TE, d.LE, d.c, d.k, d.gl, d.tk, c, x[2]!, x[3]!, x[4]!, x[5]!, fs, m]) ty
        let (p, g) ← g.intro1P
        let d1 := { d with c, md := mdOf (mkFVar p), t := den0 }
        let d' := { d1 with t := mkApp e.den c }
        let g ← put g (fun m => mkAppN (mkConst ``den_by) #[d1.V, d1.S, d1.TE, d1.LE, d1.c, d1.md, d1.k, d1.gl, d1.tk, c, e.den, e.denEq, m]) d'.goal
        next g d'
      | ``Sem.newGen =>
        let gsT := mkConst ``GenState
        let lT := mkApp (mkConst ``List [0]) gsT
        let n0 ← kq (mkApp2 (mkConst ``List.length [0]) gsT d.gl)
        let gl' ← nL 100 (← mkAppM ``HAppend.hAppend #[d.gl, mkApp3 (mkConst ``List.cons [0]) gsT (mkApp (mkConst ``GenState.fresh) x[1]!) (mkApp (mkConst ``List.nil [0]) gsT)])
        let _ := lT
        let d' := { d with gl := gl', t := (mkApp x[2]! n0).headBeta }
        next (← put g (fun m => mkAppN (mkConst ``n_newGen) (d.pre ++ #[x[1]!, x[2]!, m])) d'.goal) d'
      | ``Sem.genState =>
        let gsT := mkConst ``GenState
        let r ← kq (← mkAppM ``GetElem?.getElem? #[d.gl, x[1]!])
        unless r.isAppOfArity ``Option.some 2 do return ← stop "genState"
        let gs := r.appArg!
        let d' := { d with t := (mkApp x[2]! (mkApp (mkConst ``GenState.seen) gs)).headBeta }
        next (← put g (fun m => mkAppN (mkConst ``n_genState) (d.pre ++ #[x[1]!, x[2]!, gs, rflO gsT gs, m])) d'.goal) d'
      | ``Sem.resume =>
        let gsT := mkConst ``GenState
        let r ← kq (← mkAppM ``GetElem?.getElem? #[d.gl, x[1]!])
        unless r.isAppOfArity ``Option.some 2 do return ← stop "resume"
        let gs ← kq r.appArg!
        let gl' ← nL 100 (mkApp4 (mkConst ``List.set [0]) gsT d.gl x[1]! (mkConst ``GenState.running))
        let md ← kq d.md
        let κ := if md.isAppOf ``Option.none then mkAppN (mkConst ``Kont.gen) #[x[1]!, d.c, x[4]!, d.k] else mkAppN (mkConst ``Kont.genS) #[x[1]!, d.c, md.appArg!, x[4]!, d.k]
        let someF (l : Lean.Expr) := mkApp2 (mkConst ``Option.some [0]) (mkApp (mkConst ``List [0]) (mkConst ``Frame)) l
        if gs.isAppOfArity ``GenState.fresh 1 then
          let rr ← kq x[2]!
          unless rr.isAppOfArity ``Resume.send 1 && (← kq rr.appArg!).isConstOf ``Value.none do return ← stop "a fresh generator woken otherwise"
          let c ← kq gs.appArg!
          let d1 := { d with c, md := someF (mkApp (mkConst ``List.nil [0]) (mkConst ``Frame)), k := κ, t := mkApp2 (mkConst ``denote) (mkConst ``table) c, gl := gl' }
          let g ← put g (fun m => mkAppN (mkConst ``n_resumeF) (d.pre ++ #[x[1]!, x[3]!, x[4]!, c, rflO gsT gs, m])) d1.goal
          let d' := { d1 with t := mkApp e.den c }
          let g ← put g (fun m => mkAppN (mkConst ``den_by) #[d1.V, d1.S, d1.TE, d1.LE, d1.c, d1.md, d1.k, d1.gl, d1.tk, c, e.den, e.denEq, m]) d'.goal
          next g d'
        else if gs.isAppOfArity ``GenState.suspended 6 then
          let y := gs.getAppArgs
          let d' := { d with c := y[2]!, md := someF y[4]!, k := κ, t := (mkApp y[0]! x[2]!).headBeta, gl := gl' }
          let g ← put g (fun m => mkAppN (mkConst ``n_resumeS) (d.pre ++ #[x[1]!, x[2]!, x[3]!, x[4]!, y[0]!, y[1]!, y[2]!, y[3]!, y[4]!, y[5]!, rflO gsT gs, m])) d'.goal
          next g d'
        else stop "a generator in another state"
      | ``Sem.yield =>
        let md ← kq d.md
        unless md.isAppOfArity ``Option.some 2 do return ← stop "a yield outside a generator"
        let fs := md.appArg!
        unless (← kq x[2]!).isConstOf ``Bool.false do return ← stop "a yield within a handler"
        let sp := mkApp (mkConst ``splitAtGen) fs
        let none_ ← kq sp
        unless none_.isAppOf ``Option.none do return ← stop "a yield through a generator"
        let wk (p : Lean.Expr) : MetaM Lean.Expr := do
          let en := mkAppN (mkConst ``End.susp) #[x[1]!, mkConst ``Bool.false, x[3]!, x[4]!, d.c, p, fs]
          let r ← kq (mkApp4 (mkConst ``wakeC) en d.k d.gl d.tk)
          unless r.isAppOfArity ``Option.some 2 do throwError "yield"
          let c ← kq r.appArg!
          let a := c.getAppArgs
          return mkAppN c.getAppFn (a.set! 4 (← nL 100 a[4]!))
        let (X, hx, ty) ← withLocalDeclD `p (mkConst ``Pos) fun p => do
          let c ← wk p
          return (← mkLambdaFVars #[p] c, ← mkLambdaFVars #[p] (rflO (mkConst ``Cfg) c), ← mkForallFVars #[p] (mkAppN (mkConst ``J) #[d.V, d.S, d.TE, d.LE, c]))
        let spT ← inferType sp
        let g ← put g (fun m => mkAppN (mkConst ``n_yield) #[d.V, d.S, d.TE, d.LE, d.c, d.k, d.gl, d.tk, x[1]!, x[3]!, x[4]!, fs, XRun.rflAt spT none_, ff, X, hx, m]) ty
        let (_, g) ← g.intro1P
        let d' ← DS.ofGoal g
        next g d'
      | _ =>
        -- an end of a generator's body
        let md ← kq d.md
        if md.isAppOfArity ``Option.some 2 then
          let fs ← kq md.appArg!
          if fs.isAppOf ``List.nil then
            let r? ← (if t.isAppOf ``Sem.raise then pure (some (errR x[1]!)) else if t.isAppOf ``Sem.pure then do
              let fin ← kq x[1]!
              if fin.isAppOf ``Fin.done then return some (okR (← kq fin.appArg!)) else return none
              else pure none : MetaM (Option Lean.Expr))
            if let some r := r? then
              let w ← kq (mkApp4 (mkConst ``wakeC) (mkApp (mkConst ``End.ret) r) d.k d.gl d.tk)
              if w.isAppOfArity ``Option.some 2 then
                let c ← kq w.appArg!
                let a := c.getAppArgs
                let c := mkAppN c.getAppFn (a.set! 4 (← nL 100 a[4]!))
                let g ← put g (fun m => mkAppN (mkConst ``n_wake) #[d.V, d.S, d.TE, d.LE, d.c, d.k, d.gl, d.tk, r, t, mkApp2 (mkConst ``Eq.refl [1]) (mkApp (mkConst ``Sem) (mkConst ``PySem.Fin)) t, c, rflO (mkConst ``Cfg) c, m]) (mkAppN (mkConst ``J) #[d.V, d.S, d.TE, d.LE, c])
                let d' ← DS.ofGoal g
                return ← next g d'
        if t.isAppOf ``Sem.unsupported then return ← stop s!"unsupported {← ppExpr t.appArg!}"
        stop s!"end {t.getAppFn.constName?.getD .anonymous}"
    | .stuck t =>
      e.cnt.modify fun (a, b, c, x, y) => (a, b, c + 1, x, y + (a1 - a0))
      let d := { d with t }
      let g ← flush g d0 d n
      -- the context's rewritings (facts named rw…)
      for x in (← getLCtx).foldr (fun d l => l.push d) #[] do
        if x.isImplementationDetail then continue
        unless x.userName.eraseMacroScopes.toString.startsWith "rw" do continue
        if let some (ty, l, r) := (← instantiateMVars x.type).eq? then
          if (t.find? fun y => y == l).isSome then
            let F ← withLocalDeclD `b ty fun b => do mkLambdaFVars #[b] (t.replace fun y => if y == l then some b else none)
            let t' := (mkApp F r).headBeta
            if ← kcheck F then
              let semT := mkApp (mkConst ``Sem) (mkConst ``PySem.Fin)
              let h ← mkExpectedTypeHint (← congrE ty semT l r F x.toExpr) (mkApp3 (mkConst ``Eq [1]) semT t t')
              let d' := { d with t := t' }
              let g ← put g (fun m => mkAppN (mkConst ``J.castT) #[d.V, d.S, d.TE, d.LE, d.c, d.k, d.gl, d.tk, t', d.md, t, h, m]) d'.goal
              return ← drive e fuel g d' d' 0
      let cs ← digAll 60 t id #[]
      if cs.isEmpty then return [⟨g, "stuck: no scrutinee"⟩]
      if e.o.deep then
        for (_, _, o, _) in cs do dbg s!"  scr {((toString (← ppExpr o)).take 300).toString}"
      if e.o.say then dbg s!"stuck: {cs.size} candidates"
      let mot (ctx : Lean.Expr → Lean.Expr) (ty : Lean.Expr) : MetaM Lean.Expr := withLocalDeclD `x ty fun y => do mkLambdaFVars #[y] { d with t := ctx y }.goal
      let wide (c : Lean.Expr → Lean.Expr) (o : Lean.Expr) : Lean.Expr → Lean.Expr := fun x => (c x).replace fun y => if y == o then some x else none
      -- scrutinee i has the value y by h : M_i = y: put it where a motive bears it
      let settle (i : Nat) (y h : Lean.Expr) : TacticM (Option (List Left)) := do
        let mut y := y
        let mut h := h
        let mut j := i
        -- outwards, as long as each place bears it
        let mut going := true
        while going && j != 0 do
          let (_, loc, o, plain) := cs[j]!
          let o' := cs[j - 1]!.2.2.1
          let oT ← inferType o
          let oT' ← inferType o'
          let typed (L : Lean.Expr) : MetaM Bool := do
            let T ← mkArrow oT oT'
            let u ← getLevel T
            kcheck (mkApp2 (mkConst ``id [u]) T L)
          let L ← withLocalDeclD `x oT fun x => do mkLambdaFVars #[x] (loc x)
          let mut pick : Option Lean.Expr := none
          if plain then pick := some L
          else if ← typed L then pick := some L
          else
            let L ← withLocalDeclD `x oT fun x => do mkLambdaFVars #[x] ((loc x).replace fun z => if z == o then some x else none)
            if ← typed L then pick := some L
          match pick with
          | none => going := false
          | some L =>
            let y' ← kq (mkApp L y).headBeta
            h ← mkExpectedTypeHint (← congrE oT oT' o y L h) (← mkEq o' y')
            y := y'
            j := j - 1
        let (c, _, o, plain) := cs[j]!
        let oT ← inferType o
        let tree (c : Lean.Expr → Lean.Expr) : MetaM Lean.Expr := withLocalDeclD `x oT fun y => do mkLambdaFVars #[y] (c y)
        let mut c := c
        unless (← (if j == 0 && plain then pure true else do kcheck (← tree c) : MetaM Bool)) do
          c := wide c o
          unless ← kcheck (← tree c) do return none
        let F ← mot c oT
        let d' := { d with t := c y }
        let g ← put g (fun m => mkAppN (mkConst ``Z.g_num) #[oT, o, y, h, F, m]) d'.goal
        return some (← drive e fuel g d' d' 0)
      -- a fact of the context, from without inwards
      for i in [0:cs.size] do
        let o := cs[i]!.2.2.1
        if !o.hasLooseBVars then
          if let some (y, h) ← equalTo o then
            if let some r ← settle i y h then return r
      for i in [0:cs.size] do
        let o := cs[i]!.2.2.1
        if !o.hasLooseBVars && o.isAppOf ``GetElem?.getElem? then
          if let some sm := e.simp then
            if let some (y, h) ← sm o then
              if let some r ← settle i y h then return r
      -- from within outwards
      let mut open_ : Option (Nat × Lean.Expr × Lean.Expr) := none
      for k in [0:cs.size] do
        let i := cs.size - 1 - k
        let o := cs[i]!.2.2.1
        if o.hasLooseBVars || o.isFVar then continue
        let oT ← whnfCore (← inferType o)
        if let some on := isOpq o then
          let sa := o.getAppArgs
          if on == ``oRoom || on == ``oNear || on == ``oOver || on == ``oWarm then
            let some (l, A) ← lieOf sa[0]! | return [⟨g, "the stack is not known"⟩]
            let lt (f : Lean.Name) (n : Lean.Name) : Lean.Expr := mkApp3 (mkConst ``Nat.le_of_ble_eq_true) (mkApp (mkConst ``Nat.succ) (mkApp (mkConst f) A)) (mkConst n) tt
            let h ← if on == ``oRoom then mkAppM ``Lies.room #[l, lt ``PySem.Around.units ``cLine]
              else mkAppM (if on == ``oNear then ``Lies.near' else if on == ``oOver then ``Lies.over else ``Lies.warm) #[l, lt ``PySem.Around.depth ``recursionLimit, sa[1]!]
            let some r ← settle i (mkConst ``Bool.false) h | return [⟨g, "stuck: the stack's look"⟩]
            return r
          if on == ``oEnvs then
            let some (l, A) ← lieOf sa[0]! | return [⟨g, "the stack is not known"⟩]
            let fr ← kq (mkApp (mkConst ``PySem.Around.frames) A)
            unless fr.isAppOfArity ``Option.some 2 do return [⟨g, "the frames are not known"⟩]
            let es ← XRun.nList fr.appArg! pure
            let lT ← inferType es
            let hE := mkApp2 (mkConst ``Eq.refl [1]) (mkApp (mkConst ``Option [0]) lT) (mkApp2 (mkConst ``Option.some [0]) lT es)
            let some r ← settle i es (mkAppN (mkConst ``Lies.envs) #[A, sa[0]!, l, es, hE]) | return [⟨g, "stuck: the frames"⟩]
            return r
        if oT.isAppOfArity ``Decidable 1 then
          let p := oT.appArg!
          let np := mkApp (mkConst ``Not) p
          let yes (h : Lean.Expr) := settle i (mkApp2 (mkConst ``Decidable.isTrue) p h) (mkApp3 (mkConst ``X.dec_is) p o h)
          let no (h : Lean.Expr) := settle i (mkApp2 (mkConst ``Decidable.isFalse) p h) (mkApp3 (mkConst ``X.dec_not) p o h)
          if let some (_, l, r) := p.eq? then
            let (l', r') := (← XRun.addrOf l, ← XRun.addrOf r)
            if (idxOf d.L l').isSome || (idxOf d.L r').isSome then
              if l' == r' then
                if let some r ← yes (← mkExpectedTypeHint (← mkEqRefl l') p) then return r
                continue
              let LedTy ← withLocalDeclD `h (mkConst ``Heap) fun h => do mkAppM ``Exists #[← mkLambdaFVars #[h] (mkAppN (mkConst ``Led) #[d.V, d.S, d.TE, d.LE, h])]
              if let some (_, h) ← said np then
                if let some r ← no h then return r
                continue
              let ty ← withLocalDeclD `hD LedTy fun h => mkForallFVars #[h] d.goal
              let g2 ← put g (fun m => mkAppN (mkConst ``J.facts) #[d.V, d.S, d.TE, d.LE, d.cfg, m]) ty
              let (hD, g2) ← g2.intro1P
              return ← g2.withContext do
                match ← addrsApart d (mkFVar hD) l' r' with
                | some h =>
                  let h ← mkExpectedTypeHint h np
                  let g3 ← g2.assert `hne np h
                  let (_, g3) ← g3.intro1P
                  drive e fuel g3 d d 0
                | none => return [⟨g2, "two addresses"⟩]
          match ← tryDecide p with
          | some (true, h) => if let some r ← yes h then return r
          | some (false, h) => if let some r ← no h then return r
          | none => if open_.isNone then open_ := some (i, p, ← (do try synthInstance (mkApp (mkConst ``Decidable) p) catch _ => pure (mkApp (mkConst ``Classical.propDecidable) p)))
        else if oT.isConstOf ``Bool then
          -- the inside of a Decidable: the Decidable itself is asked
          let under ← (if i > 0 then do return (← whnfCore (← inferType cs[i-1]!.2.2.1)).isAppOfArity ``Decidable 1 else pure false : MetaM Bool)
          if under then continue
          if let some (p, h) ← ZRun.boolProp o then
            match ← tryDecide p with
            | some (true, hp) => if let some r ← settle i (mkConst ``Bool.true) (← mkAppM ``Iff.mpr #[h, hp]) then return r
            | some (false, hn) => if let some r ← settle i (mkConst ``Bool.false) (← mkAppM ``Z.bool_no #[h, hn]) then return r
            | none => if open_.isNone then open_ := some (i, p, ← (do try synthInstance (mkApp (mkConst ``Decidable) p) catch _ => pure (mkApp (mkConst ``Classical.propDecidable) p)))
          else if open_.isNone then
            let eqT := mkApp3 (mkConst ``Eq [1]) (mkConst ``Bool) o (mkConst ``Bool.true)
            open_ := some (i, eqT, mkApp2 (mkConst ``instDecidableEqBool) o (mkConst ``Bool.true))
        else if oT.isConstOf ``Nat then
          if let some h ← XRun.byOmega (← mkEq o (mkNatLit 0)) then
            let z := mkRawNatLit 0
            if let some r ← settle i z (← mkExpectedTypeHint h (← mkEq o z)) then return r
        else if (oT.isAppOf ``Option || oT.isConstOf ``Int || oT.isConstOf ``Value || oT.isAppOf ``List || oT.isAppOf ``Array) && o.approxDepth < 60 then
          if let some sm := e.simp then
            if let some (y, h) ← sm o then
              if let some r ← settle i y h then return r
      let inner ← (do
        let o := cs.back!.2.2.1
        if o.isFVar then return (← whnfCore (← inferType o)).isAppOf ``Option
        return false : MetaM Bool)
      match (if inner then none else open_) with
      | some (i, p, inst) =>
        let (ctx, _, s, _) := cs[i]!
        -- a Bool that nothing decides: do both ways meet?
        if (← whnfCore (← inferType s)).isConstOf ``Bool then
          let row := (s.find? fun y => y.isConstOf ``Params.followText).isSome
          let deep ← (do
            if row then return true
            if (s.find? fun y => y.isConstOf ``Sem.rec).isSome then return false
            for x in (← s.collectFVars.run {}).2.fvarIds do
              if (← inferType (.fvar x)).isAppOf ``List && ((← inferType (.fvar x)).find? fun y => y.isConstOf ``Code).isSome then return true
            return false : MetaM Bool)
          let F ← mot ctx (mkConst ``Bool)
          let sure := (cs.extract 0 (i + 1)).all fun x => x.2.2.2
          let tr ← withLocalDeclD `x (mkConst ``Bool) fun y => do mkLambdaFVars #[y] (ctx y)
          if ← (if deep then (if sure then pure true else kcheck tr) else pure false : MetaM Bool) then
            let start (y : Lean.Name) : MetaM DS := do return { d with t := ← kq (ctx (mkConst y)) }
            if let some m ← meeting e (if row then 120 else 8) (some (← start ``Bool.true)) (some (← start ``Bool.false)) {} {} then
              let G := m.goal
              let side (y : Lean.Name) : TacticM (Lean.Expr × List Left) := do
                let ty ← withLocalDeclD `hG G fun h => mkForallFVars #[h] { d with t := ctx (mkConst y) }.goal
                let mv ← mkFreshExprSyntheticOpaqueMVar ty
                let (h, g1) ← mv.mvarId!.intro1P
                let d' := { d with t := ctx (mkConst y) }
                let l ← drive { e with o := { e.o with meet := some (G, mkFVar h) } } fuel g1 d' d' 0
                return (mv, l)
              let (a, l1) ← side ``Bool.true
              let (b, l2) ← side ``Bool.false
              unless l1.isEmpty && l2.isEmpty do return [⟨g, "a row's side is left"⟩]
              let g ← put g (fun z => mkAppN (mkConst ``row_meet) #[s, F, G, a, b, z]) G
              return ← drive e fuel g m m 0
          if row then return [⟨g, s!"a row that does not meet: {← ppExpr s}"⟩]
        if e.o.say then
          (do
            logInfo m!"SPLIT {((toString (← ppExpr p)).take 500).toString}"
            if e.o.trace then dbg s!"SPLIT {((toString (← ppExpr p)).take 500).toString}")
        if e.o.meet.isSome then return [⟨g, "a split on the way to a meeting"⟩]
        if (← said p).isSome then return [⟨g, s!"known, but not borne: {((toString (← ppExpr p)).take 500).toString}"⟩]
        if let some (_, l, r) := p.eq? then
          if r.isConstOf ``Bool.true then
            if (← said (mkApp3 (mkConst ``Eq [1]) (mkConst ``Bool) l (mkConst ``Bool.false))).isSome then return [⟨g, s!"known to be false, but not borne: {((toString (← ppExpr p)).take 500).toString}"⟩]
        let isB := (p.eq?.map fun (ty, _, r) => ty.isConstOf ``Bool && r.isConstOf ``Bool.true).getD false
        let np := if isB then mkApp3 (mkConst ``Eq [1]) (mkConst ``Bool) p.appFn!.appArg! (mkConst ``Bool.false) else mkApp (mkConst ``Not) p
        let ty1 ← withLocalDeclD `hp p fun hp => mkForallFVars #[hp] d.goal
        let ty2 ← withLocalDeclD `hn np fun hn => mkForallFVars #[hn] d.goal
        let (m1, m2) := (← mkFreshExprSyntheticOpaqueMVar ty1, ← mkFreshExprSyntheticOpaqueMVar ty2)
        if isB then g.assign (mkAppN (mkConst ``by_bool) #[d.goal, p.appFn!.appArg!, m1, m2])
        else g.assign (mkAppN (mkConst ``Z.g_by) #[d.goal, p, inst, m1, m2])
        let (h1, g1) ← m1.mvarId!.intro1P
        let (h2, g2) ← m2.mvarId!.intro1P
        let sub (g : MVarId) (h : FVarId) : TacticM MVarId := g.withContext do
          match (← instantiateMVars (← h.getType)).eq? with
          | some (_, l, r) => if l.isFVar || r.isFVar then (try subst g h catch _ => pure g) else return g
          | none => return g
        let g1 ← sub g1 h1
        let g2 ← sub g2 h2
        let l1 ← g1.withContext do
          let d1 ← DS.ofGoal g1
          drive e fuel g1 d1 d1 0
        let l2 ← g2.withContext do
          let d2 ← DS.ofGoal g2
          drive e fuel g2 d2 d2 0
        return l1 ++ l2
      | none =>
        -- a variable of the context, by its cases
        for k in [0:cs.size] do
          let o := cs[cs.size - 1 - k]!.2.2.1
          if o.isFVar then
            let oT ← whnfCore (← inferType o)
            if (oT.isAppOf ``Option || oT.isAppOf ``List || oT.isConstOf ``Bool) && !(oT.find? fun y => y.isConstOf ``Code || y.isConstOf ``Frame || y.isConstOf ``GenState).isSome then
              if e.o.say then logInfo m!"CASES {o}"
              let mut out := []
              for c in ← g.cases o.fvarId! do
                out := out ++ (← c.mvarId.withContext do
                  let d1 ← DS.ofGoal c.mvarId
                  drive e fuel c.mvarId d1 d1 0)
              return out
        let mut w := s!"stuck: {t.getAppFn}"
        for (_, _, o, _) in cs do
          let ty ← ppExpr (← inferType o)
          let f ← (if o.approxDepth < 40 then ppExpr o else pure f!"({o.getAppFn})")
          w := w ++ s!"\n  [{(toString ty).take 60}] {(toString f).take 300} -> {((toString (← kq o).getAppFn).take 100)}"
        return [⟨g, w⟩]

/-- a String by its bytes -/
def strBytes (fuel : Nat) (l : Lean.Expr) : MetaM String := do
  match fuel with
  | 0 => return ""
  | fuel + 1 =>
    let l ← kq l
    if l.isAppOfArity ``List.cons 3 then
      let n ← kq (mkApp (mkConst ``UInt8.toNat) l.getAppArgs[1]!)
      return String.singleton (Char.ofNat (n.rawNatLit?.getD 63)) ++ (← strBytes fuel l.getAppArgs[2]!)
    return ""
def strOf (e : Lean.Expr) : MetaM String := do
  match e with
  | .lit (.strVal s) => return s
  | _ =>
    let bs ← XRun.kw (mkApp (mkConst ``String.toByteArray) e)
    let a ← XRun.kw (.proj ``ByteArray 0 bs)
    strBytes 200 (.proj ``Array 0 a)

/-- where to stop by default: loops; calls of the text's functions in fns -/
def stopAt (fns : List Nat) (bis : List String) (c : Lean.Expr) : MetaM Bool := do
  if c.isAppOf ``Code.forLoop || c.isAppOf ``Code.compLoop || c.isAppOf ``Code.whileLoop then return true
  if c.isAppOfArity ``Code.call 2 then
    let f ← kq c.getAppArgs[0]!
    if f.isAppOfArity ``Value.ref 1 then
      if let some k := XRun.litOf (← XRun.addrOf f.appArg!) then return fns.contains k
    if !bis.isEmpty && f.isAppOfArity ``Value.builtin 1 then
      return bis.contains (← strOf f.appArg!)
  if !bis.isEmpty && c.isAppOfArity ``Code.builtin 2 then
    return bis.contains (← strOf c.getAppArgs[0]!)
  return false

/-- simp with all that the context says: the value that o has -/
def bySimp (stx : Syntax) (o : Lean.Expr) : TacticM (Option (Lean.Expr × Lean.Expr)) := do
  let saved ← saveState
  try
    let dummy ← mkFreshExprSyntheticOpaqueMVar (mkConst ``True)
    setGoals [dummy.mvarId!]
    let { ctx, simprocs, .. } ← mkSimpContext stx (eraseLocal := false)
    let (r, _) ← Meta.simp o ctx simprocs
    if r.expr == o then
      saved.restore
      return none
    let h ← r.getProof
    let y ← instantiateMVars r.expr
    let h ← instantiateMVars h
    if y.hasExprMVar || h.hasExprMVar then
      saved.restore
      return none
    unless ← XRun.isCtor (← kq y) do
      logInfo m!"bySimp: {o} gives {y}"
      saved.restore
      return none
    return some (y, ← mkExpectedTypeHint h (← mkEq o y))
  catch ex =>
    saved.restore
    logInfo m!"bySimp: {ex.toMessageData}"
    return none

/-- one step into a call where the driver has stopped -/
def enterJ : TacticM Unit := do
  let g ← getMainGoal
  let rest := (← getGoals).tail!
  g.withContext do
    let d ← DS.ofGoal g
    let e ← Env0.of d { stop := fun _ => return false }
    match ← micro e.o e.den e.kt e.setting e.n1 d with
    | .step d' =>
      let g ← flush g d d' 1
      setGoals (g :: rest)
    | _ => throwError "enterJ"

def runJ (fns : List Nat) (bis : List String := []) (batch : Nat := 80) (loops : Bool := true) (say : Bool := false) (simps : Option (TacticM Syntax) := none) (places : List (Nat × Nat) := []) (trace : Bool := false) : TacticM Unit := do
  let g ← getMainGoal
  let rest := (← getGoals).tail!
  g.withContext do
    let d ← DS.ofGoal g
    let e ← Env0.of d { stop := fun c => do if loops || !(c.isAppOf ``Code.forLoop || c.isAppOf ``Code.compLoop || c.isAppOf ``Code.whileLoop) then stopAt fns bis c else return false, batch, say, places, trace }
    let e := { e with simp := match simps with | some st => some fun o => do bySimp (← st) o | none => some fun o => do bySimp (← `(tactic| simp only [*, Int.add_sub_cancel, Nat.succ_eq_add_one, Nat.zero_add, Nat.add_sub_cancel, List.getElem?_toArray, Int.toNat_natCast])) o }
    let (g, d) ← (do
      if d.t.isAppOfArity ``denote 2 && d.t.appFn!.appArg!.isConstOf ``table then
        let c' := d.t.appArg!
        let d' := { d with t := mkApp e.den c' }
        let g ← put g (fun m => mkAppN (mkConst ``den_by) (#[d.V, d.S, d.TE, d.LE, d.c, d.md, d.k, d.gl, d.tk, c', e.den, e.denEq, m])) d'.goal
        return (g, d')
      return (g, d) : TacticM (MVarId × DS))
    -- the ledger's own texts, quick: where they are not so yet
    let done (o : Lean.Expr) : Bool := o.isAppOfArity ``PySem.Obj.mk 4 && !(o.find? fun y => y.isStringLit).isSome
    let os := (d.L.map (·.2)).filter done
    let os := os.eraseDups
    let (g, d) ← (do
      let r ← withLocalDeclsD (os.toArray.mapIdx fun i _ => ((`o).appendIndexAfter i, fun _ => pure (mkConst ``PySem.Obj))) fun xs => do
        let L := d.L.map fun (a, o) => match os.idxOf? o with | some i => (a, xs[i]!) | none => (a, o)
        match ← ZFast.quick (consE L d.tl) with
        | some (LE', h) => return some (← mkLambdaFVars xs LE', ← mkLambdaFVars xs h)
        | none => return none
      match r with
      | some (F, h) =>
        let LE' := F.beta os.toArray
        let h := h.beta os.toArray
        let g ← put g (fun m => mkAppN (mkConst ``J.castL) #[d.V, d.S, d.TE, d.LE, d.cfg, LE', h, m]) (mkAppN (mkConst ``J) #[d.V, d.S, d.TE, LE', d.cfg])
        return (g, ← DS.ofGoal g)
      | none => return (g, d) : TacticM (MVarId × DS))
    let l ← drive e 6000 g d d 0
    if say then
      let (a, b, c, x, _) ← e.cnt.get
      logInfo m!"micro {a} in {x / 1000000} ms, nodes {b}, decisions {c}"
      for x in l do logInfo m!"{x.why}"
    setGoals (l.map (·.goal) ++ rest)
end Mine
end

section
open PySem
open PySem.W PySem.W.X PyProof.Rows
namespace Mine
open Lean Elab Tactic Meta
noncomputable abbrev mkV (w : World) (h : Heap) (A : Around) (R : Result → Shared → Prop) (d : Drawn) (os : OsState) : XV := ⟨PySem.Challenge.pw_fv0017_01, w, h, 805, KTop w.params, [], A, R, d, 0, os⟩
def AA : Around := { handled := none, depth := 40, frames := none, guards := some [], units := 60 }

end Mine
end

section
open PySem PySem.W PySem.W.X PyProof.Rows
namespace Mine
open Lean Elab Tactic Meta

/-- pull the entry i of the ledger to its front -/
def pullG (g : MVarId) (d : DS) (i : Nat) : MetaM (MVarId × DS) := do
  if i == 0 then return (g, d)
  let some (a, o) := d.L[i]? | throwError "pull: no entry {i}"
  let rest := d.L.eraseIdx i
  let d' := { d with L := (a, o) :: rest }
  let p := XRun.pairE a o
  let lT := mkApp (mkConst ``List [0]) XRun.tyPair
  let LE' := consE rest d.tl
  let g ← put g (fun m => mkAppN (mkConst ``J.pull) #[d.V, d.S, d.TE, d.LE, d.cfg, mkRawNatLit i, p, LE', rflO XRun.tyPair p, mkApp2 (mkConst ``Eq.refl [1]) lT LE', m]) d'.goal
  return (g, d')
/-- drop the first entry -/
def skipG (g : MVarId) (d : DS) : MetaM (MVarId × DS) := do
  match d.L with
  | [] => throwError "skip: nothing there"
  | (a, o) :: rest =>
    let d' := { d with L := rest }
    let g ← put g (fun m => mkAppN (mkConst ``J.skip) #[d.V, d.S, d.TE, d'.LE, d.cfg, XRun.pairE a o, m]) d'.goal
    return (g, d')
def dropJ (n : Nat) : TacticM Unit := do
  let g ← getMainGoal
  let rest := (← getGoals).tail!
  g.withContext do
    let mut d ← DS.ofGoal g
    let mut g := g
    for _ in [0:n] do
      let (g', d') ← skipG g d
      g := g'
      d := d'
    setGoals (g :: rest)

/-- two terms without holes: false if they are seen to be two -/
def agree (fuel : Nat) (p a : Lean.Expr) : MetaM Bool := do
  match fuel with
  | 0 => return true
  | fuel + 1 =>
    if p == a then return true
    let p ← kq p
    let a ← kq a
    if p.isFVar && a.isFVar then return p == a
    if p.isRawNatLit && a.isRawNatLit then return p == a
    if let (.lit (.natVal x), .lit (.natVal y)) := (p, a) then return x == y
    if (← XRun.isCtor p) && (← XRun.isCtor a) then
      let some n := p.getAppFn.constName? | return true
      if a.getAppFn.constName? != some n || p.getAppNumArgs != a.getAppNumArgs then return p.isRawNatLit || a.isRawNatLit || !(p.getAppFn.isConst && a.getAppFn.isConst)
      let some (.ctorInfo ci) := (← getEnv).find? n | return true
      let (pa, aa) := (p.getAppArgs, a.getAppArgs)
      for i in [ci.numParams:pa.size] do
        unless ← agree fuel pa[i]! aa[i]! do return false
    return true
/-- the pattern p (with holes) against a, by constructors -/
def matchE (fuel : Nat) (p a : Lean.Expr) : MetaM Bool := do
  match fuel with
  | 0 => return false
  | fuel + 1 =>
    let p ← instantiateMVars p
    if !p.hasExprMVar then return ← agree 8 p a
    if p.getAppFn.isMVar && p.getAppNumArgs == 0 then
      let a ← instantiateMVars a
      let ty ← whnfCore (← inferType p)
      let a ← (if ty.isConstOf ``Nat || ty.isConstOf ``Value || ty.isConstOf ``Int || ty.isConstOf ``Bool || ty.isAppOf ``Option then kq a else pure a)
      return ← isDefEq p a
    if p.isAppOfArity ``denote 2 && a.isAppOfArity ``denote 2 then
      return (← isDefEq p.appFn! a.appFn!) && (← matchE fuel p.appArg! a.appArg!)
    let ctor? (e : Lean.Expr) : MetaM Bool := XRun.isCtor e
    let p' ← (do if ← ctor? p then return p else whnfD p : MetaM Lean.Expr)
    let a' ← kq a
    if (← ctor? p') && (← ctor? a') then
      let some n := p'.getAppFn.constName? | return ← isDefEq p' a'
      if a'.getAppFn.constName? != some n || p'.getAppNumArgs != a'.getAppNumArgs then
        return false
      let some (.ctorInfo ci) := (← getEnv).find? n | return false
      let (pa, aa) := (p'.getAppArgs, a'.getAppArgs)
      for i in [ci.numParams:pa.size] do
        unless ← matchE fuel pa[i]! aa[i]! do return false
      return true
    isDefEq p' a'

def pairOf (e : Lean.Expr) : MetaM (Lean.Expr × Lean.Expr) := do
  let p ← whnfD e
  unless p.isAppOfArity ``Prod.mk 4 do throwError "pair: {p}"
  return (p.getAppArgs[2]!, p.getAppArgs[3]!)

/-- the pattern's ledger: entries, and its tail -/
def patL (fuel : Nat) (e : Lean.Expr) : MetaM (List (Lean.Expr × Lean.Expr) × Lean.Expr) := do
  match fuel with
  | 0 => throwError "patL"
  | fuel + 1 =>
    let e ← instantiateMVars e
    let e' ← (do if e.getAppFn.isMVar then return e else whnfD e : MetaM Lean.Expr)
    if e'.isAppOfArity ``List.cons 3 then
      let p ← pairOf e'.getAppArgs[1]!
      let (l, tl) ← patL fuel e'.getAppArgs[2]!
      return (p :: l, tl)
    return ([], e)

/-- a lemma that ends in J, at a goal J: matched by constructors; what is left are new goals -/
def useJ (stx : Lean.Term) : TacticM Unit := do
  let g ← getMainGoal
  let others := (← getGoals).tail!
  g.withContext do
    let d0 ← DS.ofGoal g
    let e ← Term.withSynthesize (postpone := .no) <| Term.elabTerm stx none
    let e ← instantiateMVars e
    let ty ← instantiateMVars (← inferType e)
    let (ms, _, concl) ← withReducible (forallMetaTelescopeReducing ty)
    let concl ← whnfR concl
    unless concl.isAppOfArity ``J 5 do throwError "useJ: no J at the end: {concl}"
    let ca := concl.getAppArgs
    let cfg ← whnfR ca[4]!
    unless cfg.isAppOfArity ``Cfg.mk 6 do throwError "useJ: config {cfg}"
    let cc := cfg.getAppArgs
    unless ← isDefEq ca[0]! d0.V do throwError "useJ: V: {ca[0]!} against {d0.V}"
    unless ← isDefEq ca[1]! d0.S do throwError "useJ: S"
    let t ← (if d0.t.isAppOf ``denote then pure d0.t else kq d0.t : MetaM Lean.Expr)
    let d0 := { d0 with t }
    for (p, a, w) in [(cc[0]!, d0.c, "c"), (cc[1]!, d0.md, "md"), (cc[2]!, d0.k, "k"), (cc[3]!, d0.t, "t"), (cc[4]!, d0.gl, "gl"), (cc[5]!, d0.tk, "tk")] do
      unless ← matchE 10000 p a do throwError "useJ: {w}: {p}"
    -- the tables
    let (Tp, _) ← patL 1000 (← instantiateMVars ca[2]!)
    if Tp.isEmpty then
      unless ← isDefEq ca[2]! d0.TE do throwError "useJ: T"
    else
      unless Tp.length == d0.T.length do throwError "useJ: T's length"
      for ((a, o), (a', o')) in Tp.zip d0.T do
        unless ← matchE 10000 a a' do throwError "useJ: T's address"
        unless ← matchE 10000 o o' do throwError "useJ: T's object"
    -- the ledger
    let (Lp, tl) ← patL 1000 ca[3]!
    let mut order : Array Lean.Expr := #[]
    for (a, o) in Lp do
      let a ← instantiateMVars a
      let a ← (if a.isFVar then pure a else do
        let a ← whnfR a
        if a.isFVar || a.hasExprMVar then return a else XRun.addrOf a : MetaM Lean.Expr)
      if a.isMVar then throwError "useJ: an address that nothing says: {o}"
      let some (i, o') := idxOf d0.L a | throwError "useJ: no entry at {a}"
      let _ := i
      unless ← matchE 10000 o o' do throwError "useJ: the entry at {a}: {← instantiateMVars o}"
      order := order.push a
    let tl ← instantiateMVars tl
    -- arrange: first what is to go, then the pattern's entries to the front
    let mut d := d0
    let g0 ← flush g (← DS.ofGoal g) d0 0
    let mut g := g0
    let free := tl.getAppFn.isMVar
    unless free do
      unless ← isDefEq tl d0.tl do throwError "useJ: the rest: {tl} against {d0.tl}"
    unless free do
      for (a, _) in d0.L do
        unless order.contains a do
          let some (i, _) := idxOf d.L a | throwError "useJ"
          let (g', d') ← pullG g d i
          let (g', d') ← skipG g' d'
          g := g'
          d := d'
    for a in order.reverse do
      let some (i, _) := idxOf d.L a | throwError "useJ"
      let (g', d') ← pullG g d i
      g := g'
      d := d'
    if free then
      unless ← isDefEq tl (consE (d.L.drop order.size) d.tl) do throwError "useJ: the rest"
    let pf ← instantiateMVars (mkAppN e ms)
    -- the kernel is asked here, to tell early
    g.assign pf
    let mut news := []
    let have_ := (← getMVars (← instantiateMVars pf)).toList
    for m in ms do
      let m' := m.mvarId!
      unless ← m'.isAssigned do
        news := news ++ [m']
    for m' in have_ do
      unless news.contains m' do news := news ++ [m']
    setGoals (news ++ others)

/-- parts of the text, out of the top's objects -/
def funcOf (a : Nat) : MetaM Lean.Expr := do
  let some (.defnInfo d) := (← getEnv).find? ((`Mine.ob).str (toString a)) | throwError "no object {a}"
  let o ← whnfD (d.value.beta #[mkConst ``PySem.Params])
  let dt ← whnfD o.getAppArgs[2]!
  unless dt.isAppOfArity ``Data.func 1 do throwError "no function {a}"
  whnfD dt.appArg!
def listOf (fuel : Nat) (e : Lean.Expr) : MetaM (List Lean.Expr) := do
  match fuel with
  | 0 => throwError "listOf"
  | fuel + 1 =>
    let e ← whnfD e
    if e.isAppOfArity ``List.cons 3 then return e.getAppArgs[1]! :: (← listOf fuel e.getAppArgs[2]!)
    return []
/-- the statements of the function at a -/
def stmtsOf (a : Nat) : MetaM (List Lean.Expr) := do
  let fd ← funcOf a
  let b ← whnfD (mkApp (mkConst ``FuncData.body) fd)
  unless b.isAppOfArity ``FuncBody.stmts 1 do throwError "no statements"
  listOf 1000 b.appArg!
/-- part k of the i-th statement of the function at a -/
def stmtPart (a i k : Nat) : TacticM Unit := do
  let l ← stmtsOf a
  let some s := l[i]? | throwError "no statement {i} of {l.length}"
  let s ← whnfD s
  let some p := s.getAppArgs[k]? | throwError "no part {k} of {s.getAppFn}"
  (← getMainGoal).assign p
/-- where a statement stands -/
def placeOf (e : Lean.Expr) : MetaM (Nat × Nat) := do
  let s ← whnfD e
  let p ← kq s.getAppArgs.back!
  match (← kq p.getAppArgs[0]!, ← kq p.getAppArgs[1]!) with
  | (.lit (.natVal a), .lit (.natVal b)) => return (a, b)
  | _ => throwError "placeOf"
def scopePart (a : Nat) : TacticM Unit := do
  let fd ← funcOf a
  (← getMainGoal).assign (← whnfD (mkApp (mkConst ``FuncData.scope) fd))
def saysStmts (a : Nat) : TacticM Unit := do
  let l ← stmtsOf a
  let mut w := ""
  for (s, i) in l.zipIdx do
    let s ← whnfD s
    w := w ++ s!"{i}: {s.getAppFn}\n"
  logInfo w

/-- useJ by the term's text -/
def useS (s : String) : TacticM Unit := do
  match Parser.runParserCategory (← getEnv) `term s with
  | .ok stx => useJ ⟨stx⟩
  | .error e => throwError e


/-- which hook a code asks for -/
def hookKey (c : Lean.Expr) : MetaM String := do
  let c ← kq c
  if c.isAppOf ``Code.forLoop then return "for"
  if c.isAppOf ``Code.compLoop then return "comp"
  if c.isAppOfArity ``Code.call 2 then
    let f ← kq c.getAppArgs[0]!
    if f.isAppOfArity ``Value.ref 1 then
      if let some k := XRun.litOf (← XRun.addrOf f.appArg!) then return s!"fn:{k}"
    if f.isAppOfArity ``Value.builtin 1 then return ← strOf f.appArg!
  if c.isAppOfArity ``Code.builtin 2 then return "b:" ++ (← strOf c.getAppArgs[0]!)
  return "?"

/-- the rooms: a raw proof -/
def roomS (g : MVarId) (A B : Lean.Expr) : MetaM Unit := do
  let B ← instantiateMVars B
  let B' ← whnfD B
  let h ← instantiateMVars B'.getAppArgs[0]!
  if h.isMVar then
    unless ← isDefEq h (← kq (mkApp (mkConst ``PySem.Around.handled) A)) do throwError "room"
  let B ← instantiateMVars B
  let prj (n : Lean.Name) (X : Lean.Expr) : Lean.Expr := mkApp (mkConst n) X
  let rf (n : Lean.Name) : MetaM Lean.Expr := do mkEqRefl (prj n B)
  let le (n : Lean.Name) : Lean.Expr := mkApp3 (mkConst ``Nat.le_of_ble_eq_true) (prj n A) (prj n B) tt
  let ofr (X : Lean.Expr) : MetaM Lean.Expr := do
    let ty ← inferType X
    return mkApp (mkConst ``Option.none [0]) ty.appArg!
  let frB := prj ``PySem.Around.frames B
  let fn ← ofr frB
  let isNone := (← whnfD frB).isAppOf ``Option.none
  let e1 ← mkEq frB fn
  let e2 ← mkEq frB (prj ``PySem.Around.frames A)
  let fr ← (if isNone then do return mkApp3 (mkConst ``Or.inl) e1 e2 (← mkEqRefl fn) else do return mkApp3 (mkConst ``Or.inr) e1 e2 (← mkEqRefl frB) : MetaM Lean.Expr)
  let gd ← mkEqRefl (← ofr (prj ``PySem.Around.guards B))
  g.assign (mkAppN (mkConst ``ALe.mk) #[A, B, ← rf ``PySem.Around.handled, le ``PySem.Around.depth, le ``PySem.Around.units, fr, gd])
def side : TacticM Unit := do
  let g ← getMainGoal
  let ty ← g.withContext do whnfR (← instantiateMVars (← g.getType))
  if ty.isAppOfArity ``ALe 2 then
    g.withContext do roomS g ty.appFn!.appArg! ty.appArg!
    setGoals (← getGoals).tail!
    return
  evalTactic (← `(tactic| first | assumption | rfl | exact Nat.le_of_ble_eq_true rfl | exact List.getElem?_set_self (by omega) | (simp only [List.length_set]; assumption) | exact ⟨rfl, Nat.le_of_ble_eq_true rfl, Nat.le_of_ble_eq_true rfl, .inl rfl, rfl⟩ | omega | (simp only [List.length_append, List.length_cons, List.length_nil]; omega) | (simp only [size_mk, List.size_toArray, Int.ofNat_eq_natCast, List.length_append, List.length_cons, List.length_nil]; omega)))

def useAny : List String → TacticM Unit
  | [] => throwError "useAny"
  | [l] => useS l
  | l :: ls => do
    let s ← saveState
    try useS l catch _ =>
      s.restore
      useAny ls
def wlog (_ : String) : MetaM Unit := pure ()
/-- run, and at a call that has a lemma: take it, and go on; the ends are left -/
def walkG (fuel : Nat) (hooks : List (String × String)) (simps : Option (TacticM Syntax)) (say : Bool) (places : List (Nat × Nat)) (loops : Bool) : TacticM (List MVarId) := do
  match fuel with
  | 0 => throwError "walk: fuel"
  | fuel + 1 =>
    let fns := hooks.filterMap fun (k, _) => if k.startsWith "fn:" then ((k.drop 3).toString).toNat? else none
    let bis := hooks.filterMap fun (k, _) => if k.startsWith "fn:" || k == "for" || k == "comp" then none else some k
    let b4 ← IO.monoMsNow
    runJ fns bis (say := say) (simps := simps) (places := places) (loops := loops)
    let gs ← getGoals
    wlog s!"run {(← IO.monoMsNow) - b4} ms"
    let mut out := []
    for g in gs do
      let r ← g.withContext do
        let d ← DS.ofGoal g
        let t ← kq d.t
        if t.isAppOfArity ``Sem.call 6 then
          let k ← hookKey t.getAppArgs[1]!
          match (hooks.filter fun (k', _) => k' == k).map (·.2) with
          | [] => return [g]
          | ["stop"] => return [g]
          | lems =>
            setGoals [g]
            let sv ← saveState
            let b0 ← IO.monoMsNow
            let fine ← (try useAny lems; pure true catch ex => sv.restore; logInfo m!"walk: {k}: {ex.toMessageData}"; pure false : TacticM Bool)
            unless fine do return [g]
            let news ← getGoals
            let b1 ← IO.monoMsNow
            wlog s!"walk: {k}: use {b1 - b0} ms"
            let mut o := []
            let mut js := []
            for n in news do
              if ← n.isAssigned then continue
              let ty ← n.withContext do instantiateMVars (← n.getType)
              let isP ← n.withContext (Meta.isProp ty)
              unless isP do continue
              let isJ ← n.withContext (Meta.forallTelescope ty fun _ b => do return (← whnfR b).isAppOf ``J)
              if isJ then js := js ++ [n]
              else
                setGoals [n]
                let b2 ← IO.monoMsNow
                try side; o := o ++ (← getGoals) catch _ => wlog s!"  side is left: {(toString (← n.withContext (ppExpr ty))).take 300}"; o := o ++ [n]
                let b3 ← IO.monoMsNow
                if b3 - b2 > 100 then wlog s!"  side {b3 - b2} ms: {(toString (← n.withContext (ppExpr ty))).take 300}"
            for n in js do
              let (_, n') ← n.intros
              setGoals [n']
              o := (← walkG fuel hooks simps say places loops) ++ o
            return o
        else return [g]
      out := out ++ r
    return out
def walk (hooks : List (String × String)) (simps : Option (TacticM Syntax) := none) (say : Bool := false) (places : List (Nat × Nat) := []) (loops : Bool := true) : TacticM Unit := do
  let rest := (← getGoals).tail!
  setGoals [← getMainGoal]
  let l ← walkG 1000 hooks simps say places loops
  setGoals (l ++ rest)
/-- the loop's next turn -/
def againJ : TacticM Unit := do
  let g ← getMainGoal
  let rest := (← getGoals).tail!
  g.withContext do
    let d ← DS.ofGoal g
    let t ← kq d.t
    unless t.isAppOf ``Sem.pure do throwError "againJ: {t.getAppFn}"
    let f ← kq t.getAppArgs[1]!
    unless f.isAppOf ``Fin.again do throwError "againJ: {f.getAppFn}"
    let c ← kq f.appArg!
    let d' := { d with c, t := mkApp2 (mkConst ``denote) (mkConst ``table) c }
    let g ← put g (fun m => mkAppN (mkConst ``j_again) #[d.V, d.S, d.TE, d.LE, d.c, d.md, d.k, d.gl, d.tk, c, tt, m]) d'.goal
    setGoals (g :: rest)
/-- the end of a callee's room: back to the caller -/
def backJ : TacticM Unit := do
  let g ← getMainGoal
  let rest := (← getGoals).tail!
  g.withContext do
    let d ← DS.ofGoal g
    let V' ← whnfD d.V
    unless V'.isAppOfArity ``XV.mk 11 do throwError "backJ: V"
    let R0 ← whnfR V'.getAppArgs[7]!
    unless R0.isAppOf ``endOf do throwError "backJ: R {R0}"
    let V := R0.getAppArgs[0]!
    let κ ← whnfR R0.getAppArgs[1]!
    unless κ.isAppOfArity ``Kont.ret 4 do throwError "backJ: kont"
    let y := κ.getAppArgs
    let t ← kq d.t
    let r ← (if t.isAppOf ``Sem.raise then pure (errR t.getAppArgs[1]!) else do
      let f ← kq t.getAppArgs[1]!
      unless t.isAppOf ``Sem.pure && f.isAppOf ``Fin.done do throwError "backJ: no end: {t.getAppFn}"
      return okR f.appArg! : MetaM Lean.Expr)
    let d' := { d with V, c := y[0]!, k := y[3]!, t := mkApp y[2]! r }
    let p (n : Lean.Name) : MetaM Lean.Expr := mkEqRefl (mkApp (mkConst n) V)
    let hs := #[← p ``XV.prog, ← p ``XV.w, ← p ``XV.n₁, ← p ``XV.h₀, ← p ``XV.kt, ← p ``XV.d, ← p ``XV.os, ← mkEqRefl R0]
    let g ← put g (fun m => mkAppN (mkConst ``J.back) (#[V, d.V, d.S, d.TE, d.LE, y[0]!, d.c, y[3]!, d.gl, d.tk, y[2]!, r] ++ hs ++ #[m])) d'.goal
    setGoals (g :: rest)
end Mine
end

section
open PySem PySem.W PySem.W.X PyProof.Rows
namespace Mine
def A1 (hd : Option Value) : Around := { handled := hd, depth := 700, frames := none, guards := none, units := 300 }
def A2 : Around := { handled := none, depth := 60, frames := none, guards := none, units := 200 }
def A3 : Around := { handled := none, depth := 40, frames := none, guards := none, units := 100 }
def listO (vs : List Value) (n : Nat) : Obj := { cls := .type "list", data := .seq ⟨vs⟩ n }
abbrev T2 (o1 o2 : Obj) : List (Addr × Obj) := [(108, o1), (777, o2)]

def drawn (ns : List Int) (i lim : Nat) : Int := if i < ns.length then Int.fmod (ns.getD i 0) (Int.ofNat lim) else 0
theorem oMod_is (a b : Int) : Z.oMod.1 a b = Int.fmod a b := by rw [Z.oMod.2]
theorem ints_at : ∀ {vs : List Value} {ns : List Int}, IntsAre vs ns → ∀ {i : Nat}, i < ns.length → ∃ t, vs[i]? = some (.int (ns.getD i 0) t)
  | _, _, .nil, i, h => by simp at h
  | _, _, .cons n t r, 0, h => ⟨_, rfl⟩
  | _, _, .cons n t r, i + 1, h => by
    obtain ⟨t', e⟩ := ints_at r (i := i) (by simpa using h)
    exact ⟨t', by simpa using e⟩

inductive Strs : List Value → List Str → Prop
  | nil : Strs [] []
  | cons (s : Str) (t : Tok) {vs : List Value} {ss : List Str} : Strs vs ss → Strs (.str s t :: vs) (s :: ss)
theorem Strs.length {vs : List Value} {ss : List Str} (h : Strs vs ss) : vs.length = ss.length := by
  induction h with
  | nil => rfl
  | cons s t _ ih => simp [ih]
theorem Strs.app {vs : List Value} {ss : List Str} (h : Strs vs ss) {us : List Value} {ts : List Str} (h' : Strs us ts) : Strs (vs ++ us) (ss ++ ts) := by
  induction h with
  | nil => exact h'
  | cons s t _ ih => exact .cons s t ih
theorem Strs.snoc {vs : List Value} {ss : List Str} {s : Str} {t : Tok} (h : Strs vs ss) : Strs (vs ++ [.str s t]) (ss ++ [s]) := h.app (.cons s t .nil)

theorem next_ok {w : World} {hd : Option Value} {h : Heap} {A : Around} {R : Result → Shared → Prop} {d : Drawn} {os : OsState} {S : List Addr} {o1 o2 : Obj} {rest : List (Addr × Obj)} {c : Code} {κ : Kont} {gl : List GenState} {tk : Nat} {k : Result → Sem PySem.Fin} {g : Bool} {l : List Value}
   {sa sc : Addr} {i lim : Nat} {ti tl : Tok} {n m : Nat} {vs : List Value} {ns : List Int}
   (hle : ALe (aroundOf (mkV w h A R d os) true (.ret c none k κ)) (A1 hd))
   (hv : IntsAre vs ns) (hl : 0 < lim) (hm : ns.length < 1000) (him : i < 1000)
   (H : ∀ tk' tv tn, J (mkV w h A R d os) S (T2 o1 o2) ((sa, listO [.ref sc, .int (Int.ofNat (i + 1)) tn] n) :: (sc, listO vs m) :: rest) ⟨c, none, κ, k (.ok (.ret (.int (drawn ns i lim) tv))), gl, tk'⟩) :
   J (mkV w h A R d os) S (T2 o1 o2) ((sa, listO [.ref sc, .int (Int.ofNat i) ti] n) :: (sc, listO vs m) :: rest) ⟨c, none, κ, .call (.call (.ref 792) ⟨[.ref sa, .int (Int.ofNat lim) tl], []⟩) none g l k, gl, tk⟩ := by
  refine J.callee (V' := mkV w h (A1 hd) (endOf (mkV w h A R d os) (.ret c none k κ)) d os) rfl rfl rfl rfl rfl rfl rfl hle rfl ?_
  have hlen := IntsAre.length hv
  by_cases hi : i < ns.length
  · obtain ⟨tx, hx⟩ := ints_at hv hi
    have e : drawn ns i lim = Z.modQ (ns.getD i 0) (Int.ofNat lim) := (if_pos hi).trans (congrFun (congrFun Z.modQ_eq _) _)
    generalize ns.getD i 0 = x at hx e
    rw [e] at H
    run_tac runJ []
    refine J.back (V := mkV w h A R d os) (r := .ok (.ret _)) rfl rfl rfl rfl rfl rfl rfl rfl ?_
    run_tac useS "H"
  · have e : drawn ns i lim = 0 := if_neg hi
    rw [e] at H
    run_tac runJ []
    refine J.back (V := mkV w h A R d os) (r := .ok (.ret _)) rfl rfl rfl rfl rfl rfl rfl rfl ?_
    run_tac useS "H"
end Mine
end

section
open PySem PySem.W PySem.W.X PyProof.Rows
namespace Mine
def strItO (q : Str) (tq : Tok) (i : Nat) : Obj := { cls := .type "str_ascii_iterator", data := .fields #[.str q tq, .int (Int.ofNat i) 0] }

theorem strnext_ok {w : World} {hd : Option Value} {h : Heap} {A : Around} {R : Result → Shared → Prop} {d : Drawn} {os : OsState} {S : List Addr} {o1 o2 : Obj} {rest : List (Addr × Obj)} {c : Code} {κ : Kont} {gl : List GenState} {tk : Nat} {k : Result → Sem PySem.Fin} {g : Bool} {l : List Value}
   (hle : ALe (aroundOf (mkV w h A R d os) true (.ret c none k κ)) (A1 hd))
   {aIt : Addr} {q : Str} {tq : Tok} {i x : Nat} (hx : q.cps[i]? = some x) (hq : q.cps.size < 10000)
   (H : ∀ tk' tv, J (mkV w h A R d os) S (T2 o1 o2) ((aIt, strItO q tq (i + 1)) :: rest) ⟨c, none, κ, k (.ok (.ret (.str ⟨#[x]⟩ tv))), gl, tk'⟩) :
   J (mkV w h A R d os) S (T2 o1 o2) ((aIt, strItO q tq i) :: rest) ⟨c, none, κ, .call (.call (.builtin "str_ascii_iterator.__next__") ⟨[.ref aIt], []⟩) none g l k, gl, tk⟩ := by
  refine J.callee (V' := mkV w h (A1 hd) (endOf (mkV w h A R d os) (.ret c none k κ)) d os) rfl rfl rfl rfl rfl rfl rfl hle rfl ?_
  obtain ⟨hi, hx'⟩ := Array.getElem?_eq_some_iff.mp hx
  subst hx'
  run_tac runJ []
  refine J.back (V := mkV w h A R d os) (r := .ok (.ret _)) rfl rfl rfl rfl rfl rfl rfl rfl ?_
  run_tac useS "H"

theorem stritem_ok {w : World} {hd : Option Value} {h : Heap} {A : Around} {R : Result → Shared → Prop} {d : Drawn} {os : OsState} {S : List Addr} {o1 o2 : Obj} {L : List (Addr × Obj)} {c : Code} {κ : Kont} {gl : List GenState} {tk : Nat} {k : Result → Sem PySem.Fin} {g : Bool} {l : List Value}
   (hle : ALe (aroundOf (mkV w h A R d os) true (.ret c none k κ)) (A1 hd))
   {q : Str} {tq ti : Tok} {j : Int} {i x : Nat} (hj : j = Int.ofNat i) (hx : q.cps[i]? = some x) (hq : q.cps.size < 10000)
   (H : ∀ tk' tv, J (mkV w h A R d os) S (T2 o1 o2) L ⟨c, none, κ, k (.ok (.ret (.str ⟨#[x]⟩ tv))), gl, tk'⟩) :
   J (mkV w h A R d os) S (T2 o1 o2) L ⟨c, none, κ, .call (.call (.builtin "str.__getitem__") ⟨[.str q tq, .int j ti], []⟩) none g l k, gl, tk⟩ := by
  refine J.callee (V' := mkV w h (A1 hd) (endOf (mkV w h A R d os) (.ret c none k κ)) d os) rfl rfl rfl rfl rfl rfl rfl hle rfl ?_
  subst hj
  obtain ⟨hi, hx'⟩ := Array.getElem?_eq_some_iff.mp hx
  have hi2 : i < q.length := hi
  have hq2 : q.length < 10000 := hq
  subst hx'
  run_tac runJ []
  refine J.back (V := mkV w h A R d os) (r := .ok (.ret _)) rfl rfl rfl rfl rfl rfl rfl rfl ?_
  run_tac useS "H"
end Mine
end

section
open PySem PySem.W PySem.W.X PyProof.Rows
namespace Mine

theorem strin_ok {w : World} {hd : Option Value} {h : Heap} {A : Around} {R : Result → Shared → Prop} {d : Drawn} {os : OsState} {S : List Addr} {o1 o2 : Obj} {L : List (Addr × Obj)} {c : Code} {κ : Kont} {gl : List GenState} {tk : Nat} {k : Result → Sem PySem.Fin} {g : Bool} {l : List Value}
   (hle : ALe (aroundOf (mkV w h A R d os) true (.ret c none k κ)) (A1 hd))
   {th ty : Tok} {y : Nat}
   (H : ∀ tk', J (mkV w h A R d os) S (T2 o1 o2) L ⟨c, none, κ, k (.ok (.ret (.bool (decide (y = 58) || decide (y = 61))))), gl, tk'⟩) :
   J (mkV w h A R d os) S (T2 o1 o2) L ⟨c, none, κ, .call (.call (.builtin "str.__contains__") ⟨[.str ⟨#[58, 61]⟩ th, .str ⟨#[y]⟩ ty], []⟩) none g l k, gl, tk⟩ := by
  refine J.callee (V' := mkV w h (A1 hd) (endOf (mkV w h A R d os) (.ret c none k κ)) d os) rfl rfl rfl rfl rfl rfl rfl hle rfl ?_
  have e : (decide (y = 58) || decide (y = 61)) = !(ZFast.zw15715988071286343644 ⟨#[58, 61]⟩ ⟨#[y]⟩ 0 (Str.length ⟨#[58, 61]⟩) 1).isEmpty := by
    rw [← ZFast.ze15715988071286343644]
    refine Eq.trans ?_ (StrLaws.found_one ⟨#[58, 61]⟩ y).symm
    simp
  rw [e] at H
  run_tac runJ []
  refine J.back (V := mkV w h A R d os) (r := .ok (.ret _)) rfl rfl rfl rfl rfl rfl rfl rfl ?_
  run_tac useS "H"
end Mine
end

section
open PySem PySem.W PySem.W.X PyProof.Rows
namespace Mine
theorem lastGet {α : Type} {l : List α} {v : α} {m i : Nat} (hv : l[m]? = some v) (e : i = m) (h : i < l.length) : (Array.mk l)[i] = v := by
  subst e
  simpa [List.getElem?_eq_getElem h] using hv
section
variable {w : World} {hd : Option Value} {h : Heap} {A : Around} {R : Result → Shared → Prop} {d : Drawn} {os : OsState} {S : List Addr} {o1 o2 : Obj} {rest : List (Addr × Obj)} {c : Code} {κ : Kont} {gl : List GenState} {tk : Nat} {k : Result → Sem PySem.Fin} {g : Bool} {l : List Value}

theorem listlast_ok (hle : ALe (aroundOf (mkV w h A R d os) true (.ret c none k κ)) (A1 hd))
   {a : Addr} {vs : List Value} {v : Value} {n m : Nat} {tj : Tok} {j : Int} (hj : j = -1) (hlen : vs.length = m + 1) (hm : m < 10000) (hv : vs[m]? = some v)
   (H : ∀ tk', J (mkV w h A R d os) S (T2 o1 o2) ((a, listO vs n) :: rest) ⟨c, none, κ, k (.ok (.ret v)), gl, tk'⟩) :
   J (mkV w h A R d os) S (T2 o1 o2) ((a, listO vs n) :: rest) ⟨c, none, κ, .call (.call (.builtin "list.__getitem__") ⟨[.ref a, .int j tj], []⟩) none g l k, gl, tk⟩ := by
  refine J.callee (V' := mkV w h (A1 hd) (endOf (mkV w h A R d os) (.ret c none k κ)) d os) rfl rfl rfl rfl rfl rfl rfl hle rfl ?_
  subst hj
  run_tac runJ []
  refine J.back (V := mkV w h A R d os) (r := .ok (.ret _)) rfl rfl rfl rfl rfl rfl rfl rfl ?_
  refine J.castT (congrArg (fun z => k (.ok (.ret z))) (lastGet hv ?_ ?_)) ?_
  case refine_1 => simp; omega
  case refine_2 => simp; omega
  case refine_3 => run_tac useS "H"

open Lean Elab Tactic Meta in
/-- a fact in the twins' words -/
def quickH (n : Lean.Name) : TacticM Unit := do
  let g ← getMainGoal
  let rest := (← getGoals).tail!
  g.withContext do
    let h ← getLocalDeclFromUserName n
    let ty ← instantiateMVars h.type
    let some (ty', e) ← ZFast.quick ty | throwError "quickH: nothing to do"
    let pf := mkAppN (mkConst ``Eq.mp [0]) #[ty, ty', e, h.toExpr]
    let g ← g.assert n ty' pf
    let (_, g) ← g.intro1P
    setGoals (g :: rest)
theorem isalnum_ok (hle : ALe (aroundOf (mkV w h A R d os) true (.ret c none k κ)) (A1 hd))
   {L : List (Addr × Obj)} {y : Nat} {b : Bool} {ty : Tok} (hb : Unicode.isAlnum y = b)
   (H : ∀ tk', J (mkV w h A R d os) S (T2 o1 o2) L ⟨c, none, κ, k (.ok (.ret (.bool b))), gl, tk'⟩) :
   J (mkV w h A R d os) S (T2 o1 o2) L ⟨c, none, κ, .call (.call (.builtin "str.isalnum") ⟨[.str ⟨#[y]⟩ ty], []⟩) none g l k, gl, tk⟩ := by
  refine J.callee (V' := mkV w h (A1 hd) (endOf (mkV w h A R d os) (.ret c none k κ)) d os) rfl rfl rfl rfl rfl rfl rfl hle rfl ?_
  run_tac quickH `hb
  run_tac runJ []
  refine J.back (V := mkV w h A R d os) (r := .ok (.ret _)) rfl rfl rfl rfl rfl rfl rfl rfl ?_
  refine J.castT (congrArg (fun z => k (.ok (.ret (.bool z)))) (a₂ := b) ?_) ?_
  · subst hb
    simp [Str.length]
  run_tac useS "H"

theorem stradd_ok (hle : ALe (aroundOf (mkV w h A R d os) true (.ret c none k κ)) (A1 hd))
   {L : List (Addr × Obj)} {a b : Str} {ta tb : Tok} (ha : a.cps.size < 10000) (hb : b.cps.size < 10000)
   (H : ∀ tk' tv, J (mkV w h A R d os) S (T2 o1 o2) L ⟨c, none, κ, k (.ok (.ret (.str ⟨a.cps ++ b.cps⟩ tv))), gl, tk'⟩) :
   J (mkV w h A R d os) S (T2 o1 o2) L ⟨c, none, κ, .call (.call (.builtin "str.__add__") ⟨[.str a ta, .str b tb], []⟩) none g l k, gl, tk⟩ := by
  refine J.callee (V' := mkV w h (A1 hd) (endOf (mkV w h A R d os) (.ret c none k κ)) d os) rfl rfl rfl rfl rfl rfl rfl hle rfl ?_
  have ha2 : a.length < 10000 := ha
  have hb2 : b.length < 10000 := hb
  have hab : (a ++ b).length = a.length + b.length := Array.size_append
  run_tac quickH `hab
  obtain ⟨r, hr⟩ : ∃ r : Str, r = ⟨a.cps ++ b.cps⟩ := ⟨_, rfl⟩
  have hab3 : a ++ b = r := hr.symm
  run_tac quickH `hab3
  run_tac runJ []
  all_goals refine J.back (V := mkV w h A R d os) (r := .ok (.ret _)) rfl rfl rfl rfl rfl rfl rfl rfl ?_
  · refine J.castT (congrArg (fun z => k (.ok (.ret (.str z _)))) (a₂ := ⟨a.cps ++ b.cps⟩) ?_) ?_
    · rename_i hp
      have : a.cps = #[] := Array.eq_empty_of_size_eq_zero hp
      rw [this]; simp
    run_tac useS "H"
  · refine J.castT (congrArg (fun z => k (.ok (.ret (.str z _)))) (a₂ := ⟨a.cps ++ b.cps⟩) ?_) ?_
    · rename_i hp
      have : b.cps = #[] := Array.eq_empty_of_size_eq_zero hp
      rw [this]; simp
    run_tac useS "H"
  · refine J.castT (congrArg (fun z => k (.ok (.ret (.str z _)))) (a₂ := ⟨a.cps ++ b.cps⟩) ?_) ?_
    · exact hab3.trans hr
    run_tac useS "H"
theorem setLast_at {vs : List Value} {v : Value} {m : Nat} (hlen : vs.length = m + 1) (hm : m < 10000) : (Array.mk vs).setIfInBounds (if (-1:Int) < 0 then -1 + ((Array.mk vs).size : Int) else -1).toNat v = ⟨vs.set m v⟩ := by
  have : (if (-1:Int) < 0 then -1 + ((Array.mk vs).size : Int) else -1).toNat = m := by simp; omega
  rw [this]
  simp
theorem listset_ok (hle : ALe (aroundOf (mkV w h A R d os) true (.ret c none k κ)) (A1 hd))
   {a : Addr} {vs : List Value} {v : Value} {n m : Nat} {tj : Tok} {j : Int} (hj : j = -1) (hlen : vs.length = m + 1) (hm : m < 10000)
   (H : ∀ tk' n', J (mkV w h A R d os) S (T2 o1 o2) ((a, listO (vs.set m v) n') :: rest) ⟨c, none, κ, k (.ok (.ret .none)), gl, tk'⟩) :
   J (mkV w h A R d os) S (T2 o1 o2) ((a, listO vs n) :: rest) ⟨c, none, κ, .call (.call (.builtin "list.__setitem__") ⟨[.ref a, .int j tj, v], []⟩) none g l k, gl, tk⟩ := by
  refine J.callee (V' := mkV w h (A1 hd) (endOf (mkV w h A R d os) (.ret c none k κ)) d os) rfl rfl rfl rfl rfl rfl rfl hle rfl ?_
  subst hj
  run_tac runJ []
  refine J.back (V := mkV w h A R d os) (r := .ok (.ret _)) rfl rfl rfl rfl rfl rfl rfl rfl ?_
  refine J.castL (congrArg (fun z => (a, ({ cls := .type "list", data := .seq z _ } : Obj)) :: rest) (setLast_at (v := v) hlen hm)) ?_
  exact H _ _
end
end Mine
end

section
open PySem PySem.W PySem.W.X PyProof.Rows
namespace Mine
section
variable {w : World} {hd : Option Value} {h : Heap} {A : Around} {R : Result → Shared → Prop} {d : Drawn} {os : OsState} {S : List Addr} {o1 o2 : Obj} {rest : List (Addr × Obj)} {c : Code} {κ : Kont} {gl : List GenState} {tk : Nat} {k : Result → Sem PySem.Fin} {g : Bool} {l : List Value}
def sliceO (j : Int) (t : Tok) : Obj := { cls := .type "slice", data := .fields #[.none, .int j t, .none] }

theorem slice_to {vs : List Value} {m : Nat} {A B : Int} (hA : A = ((0 : Nat) : Int)) (hB : B = (m : Int)) : List.filterMap (fun x => (Array.mk vs)[x]?) (sliceRange A B 1) = vs.take m := by
  subst hA hB
  rw [sliceRange_one]
  have := pick_run (Array.mk vs) 0 (m - 0)
  simpa using this
theorem listslice_ok (hle : ALe (aroundOf (mkV w h A R d os) true (.ret c none k κ)) (A1 hd))
   {a sl : Addr} {vs : List Value} {n m : Nat} {tj : Tok} {j : Int} (hj : j = -1) (hlen : vs.length = m + 1) (hm : m < 10000)
   (H : ∀ tk' b, J (mkV w h A R d os) S (T2 o1 o2) ((b, listO (vs.take m) 0) :: (sl, sliceO j tj) :: (a, listO vs n) :: rest) ⟨c, none, κ, k (.ok (.ret (.ref b))), gl, tk'⟩) :
   J (mkV w h A R d os) S (T2 o1 o2) ((sl, sliceO j tj) :: (a, listO vs n) :: rest) ⟨c, none, κ, .call (.call (.builtin "list.__getitem__") ⟨[.ref a, .ref sl], []⟩) none g l k, gl, tk⟩ := by
  refine J.callee (V' := mkV w h (A1 hd) (endOf (mkV w h A R d os) (.ret c none k κ)) d os) rfl rfl rfl rfl rfl rfl rfl hle rfl ?_
  subst hj
  have rwF : List.filterMap (fun x => (Array.mk vs)[x]?) (sliceRange (if (1 : Int) > 0 then 0 else ((Array.mk vs).size : Int) - 1) (max 0 (min (if (-1 : Int) < 0 then -1 + ((Array.mk vs).size : Int) else -1) ((Array.mk vs).size : Int))) 1) = vs.take m :=
    slice_to (if_pos (by decide)) (by simp [hlen]; omega)
  run_tac quickH `rwF
  have hl2 : (vs.take m).length = m := by simp; omega
  generalize vs.take m = r at *
  run_tac runJ []
  refine J.back (V := mkV w h A R d os) (r := .ok (.ret _)) rfl rfl rfl rfl rfl rfl rfl rfl ?_
  run_tac useS "H"
theorem listupto_ok (hle : ALe (aroundOf (mkV w h A R d os) true (.ret c none k κ)) (A1 hd))
   {a sl : Addr} {vs : List Value} {n e : Nat} {tj : Tok} {j : Int} (hj : j = Int.ofNat e) (hlen : vs.length < 10000) (he : e < 10000)
   (H : ∀ tk' b, J (mkV w h A R d os) S (T2 o1 o2) ((b, listO (vs.take e) 0) :: (sl, sliceO j tj) :: (a, listO vs n) :: rest) ⟨c, none, κ, k (.ok (.ret (.ref b))), gl, tk'⟩) :
   J (mkV w h A R d os) S (T2 o1 o2) ((sl, sliceO j tj) :: (a, listO vs n) :: rest) ⟨c, none, κ, .call (.call (.builtin "list.__getitem__") ⟨[.ref a, .ref sl], []⟩) none g l k, gl, tk⟩ := by
  refine J.callee (V' := mkV w h (A1 hd) (endOf (mkV w h A R d os) (.ret c none k κ)) d os) rfl rfl rfl rfl rfl rfl rfl hle rfl ?_
  subst hj
  have rwF : List.filterMap (fun x => (Array.mk vs)[x]?) (sliceRange (if (1 : Int) > 0 then 0 else ((Array.mk vs).size : Int) - 1) (max 0 (min (if (Int.ofNat e) < 0 then Int.ofNat e + ((Array.mk vs).size : Int) else Int.ofNat e) ((Array.mk vs).size : Int))) 1) = vs.take e := by
    refine (slice_to (m := min e vs.length) ?_ ?_).trans ?_
    · exact if_pos (by decide)
    · have : ¬ (Int.ofNat e < 0) := by simp
      rw [if_neg this]
      simp
      omega
    · simp
  run_tac quickH `rwF
  have hl2 : (vs.take e).length ≤ vs.length := by simp; omega
  generalize vs.take e = r at *
  run_tac runJ []
  refine J.back (V := mkV w h A R d os) (r := .ok (.ret _)) rfl rfl rfl rfl rfl rfl rfl rfl ?_
  run_tac useS "H"
end
end Mine
end

section
open PySem PySem.W PySem.W.X PyProof.Rows
namespace Mine
theorem Strs.at {vs : List Value} {ss : List Str} (h : Strs vs ss) : ∀ {i : Nat}, i < ss.length → ∃ s t, ss[i]? = some s ∧ vs[i]? = some (.str s t) := by
  induction h with
  | nil => intro i hi; simp at hi
  | cons s t _ ih =>
    intro i hi
    cases i with
    | zero => exact ⟨s, t, rfl, rfl⟩
    | succ i =>
      obtain ⟨s', t', h1, h2⟩ := ih (i := i) (by simpa using hi)
      exact ⟨s', t', by simpa using h1, by simpa using h2⟩
/-- where x stands first in l -/
def whereIs (x : Str) : List Str → Option Nat
  | [] => none
  | y :: l => if y = x then some 0 else (whereIs x l).map (· + 1)
def nmA : Str := ⟨#[97]⟩
def nmB : Str := ⟨#[98, 99]⟩
def nmD : Str := ⟨#[100, 95, 49]⟩
def nmK : Str := ⟨#[107, 105, 110, 100]⟩
def names4 : List Str := [nmA, nmB, nmD, nmK]
def excO (cls : String) (a : Addr) : Obj := { cls := .type cls, data := .fields #[.ref a, .none, .none, .none, .bool false, .none] }
theorem List.beq_self_eq_true' {α : Type} [BEq α] [ReflBEq α] (l : List α) : (l == l) = true := beq_self_eq_true l
section
variable {w : World} {hd : Option Value} {h : Heap} {A : Around} {R : Result → Shared → Prop} {d : Drawn} {os : OsState} {S : List Addr} {o1 o2 : Obj} {rest : List (Addr × Obj)} {c : Code} {κ : Kont} {gl : List GenState} {tk : Nat} {k : Result → Sem PySem.Fin} {g : Bool} {l : List Value}
theorem whereIs_skip {x s : Str} {l ss : List Str} {i : Nat} (e : ¬ s = x) (hw : (whereIs x (s :: l)).map (· + i) = whereIs x ss) : (whereIs x l).map (· + (i + 1)) = whereIs x ss := by
  have h : whereIs x (s :: l) = (whereIs x l).map (· + 1) := if_neg e
  rw [h, Option.map_map] at hw
  refine Eq.trans ?_ hw
  congr 1
  funext y
  simp only [Function.comp]
  omega
theorem whereIs_hit {s : Str} {l ss : List Str} {i : Nat} (hw : (whereIs s (s :: l)).map (· + i) = whereIs s ss) : whereIs s ss = some i := by
  have h : whereIs s (s :: l) = some 0 := if_pos rfl
  rw [h] at hw
  refine hw.symm.trans ?_
  simp
theorem str_of_beq {a b : Str} (h : (a.cps.toList == b.cps.toList) = true) : a = b := by
  obtain ⟨⟨a⟩⟩ := a
  obtain ⟨⟨b⟩⟩ := b
  have : a = b := by simpa using h
  rw [this]
theorem index_ok (hle : ALe (aroundOf (mkV w h A R d os) true (.ret c none k κ)) (A1 none))
   {a : Addr} {vs : List Value} {ss : List Str} {n : Nat} {tn : Tok} (hv : Strs vs ss) (hm : vs.length < 10000) (nm : Str) (hnm : nm = nmA ∨ nm = nmB ∨ nm = nmD ∨ nm = nmK)
   (H1 : ∀ j, whereIs nm ss = some j → j < ss.length → ∀ tk' t, J (mkV w h A R d os) S (T2 o1 o2) ((a, listO vs n) :: rest) ⟨c, none, κ, k (.ok (.ret (.int (Int.ofNat j) t))), gl, tk'⟩)
   (H2 : whereIs nm ss = none → ∀ tk' e b to, J (mkV w h A R d os) S (T2 o1 o2) ((e, excO "ValueError" b) :: (b, to) :: (a, listO vs n) :: rest) ⟨c, none, κ, k (.error (.ref e)), gl, tk'⟩) :
   J (mkV w h A R d os) S (T2 o1 o2) ((a, listO vs n) :: rest) ⟨c, none, κ, .call (.call (.builtin "list.index") ⟨[.ref a, .str nm tn], []⟩) none g l k, gl, tk⟩ := by
  refine J.callee (V' := mkV w h (A1 none) (endOf (mkV w h A R d os) (.ret c none k κ)) d os) rfl rfl rfl rfl rfl rfl rfl hle rfl ?_
  run_tac runJ [] ["list.index.loop"]
  have key : ∀ (Y : Int) (hY : 10000 ≤ Y) (m i : Nat), i + m = ss.length → (whereIs nm (ss.drop i)).map (· + i) = whereIs nm ss → ∀ (tk : Nat) (c0 : Code) (X : Int), X = Int.ofNat i →
      J (mkV w h (A1 none) (endOf (mkV w h A R d os) (.ret c none k κ)) d os) S (T2 o1 o2) ((a, listO vs n) :: rest) ⟨c0, none, .base, denote table (.builtin "list.index.loop" ⟨[.ref a, .str nm tn, .int X 0, .int Y 0], []⟩), gl, tk⟩ := by
    have hlen := hv.length
    intro Y hY m
    induction m with
    | zero =>
      intro i him hw tk c0 X hX
      subst hX
      have hnone : whereIs nm ss = none := by
        rw [← hw, List.drop_eq_nil_of_le (by omega)]
        rfl
      replace H2 : ∀ tk' e b to, J (mkV w h A R d os) S (T2 o1 o2) ((e, excO "ValueError" b) :: (b, to) :: (a, listO vs n) :: rest) ⟨c, none, κ, k (.error (.ref e)), gl, tk'⟩ := H2 hnone
      clear H1 hw hnone
      have hge : vs.length ≤ i := by omega
      have hi : i < 10000 := by omega
      have rwI : (Array.mk vs)[i]? = none := by simp [hge]
      rcases hnm with rfl | rfl | rfl | rfl
      all_goals
        run_tac runJ [] ["list.index.loop"]
        run_tac backJ
        run_tac useS "H2"
    | succ m ih =>
      intro i him hw tk c0 X hX
      subst hX
      obtain ⟨s, t, hs1, hs2⟩ := hv.at (i := i) (by omega)
      have hi : i < 10000 := by omega
      have hd : ss.drop i = s :: ss.drop (i + 1) := by
        have := List.getElem?_eq_some_iff.mp hs1
        rw [← this.2]
        exact List.drop_eq_getElem_cons this.1
      rw [hd] at hw
      have rwI : (Array.mk vs)[(Int.ofNat i).toNat]? = some (.str s t) := by simpa using hs2
      rcases Classical.em (s = nm) with e | e
      · subst e
        replace H1 : ∀ tk' t, J (mkV w h A R d os) S (T2 o1 o2) ((a, listO vs n) :: rest) ⟨c, none, κ, k (.ok (.ret (.int (Int.ofNat i) t))), gl, tk'⟩ := H1 i (whereIs_hit hw) (by omega)
        clear H2 ih hnm
        run_tac runJ [] ["list.index.loop"]
        · run_tac backJ
          run_tac useS "H1"
        · run_tac backJ
          run_tac useS "H1"
        · rename_i hn
          exact Bool.noConfusion ((List.beq_self_eq_true' s.cps.toList).symm.trans hn)
      · clear H1 H2 hnm
        replace ih := ih (i + 1) (by omega) (whereIs_skip e hw)
        run_tac runJ [] ["list.index.loop"]
        · rename_i hp
          exact absurd (str_of_beq hp) e
        · run_tac againJ
          run_tac useS "ih"
          all_goals rfl
  run_tac againJ
  run_tac useS "key (m := ss.length) (i := 0)"
  · simp
  · exact Nat.zero_add _
  · simp
  · rfl
end
end Mine
end

section
open PySem PySem.W PySem.W.X PyProof.Rows
namespace Mine
/-- the list vs is us and, last, v -/
structure EndsIn (vs us : List Value) (v : Value) : Prop where
  eq : vs = us ++ [v]
theorem EndsIn.len {vs us : List Value} {v : Value} (e : EndsIn vs us v) : vs.length = us.length + 1 := by rw [e.eq]; simp
theorem EndsIn.at {vs us : List Value} {v : Value} (e : EndsIn vs us v) : vs[us.length]? = some v := by rw [e.eq]; simp
theorem EndsIn.tk {vs us : List Value} {v : Value} (e : EndsIn vs us v) : vs.take us.length = us := by rw [e.eq]; simp
theorem EndsIn.set {vs us : List Value} {v v' : Value} (e : EndsIn vs us v) : EndsIn (vs.set us.length v') us v' := ⟨by rw [e.eq]; simp⟩
section
variable {w : World} {hd : Option Value} {h : Heap} {A : Around} {R : Result → Shared → Prop} {d : Drawn} {os : OsState} {S : List Addr} {o1 o2 : Obj} {rest : List (Addr × Obj)} {c : Code} {κ : Kont} {gl : List GenState} {tk : Nat} {k : Result → Sem PySem.Fin} {g : Bool} {l : List Value}
theorem last_ok (hle : ALe (aroundOf (mkV w h A R d os) true (.ret c none k κ)) (A1 hd))
   {a : Addr} {vs us : List Value} {v : Value} {n : Nat} {tj : Tok} {j : Int} (hj : j = -1) (he : EndsIn vs us v) (hm : us.length < 9000)
   (H : ∀ tk', J (mkV w h A R d os) S (T2 o1 o2) ((a, listO vs n) :: rest) ⟨c, none, κ, k (.ok (.ret v)), gl, tk'⟩) :
   J (mkV w h A R d os) S (T2 o1 o2) ((a, listO vs n) :: rest) ⟨c, none, κ, .call (.call (.builtin "list.__getitem__") ⟨[.ref a, .int j tj], []⟩) none g l k, gl, tk⟩ :=
  listlast_ok hle hj he.len (by omega) he.at H
theorem set_ok (hle : ALe (aroundOf (mkV w h A R d os) true (.ret c none k κ)) (A1 hd))
   {a : Addr} {vs us : List Value} {v v' : Value} {n : Nat} {tj : Tok} {j : Int} (hj : j = -1) (he : EndsIn vs us v) (hm : us.length < 9000)
   (H : ∀ tk' n' vs', EndsIn vs' us v' → J (mkV w h A R d os) S (T2 o1 o2) ((a, listO vs' n') :: rest) ⟨c, none, κ, k (.ok (.ret .none)), gl, tk'⟩) :
   J (mkV w h A R d os) S (T2 o1 o2) ((a, listO vs n) :: rest) ⟨c, none, κ, .call (.call (.builtin "list.__setitem__") ⟨[.ref a, .int j tj, v'], []⟩) none g l k, gl, tk⟩ :=
  listset_ok hle hj he.len (by omega) fun tk' n' => H tk' n' _ he.set
theorem slice_ok (hle : ALe (aroundOf (mkV w h A R d os) true (.ret c none k κ)) (A1 hd))
   {a sl : Addr} {vs us : List Value} {v : Value} {n : Nat} {tj : Tok} {j : Int} (hj : j = -1) (he : EndsIn vs us v) (hm : us.length < 9000)
   (H : ∀ tk' b, J (mkV w h A R d os) S (T2 o1 o2) ((b, listO us 0) :: (sl, sliceO j tj) :: (a, listO vs n) :: rest) ⟨c, none, κ, k (.ok (.ret (.ref b))), gl, tk'⟩) :
   J (mkV w h A R d os) S (T2 o1 o2) ((sl, sliceO j tj) :: (a, listO vs n) :: rest) ⟨c, none, κ, .call (.call (.builtin "list.__getitem__") ⟨[.ref a, .ref sl], []⟩) none g l k, gl, tk⟩ := by
  refine listslice_ok (m := us.length) hle hj he.len (by omega) ?_
  rw [he.tk]
  exact H
end
end Mine
end

section
open PySem PySem.W PySem.W.X PyProof.Rows
namespace Mine
def digS (n : Nat) : Str := ⟨#[48 + n]⟩
def dolS (n : Nat) : Str := ⟨#[36, 48 + n]⟩
section
variable {w : World} {hd : Option Value} {h : Heap} {A : Around} {R : Result → Shared → Prop} {d : Drawn} {os : OsState} {S : List Addr} {o1 o2 : Obj} {rest : List (Addr × Obj)} {c : Code} {κ : Kont} {gl : List GenState} {tk : Nat} {k : Result → Sem PySem.Fin} {g : Bool} {l : List Value}
theorem intrepr_ok (hle : ALe (aroundOf (mkV w h A R d os) true (.ret c none k κ)) (A1 hd))
   {L : List (Addr × Obj)} {X : Int} {t : Tok} (h0 : 0 ≤ X) (h9 : X < 10)
   (H : ∀ tk' tv n, X = Int.ofNat n → J (mkV w h A R d os) S (T2 o1 o2) L ⟨c, none, κ, k (.ok (.ret (.str (digS n) tv))), gl, tk'⟩) :
   J (mkV w h A R d os) S (T2 o1 o2) L ⟨c, none, κ, .call (.call (.builtin "int.__repr__") ⟨[.int X t], []⟩) none g l k, gl, tk⟩ := by
  refine J.callee (V' := mkV w h (A1 hd) (endOf (mkV w h A R d os) (.ret c none k κ)) d os) rfl rfl rfl rfl rfl rfl rfl hle rfl ?_
  obtain ⟨n, rfl⟩ := Int.eq_ofNat_of_zero_le h0
  have hn : n < 10 := by omega
  replace H := fun tk' tv => H tk' tv n rfl
  clear h0 h9
  have hn : n = 0 ∨ n = 1 ∨ n = 2 ∨ n = 3 ∨ n = 4 ∨ n = 5 ∨ n = 6 ∨ n = 7 ∨ n = 8 ∨ n = 9 := by omega
  rcases hn with rfl | rfl | rfl | rfl | rfl | rfl | rfl | rfl | rfl | rfl
  all_goals
    run_tac runJ [] (say := false)
    run_tac backJ
    run_tac useS "H"
theorem delLast {vs us : List Value} {v : Value} (he : EndsIn vs us v) (hm : us.length < 9000) : (Array.mk vs).eraseIdxIfInBounds (if (-1:Int) < 0 then -1 + ((Array.mk vs).size : Int) else -1).toNat = ⟨us⟩ := by
  have e := he.len
  have : (if (-1:Int) < 0 then -1 + ((Array.mk vs).size : Int) else -1).toNat = us.length := by simp; omega
  rw [this, he.eq]
  simp [Array.eraseIdxIfInBounds, List.eraseIdx_append_of_length_le]
theorem del_ok (hle : ALe (aroundOf (mkV w h A R d os) true (.ret c none k κ)) (A1 hd))
   {a : Addr} {vs us : List Value} {v : Value} {n : Nat} {tj : Tok} {j : Int} (hj : j = -1) (he : EndsIn vs us v) (hm : us.length < 9000)
   (H : ∀ tk' n', J (mkV w h A R d os) S (T2 o1 o2) ((a, listO us n') :: rest) ⟨c, none, κ, k (.ok (.ret .none)), gl, tk'⟩) :
   J (mkV w h A R d os) S (T2 o1 o2) ((a, listO vs n) :: rest) ⟨c, none, κ, .call (.call (.builtin "list.__delitem__") ⟨[.ref a, .int j tj], []⟩) none g l k, gl, tk⟩ := by
  refine J.callee (V' := mkV w h (A1 hd) (endOf (mkV w h A R d os) (.ret c none k κ)) d os) rfl rfl rfl rfl rfl rfl rfl hle rfl ?_
  subst hj
  have e := he.len
  have rwD := delLast he hm
  run_tac quickH `rwD
  run_tac runJ []
  run_tac backJ
  run_tac useS "H"
end
end Mine
end

section
open PySem PySem.Spec PySem.Calls PySem.W PySem.W.X PyProof.Rows PySem.Builtin
namespace Mine
section
variable {V : XV} {S : List Addr} {T L : List (Addr × Obj)} {c : Code} {κ : Kont} {gl : List GenState} {tk : Nat} {k : Result → Sem PySem.Fin} {g : Bool} {l : List Value}
theorem J.code {c' : Code} (H : ∀ h, Led V S T L h → codeAny (model V.prog V.w) (aroundOf V true (.ret c none k κ)) c' (endOf V (.ret c none k κ)) ⟨h, ⟨gl⟩, V.d, tk, V.os⟩) :
    J V S T L ⟨c, none, κ, .call c' none g l k, gl, tk⟩ := ⟨fun h D => y_call _ _ _ _ _ _ _ _ _ _ _ _ _ (by intro e; cases e) (H h D)⟩
/-- a call that a rule of the library tells -/
theorem J.meets {Ty : String} {name : Str} {id : String} {B : Builtin} {self : Value} {rest : List Value} {Sp : PySem.Spec} (slot : Slot Ty name id) (entry : entryFor table id = some B) (args : argsOk id ⟨self :: rest, []⟩) (m : Meets (B ⟨self :: rest, []⟩) Sp)
    (hT : ∀ h, Led V S T L h → (⟨h, ⟨gl⟩, V.d, tk, V.os⟩ : Shared).TypeIs self Ty)
    (H : ∀ h, Led V S T L h → Sp (aroundOf V true (.ret c none k κ)) (endOf V (.ret c none k κ)) ⟨h, ⟨gl⟩, V.d, tk, V.os⟩) :
    J V S T L ⟨c, none, κ, .call (.call (.builtin id) ⟨self :: rest, []⟩) none g l k, gl, tk⟩ :=
  J.code fun h D => codeAny_call_builtin slot.plain entry (slot.check _ _ _ _ _ _ _ _ (hT h D) args (m _ _ _ _ _ (H h D)))
/-- what comes back to the caller -/
theorem J.came {r : Result} {h : Heap} {tk' : Nat} (H : J V S T L ⟨c, none, κ, k r, gl, tk'⟩) (D : Led V S T L h) : endOf V (.ret c none k κ) r ⟨h, ⟨gl⟩, V.d, tk', V.os⟩ := H.app h D
end
theorem Strs.vals {vs : List Value} {ss : List Str} (h : Strs vs ss) : ∃ l : List (Str × Tok), vs = strValues l ∧ l.map (·.1) = ss := by
  induction h with
  | nil => exact ⟨[], rfl, rfl⟩
  | cons s t _ ih =>
    obtain ⟨l, e, e'⟩ := ih
    exact ⟨(s, t) :: l, by rw [e]; rfl, by rw [← e']; rfl⟩
section
variable {V : XV} {S : List Addr} {T : List (Addr × Obj)} {c : Code} {κ : Kont} {gl : List GenState} {tk : Nat} {k : Result → Sem PySem.Fin} {g : Bool} {l : List Value} {rest : List (Addr × Obj)}
theorem join_ok {a : Addr} {vs : List Value} {ss : List Str} {sep : Str} {t : Tok} {n : Nat} (hv : Strs vs ss) (hok : JoinOk sep ss = true)
    (H : ∀ tk' tv, J V S T ((a, listO vs n) :: rest) ⟨c, none, κ, k (.ok (.ret (.str (Str.join sep ss) tv))), gl, tk'⟩) :
    J V S T ((a, listO vs n) :: rest) ⟨c, none, κ, .call (.call (.builtin "str.join") ⟨[.str sep t, .ref a], []⟩) none g l k, gl, tk⟩ := by
  obtain ⟨l', rfl, rfl⟩ := hv.vals
  have hok' := hok
  unfold JoinOk at hok'
  rw [Bool.not_eq_true'] at hok'
  refine J.meets F.slot_str_join F.entry_str_join (F.args_str_join_2 _ _) (meets_str_join_list sep t a l' hok') (fun h D => typeIs_str _ _ _) fun h D => ⟨?_, ?_⟩
  · have := (D.atL (a, listO (strValues l') n) (List.mem_cons_self ..)).2.1
    exact ⟨_, this, rfl, n, rfl⟩
  · refine post_join l' ⟨joinFit_length hok', fun t' k' => ?_⟩
    have z := (H k' t').app h D
    rw [← StrLaws.glued_eq_join] at z
    exact z
end
end Mine
end

section
open PySem PySem.W PySem.W.X PyProof.Rows
namespace Mine
section
variable {w : World} {hd : Option Value} {h : Heap} {A : Around} {R : Result → Shared → Prop} {d : Drawn} {os : OsState} {S : List Addr} {o1 o2 : Obj} {L : List (Addr × Obj)} {c : Code} {κ : Kont} {gl : List GenState} {tk : Nat} {k : Result → Sem PySem.Fin} {g : Bool} {l : List Value}
theorem striter_ok (hle : ALe (aroundOf (mkV w h A R d os) true (.ret c none k κ)) (A1 hd))
   {q : Str} {tq : Tok} (hb : (q.cps.all fun x => decide (x < 128)) = true)
   (H : ∀ tk' a, J (mkV w h A R d os) S (T2 o1 o2) ((a, strItO q tq 0) :: L) ⟨c, none, κ, k (.ok (.ret (.ref a))), gl, tk'⟩) :
   J (mkV w h A R d os) S (T2 o1 o2) L ⟨c, none, κ, .call (.call (.builtin "str.__iter__") ⟨[.str q tq], []⟩) none g l k, gl, tk⟩ := by
  refine J.callee (V' := mkV w h (A1 hd) (endOf (mkV w h A R d os) (.ret c none k κ)) d os) rfl rfl rfl rfl rfl rfl rfl hle rfl ?_
  run_tac runJ []
  run_tac backJ
  run_tac useS "H"
end
end Mine
end

section
open PySem PySem.W PySem.W.X PyProof.Rows
namespace Mine
open Lean Elab Tactic Meta in
/-- a part of a text: by the constructors' arguments and the lists' places -/
def nav (e : Lean.Expr) (path : List (Nat × Option Nat)) : MetaM Lean.Expr := do
  let mut e := e
  for (k, j) in path do
    let x ← whnfD e
    e := x.getAppArgs[k]!
    if let some j := j then e := (← listOf 100 e)[j]!
  whnfD e
open Lean Elab Tactic Meta in
def navPart (a i : Nat) (path : List (Nat × Option Nat)) : TacticM Unit := do
  (← getMainGoal).assign (← nav (← stmtsOf a)[i]! path)
noncomputable def lamArgs : Arguments := by run_tac navPart 113 11 [(1, none), (1, some 0), (0, none)]
noncomputable def lamBody : PySem.Expr := by run_tac navPart 113 11 [(1, none), (1, some 0), (1, none)]
noncomputable def lamScope : Scope := by run_tac navPart 113 11 [(1, none), (1, some 0), (2, none)]
noncomputable def lamO (aCode : Addr) : Obj := { cls := .type "function", data := .func { name := "<lambda>", qualname := "convert_paramstyle.<locals>.<lambda>", params := lamArgs, body := .expr lamBody, scope := lamScope, globals := 3, closure := [], defaults := .none, kwdefaults := .none, pyModule := .str "law_fv0017_01" 1403, code := .ref aCode } }
def mapO (aTup aLam : Addr) : Obj := { cls := .type "map", data := .fields #[.ref aTup, .ref aLam] }
def tup1O (a : Addr) : Obj := { cls := .type "tuple", data := .seq #[.ref a] 0 }
def cntO (aD n : Nat) (tn ts : Tok) : Obj := { cls := .ref 101, dict := some aD, data := .plain, slots := #[some (.int (Int.ofNat n) tn), some (.bool true), some (.int 1 ts)] }
/-- the lambda's code object: tokens, addresses -/
structure LC where
  (t1 t2 t3 t4 : Tok) (r1 r2 r3 r4 r5 : Addr) (nn : Nat)
def lamCO (c : LC) : Obj := { cls := .type "code", data := .fields #[.str "<lambda>" c.t1, .str "convert_paramstyle.<locals>.<lambda>" c.t2, .str "/claim/cut.py" c.t3, .int 63 0, .int 1 0, .int 0 0, .int 0 0, .int 19 0, .ref c.r1, .bool true, .int 181 0, .ref c.r2, .none, .ref c.r3, .ref c.r4, .ref c.r5, .int (Int.ofNat c.nn) 0, .int 63 0, .str "/claim/cut.py" c.t4] }
def A5 (hd : Option Value) : Around := { handled := hd, depth := 600, frames := none, guards := none, units := 250 }
section
variable {w : World} {hd : Option Value} {h : Heap} {A : Around} {R : Result → Shared → Prop} {d : Drawn} {os : OsState} {S : List Addr} {o1 o2 : Obj} {rest : List (Addr × Obj)} {L : List (Addr × Obj)} {c : Code} {κ : Kont} {gl : List GenState} {tk : Nat} {k : Result → Sem PySem.Fin} {g : Bool} {l : List Value}
theorem strin2_ok (hle : ALe (aroundOf (mkV w h A R d os) true (.ret c none k κ)) (A1 hd))
   {th ty : Tok} {y : Nat}
   (H : ∀ tk', J (mkV w h A R d os) S (T2 o1 o2) L ⟨c, none, κ, k (.ok (.ret (.bool (decide (y = 40) || decide (y = 41))))), gl, tk'⟩) :
   J (mkV w h A R d os) S (T2 o1 o2) L ⟨c, none, κ, .call (.call (.builtin "str.__contains__") ⟨[.str ⟨#[40, 41]⟩ th, .str ⟨#[y]⟩ ty], []⟩) none g l k, gl, tk⟩ := by
  refine J.callee (V' := mkV w h (A1 hd) (endOf (mkV w h A R d os) (.ret c none k κ)) d os) rfl rfl rfl rfl rfl rfl rfl hle rfl ?_
  have e : (decide (y = 40) || decide (y = 41)) = !(ZFast.zw15715988071286343644 ⟨#[40, 41]⟩ ⟨#[y]⟩ 0 (Str.length ⟨#[40, 41]⟩) 1).isEmpty := by
    rw [← ZFast.ze15715988071286343644]
    refine Eq.trans ?_ (StrLaws.found_one ⟨#[40, 41]⟩ y).symm
    simp
  rw [e] at H
  run_tac runJ [] (say := false)
  run_tac backJ
  run_tac useS "H"
theorem mapnext_ok (hle : ALe (aroundOf (mkV w h A R d os) true (.ret c none k κ)) (A5 hd))
   {aMap aTup aCnt aD aLam aCode n : Nat} {lc : LC} {tn ts : Tok} (hn : n < 10)
   (H : ∀ tk' tn' tv, J (mkV w h A R d os) S (T2 o1 o2) ((aMap, mapO aTup aLam) :: (aTup, tup1O aCnt) :: (aCnt, cntO aD (n + 1) tn' ts) :: (aLam, lamO aCode) :: (aCode, lamCO lc) :: rest) ⟨c, none, κ, k (.ok (.ret (.str (dolS n) tv))), gl, tk'⟩) :
   J (mkV w h A R d os) S (T2 o1 o2) ((aMap, mapO aTup aLam) :: (aTup, tup1O aCnt) :: (aCnt, cntO aD n tn ts) :: (aLam, lamO aCode) :: (aCode, lamCO lc) :: rest) ⟨c, none, κ, .call (.call (.builtin "map.__next__") ⟨[.ref aMap], []⟩) none g l k, gl, tk⟩ := by
  refine J.callee (V' := mkV w h (A5 hd) (endOf (mkV w h A R d os) (.ret c none k κ)) d os) rfl rfl rfl rfl rfl rfl rfl hle rfl ?_
  run_tac walk [("int.__repr__", "intrepr_ok"), ("str.__add__", "stradd_ok")]
  rename Int.ofNat n = Int.ofNat _ => hh
  cases Int.ofNat.inj hh
  run_tac backJ
  run_tac useS "H"
end
end Mine
end

section
open PySem PySem.W PySem.W.X PyProof.Rows
namespace Mine
open Lean Elab Tactic Meta
/-- the run stands at a row of the parameters: both ways -/
def rowJ : TacticM Unit := do
  let g ← getMainGoal
  let rest := (← getGoals).tail!
  g.withContext do
    let d ← DS.ofGoal g
    let t ← kq d.t
    let cs ← digAll 60 t id #[]
    for (_, _, o, _) in cs.reverse do
      if (o.find? fun y => y.isConstOf ``Params.followText).isSome && (← whnfCore (← inferType o)).isConstOf ``Bool && !o.hasLooseBVars then
        let eqT (b : Lean.Name) := mkApp3 (mkConst ``Eq [1]) (mkConst ``Bool) o (mkConst b)
        let ty (b : Lean.Name) : MetaM Lean.Expr := withLocalDeclD `hrow (eqT b) fun h => mkForallFVars #[h] d.goal
        let m1 ← mkFreshExprSyntheticOpaqueMVar (← ty ``Bool.true)
        let m2 ← mkFreshExprSyntheticOpaqueMVar (← ty ``Bool.false)
        g.assign (mkAppN (mkConst ``by_bool) #[d.goal, o, m1, m2])
        let (_, g1) ← m1.mvarId!.intro1P
        let (_, g2) ← m2.mvarId!.intro1P
        setGoals (g1 :: g2 :: rest)
        return
    throwError "rowJ: no row"
end Mine
end

section
open PySem PySem.Spec PySem.Calls PySem.W PySem.W.X PyProof.Rows PySem.Builtin
namespace Mine
def isS (x : Str) (v : Value) : Bool := match v with
  | .str y _ => y.cps.toList == x.cps.toList
  | _ => false
theorem Strs.mem {vs : List Value} {ss : List Str} (h : Strs vs ss) : ∀ v ∈ vs, ∃ s t, v = .str s t := by
  induction h with
  | nil => intro v hv; cases hv
  | cons s t _ ih =>
    intro v hv
    rcases List.mem_cons.mp hv with rfl | hv
    · exact ⟨s, t, rfl⟩
    · exact ih v hv
theorem str_beq (a b : Str) : (a.cps.toList == b.cps.toList) = decide (b = a) := by
  obtain ⟨⟨a⟩⟩ := a
  obtain ⟨⟨b⟩⟩ := b
  by_cases h : b = a
  · subst h; simp
  · have : ¬ a = b := fun e => h e.symm
    simp [h, this]
theorem Strs.any {vs : List Value} {ss : List Str} (h : Strs vs ss) (x : Str) : vs.any (isS x) = decide (x ∈ ss) := by
  induction h with
  | nil => simp
  | cons s t _ ih =>
    simp only [List.any_cons, ih, isS, str_beq, List.mem_cons]
    by_cases e : x = s <;> simp [e]
section
variable {V : XV} {S : List Addr} {T : List (Addr × Obj)} {c : Code} {κ : Kont} {gl : List GenState} {tk : Nat} {k : Result → Sem PySem.Fin} {g : Bool} {l : List Value} {rest : List (Addr × Obj)}
theorem contains_ok {a : Addr} {vs : List Value} {ss : List Str} {x : Str} {t : Tok} {n : Nat} {b : Bool} (hv : Strs vs ss) (hb : decide (x ∈ ss) = b)
    (H : J V S T ((a, listO vs n) :: rest) ⟨c, none, κ, k (.ok (.ret (.bool b))), gl, tk⟩) :
    J V S T ((a, listO vs n) :: rest) ⟨c, none, κ, .call (.call (.builtin "list.__contains__") ⟨[.ref a, .str x t], []⟩) none g l k, gl, tk⟩ := by
  subst hb
  have he : ∀ y, y ∈ (Array.mk vs) → MeetsSeq.EqGives y (.str x t) (isS x y) := by
    intro y hy
    obtain ⟨s, u, rfl⟩ := hv.mem y (by simpa using hy)
    exact SeqRoads2.EqGives.str s x u t
  refine J.meets F.slot_list_contains F.entry_list_contains (F.args_list_contains_2 _ _) (MeetsSeq.list_contains a ⟨vs⟩ n (.str x t) (isS x) he) (fun h D => ?_) fun h D => ⟨?_, ?_⟩
  · exact ⟨_, (D.atL (a, listO vs n) (List.mem_cons_self ..)).2.1, rfl⟩
  · exact (D.atL (a, listO vs n) (List.mem_cons_self ..)).2.1
  · have e : (Array.mk vs).any (isS x) = decide (x ∈ ss) := by rw [← hv.any x]; simp
    rw [e]
    exact H.app h D
end
end Mine
end

section
open PySem PySem.W PySem.W.X PyProof.Rows
namespace Mine
def rangeO (X : Int) (t1 t2 t3 : Tok) : Obj := { cls := .type "range", data := .fields #[.int 0 t1, .int X t2, .int 1 t3] }
def riterO (i m : Nat) : Obj := { cls := .type "range_iterator", data := .fields #[.int (Int.ofNat i) 0, .int (Int.ofNat m) 0, .int 1 0] }
section
variable {w : World} {hd : Option Value} {h : Heap} {A : Around} {R : Result → Shared → Prop} {d : Drawn} {os : OsState} {S : List Addr} {o1 o2 : Obj} {rest : List (Addr × Obj)} {L : List (Addr × Obj)} {c : Code} {κ : Kont} {gl : List GenState} {tk : Nat} {k : Result → Sem PySem.Fin} {g : Bool} {l : List Value}
theorem rangeiter_ok (hle : ALe (aroundOf (mkV w h A R d os) true (.ret c none k κ)) (A1 hd))
   {aR : Addr} {X : Int} {t1 t2 t3 : Tok} (h0 : 0 ≤ X) (h9 : X < 10)
   (H : ∀ tk' a n, X = Int.ofNat n → n < 10 → J (mkV w h A R d os) S (T2 o1 o2) ((a, riterO 0 n) :: rest) ⟨c, none, κ, k (.ok (.ret (.ref a))), gl, tk'⟩) :
   J (mkV w h A R d os) S (T2 o1 o2) ((aR, rangeO X t1 t2 t3) :: rest) ⟨c, none, κ, .call (.call (.builtin "range.__iter__") ⟨[.ref aR], []⟩) none g l k, gl, tk⟩ := by
  refine J.callee (V' := mkV w h (A1 hd) (endOf (mkV w h A R d os) (.ret c none k κ)) d os) rfl rfl rfl rfl rfl rfl rfl hle rfl ?_
  obtain ⟨n, rfl⟩ := Int.eq_ofNat_of_zero_le h0
  have hn : n < 10 := by omega
  replace H := fun tk' a => H tk' a n rfl hn
  clear h0 h9
  have hn : n = 0 ∨ n = 1 ∨ n = 2 ∨ n = 3 ∨ n = 4 ∨ n = 5 ∨ n = 6 ∨ n = 7 ∨ n = 8 ∨ n = 9 := by omega
  rcases hn with rfl | rfl | rfl | rfl | rfl | rfl | rfl | rfl | rfl | rfl
  all_goals
    run_tac runJ [] (say := false)
    run_tac backJ
    run_tac useS "H"
theorem listat_ok (hle : ALe (aroundOf (mkV w h A R d os) true (.ret c none k κ)) (A1 hd))
   {a : Addr} {vs : List Value} {v : Value} {n i : Nat} {tj : Tok} {j : Int} (hj : j = Int.ofNat i) (hv : vs[i]? = some v) (hm : vs.length < 10000)
   (H : ∀ tk', J (mkV w h A R d os) S (T2 o1 o2) ((a, listO vs n) :: rest) ⟨c, none, κ, k (.ok (.ret v)), gl, tk'⟩) :
   J (mkV w h A R d os) S (T2 o1 o2) ((a, listO vs n) :: rest) ⟨c, none, κ, .call (.call (.builtin "list.__getitem__") ⟨[.ref a, .int j tj], []⟩) none g l k, gl, tk⟩ := by
  refine J.callee (V' := mkV w h (A1 hd) (endOf (mkV w h A R d os) (.ret c none k κ)) d os) rfl rfl rfl rfl rfl rfl rfl hle rfl ?_
  subst hj
  have hi : i < vs.length := (List.getElem?_eq_some_iff.mp hv).1
  run_tac runJ [] (say := false)
  run_tac backJ
  run_tac useS "H"
end
end Mine
end

section
open PySem PySem.W PySem.W.X PyProof.Rows
namespace Mine
noncomputable def cvTarget : PySem.Expr := by run_tac stmtPart 113 14 0
noncomputable def cvBody : List Stmt := by run_tac stmtPart 113 14 2
noncomputable def cvScope : Scope := by run_tac scopePart 113
noncomputable def lawScope : Scope := by run_tac scopePart 804
open Lean Elab Tactic Meta in
def quickOf (c : Lean.Name) : TacticM Unit := do
  let some (.defnInfo d) := (← getEnv).find? c | throwError "quickOf"
  let some (e, _) ← ZFast.quick d.value | throwError "quickOf: nothing to do"
  (← getMainGoal).assign e
noncomputable def hashF : Params → Str → Int := by run_tac quickOf ``PyData.keyHash
noncomputable def ent (P : Params) (s : Str) (t : Tok) (v : Value) : DictEntry := ⟨hashF P s, .str s t, v⟩
def frameO (es : List DictEntry) (n : Nat) (sl : Array (Option Value)) : Obj := { cls := .type "frame", data := .dict ⟨es⟩ n, slots := sl }
/-- the law's frame, its cells -/
structure LF where
  (a b1 b2 b3 b4 b5 b6 : Addr)
noncomputable def lawEnv (F : LF) : Env := { scope := lawScope, locals := F.a, globals := 3, cells := [("mark", F.b1), ("first", F.b2), ("asked", F.b3), ("given", F.b4), ("names", F.b5), ("state", F.b6)], qual := "law.<locals>.", func := some 804, code := .ref 803, frame := some F.a, builtins := 0 }
def lfS (F : LF) (v : Value) : Array (Option Value) := #[some (.ref 803), some (.ref 3), none, some v, none, some (.ref 804), some (.ref 0), some (.ref F.b1), some (.ref F.b2), some (.ref F.b3), some (.ref F.b4), some (.ref F.b5), some (.ref F.b6)]
def LfOk (F : LF) (sl : Array (Option Value)) : Prop := sl = #[] ∨ ∃ v, sl = lfS F v
noncomputable def cvEnv (aF aC : Addr) : Env := { scope := cvScope, locals := aF, globals := 3, cells := [("args", aC)], qual := "convert_paramstyle.<locals>.", func := some 113, code := .ref 112, frame := some aF, builtins := 0 }
def cvS (F : LF) (aC : Addr) : Array (Option Value) := #[some (.ref 112), some (.ref 3), none, some (.ref F.a), none, some (.ref 113), some (.ref 0), some (.ref aC)]
def CvOk (F : LF) (aC : Addr) (sl : Array (Option Value)) : Prop := sl = #[] ∨ sl = cvS F aC
noncomputable def cvLoop (aEn aF aC : Addr) : Code := .forLoop cvTarget (.ref aEn) cvBody [] (cvEnv aF aC)
def enumO (aIt : Addr) (i : Nat) (v : Value) : Obj := { cls := .type "enumerate", data := .fields #[.none, .bool false, .ref aIt, .int (Int.ofNat i) 0, .none, v] }
def optV : Option Nat → Tok → Value
  | none, _ => .none
  | some y, t => .str ⟨#[y]⟩ t
def AF (fr : Option (List Env)) : Around := { handled := none, depth := 500, frames := fr, guards := none, units := 200 }

noncomputable def cvFr0 (P : Params) (st : Str) (tst : Tok) (q : Str) (tq : Tok) (qe : Bool) (aPh aOut aMap : Addr) (s : Int) (ts : Tok) (pv : Value)
   (k0 k1 k2 k3 k4 k5 k6 k7 k8 k9 k10 k11 k12 k13 k14 k15 c0 c1 c2 c3 c4 c5 c6 : Tok) (r : List DictEntry) : List DictEntry :=
  ent P "style" k0 (.str st tst) :: ent P "query" k1 (.str q tq) :: ent P "OUTSIDE" k2 (.int 0 c0) :: ent P "INSIDE_SQ" k3 (.int 1 c1) :: ent P "INSIDE_QI" k4 (.int 2 c2) :: ent P "INSIDE_ES" k5 (.int 3 c3) :: ent P "INSIDE_PN" k6 (.int 4 c4) :: ent P "INSIDE_CO" k7 (.int 5 c5) :: ent P "INSIDE_DQ" k8 (.int 6 c6) :: ent P "in_quote_escape" k9 (.bool qe) :: ent P "in_param_escape" k10 (.bool false) :: ent P "placeholders" k11 (.ref aPh) :: ent P "output_query" k12 (.ref aOut) :: ent P "param_idx" k13 (.ref aMap) :: ent P "state" k14 (.int s ts) :: ent P "prev_c" k15 (pv) :: r
noncomputable def cvFr (P : Params) (st : Str) (tst : Tok) (q : Str) (tq : Tok) (qe : Bool) (aPh aOut aMap : Addr) (s : Int) (ts : Tok) (pv : Value)
   (k0 k1 k2 k3 k4 k5 k6 k7 k8 k9 k10 k11 k12 k13 k14 k15 c0 c1 c2 c3 c4 c5 c6 : Tok) (r : List DictEntry) (n : Nat) (sl : Array (Option Value)) : Obj :=
  frameO (cvFr0 P st tst q tq qe aPh aOut aMap s ts pv k0 k1 k2 k3 k4 k5 k6 k7 k8 k9 k10 k11 k12 k13 k14 k15 c0 c1 c2 c3 c4 c5 c6 r) n sl
def cvL (aEn aIt aF aPh aOut : Addr) (q : Str) (tq : Tok) (i : Nat) (lv : Value) (fr : Obj) (ph : List Value) (n2 : Nat) (ov : List Value) (n1 : Nat) (F : LF) (lf : Obj) (rest : List (Addr × Obj)) : List (Addr × Obj) :=
  (aEn, enumO aIt i lv) :: (aIt, strItO q tq i) :: (aF, fr) :: (aPh, listO ph n2) :: (aOut, listO ov n1) :: (F.a, lf) :: rest

inductive Sty where | named | pyformat | numeric | qmark | format
def styS : Sty → Str
  | .named => ⟨#[110,97,109,101,100]⟩
  | .pyformat => ⟨#[112,121,102,111,114,109,97,116]⟩
  | .numeric => ⟨#[110,117,109,101,114,105,99]⟩
  | .qmark => ⟨#[113,109,97,114,107]⟩
  | .format => ⟨#[102,111,114,109,97,116]⟩
structure CS where
  s : Int
  qe : Bool
  out : List Str
  ph : List Str
  cnt : Nat
structure CvX where
  (w : World) (h : Heap) (R : Result → Shared → Prop) (d : Drawn) (os : OsState) (S : List Addr) (o1 o2 : Obj) (gl : List GenState)
  (aEn aIt aOut aPh aF aMap aC : Addr) (q : Str) (tq : Tok)
  (k0 k1 k2 k3 k4 k5 k6 k7 k8 k9 k10 k11 k12 k13 k14 k15 c0 c1 c2 c3 c4 c5 c6 : Tok)
  (fr : Option (List Env)) (F : LF) (D : List DictEntry) (nD : Nat)
noncomputable def PxOk (P : Params) (px : List DictEntry) : Prop := px = [] ∨ ∃ k v, px = [ent P "pidx" k v]

noncomputable def xV (X : CvX) : XV := mkV X.w X.h (AF X.fr) X.R X.d X.os
/-- convert's loop stands before its first character -/
def CvStart (X : CvX) (rest : Nat → Tok → List (Addr × Obj)) (sty : Sty) (k : Nat) : Prop :=
  ∀ (tk : Nat) (tcn tst ts : Tok) (n n1 n2 : Nat) (sl1 sl2 : Array (Option Value)) (ov ph : List Value), ov = [] → ph = [] → CvOk X.F X.aC sl1 → LfOk X.F sl2 →
    J (mkV X.w X.h (AF X.fr) X.R X.d X.os) X.S (T2 X.o1 X.o2) (cvL X.aEn X.aIt X.aF X.aPh X.aOut X.q X.tq 0 .none (cvFr X.w.params (styS sty) tst X.q X.tq false X.aPh X.aOut X.aMap 0 ts .none X.k0 X.k1 X.k2 X.k3 X.k4 X.k5 X.k6 X.k7 X.k8 X.k9 X.k10 X.k11 X.k12 X.k13 X.k14 X.k15 X.c0 X.c1 X.c2 X.c3 X.c4 X.c5 X.c6 [] n sl1) ph n2 ov n1 X.F (frameO X.D X.nD sl2) (rest k tcn))
    ⟨cvLoop X.aEn X.aF X.aC, none, .base, denote table (cvLoop X.aEn X.aF X.aC), X.gl, tk⟩
/-- convert's loop stands before character i -/
def CvAt (X : CvX) (rest : Nat → Tok → List (Addr × Obj)) (sty : Sty) (i : Nat) (p : Option Nat) (x : CS) : Prop :=
  ∀ (tk : Nat) (tcn tst ts tp k16 k17 k18 : Tok) (iv cv nv lv : Value) (px : List DictEntry) (n n1 n2 : Nat) (sl1 sl2 : Array (Option Value)) (ov ph : List Value), Strs ov x.out → Strs ph x.ph → x.out.length ≤ i → x.ph.length ≤ i → CvOk X.F X.aC sl1 → LfOk X.F sl2 → PxOk X.w.params px →
    J (mkV X.w X.h (AF X.fr) X.R X.d X.os) X.S (T2 X.o1 X.o2) (cvL X.aEn X.aIt X.aF X.aPh X.aOut X.q X.tq i lv (cvFr X.w.params (styS sty) tst X.q X.tq x.qe X.aPh X.aOut X.aMap x.s ts (optV p tp) X.k0 X.k1 X.k2 X.k3 X.k4 X.k5 X.k6 X.k7 X.k8 X.k9 X.k10 X.k11 X.k12 X.k13 X.k14 X.k15 X.c0 X.c1 X.c2 X.c3 X.c4 X.c5 X.c6 (ent X.w.params "i" k16 iv :: ent X.w.params "c" k17 cv :: ent X.w.params "next_c" k18 nv :: px) n sl1) ph n2 ov n1 X.F (frameO X.D X.nD sl2) (rest x.cnt tcn))
    ⟨cvLoop X.aEn X.aF X.aC, none, .base, denote table (cvLoop X.aEn X.aF X.aC), X.gl, tk⟩
def cvCap (aEn aF aC : Addr) : Prop := ∀ (w : World) (h : Heap) (fr : Option (List Env)) (R : Result → Shared → Prop) (d : Drawn) (os : OsState) (S : List Addr) (o1 o2 : Obj) (rest : List (Addr × Obj)) (gl : List GenState) (tk : Nat)
  (aIt aOut aPh aMap : Addr) (st : Str) (tst : Tok) (q : Str) (tq : Tok) (qe : Bool) (s : Int) (ts : Tok) (pv iv cv nv lv : Value) (px : List DictEntry) (k0 k1 k2 k3 k4 k5 k6 k7 k8 k9 k10 k11 k12 k13 k14 k15 k16 k17 k18 : Tok) (c0 c1 c2 c3 c4 c5 c6 : Tok) (n n1 n2 : Nat) (ov ph : List Value) (i : Nat) (x y : Nat) (F : LF) (lf : Obj) (sl : Array (Option Value))
  (_ : q.cps[i]? = some x) (_ : q.cps[i+1]? = some y) (_ : i + 1 < q.length) (_ : q.cps.size < 10000),
  J (mkV w h (AF fr) R d os) S (T2 o1 o2) (cvL aEn aIt aF aPh aOut q tq i lv (cvFr w.params st tst q tq qe aPh aOut aMap s ts pv k0 k1 k2 k3 k4 k5 k6 k7 k8 k9 k10 k11 k12 k13 k14 k15 c0 c1 c2 c3 c4 c5 c6 (ent w.params "i" k16 iv :: ent w.params "c" k17 cv :: ent w.params "next_c" k18 nv :: px) n sl) ph n2 ov n1 F lf rest)
    ⟨cvLoop aEn aF aC, none, .base, denote table (cvLoop aEn aF aC), gl, tk⟩
open Lean Elab Tactic Meta in
/-- the tree where the run of a goal stops first -/
def capTree (goal : String) (run : TacticM Unit) : TacticM Unit := do
  let g ← getMainGoal
  g.withContext do
    let stx ← (match Parser.runParserCategory (← getEnv) `term goal with
      | .ok s => pure s
      | .error e => throwError e)
    let e ← Term.elabTerm stx (some (mkSort 0))
    let e ← whnfD e
    let m ← mkFreshExprSyntheticOpaqueMVar e
    let (_, g1) ← m.mvarId!.intros
    setGoals [g1]
    run
    let g2 ← getMainGoal
    let t ← g2.withContext do
      let d ← DS.ofGoal g2
      instantiateMVars d.t
    for x in (← t.collectFVars.run {}).2.fvarIds do
      unless (← getLCtx).contains x do g2.withContext do throwError "capTree: {mkFVar x} in {t}"
    setGoals [g]
    g.assign t
open Lean Elab Tactic Meta in
def headWalk : TacticM Unit := do
  let l ← stmtsOf 113
  let f ← Lean.Meta.whnfD l[14]!
  let b ← listOf 100 f.getAppArgs[2]!
  walk [("str_ascii_iterator.__next__", "strnext_ok"), ("str.__getitem__", "stritem_ok")] (say := false) (places := [← placeOf b[1]!])
noncomputable def cvMid (aEn aF aC : Addr) : Sem PySem.Fin := by
  run_tac capTree "cvCap aEn aF aC" headWalk
/-- in the turn of character i, which is c and before y -/
def CvMid (X : CvX) (rest : Nat → Tok → List (Addr × Obj)) (sty : Sty) (i : Nat) (p : Option Nat) (c : Nat) (y : Option Nat) (x : CS) : Prop :=
  ∀ (tk : Nat) (tcn tst ts tp tc tn k16 k17 k18 : Tok) (iv lv : Value) (px : List DictEntry) (n n1 n2 : Nat) (sl1 sl2 : Array (Option Value)) (ov ph : List Value), Strs ov x.out → Strs ph x.ph → x.out.length ≤ i → x.ph.length ≤ i → CvOk X.F X.aC sl1 → LfOk X.F sl2 → PxOk X.w.params px →
    J (mkV X.w X.h (AF X.fr) X.R X.d X.os) X.S (T2 X.o1 X.o2) (cvL X.aEn X.aIt X.aF X.aPh X.aOut X.q X.tq (i + 1) lv (cvFr X.w.params (styS sty) tst X.q X.tq x.qe X.aPh X.aOut X.aMap x.s ts (optV p tp) X.k0 X.k1 X.k2 X.k3 X.k4 X.k5 X.k6 X.k7 X.k8 X.k9 X.k10 X.k11 X.k12 X.k13 X.k14 X.k15 X.c0 X.c1 X.c2 X.c3 X.c4 X.c5 X.c6 (ent X.w.params "i" k16 iv :: ent X.w.params "c" k17 (.str ⟨#[c]⟩ tc) :: ent X.w.params "next_c" k18 (optV y tn) :: px) n sl1) ph n2 ov n1 X.F (frameO X.D X.nD sl2) (rest x.cnt tcn))
    ⟨cvLoop X.aEn X.aF X.aC, none, .base, cvMid X.aEn X.aF X.aC, X.gl, tk⟩
end Mine
end

section
open PySem PySem.W PySem.W.X PyProof.Rows
namespace Mine

theorem at_len {q : Str} {i : Nat} {ny : Option Nat} (h : q.cps[i]? = ny) : match ny with | none => q.length ≤ i | some _ => i < q.length := by
  cases ny with
  | none => exact Array.getElem?_eq_none_iff.mp h
  | some y => exact (Array.getElem?_eq_some_iff.mp h).1
open Lean Elab Tactic Meta in
/-- the goals but the J's: by what stands -/
def restS (t : TacticM Unit) : TacticM Unit := do
  let gs ← getGoals
  let mut out := []
  for g in gs do
    if ← g.isAssigned then continue
    let ty ← g.withContext do instantiateMVars (← g.getType)
    unless ← g.withContext (Meta.isProp ty) do continue
    setGoals [g]
    try t; out := out ++ (← getUnsolvedGoals) catch _ => out := out ++ [g]
  setGoals out
theorem cv_head {X : CvX} {rest : Nat → Tok → List (Addr × Obj)} {sty : Sty} {i : Nat} {p : Option Nat} {c : Nat} {y : Option Nat} {x : CS} (hx : X.q.cps[i]? = some c) (hy : X.q.cps[i+1]? = y) (hq : X.q.cps.size < 10000)
  (H : CvMid X rest sty i p c y x) : CvAt X rest sty i p x := by
  obtain ⟨w, h, R, d, os, S, o1, o2, gl, aEn, aIt, aOut, aPh, aF, aMap, aC, q, tq, k0, k1, k2, k3, k4, k5, k6, k7, k8, k9, k10, k11, k12, k13, k14, k15, c0, c1, c2, c3, c4, c5, c6, fr, ⟨aL, b1, b2, b3, b4, b5, b6⟩, D, nD⟩ := X
  intro tk tcn tst ts tp k16 k17 k18 iv cv nv lv px n n1 n2 sl1 sl2 ov ph hov hph hol hpl hs1 hs2 hpx
  replace H := fun tk tc tn k16 k17 k18 iv lv n => H tk tcn tst ts tp tc tn k16 k17 k18 iv lv px n n1 n2 sl1 sl2 ov ph hov hph hol hpl hs1 hs2 hpx
  clear hov hph hol hpl hs1 hs2 hpx
  simp only at *
  generalize optV p tp = pv at *
  generalize styS sty = st at *
  have hl := at_len hy
  have hl2 := at_len hx
  cases y with
  | none =>
    simp only at hl hl2
    run_tac headWalk
    run_tac useS "H (tn := 0)"
  | some y =>
    simp only at hl hl2
    run_tac headWalk
    run_tac useS "H"
theorem cv_head0 {X : CvX} {rest : Nat → Tok → List (Addr × Obj)} {sty : Sty} {k : Nat} {c : Nat} {y : Option Nat} (hx : X.q.cps[0]? = some c) (hy : X.q.cps[1]? = y) (hq : X.q.cps.size < 10000)
  (H : CvMid X rest sty 0 none c y ⟨0, false, [], [], k⟩) : CvStart X rest sty k := by
  obtain ⟨w, h, R, d, os, S, o1, o2, gl, aEn, aIt, aOut, aPh, aF, aMap, aC, q, tq, k0, k1, k2, k3, k4, k5, k6, k7, k8, k9, k10, k11, k12, k13, k14, k15, c0, c1, c2, c3, c4, c5, c6, fr, ⟨aL, b1, b2, b3, b4, b5, b6⟩, D, nD⟩ := X
  intro tk tcn tst ts n n1 n2 sl1 sl2 ov ph hov hph hs1 hs2
  subst hov hph
  replace H := fun tk tc tn k16 k17 k18 iv lv n => H tk tcn tst ts 0 tc tn k16 k17 k18 iv lv [] n n1 n2 sl1 sl2 [] [] .nil .nil (Nat.le_refl _) (Nat.le_refl _) hs1 hs2 (.inl rfl)
  clear hs1 hs2
  simp only at *
  generalize styS sty = st at *
  have hl := at_len hy
  have hl2 := at_len hx
  cases y with
  | none =>
    simp only at hl hl2
    run_tac headWalk
    run_tac useS "H (tn := 0)"
  | some y =>
    simp only at hl hl2
    run_tac headWalk
    run_tac useS "H"
end Mine
end

section
open PySem PySem.W PySem.W.X PyProof.Rows
namespace Mine

/-- one turn outside of any quotes, at a character that opens none -/
def cfree (sty : Sty) (p : Option Nat) (x : Nat) (y : Option Nat) (qe : Bool) (o ph : List Str) (k : Nat) : Option CS :=
  match sty with
  | .numeric => if x = 58 then match y with
      | none => none
      | some y => if y ≠ 58 ∧ y ≠ 61 ∧ p ≠ some 58 then some ⟨0, qe, o ++ [⟨#[36]⟩], ph, k⟩ else some ⟨0, qe, o ++ [⟨#[x]⟩], ph, k⟩
    else some ⟨0, qe, o ++ [⟨#[x]⟩], ph, k⟩
  | .named => if x = 58 then match y with
      | none => none
      | some y => if y ≠ 58 ∧ y ≠ 61 ∧ p ≠ some 58 then some ⟨4, qe, o, ph ++ [⟨#[]⟩], k⟩ else some ⟨0, qe, o ++ [⟨#[x]⟩], ph, k⟩
    else some ⟨0, qe, o ++ [⟨#[x]⟩], ph, k⟩
  | .pyformat => if x = 37 then if y = some 40 then some ⟨4, qe, o, ph ++ [⟨#[]⟩], k⟩ else none else some ⟨0, qe, o ++ [⟨#[x]⟩], ph, k⟩
  | .qmark => if x = 63 then (if k < 10 then some ⟨0, qe, o ++ [dolS k], ph, k + 1⟩ else none) else some ⟨0, qe, o ++ [⟨#[x]⟩], ph, k⟩
  | .format => if x = 37 then (if y = some 115 then (if k < 10 then some ⟨4, qe, o ++ [dolS k], ph, k + 1⟩ else none) else none) else some ⟨0, qe, o ++ [⟨#[x]⟩], ph, k⟩
/-- the end of a parameter's name -/
def cend (cur : Str) (qe : Bool) (o ph : List Str) (k : Nat) : Option CS :=
  if ph.length < 9 ∧ (cur = nmA ∨ cur = nmB ∨ cur = nmD ∨ cur = nmK) then
    match whereIs cur ph with
    | some j => some ⟨0, qe, o ++ [dolS (j + 1)], ph, k⟩
    | none => some ⟨0, qe, o ++ [dolS (ph.length + 1)], ph ++ [cur], k⟩
  else none
/-- one turn within a parameter -/
def cpn (sty : Sty) (p : Option Nat) (x : Nat) (y : Option Nat) (cur : Str) (qe : Bool) (o ph : List Str) (k : Nat) : Option CS :=
  match sty with
  | .named => if cur.cps.size < 9000 then match y with
      | none => cend ⟨cur.cps ++ #[x]⟩ qe o ph k
      | some y => if Unicode.isAlnum y = true ∨ y = 95 then some ⟨4, qe, o, ph ++ [⟨cur.cps ++ #[x]⟩], k⟩ else cend ⟨cur.cps ++ #[x]⟩ qe o ph k
    else none
  | .pyformat => if cur.cps.size < 9000 then match p with
      | none => none
      | some p =>
        if p = 41 then (if x = 115 then cend cur qe o ph k else none)
        else if x = 40 then (if p = 37 then some ⟨4, qe, o, ph ++ [cur], k⟩ else none)
        else if x = 41 then some ⟨4, qe, o, ph ++ [cur], k⟩
        else some ⟨4, qe, o, ph ++ [⟨cur.cps ++ #[x]⟩], k⟩
    else none
  | _ => none
def cstep (sty : Sty) (p : Option Nat) (x : Nat) (y : Option Nat) (c : CS) : Option CS :=
  match c with
  | ⟨s, qe, o, ph, k⟩ =>
    if s = 0 then
      if x = 39 then some ⟨if p = some 69 then 3 else 1, qe, o ++ [⟨#[x]⟩], ph, k⟩
      else if x = 34 then some ⟨2, qe, o ++ [⟨#[x]⟩], ph, k⟩
      else if x = 45 then some ⟨if p = some 45 then 5 else 0, qe, o ++ [⟨#[x]⟩], ph, k⟩
      else if x = 36 then some ⟨if p = some 36 then 6 else 0, qe, o ++ [⟨#[x]⟩], ph, k⟩
      else cfree sty p x y qe o ph k
    else if s = 1 then
      if x = 39 then if qe then some ⟨1, false, o ++ [⟨#[x]⟩], ph, k⟩ else if y = some 39 then some ⟨1, true, o ++ [⟨#[x]⟩], ph, k⟩ else some ⟨0, false, o ++ [⟨#[x]⟩], ph, k⟩
      else some ⟨1, qe, o ++ [⟨#[x]⟩], ph, k⟩
    else if s = 2 then some ⟨if x = 34 then 0 else 2, qe, o ++ [⟨#[x]⟩], ph, k⟩
    else if s = 3 then some ⟨if x = 39 ∧ p ≠ some 92 then 0 else 3, qe, o ++ [⟨#[x]⟩], ph, k⟩
    else if s = 5 then some ⟨if x = 10 then 0 else 5, qe, o ++ [⟨#[x]⟩], ph, k⟩
    else if s = 6 then some ⟨if x = 36 ∧ p = some 36 then 0 else 6, qe, o ++ [⟨#[x]⟩], ph, k⟩
    else if s = 4 then match sty with
      | .format => some ⟨0, qe, o, ph, k⟩
      | _ => match ph.getLast? with
        | none => none
        | some cur => cpn sty p x y cur qe o ph.dropLast k
    else none

open Lean Elab Tactic Meta in
/-- the sides of a leaf: first what fixes the lists, then the rest -/
def sides (first rest : TacticM Unit) : TacticM Unit := do
  let gs ← getGoals
  let mut l := []
  for g in gs do
    if ← g.isAssigned then continue
    let ty ← instantiateMVars (← g.getType)
    unless ← g.withContext (Meta.isProp ty) do continue
    setGoals [g]
    try first; unless (← getUnsolvedGoals).isEmpty do throwError "open"
    catch _ => l := l ++ [g]
  let mut l2 := []
  for g in l do
    if ← g.isAssigned then continue
    let ty ← instantiateMVars (← g.getType)
    unless ← g.withContext (Meta.isProp ty) do continue
    setGoals [g]
    try rest; l2 := l2 ++ (← getUnsolvedGoals) catch _ => l2 := l2 ++ [g]
  setGoals l2
theorem Strs.last {vs : List Value} {ss : List Str} {s : Str} (h : Strs vs (ss ++ [s])) : ∃ us t, EndsIn vs us (.str s t) ∧ Strs us ss := by
  induction ss generalizing vs with
  | nil =>
    cases h with
    | cons s t r => cases r with | nil => exact ⟨[], t, ⟨rfl⟩, .nil⟩
  | cons x ss ih =>
    cases h with
    | cons _ t r =>
      obtain ⟨us, t', ⟨e⟩, r'⟩ := ih r
      exact ⟨_ :: us, t', ⟨by rw [e]; rfl⟩, .cons _ _ r'⟩
theorem EndsIn.strs {vs us : List Value} {ss : List Str} {s : Str} {t : Tok} (e : EndsIn vs us (.str s t)) (h : Strs us ss) : Strs vs (ss ++ [s]) := by
  rw [e.eq]
  exact h.snoc
theorem Strs.snocd {vs : List Value} {ss : List Str} {t : Tok} {j n : Nat} (h : Strs vs ss) (e : Int.ofNat (j + 1) = Int.ofNat n) : Strs (vs ++ [.str ⟨⟨[36]⟩ ++ (digS n).cps⟩ t]) (ss ++ [dolS (j + 1)]) := by
  have : n = j + 1 := (Int.ofNat.inj e).symm
  subst this
  exact h.snoc
theorem Strs.snocm {vs ph us : List Value} {ss ps : List Str} {t : Tok} {n : Nat} (h : Strs vs ss) (e : Int.ofNat (Array.mk ph).size = Int.ofNat n) (hl : ph.length = us.length + 1) (hu : us.length = ps.length) : Strs (vs ++ [.str ⟨⟨[36]⟩ ++ (digS n).cps⟩ t]) (ss ++ [dolS (ps.length + 1)]) := by
  have e1 : ph.length = n := Int.ofNat.inj e
  have : n = ps.length + 1 := by omega
  subst this
  exact h.snoc
theorem str_emp (a : Array Nat) : (⟨#[]⟩ : Str).cps ++ a = a := by simp
open Lean Elab Tactic Meta in
/-- the ends of a turn: the loop's next turn, by the lemma -/
def leafK (lem : String) : TacticM Unit := do
  let gs ← getGoals
  let mut out := []
  for g in gs do
    setGoals [g]
    let isJ ← g.withContext do return (← whnfR (← instantiateMVars (← g.getType))).isAppOf ``J
    if isJ then
      againJ
      useS lem
    sides (do evalTactic (← `(tactic| first | assumption | exact Strs.snoc (by assumption) | exact Strs.snocd (by assumption) (by assumption) | exact Strs.snocm (by assumption) (by assumption) (by assumption) (by assumption) | exact EndsIn.strs (by assumption) (by assumption) | exact Or.inl rfl | exact Or.inr rfl | exact Or.inr ⟨_, rfl⟩ | exact Or.inr ⟨_, _, rfl⟩))) (do
      evalTactic (← `(tactic| first | (simp [cstep, cfree, *]; done) | (simp only [List.length_append, List.length_cons, List.length_nil] at *; omega) | omega | assumption)))
    out := out ++ (← getUnsolvedGoals)
  setGoals out

theorem cv_SQ {X : CvX} {rest : Nat → Tok → List (Addr × Obj)} {i : Nat} {sty : Sty} {p : Option Nat} {y : Option Nat} {c : Nat} {qe : Bool} {o ph : List Str} {k : Nat} (hi : i < 9000) 
  (H : ∀ x', cstep sty p c y ⟨1, qe, o, ph, k⟩ = some x' → CvAt X rest sty (i + 1) (some c) x') : CvMid X rest sty i p c y ⟨1, qe, o, ph, k⟩ := by
  replace H := fun s qe o ph k => H ⟨s, qe, o, ph, k⟩
  obtain ⟨w, h, R, d, os, S, o1, o2, gl, aEn, aIt, aOut, aPh, aF, aMap, aC, q, tq, k0, k1, k2, k3, k4, k5, k6, k7, k8, k9, k10, k11, k12, k13, k14, k15, c0, c1, c2, c3, c4, c5, c6, fr, ⟨aL, b1, b2, b3, b4, b5, b6⟩, D, nD⟩ := X
  intro tk tcn tst ts tp tc tn k16 k17 k18 iv lv px n n1 n2 sl1 sl2 ov phv hov hph hol hpl hs1 hs2 hpx
  simp only at *
  have ho : ov.length < 9999 := by rw [hov.length]; omega
  have hp9 : phv.length < 9999 := by rw [hph.length]; omega
  generalize hst : styS sty = st
  simp only [CvAt, hst] at H
  run_tac runJ [] (say := false)
  run_tac leafK "H"

theorem cv_QI {X : CvX} {rest : Nat → Tok → List (Addr × Obj)} {i : Nat} {sty : Sty} {p : Option Nat} {y : Option Nat} {c : Nat} {qe : Bool} {o ph : List Str} {k : Nat} (hi : i < 9000) 
  (H : ∀ x', cstep sty p c y ⟨2, qe, o, ph, k⟩ = some x' → CvAt X rest sty (i + 1) (some c) x') : CvMid X rest sty i p c y ⟨2, qe, o, ph, k⟩ := by
  replace H := fun s qe o ph k => H ⟨s, qe, o, ph, k⟩
  obtain ⟨w, h, R, d, os, S, o1, o2, gl, aEn, aIt, aOut, aPh, aF, aMap, aC, q, tq, k0, k1, k2, k3, k4, k5, k6, k7, k8, k9, k10, k11, k12, k13, k14, k15, c0, c1, c2, c3, c4, c5, c6, fr, ⟨aL, b1, b2, b3, b4, b5, b6⟩, D, nD⟩ := X
  intro tk tcn tst ts tp tc tn k16 k17 k18 iv lv px n n1 n2 sl1 sl2 ov phv hov hph hol hpl hs1 hs2 hpx
  simp only at *
  have ho : ov.length < 9999 := by rw [hov.length]; omega
  have hp9 : phv.length < 9999 := by rw [hph.length]; omega
  generalize hst : styS sty = st
  simp only [CvAt, hst] at H
  run_tac runJ [] (say := false)
  run_tac leafK "H"

theorem cv_ES {X : CvX} {rest : Nat → Tok → List (Addr × Obj)} {i : Nat} {sty : Sty} {p : Option Nat} {y : Option Nat} {c : Nat} {qe : Bool} {o ph : List Str} {k : Nat} (hi : i < 9000) 
  (H : ∀ x', cstep sty p c y ⟨3, qe, o, ph, k⟩ = some x' → CvAt X rest sty (i + 1) (some c) x') : CvMid X rest sty i p c y ⟨3, qe, o, ph, k⟩ := by
  replace H := fun s qe o ph k => H ⟨s, qe, o, ph, k⟩
  obtain ⟨w, h, R, d, os, S, o1, o2, gl, aEn, aIt, aOut, aPh, aF, aMap, aC, q, tq, k0, k1, k2, k3, k4, k5, k6, k7, k8, k9, k10, k11, k12, k13, k14, k15, c0, c1, c2, c3, c4, c5, c6, fr, ⟨aL, b1, b2, b3, b4, b5, b6⟩, D, nD⟩ := X
  intro tk tcn tst ts tp tc tn k16 k17 k18 iv lv px n n1 n2 sl1 sl2 ov phv hov hph hol hpl hs1 hs2 hpx
  simp only at *
  have ho : ov.length < 9999 := by rw [hov.length]; omega
  have hp9 : phv.length < 9999 := by rw [hph.length]; omega
  generalize hst : styS sty = st
  simp only [CvAt, hst] at H
  run_tac runJ [] (say := false)
  run_tac leafK "H"

theorem cv_CO {X : CvX} {rest : Nat → Tok → List (Addr × Obj)} {i : Nat} {sty : Sty} {p : Option Nat} {y : Option Nat} {c : Nat} {qe : Bool} {o ph : List Str} {k : Nat} (hi : i < 9000) 
  (H : ∀ x', cstep sty p c y ⟨5, qe, o, ph, k⟩ = some x' → CvAt X rest sty (i + 1) (some c) x') : CvMid X rest sty i p c y ⟨5, qe, o, ph, k⟩ := by
  replace H := fun s qe o ph k => H ⟨s, qe, o, ph, k⟩
  obtain ⟨w, h, R, d, os, S, o1, o2, gl, aEn, aIt, aOut, aPh, aF, aMap, aC, q, tq, k0, k1, k2, k3, k4, k5, k6, k7, k8, k9, k10, k11, k12, k13, k14, k15, c0, c1, c2, c3, c4, c5, c6, fr, ⟨aL, b1, b2, b3, b4, b5, b6⟩, D, nD⟩ := X
  intro tk tcn tst ts tp tc tn k16 k17 k18 iv lv px n n1 n2 sl1 sl2 ov phv hov hph hol hpl hs1 hs2 hpx
  simp only at *
  have ho : ov.length < 9999 := by rw [hov.length]; omega
  have hp9 : phv.length < 9999 := by rw [hph.length]; omega
  generalize hst : styS sty = st
  simp only [CvAt, hst] at H
  run_tac runJ [] (say := false)
  run_tac leafK "H"

theorem cv_DQ {X : CvX} {rest : Nat → Tok → List (Addr × Obj)} {i : Nat} {sty : Sty} {p : Option Nat} {y : Option Nat} {c : Nat} {qe : Bool} {o ph : List Str} {k : Nat} (hi : i < 9000) 
  (H : ∀ x', cstep sty p c y ⟨6, qe, o, ph, k⟩ = some x' → CvAt X rest sty (i + 1) (some c) x') : CvMid X rest sty i p c y ⟨6, qe, o, ph, k⟩ := by
  replace H := fun s qe o ph k => H ⟨s, qe, o, ph, k⟩
  obtain ⟨w, h, R, d, os, S, o1, o2, gl, aEn, aIt, aOut, aPh, aF, aMap, aC, q, tq, k0, k1, k2, k3, k4, k5, k6, k7, k8, k9, k10, k11, k12, k13, k14, k15, c0, c1, c2, c3, c4, c5, c6, fr, ⟨aL, b1, b2, b3, b4, b5, b6⟩, D, nD⟩ := X
  intro tk tcn tst ts tp tc tn k16 k17 k18 iv lv px n n1 n2 sl1 sl2 ov phv hov hph hol hpl hs1 hs2 hpx
  simp only at *
  have ho : ov.length < 9999 := by rw [hov.length]; omega
  have hp9 : phv.length < 9999 := by rw [hph.length]; omega
  generalize hst : styS sty = st
  simp only [CvAt, hst] at H
  run_tac runJ [] (say := false)
  run_tac leafK "H"
end Mine
end

section
open PySem PySem.W PySem.W.X PyProof.Rows
namespace Mine

theorem cv_o39 {X : CvX} {rest : Nat → Tok → List (Addr × Obj)} {i : Nat} {sty : Sty} {p : Option Nat} {y : Option Nat} {qe : Bool} {o ph : List Str} {k : Nat} (hi : i < 9000) 
  (H : ∀ x', cstep sty p 39 y ⟨0, qe, o, ph, k⟩ = some x' → CvAt X rest sty (i + 1) (some 39) x') : CvMid X rest sty i p 39 y ⟨0, qe, o, ph, k⟩ := by
  replace H := fun s qe o ph k => H ⟨s, qe, o, ph, k⟩
  obtain ⟨w, h, R, d, os, S, o1, o2, gl, aEn, aIt, aOut, aPh, aF, aMap, aC, q, tq, k0, k1, k2, k3, k4, k5, k6, k7, k8, k9, k10, k11, k12, k13, k14, k15, c0, c1, c2, c3, c4, c5, c6, fr, ⟨aL, b1, b2, b3, b4, b5, b6⟩, D, nD⟩ := X
  intro tk tcn tst ts tp tc tn k16 k17 k18 iv lv px n n1 n2 sl1 sl2 ov phv hov hph hol hpl hs1 hs2 hpx
  simp only at *
  have ho : ov.length < 9999 := by rw [hov.length]; omega
  have hp9 : phv.length < 9999 := by rw [hph.length]; omega
  generalize hst : styS sty = st
  simp only [CvAt, hst] at H
  run_tac runJ [] (say := false)
  run_tac leafK "H"

theorem cv_o34 {X : CvX} {rest : Nat → Tok → List (Addr × Obj)} {i : Nat} {sty : Sty} {p : Option Nat} {y : Option Nat} {qe : Bool} {o ph : List Str} {k : Nat} (hi : i < 9000) 
  (H : ∀ x', cstep sty p 34 y ⟨0, qe, o, ph, k⟩ = some x' → CvAt X rest sty (i + 1) (some 34) x') : CvMid X rest sty i p 34 y ⟨0, qe, o, ph, k⟩ := by
  replace H := fun s qe o ph k => H ⟨s, qe, o, ph, k⟩
  obtain ⟨w, h, R, d, os, S, o1, o2, gl, aEn, aIt, aOut, aPh, aF, aMap, aC, q, tq, k0, k1, k2, k3, k4, k5, k6, k7, k8, k9, k10, k11, k12, k13, k14, k15, c0, c1, c2, c3, c4, c5, c6, fr, ⟨aL, b1, b2, b3, b4, b5, b6⟩, D, nD⟩ := X
  intro tk tcn tst ts tp tc tn k16 k17 k18 iv lv px n n1 n2 sl1 sl2 ov phv hov hph hol hpl hs1 hs2 hpx
  simp only at *
  have ho : ov.length < 9999 := by rw [hov.length]; omega
  have hp9 : phv.length < 9999 := by rw [hph.length]; omega
  generalize hst : styS sty = st
  simp only [CvAt, hst] at H
  run_tac runJ [] (say := false)
  run_tac leafK "H"

theorem cv_o45 {X : CvX} {rest : Nat → Tok → List (Addr × Obj)} {i : Nat} {sty : Sty} {p : Option Nat} {y : Option Nat} {qe : Bool} {o ph : List Str} {k : Nat} (hi : i < 9000) 
  (H : ∀ x', cstep sty p 45 y ⟨0, qe, o, ph, k⟩ = some x' → CvAt X rest sty (i + 1) (some 45) x') : CvMid X rest sty i p 45 y ⟨0, qe, o, ph, k⟩ := by
  replace H := fun s qe o ph k => H ⟨s, qe, o, ph, k⟩
  obtain ⟨w, h, R, d, os, S, o1, o2, gl, aEn, aIt, aOut, aPh, aF, aMap, aC, q, tq, k0, k1, k2, k3, k4, k5, k6, k7, k8, k9, k10, k11, k12, k13, k14, k15, c0, c1, c2, c3, c4, c5, c6, fr, ⟨aL, b1, b2, b3, b4, b5, b6⟩, D, nD⟩ := X
  intro tk tcn tst ts tp tc tn k16 k17 k18 iv lv px n n1 n2 sl1 sl2 ov phv hov hph hol hpl hs1 hs2 hpx
  simp only at *
  have ho : ov.length < 9999 := by rw [hov.length]; omega
  have hp9 : phv.length < 9999 := by rw [hph.length]; omega
  generalize hst : styS sty = st
  simp only [CvAt, hst] at H
  run_tac runJ [] (say := false)
  run_tac leafK "H"

theorem cv_o36 {X : CvX} {rest : Nat → Tok → List (Addr × Obj)} {i : Nat} {sty : Sty} {p : Option Nat} {y : Option Nat} {qe : Bool} {o ph : List Str} {k : Nat} (hi : i < 9000) 
  (H : ∀ x', cstep sty p 36 y ⟨0, qe, o, ph, k⟩ = some x' → CvAt X rest sty (i + 1) (some 36) x') : CvMid X rest sty i p 36 y ⟨0, qe, o, ph, k⟩ := by
  replace H := fun s qe o ph k => H ⟨s, qe, o, ph, k⟩
  obtain ⟨w, h, R, d, os, S, o1, o2, gl, aEn, aIt, aOut, aPh, aF, aMap, aC, q, tq, k0, k1, k2, k3, k4, k5, k6, k7, k8, k9, k10, k11, k12, k13, k14, k15, c0, c1, c2, c3, c4, c5, c6, fr, ⟨aL, b1, b2, b3, b4, b5, b6⟩, D, nD⟩ := X
  intro tk tcn tst ts tp tc tn k16 k17 k18 iv lv px n n1 n2 sl1 sl2 ov phv hov hph hol hpl hs1 hs2 hpx
  simp only at *
  have ho : ov.length < 9999 := by rw [hov.length]; omega
  have hp9 : phv.length < 9999 := by rw [hph.length]; omega
  generalize hst : styS sty = st
  simp only [CvAt, hst] at H
  run_tac runJ [] (say := false)
  run_tac leafK "H"

theorem cv_plain_named {X : CvX} {rest : Nat → Tok → List (Addr × Obj)} {i : Nat} {p : Option Nat} {y : Option Nat} {c : Nat} {qe : Bool} {o ph : List Str} {k : Nat} (hi : i < 9000) (h39 : ¬ c = 39) (h34 : ¬ c = 34) (h45 : ¬ c = 45) (h36 : ¬ c = 36) (hsp : ¬ c = 58)
  (H : ∀ x', cstep .named p c y ⟨0, qe, o, ph, k⟩ = some x' → CvAt X rest .named (i + 1) (some c) x') : CvMid X rest .named i p c y ⟨0, qe, o, ph, k⟩ := by
  replace H := fun s qe o ph k => H ⟨s, qe, o, ph, k⟩
  obtain ⟨w, h, R, d, os, S, o1, o2, gl, aEn, aIt, aOut, aPh, aF, aMap, aC, q, tq, k0, k1, k2, k3, k4, k5, k6, k7, k8, k9, k10, k11, k12, k13, k14, k15, c0, c1, c2, c3, c4, c5, c6, fr, ⟨aL, b1, b2, b3, b4, b5, b6⟩, D, nD⟩ := X
  intro tk tcn tst ts tp tc tn k16 k17 k18 iv lv px n n1 n2 sl1 sl2 ov phv hov hph hol hpl hs1 hs2 hpx
  simp only at *
  have ho : ov.length < 9999 := by rw [hov.length]; omega
  have hp9 : phv.length < 9999 := by rw [hph.length]; omega
  simp only [CvAt] at H
  run_tac runJ [] (say := false)
  run_tac leafK "H"

theorem cv_plain_numeric {X : CvX} {rest : Nat → Tok → List (Addr × Obj)} {i : Nat} {p : Option Nat} {y : Option Nat} {c : Nat} {qe : Bool} {o ph : List Str} {k : Nat} (hi : i < 9000) (h39 : ¬ c = 39) (h34 : ¬ c = 34) (h45 : ¬ c = 45) (h36 : ¬ c = 36) (hsp : ¬ c = 58)
  (H : ∀ x', cstep .numeric p c y ⟨0, qe, o, ph, k⟩ = some x' → CvAt X rest .numeric (i + 1) (some c) x') : CvMid X rest .numeric i p c y ⟨0, qe, o, ph, k⟩ := by
  replace H := fun s qe o ph k => H ⟨s, qe, o, ph, k⟩
  obtain ⟨w, h, R, d, os, S, o1, o2, gl, aEn, aIt, aOut, aPh, aF, aMap, aC, q, tq, k0, k1, k2, k3, k4, k5, k6, k7, k8, k9, k10, k11, k12, k13, k14, k15, c0, c1, c2, c3, c4, c5, c6, fr, ⟨aL, b1, b2, b3, b4, b5, b6⟩, D, nD⟩ := X
  intro tk tcn tst ts tp tc tn k16 k17 k18 iv lv px n n1 n2 sl1 sl2 ov phv hov hph hol hpl hs1 hs2 hpx
  simp only at *
  have ho : ov.length < 9999 := by rw [hov.length]; omega
  have hp9 : phv.length < 9999 := by rw [hph.length]; omega
  simp only [CvAt] at H
  run_tac runJ [] (say := false)
  run_tac leafK "H"

theorem cv_plain_pyformat {X : CvX} {rest : Nat → Tok → List (Addr × Obj)} {i : Nat} {p : Option Nat} {y : Option Nat} {c : Nat} {qe : Bool} {o ph : List Str} {k : Nat} (hi : i < 9000) (h39 : ¬ c = 39) (h34 : ¬ c = 34) (h45 : ¬ c = 45) (h36 : ¬ c = 36) (hsp : ¬ c = 37)
  (H : ∀ x', cstep .pyformat p c y ⟨0, qe, o, ph, k⟩ = some x' → CvAt X rest .pyformat (i + 1) (some c) x') : CvMid X rest .pyformat i p c y ⟨0, qe, o, ph, k⟩ := by
  replace H := fun s qe o ph k => H ⟨s, qe, o, ph, k⟩
  obtain ⟨w, h, R, d, os, S, o1, o2, gl, aEn, aIt, aOut, aPh, aF, aMap, aC, q, tq, k0, k1, k2, k3, k4, k5, k6, k7, k8, k9, k10, k11, k12, k13, k14, k15, c0, c1, c2, c3, c4, c5, c6, fr, ⟨aL, b1, b2, b3, b4, b5, b6⟩, D, nD⟩ := X
  intro tk tcn tst ts tp tc tn k16 k17 k18 iv lv px n n1 n2 sl1 sl2 ov phv hov hph hol hpl hs1 hs2 hpx
  simp only at *
  have ho : ov.length < 9999 := by rw [hov.length]; omega
  have hp9 : phv.length < 9999 := by rw [hph.length]; omega
  simp only [CvAt] at H
  run_tac runJ [] (say := false)
  run_tac leafK "H"

theorem cv_plain_qmark {X : CvX} {rest : Nat → Tok → List (Addr × Obj)} {i : Nat} {p : Option Nat} {y : Option Nat} {c : Nat} {qe : Bool} {o ph : List Str} {k : Nat} (hi : i < 9000) (h39 : ¬ c = 39) (h34 : ¬ c = 34) (h45 : ¬ c = 45) (h36 : ¬ c = 36) (hsp : ¬ c = 63)
  (H : ∀ x', cstep .qmark p c y ⟨0, qe, o, ph, k⟩ = some x' → CvAt X rest .qmark (i + 1) (some c) x') : CvMid X rest .qmark i p c y ⟨0, qe, o, ph, k⟩ := by
  replace H := fun s qe o ph k => H ⟨s, qe, o, ph, k⟩
  obtain ⟨w, h, R, d, os, S, o1, o2, gl, aEn, aIt, aOut, aPh, aF, aMap, aC, q, tq, k0, k1, k2, k3, k4, k5, k6, k7, k8, k9, k10, k11, k12, k13, k14, k15, c0, c1, c2, c3, c4, c5, c6, fr, ⟨aL, b1, b2, b3, b4, b5, b6⟩, D, nD⟩ := X
  intro tk tcn tst ts tp tc tn k16 k17 k18 iv lv px n n1 n2 sl1 sl2 ov phv hov hph hol hpl hs1 hs2 hpx
  simp only at *
  have ho : ov.length < 9999 := by rw [hov.length]; omega
  have hp9 : phv.length < 9999 := by rw [hph.length]; omega
  simp only [CvAt] at H
  run_tac runJ [] (say := false)
  run_tac leafK "H"

theorem cv_plain_format {X : CvX} {rest : Nat → Tok → List (Addr × Obj)} {i : Nat} {p : Option Nat} {y : Option Nat} {c : Nat} {qe : Bool} {o ph : List Str} {k : Nat} (hi : i < 9000) (h39 : ¬ c = 39) (h34 : ¬ c = 34) (h45 : ¬ c = 45) (h36 : ¬ c = 36) (hsp : ¬ c = 37)
  (H : ∀ x', cstep .format p c y ⟨0, qe, o, ph, k⟩ = some x' → CvAt X rest .format (i + 1) (some c) x') : CvMid X rest .format i p c y ⟨0, qe, o, ph, k⟩ := by
  replace H := fun s qe o ph k => H ⟨s, qe, o, ph, k⟩
  obtain ⟨w, h, R, d, os, S, o1, o2, gl, aEn, aIt, aOut, aPh, aF, aMap, aC, q, tq, k0, k1, k2, k3, k4, k5, k6, k7, k8, k9, k10, k11, k12, k13, k14, k15, c0, c1, c2, c3, c4, c5, c6, fr, ⟨aL, b1, b2, b3, b4, b5, b6⟩, D, nD⟩ := X
  intro tk tcn tst ts tp tc tn k16 k17 k18 iv lv px n n1 n2 sl1 sl2 ov phv hov hph hol hpl hs1 hs2 hpx
  simp only at *
  have ho : ov.length < 9999 := by rw [hov.length]; omega
  have hp9 : phv.length < 9999 := by rw [hph.length]; omega
  simp only [CvAt] at H
  run_tac runJ [] (say := false)
  run_tac leafK "H"

theorem cv_colon_named {X : CvX} {rest : Nat → Tok → List (Addr × Obj)} {i : Nat} {p : Option Nat} {y : Nat} {qe : Bool} {o ph : List Str} {k : Nat} (hi : i < 9000) 
  (H : ∀ x', cstep .named p 58 (some y) ⟨0, qe, o, ph, k⟩ = some x' → CvAt X rest .named (i + 1) (some 58) x') : CvMid X rest .named i p 58 (some y) ⟨0, qe, o, ph, k⟩ := by
  replace H := fun s qe o ph k => H ⟨s, qe, o, ph, k⟩
  obtain ⟨w, h, R, d, os, S, o1, o2, gl, aEn, aIt, aOut, aPh, aF, aMap, aC, q, tq, k0, k1, k2, k3, k4, k5, k6, k7, k8, k9, k10, k11, k12, k13, k14, k15, c0, c1, c2, c3, c4, c5, c6, fr, ⟨aL, b1, b2, b3, b4, b5, b6⟩, D, nD⟩ := X
  intro tk tcn tst ts tp tc tn k16 k17 k18 iv lv px n n1 n2 sl1 sl2 ov phv hov hph hol hpl hs1 hs2 hpx
  simp only at *
  have ho : ov.length < 9999 := by rw [hov.length]; omega
  have hp9 : phv.length < 9999 := by rw [hph.length]; omega
  simp only [CvAt] at H
  run_tac walk [("str.__contains__", "strin_ok")] (say := false)
  run_tac leafK "H"

theorem cv_colon_numeric {X : CvX} {rest : Nat → Tok → List (Addr × Obj)} {i : Nat} {p : Option Nat} {y : Nat} {qe : Bool} {o ph : List Str} {k : Nat} (hi : i < 9000) 
  (H : ∀ x', cstep .numeric p 58 (some y) ⟨0, qe, o, ph, k⟩ = some x' → CvAt X rest .numeric (i + 1) (some 58) x') : CvMid X rest .numeric i p 58 (some y) ⟨0, qe, o, ph, k⟩ := by
  replace H := fun s qe o ph k => H ⟨s, qe, o, ph, k⟩
  obtain ⟨w, h, R, d, os, S, o1, o2, gl, aEn, aIt, aOut, aPh, aF, aMap, aC, q, tq, k0, k1, k2, k3, k4, k5, k6, k7, k8, k9, k10, k11, k12, k13, k14, k15, c0, c1, c2, c3, c4, c5, c6, fr, ⟨aL, b1, b2, b3, b4, b5, b6⟩, D, nD⟩ := X
  intro tk tcn tst ts tp tc tn k16 k17 k18 iv lv px n n1 n2 sl1 sl2 ov phv hov hph hol hpl hs1 hs2 hpx
  simp only at *
  have ho : ov.length < 9999 := by rw [hov.length]; omega
  have hp9 : phv.length < 9999 := by rw [hph.length]; omega
  simp only [CvAt] at H
  run_tac walk [("str.__contains__", "strin_ok")] (say := false)
  run_tac leafK "H"

theorem cv_pct {X : CvX} {rest : Nat → Tok → List (Addr × Obj)} {i : Nat} {p : Option Nat} {qe : Bool} {o ph : List Str} {k : Nat} (hi : i < 9000) 
  (H : ∀ x', cstep .pyformat p 37 (some 40) ⟨0, qe, o, ph, k⟩ = some x' → CvAt X rest .pyformat (i + 1) (some 37) x') : CvMid X rest .pyformat i p 37 (some 40) ⟨0, qe, o, ph, k⟩ := by
  replace H := fun s qe o ph k => H ⟨s, qe, o, ph, k⟩
  obtain ⟨w, h, R, d, os, S, o1, o2, gl, aEn, aIt, aOut, aPh, aF, aMap, aC, q, tq, k0, k1, k2, k3, k4, k5, k6, k7, k8, k9, k10, k11, k12, k13, k14, k15, c0, c1, c2, c3, c4, c5, c6, fr, ⟨aL, b1, b2, b3, b4, b5, b6⟩, D, nD⟩ := X
  intro tk tcn tst ts tp tc tn k16 k17 k18 iv lv px n n1 n2 sl1 sl2 ov phv hov hph hol hpl hs1 hs2 hpx
  simp only at *
  have ho : ov.length < 9999 := by rw [hov.length]; omega
  have hp9 : phv.length < 9999 := by rw [hph.length]; omega
  simp only [CvAt] at H
  run_tac runJ [] (say := false)
  run_tac leafK "H"
end Mine
end

section
open PySem PySem.W PySem.W.X PyProof.Rows
namespace Mine

theorem cv_pn_alnum {X : CvX} {rest : Nat → Tok → List (Addr × Obj)} {i : Nat} {p : Option Nat} {qe : Bool} {o ph : List Str} {k : Nat} {cur : Str} {c y : Nat} (hi : i < 9000) (hcur : cur.cps.size < 9000) (hy : Unicode.isAlnum y = true)
  (H : CvAt X rest .named (i + 1) (some c) ⟨4, qe, o, ph ++ [⟨cur.cps ++ #[c]⟩], k⟩) : CvMid X rest .named i p c (some y) ⟨4, qe, o, ph ++ [cur], k⟩ := by
  obtain ⟨w, h, R, d, os, S, o1, o2, gl, aEn, aIt, aOut, aPh, aF, aMap, aC, q, tq, k0, k1, k2, k3, k4, k5, k6, k7, k8, k9, k10, k11, k12, k13, k14, k15, c0, c1, c2, c3, c4, c5, c6, fr, ⟨aL, b1, b2, b3, b4, b5, b6⟩, D, nD⟩ := X
  intro tk tcn tst ts tp tc tn k16 k17 k18 iv lv px n n1 n2 sl1 sl2 ov phv hov hph hol hpl hs1 hs2 hpx
  simp only at *
  have ho : ov.length < 9999 := by rw [hov.length]; omega
  have hp9 : phv.length < 9999 := by rw [hph.length]; omega
  simp only [CvAt] at H
  obtain ⟨us, tcur, he, hus⟩ := Strs.last hph
  have hm : us.length < 9000 := by rw [hus.length]; simp at hpl; omega
  run_tac walk [("list.__getitem__", "last_ok"), ("list.__setitem__", "set_ok"), ("str.__add__", "stradd_ok"), ("str.isalnum", "isalnum_ok (b := true)")] (say := false)
  run_tac leafK "H"

theorem cv_pn_low {X : CvX} {rest : Nat → Tok → List (Addr × Obj)} {i : Nat} {p : Option Nat} {qe : Bool} {o ph : List Str} {k : Nat} {cur : Str} {c : Nat} (hi : i < 9000) (hcur : cur.cps.size < 9000)
  (H : CvAt X rest .named (i + 1) (some c) ⟨4, qe, o, ph ++ [⟨cur.cps ++ #[c]⟩], k⟩) : CvMid X rest .named i p c (some 95) ⟨4, qe, o, ph ++ [cur], k⟩ := by
  obtain ⟨w, h, R, d, os, S, o1, o2, gl, aEn, aIt, aOut, aPh, aF, aMap, aC, q, tq, k0, k1, k2, k3, k4, k5, k6, k7, k8, k9, k10, k11, k12, k13, k14, k15, c0, c1, c2, c3, c4, c5, c6, fr, ⟨aL, b1, b2, b3, b4, b5, b6⟩, D, nD⟩ := X
  intro tk tcn tst ts tp tc tn k16 k17 k18 iv lv px n n1 n2 sl1 sl2 ov phv hov hph hol hpl hs1 hs2 hpx
  simp only at *
  have ho : ov.length < 9999 := by rw [hov.length]; omega
  have hp9 : phv.length < 9999 := by rw [hph.length]; omega
  simp only [CvAt] at H
  obtain ⟨us, tcur, he, hus⟩ := Strs.last hph
  have hm : us.length < 9000 := by rw [hus.length]; simp at hpl; omega
  have hy : Unicode.isAlnum 95 = false := by decide +kernel
  run_tac walk [("list.__getitem__", "last_ok"), ("list.__setitem__", "set_ok"), ("str.__add__", "stradd_ok"), ("str.isalnum", "isalnum_ok (b := false)")] (say := false)
  run_tac leafK "H"
end Mine
end

section
open PySem PySem.W PySem.W.X PyProof.Rows
namespace Mine

open Lean Elab Tactic Meta in
/-- the place of a statement within convert's loop -/
def placeIn (a i : Nat) (path : List (Nat × Nat)) : MetaM (Nat × Nat) := do
  let mut s := (← stmtsOf a)[i]!
  for (k, j) in path do
    let x ← whnfD s
    s := (← listOf 100 x.getAppArgs[k]!)[j]!
  placeOf s
open Lean Elab Tactic Meta in
/-- a lemma; the sides by what stands; the J's are left -/
def useW (lem : String) : TacticM Unit := do
  useS lem
  let gs ← getGoals
  let mut out := []
  for g in gs do
    if ← g.isAssigned then continue
    let ty ← g.withContext do instantiateMVars (← g.getType)
    unless ← g.withContext (Meta.isProp ty) do continue
    let isJ ← g.withContext (Meta.forallTelescope ty fun _ b => do return (← whnfR b).isAppOf ``J)
    if isJ then out := out ++ [g] else
      setGoals [g]
      try side; out := out ++ (← getUnsolvedGoals) catch _ => out := out ++ [g]
  setGoals out
open Lean Elab Tactic Meta in
def pnWalk : TacticM Unit := do
  walk [("list.__getitem__", "last_ok"), ("list.__setitem__", "set_ok"), ("str.__add__", "stradd_ok"), ("str.isalnum", "isalnum_ok (b := false)")] (say := false) (places := [← placeIn 113 14 [(2,1),(2,0),(2,0),(2,0),(2,0),(2,0),(1,0),(1,1),(1,0)]])
def pnCap (aEn aF aC : Addr) : Prop := ∀ (w : World) (h : Heap) (fr : Option (List Env)) (R : Result → Shared → Prop) (d : Drawn) (os : OsState) (S : List Addr) (o1 o2 : Obj) (rest : List (Addr × Obj)) (gl : List GenState) (tk : Nat)
  (aIt aOut aPh aMap : Addr) (st : Str) (tst : Tok) (q : Str) (tq : Tok) (qe : Bool) (ts : Tok) (pv iv lv : Value) (px : List DictEntry) (tc tn k0 k1 k2 k3 k4 k5 k6 k7 k8 k9 k10 k11 k12 k13 k14 k15 k16 k17 k18 : Tok) (c0 c1 c2 c3 c4 c5 c6 : Tok) (n n1 n2 : Nat) (ov ph us : List Value) (i : Nat) (c : Nat) (F : LF) (lf : Obj) (sl : Array (Option Value)) (cur : Str) (tcur : Tok)
  (_ : EndsIn ph us (.str cur tcur)) (_ : us.length < 9000) (_ : cur.cps.size < 9000) (_ : q.cps.size < 10000),
  J (mkV w h (AF fr) R d os) S (T2 o1 o2) (cvL aEn aIt aF aPh aOut q tq i lv (cvFr w.params (styS .named) tst q tq qe aPh aOut aMap 4 ts pv k0 k1 k2 k3 k4 k5 k6 k7 k8 k9 k10 k11 k12 k13 k14 k15 c0 c1 c2 c3 c4 c5 c6 (ent w.params "i" k16 iv :: ent w.params "c" k17 (.str ⟨#[c]⟩ tc) :: ent w.params "next_c" k18 (optV none tn) :: px) n sl) ph n2 ov n1 F lf rest)
    ⟨cvLoop aEn aF aC, none, .base, cvMid aEn aF aC, gl, tk⟩
noncomputable def pnMid (aEn aF aC : Addr) : Sem PySem.Fin := by
  run_tac capTree "pnCap aEn aF aC" pnWalk
/-- in convert's loop, where a name (named) has come to its end -/
def CvEnd (X : CvX) (rest : Nat → Tok → List (Addr × Obj)) (i : Nat) (p : Option Nat) (c : Nat) (y : Option Nat) (cur : Str) (x : CS) : Prop :=
  ∀ (tk : Nat) (tcn tst ts tp tc tn k16 k17 k18 tcur : Tok) (iv lv : Value) (px : List DictEntry) (n n1 n2 : Nat) (sl1 sl2 : Array (Option Value)) (ov ph us : List Value), Strs ov x.out → EndsIn ph us (.str cur tcur) → Strs us x.ph → x.out.length ≤ i → x.ph.length + 1 ≤ i → CvOk X.F X.aC sl1 → LfOk X.F sl2 → PxOk X.w.params px →
    J (mkV X.w X.h (AF X.fr) X.R X.d X.os) X.S (T2 X.o1 X.o2) (cvL X.aEn X.aIt X.aF X.aPh X.aOut X.q X.tq (i + 1) lv (cvFr X.w.params (styS .named) tst X.q X.tq x.qe X.aPh X.aOut X.aMap x.s ts (optV p tp) X.k0 X.k1 X.k2 X.k3 X.k4 X.k5 X.k6 X.k7 X.k8 X.k9 X.k10 X.k11 X.k12 X.k13 X.k14 X.k15 X.c0 X.c1 X.c2 X.c3 X.c4 X.c5 X.c6 (ent X.w.params "i" k16 iv :: ent X.w.params "c" k17 (.str ⟨#[c]⟩ tc) :: ent X.w.params "next_c" k18 (optV y tn) :: px) n sl1) ph n2 ov n1 X.F (frameO X.D X.nD sl2) (rest x.cnt tcn))
    ⟨cvLoop X.aEn X.aF X.aC, none, .base, pnMid X.aEn X.aF X.aC, X.gl, tk⟩

theorem cv_pn_end_none {X : CvX} {rest : Nat → Tok → List (Addr × Obj)} {i : Nat} {p : Option Nat} {qe : Bool} {o ph : List Str} {k : Nat} {cur : Str} {c : Nat} (hi : i < 9000) (hcur : cur.cps.size < 9000) 
  (H : CvEnd X rest i p c none ⟨cur.cps ++ #[c]⟩ ⟨4, qe, o, ph, k⟩) : CvMid X rest .named i p c none ⟨4, qe, o, ph ++ [cur], k⟩ := by
  obtain ⟨w, h, R, d, os, S, o1, o2, gl, aEn, aIt, aOut, aPh, aF, aMap, aC, q, tq, k0, k1, k2, k3, k4, k5, k6, k7, k8, k9, k10, k11, k12, k13, k14, k15, c0, c1, c2, c3, c4, c5, c6, fr, ⟨aL, b1, b2, b3, b4, b5, b6⟩, D, nD⟩ := X
  intro tk tcn tst ts tp tc tn k16 k17 k18 iv lv px n n1 n2 sl1 sl2 ov phv hov hph hol hpl hs1 hs2 hpx
  simp only at *
  obtain ⟨us, tcur, he, hus⟩ := Strs.last hph
  have hm : us.length < 9000 := by rw [hus.length]; simp at hpl; omega
  simp only [List.length_append, List.length_cons, List.length_nil] at hpl
  replace H := fun tk tcur n n2 ph he => H tk tcn tst ts tp tc tn k16 k17 k18 tcur iv lv px n n1 n2 sl1 sl2 ov ph us hov he hus hol hpl hs1 hs2 hpx
  clear hov hph hol hpl hs1 hs2 hpx hus
  simp only at *
  run_tac pnWalk
  run_tac useS "H"
  run_tac restS side

theorem cv_pn_end_some {X : CvX} {rest : Nat → Tok → List (Addr × Obj)} {i : Nat} {p : Option Nat} {qe : Bool} {o ph : List Str} {k : Nat} {cur : Str} {c y : Nat} (hi : i < 9000) (hcur : cur.cps.size < 9000) (hy : Unicode.isAlnum y = false) (hy2 : ¬ y = 95) 
  (H : CvEnd X rest i p c (some y) ⟨cur.cps ++ #[c]⟩ ⟨4, qe, o, ph, k⟩) : CvMid X rest .named i p c (some y) ⟨4, qe, o, ph ++ [cur], k⟩ := by
  obtain ⟨w, h, R, d, os, S, o1, o2, gl, aEn, aIt, aOut, aPh, aF, aMap, aC, q, tq, k0, k1, k2, k3, k4, k5, k6, k7, k8, k9, k10, k11, k12, k13, k14, k15, c0, c1, c2, c3, c4, c5, c6, fr, ⟨aL, b1, b2, b3, b4, b5, b6⟩, D, nD⟩ := X
  intro tk tcn tst ts tp tc tn k16 k17 k18 iv lv px n n1 n2 sl1 sl2 ov phv hov hph hol hpl hs1 hs2 hpx
  simp only at *
  obtain ⟨us, tcur, he, hus⟩ := Strs.last hph
  have hm : us.length < 9000 := by rw [hus.length]; simp at hpl; omega
  simp only [List.length_append, List.length_cons, List.length_nil] at hpl
  replace H := fun tk tcur n n2 ph he => H tk tcn tst ts tp tc tn k16 k17 k18 tcur iv lv px n n1 n2 sl1 sl2 ov ph us hov he hus hol hpl hs1 hs2 hpx
  clear hov hph hol hpl hs1 hs2 hpx hus
  simp only at *
  run_tac pnWalk
  run_tac useS "H"
  run_tac restS side

theorem dol_is (n : Nat) : (⟨#[36] ++ (digS n).cps⟩ : Str) = dolS n := rfl
theorem cv_end {X : CvX} {rest : Nat → Tok → List (Addr × Obj)} {i : Nat} {p : Option Nat} {qe : Bool} {o ph : List Str} {k : Nat} {cur : Str} {c : Nat} {y : Option Nat} (hi : i < 9000) (hp8 : ph.length < 9) (hnm : cur = nmA ∨ cur = nmB ∨ cur = nmD ∨ cur = nmK)
  (hfr : X.fr = some [cvEnv X.aF X.aC, lawEnv X.F])
  (H1 : ∀ j, whereIs cur ph = some j → CvAt X rest .named (i + 1) (some c) ⟨0, qe, o ++ [dolS (j + 1)], ph, k⟩)
  (H2 : whereIs cur ph = none → CvAt X rest .named (i + 1) (some c) ⟨0, qe, o ++ [dolS (ph.length + 1)], ph ++ [cur], k⟩) : CvEnd X rest i p c y cur ⟨4, qe, o, ph, k⟩ := by
  obtain ⟨w, h, R, d, os, S, o1, o2, gl, aEn, aIt, aOut, aPh, aF, aMap, aC, q, tq, k0, k1, k2, k3, k4, k5, k6, k7, k8, k9, k10, k11, k12, k13, k14, k15, c0, c1, c2, c3, c4, c5, c6, fr, ⟨aL, b1, b2, b3, b4, b5, b6⟩, D, nD⟩ := X
  intro tk tcn tst ts tp tc tn k16 k17 k18 tcur iv lv px n n1 n2 sl1 sl2 ov phv us hov he hus hol hpl hs1 hs2 hpx
  simp only at *
  subst hfr
  have ho : ov.length < 9999 := by rw [hov.length]; omega
  have hu8 : us.length < 9 := by rw [hus.length]; exact hp8
  have hm : us.length < 9000 := by omega
  have hl8 := hus.length
  have hphl := he.len
  simp only [CvAt] at H1 H2
  run_tac walk [("list.__getitem__", "last_ok"), ("list.__getitem__", "slice_ok"), ("list.index", "stop")] (say := false)
  run_tac useW "index_ok"
  case H1 =>
    intro j hj hjl tk' t'
    replace H1 := H1 j hj
    clear H2
    rcases hpx with rfl | ⟨kp, vp, rfl⟩
    all_goals
      run_tac walk [("int.__repr__", "intrepr_ok"), ("list.__delitem__", "del_ok"), ("str.__add__", "stradd_ok")] (say := false)
      run_tac leafK "H1"
  case H2 =>
    intro hnone tk' e b to
    replace H2 := H2 hnone
    clear H1
    rcases hs1 with rfl | rfl <;> rcases hs2 with rfl | ⟨v2, rfl⟩
    all_goals
      run_tac walk [("int.__repr__", "intrepr_ok"), ("list.__delitem__", "del_ok"), ("str.__add__", "stradd_ok")] (say := false)
      run_tac leafK "H2"
end Mine
end

section
open PySem PySem.W PySem.W.X PyProof.Rows
namespace Mine

/-- what the parameters' counter is made of -/
structure ML where
  (aTup aCnt aD aLam aCode : Addr) (ts : Tok) (lc : LC)
noncomputable def cvRest (aMap : Addr) (m : ML) (r0 : List (Addr × Obj)) : Nat → Tok → List (Addr × Obj) := fun n tn =>
  (aMap, mapO m.aTup m.aLam) :: (m.aTup, tup1O m.aCnt) :: (m.aCnt, cntO m.aD n tn m.ts) :: (m.aLam, lamO m.aCode) :: (m.aCode, lamCO m.lc) :: r0
theorem Strs.dol {vs : List Value} {ss : List Str} {t : Tok} {n : Nat} (h : Strs vs ss) : Strs (vs ++ [.str (dolS n) t]) (ss ++ [dolS n]) := h.snoc

theorem cv_py_par1 {X : CvX} {rest : Nat → Tok → List (Addr × Obj)} {i : Nat} {y : Option Nat} {qe : Bool} {o ph : List Str} {k : Nat} {cur : Str} (hi : i < 9000) 
  (H : CvAt X rest .pyformat (i + 1) (some 40) ⟨4, qe, o, ph ++ [cur], k⟩) : CvMid X rest .pyformat i (some 37) 40 y ⟨4, qe, o, ph ++ [cur], k⟩ := by
  obtain ⟨w, h, R, d, os, S, o1, o2, gl, aEn, aIt, aOut, aPh, aF, aMap, aC, q, tq, k0, k1, k2, k3, k4, k5, k6, k7, k8, k9, k10, k11, k12, k13, k14, k15, c0, c1, c2, c3, c4, c5, c6, fr, ⟨aL, b1, b2, b3, b4, b5, b6⟩, D, nD⟩ := X
  intro tk tcn tst ts tp tc tn k16 k17 k18 iv lv px n n1 n2 sl1 sl2 ov phv hov hph hol hpl hs1 hs2 hpx
  simp only at *
  have ho : ov.length < 9999 := by rw [hov.length]; omega
  have hp9 : phv.length < 9999 := by rw [hph.length]; omega
  simp only [CvAt] at H
  run_tac walk [("str.__contains__", "strin2_ok")] (say := false)
  run_tac leafK "H"

theorem cv_py_par2 {X : CvX} {rest : Nat → Tok → List (Addr × Obj)} {i : Nat} {p : Nat} {y : Option Nat} {qe : Bool} {o ph : List Str} {k : Nat} {cur : Str} (hi : i < 9000) (hp : ¬ p = 41)
  (H : CvAt X rest .pyformat (i + 1) (some 41) ⟨4, qe, o, ph ++ [cur], k⟩) : CvMid X rest .pyformat i (some p) 41 y ⟨4, qe, o, ph ++ [cur], k⟩ := by
  obtain ⟨w, h, R, d, os, S, o1, o2, gl, aEn, aIt, aOut, aPh, aF, aMap, aC, q, tq, k0, k1, k2, k3, k4, k5, k6, k7, k8, k9, k10, k11, k12, k13, k14, k15, c0, c1, c2, c3, c4, c5, c6, fr, ⟨aL, b1, b2, b3, b4, b5, b6⟩, D, nD⟩ := X
  intro tk tcn tst ts tp tc tn k16 k17 k18 iv lv px n n1 n2 sl1 sl2 ov phv hov hph hol hpl hs1 hs2 hpx
  simp only at *
  have ho : ov.length < 9999 := by rw [hov.length]; omega
  have hp9 : phv.length < 9999 := by rw [hph.length]; omega
  simp only [CvAt] at H
  run_tac walk [("str.__contains__", "strin2_ok")] (say := false)
  run_tac leafK "H"

theorem cv_py_let {X : CvX} {rest : Nat → Tok → List (Addr × Obj)} {i : Nat} {p : Nat} {y : Option Nat} {qe : Bool} {o ph : List Str} {k : Nat} {cur : Str} {c : Nat} (hi : i < 9000) (hcur : cur.cps.size < 9000) (hp : ¬ p = 41) (h40 : ¬ c = 40) (h41 : ¬ c = 41)
  (H : CvAt X rest .pyformat (i + 1) (some c) ⟨4, qe, o, ph ++ [⟨cur.cps ++ #[c]⟩], k⟩) : CvMid X rest .pyformat i (some p) c y ⟨4, qe, o, ph ++ [cur], k⟩ := by
  obtain ⟨w, h, R, d, os, S, o1, o2, gl, aEn, aIt, aOut, aPh, aF, aMap, aC, q, tq, k0, k1, k2, k3, k4, k5, k6, k7, k8, k9, k10, k11, k12, k13, k14, k15, c0, c1, c2, c3, c4, c5, c6, fr, ⟨aL, b1, b2, b3, b4, b5, b6⟩, D, nD⟩ := X
  intro tk tcn tst ts tp tc tn k16 k17 k18 iv lv px n n1 n2 sl1 sl2 ov phv hov hph hol hpl hs1 hs2 hpx
  simp only at *
  have ho : ov.length < 9999 := by rw [hov.length]; omega
  have hp9 : phv.length < 9999 := by rw [hph.length]; omega
  simp only [CvAt] at H
  obtain ⟨us, tcur, he, hus⟩ := Strs.last hph
  have hm : us.length < 9000 := by rw [hus.length]; simp at hpl; omega
  run_tac walk [("str.__contains__", "strin2_ok"), ("list.__getitem__", "last_ok"), ("list.__setitem__", "set_ok"), ("str.__add__", "stradd_ok")] (say := false)
  run_tac leafK "H"

theorem cv_fmt_s {X : CvX} {rest : Nat → Tok → List (Addr × Obj)} {i : Nat} {p : Option Nat} {qe : Bool} {o ph : List Str} {k : Nat} {y : Option Nat} {c : Nat} (hi : i < 9000) 
  (H : CvAt X rest .format (i + 1) (some c) ⟨0, qe, o, ph, k⟩) : CvMid X rest .format i p c y ⟨4, qe, o, ph, k⟩ := by
  obtain ⟨w, h, R, d, os, S, o1, o2, gl, aEn, aIt, aOut, aPh, aF, aMap, aC, q, tq, k0, k1, k2, k3, k4, k5, k6, k7, k8, k9, k10, k11, k12, k13, k14, k15, c0, c1, c2, c3, c4, c5, c6, fr, ⟨aL, b1, b2, b3, b4, b5, b6⟩, D, nD⟩ := X
  intro tk tcn tst ts tp tc tn k16 k17 k18 iv lv px n n1 n2 sl1 sl2 ov phv hov hph hol hpl hs1 hs2 hpx
  simp only at *
  have ho : ov.length < 9999 := by rw [hov.length]; omega
  have hp9 : phv.length < 9999 := by rw [hph.length]; omega
  simp only [CvAt] at H
  run_tac runJ [] (say := false)
  run_tac leafK "H"

theorem cv_qm {X : CvX} {i : Nat} {p y : Option Nat} {qe : Bool} {o ph : List Str} {k : Nat} {m : ML} {r0 : List (Addr × Obj)} (hi : i < 9000) (hk : k < 10)
  (H : CvAt X (cvRest X.aMap m r0) .qmark (i + 1) (some 63) ⟨0, qe, o ++ [dolS k], ph, k + 1⟩) : CvMid X (cvRest X.aMap m r0) .qmark i p 63 y ⟨0, qe, o, ph, k⟩ := by
  obtain ⟨w, h, R, d, os, S, o1, o2, gl, aEn, aIt, aOut, aPh, aF, aMap, aC, q, tq, k0, k1, k2, k3, k4, k5, k6, k7, k8, k9, k10, k11, k12, k13, k14, k15, c0, c1, c2, c3, c4, c5, c6, fr, ⟨aL, b1, b2, b3, b4, b5, b6⟩, D, nD⟩ := X
  intro tk tcn tst ts tp tc tn k16 k17 k18 iv lv px n n1 n2 sl1 sl2 ov phv hov hph hol hpl hs1 hs2 hpx
  simp only at *
  have ho : ov.length < 9999 := by rw [hov.length]; omega
  have hp9 : phv.length < 9999 := by rw [hph.length]; omega
  simp only [CvAt] at H
  obtain ⟨aTup, aCnt, aD, aLam, aCode, ts8, lc⟩ := m
  run_tac walk [("map.__next__", "mapnext_ok")] (say := false)
  run_tac leafK "H"

theorem cv_fm {X : CvX} {i : Nat} {p y : Option Nat} {qe : Bool} {o ph : List Str} {k : Nat} {m : ML} {r0 : List (Addr × Obj)} (hi : i < 9000) (hk : k < 10)
  (H : CvAt X (cvRest X.aMap m r0) .format (i + 1) (some 37) ⟨4, qe, o ++ [dolS k], ph, k + 1⟩) : CvMid X (cvRest X.aMap m r0) .format i p 37 (some 115) ⟨0, qe, o, ph, k⟩ := by
  obtain ⟨w, h, R, d, os, S, o1, o2, gl, aEn, aIt, aOut, aPh, aF, aMap, aC, q, tq, k0, k1, k2, k3, k4, k5, k6, k7, k8, k9, k10, k11, k12, k13, k14, k15, c0, c1, c2, c3, c4, c5, c6, fr, ⟨aL, b1, b2, b3, b4, b5, b6⟩, D, nD⟩ := X
  intro tk tcn tst ts tp tc tn k16 k17 k18 iv lv px n n1 n2 sl1 sl2 ov phv hov hph hol hpl hs1 hs2 hpx
  simp only at *
  have ho : ov.length < 9999 := by rw [hov.length]; omega
  have hp9 : phv.length < 9999 := by rw [hph.length]; omega
  simp only [CvAt] at H
  obtain ⟨aTup, aCnt, aD, aLam, aCode, ts8, lc⟩ := m
  run_tac walk [("map.__next__", "mapnext_ok")] (say := false)
  run_tac leafK "H"

theorem cv_py_end {X : CvX} {rest : Nat → Tok → List (Addr × Obj)} {i : Nat} {qe : Bool} {o ph : List Str} {k : Nat} {cur : Str} {y : Option Nat} (hi : i < 9000) (hp8 : ph.length < 9) (hnm : cur = nmA ∨ cur = nmB ∨ cur = nmD ∨ cur = nmK)
  (hfr : X.fr = some [cvEnv X.aF X.aC, lawEnv X.F])
  (H1 : ∀ j, whereIs cur ph = some j → CvAt X rest .pyformat (i + 1) (some 115) ⟨0, qe, o ++ [dolS (j + 1)], ph, k⟩)
  (H2 : whereIs cur ph = none → CvAt X rest .pyformat (i + 1) (some 115) ⟨0, qe, o ++ [dolS (ph.length + 1)], ph ++ [cur], k⟩) : CvMid X rest .pyformat i (some 41) 115 y ⟨4, qe, o, ph ++ [cur], k⟩ := by
  obtain ⟨w, h, R, d, os, S, o1, o2, gl, aEn, aIt, aOut, aPh, aF, aMap, aC, q, tq, k0, k1, k2, k3, k4, k5, k6, k7, k8, k9, k10, k11, k12, k13, k14, k15, c0, c1, c2, c3, c4, c5, c6, fr, ⟨aL, b1, b2, b3, b4, b5, b6⟩, D, nD⟩ := X
  intro tk tcn tst ts tp tc tn k16 k17 k18 iv lv px n n1 n2 sl1 sl2 ov phv hov hph hol hpl hs1 hs2 hpx
  simp only at *
  obtain ⟨us, tcur, he, hus⟩ := Strs.last hph
  clear hph
  simp only [List.length_append, List.length_cons, List.length_nil] at hpl
  subst hfr
  have ho : ov.length < 9999 := by rw [hov.length]; omega
  have hu8 : us.length < 9 := by rw [hus.length]; exact hp8
  have hm : us.length < 9000 := by omega
  have hl8 := hus.length
  have hphl := he.len
  simp only [CvAt] at H1 H2
  run_tac walk [("list.__getitem__", "last_ok"), ("list.__getitem__", "slice_ok"), ("list.index", "stop")] (say := false)
  run_tac useW "index_ok"
  case H1 =>
    intro j hj hjl tk' t'
    replace H1 := H1 j hj
    clear H2
    rcases hpx with rfl | ⟨kp, vp, rfl⟩
    all_goals
      run_tac walk [("int.__repr__", "intrepr_ok"), ("list.__delitem__", "del_ok"), ("str.__add__", "stradd_ok")] (say := false)
      run_tac leafK "H1"
  case H2 =>
    intro hnone tk' e b to
    replace H2 := H2 hnone
    clear H1
    rcases hs1 with rfl | rfl <;> rcases hs2 with rfl | ⟨v2, rfl⟩
    all_goals
      run_tac walk [("int.__repr__", "intrepr_ok"), ("list.__delitem__", "del_ok"), ("str.__add__", "stradd_ok")] (say := false)
      run_tac leafK "H2"
end Mine
end

section
open PySem PySem.W PySem.W.X PyProof.Rows
namespace Mine

theorem cend_some {cur : Str} {qe : Bool} {o ph : List Str} {k : Nat} {x' : CS} (h : cend cur qe o ph k = some x') : ph.length < 9 ∧ (cur = nmA ∨ cur = nmB ∨ cur = nmD ∨ cur = nmK) ∧
    (∀ j, whereIs cur ph = some j → x' = ⟨0, qe, o ++ [dolS (j + 1)], ph, k⟩) ∧ (whereIs cur ph = none → x' = ⟨0, qe, o ++ [dolS (ph.length + 1)], ph ++ [cur], k⟩) := by
  unfold cend at h
  split at h
  · rename_i hc
    refine ⟨hc.1, hc.2, fun j hj => ?_, fun hn => ?_⟩
    · rw [hj] at h
      exact (Option.some.inj h).symm
    · rw [hn] at h
      exact (Option.some.inj h).symm
  · cases h
theorem split_last {α : Type} {l : List α} {a : α} (h : l.getLast? = some a) : l = l.dropLast ++ [a] := by
  obtain ⟨ys, e⟩ := List.getLast?_eq_some_iff.mp h
  rw [e, List.dropLast_concat]
theorem cv_mid {X : CvX} {m : ML} {r0 : List (Addr × Obj)} {sty : Sty} {i : Nat} {p : Option Nat} {c : Nat} {y : Option Nat} {x x' : CS} (hi : i < 9000) (hfr : X.fr = some [cvEnv X.aF X.aC, lawEnv X.F] ∨ (sty = .qmark ∨ sty = .format ∨ sty = .numeric))
    (hs : cstep sty p c y x = some x') (H : CvAt X (cvRest X.aMap m r0) sty (i + 1) (some c) x') : CvMid X (cvRest X.aMap m r0) sty i p c y x := by
  obtain ⟨s, qe, o, ph, k⟩ := x
  have K : ∀ x'', cstep sty p c y ⟨s, qe, o, ph, k⟩ = some x'' → CvAt X (cvRest X.aMap m r0) sty (i + 1) (some c) x'' := fun x'' h => by
    rw [hs] at h
    cases h
    exact H
  by_cases s0 : s = 0
  · subst s0
    by_cases h39 : c = 39
    · subst h39; exact cv_o39 hi K
    by_cases h34 : c = 34
    · subst h34; exact cv_o34 hi K
    by_cases h45 : c = 45
    · subst h45; exact cv_o45 hi K
    by_cases h36 : c = 36
    · subst h36; exact cv_o36 hi K
    have hs' : cfree sty p c y qe o ph k = some x' := by simpa [cstep, h39, h34, h45, h36] using hs
    cases sty with
    | named =>
      by_cases h58 : c = 58
      · subst h58
        cases y with
        | none => simp [cfree] at hs'
        | some y => exact cv_colon_named hi K
      · exact cv_plain_named hi h39 h34 h45 h36 h58 K
    | numeric =>
      by_cases h58 : c = 58
      · subst h58
        cases y with
        | none => simp [cfree] at hs'
        | some y => exact cv_colon_numeric hi K
      · exact cv_plain_numeric hi h39 h34 h45 h36 h58 K
    | pyformat =>
      by_cases h37 : c = 37
      · subst h37
        by_cases hy : y = some 40
        · subst hy; exact cv_pct hi K
        · simp [cfree, hy] at hs'
      · exact cv_plain_pyformat hi h39 h34 h45 h36 h37 K
    | qmark =>
      by_cases h63 : c = 63
      · subst h63
        by_cases hk : k < 10
        · simp only [cfree, if_pos hk, if_true, Option.some.injEq] at hs'
          subst hs'
          exact cv_qm hi hk H
        · simp [cfree, hk] at hs'
      · exact cv_plain_qmark hi h39 h34 h45 h36 h63 K
    | format =>
      by_cases h37 : c = 37
      · subst h37
        by_cases hy : y = some 115
        · subst hy
          by_cases hk : k < 10
          · simp only [cfree, if_pos hk, if_true, Option.some.injEq] at hs'
            subst hs'
            exact cv_fm (y := none) hi hk H
          · simp [cfree, hk] at hs'
        · simp [cfree, hy] at hs'
      · exact cv_plain_format hi h39 h34 h45 h36 h37 K
  by_cases s1 : s = 1
  · subst s1; exact cv_SQ hi K
  by_cases s2 : s = 2
  · subst s2; exact cv_QI hi K
  by_cases s3 : s = 3
  · subst s3; exact cv_ES hi K
  by_cases s5 : s = 5
  · subst s5; exact cv_CO hi K
  by_cases s6 : s = 6
  · subst s6; exact cv_DQ hi K
  by_cases s4 : s = 4
  · subst s4
    cases sty with
    | format =>
      have e : x' = ⟨0, qe, o, ph, k⟩ := by simpa [cstep] using hs.symm
      subst e
      exact cv_fmt_s hi H
    | qmark =>
      cases hl : ph.getLast? <;> simp [cstep, cpn, hl] at hs
    | numeric =>
      cases hl : ph.getLast? <;> simp [cstep, cpn, hl] at hs
    | named =>
      have hfr := hfr.resolve_right (by simp)
      cases hl : ph.getLast? with
      | none => simp [cstep, hl] at hs
      | some cur =>
        have e := split_last hl
        have hs' : cpn .named p c y cur qe o ph.dropLast k = some x' := by simpa [cstep, hl] using hs
        clear hs K
        generalize ph.dropLast = ph0 at *
        subst e
        by_cases hcur : cur.cps.size < 9000
        · simp only [cpn, if_pos hcur] at hs'
          cases y with
          | none =>
            obtain ⟨a1, a2, a3, a4⟩ := cend_some hs'
            exact cv_pn_end_none hi hcur (cv_end hi a1 a2 hfr (fun j hj => a3 j hj ▸ H) (fun hn => a4 hn ▸ H))
          | some y =>
            by_cases ha : Unicode.isAlnum y = true
            · simp only [if_pos (Or.inl ha : Unicode.isAlnum y = true ∨ y = 95), Option.some.injEq] at hs'
              subst hs'
              exact cv_pn_alnum hi hcur ha H
            · by_cases h95 : y = 95
              · subst h95
                simp only [or_true, if_true, Option.some.injEq] at hs'
                subst hs'
                exact cv_pn_low hi hcur H
              · have : ¬ (Unicode.isAlnum y = true ∨ y = 95) := fun q => q.elim ha h95
                simp only [if_neg this] at hs'
                obtain ⟨a1, a2, a3, a4⟩ := cend_some hs'
                exact cv_pn_end_some hi hcur (by simpa using ha) h95 (cv_end hi a1 a2 hfr (fun j hj => a3 j hj ▸ H) (fun hn => a4 hn ▸ H))
        · simp [cpn, hcur] at hs'
    | pyformat =>
      have hfr := hfr.resolve_right (by simp)
      cases hl : ph.getLast? with
      | none => simp [cstep, hl] at hs
      | some cur =>
        have e := split_last hl
        have hs' : cpn .pyformat p c y cur qe o ph.dropLast k = some x' := by simpa [cstep, hl] using hs
        clear hs K
        generalize ph.dropLast = ph0 at *
        subst e
        by_cases hcur : cur.cps.size < 9000
        · simp only [cpn, if_pos hcur] at hs'
          cases p with
          | none => simp at hs'
          | some p =>
            simp only at hs'
            by_cases h41 : p = 41
            · subst h41
              by_cases h115 : c = 115
              · subst h115
                simp only [if_true] at hs'
                obtain ⟨a1, a2, a3, a4⟩ := cend_some hs'
                exact cv_py_end hi a1 a2 hfr (fun j hj => a3 j hj ▸ H) (fun hn => a4 hn ▸ H)
              · simp [h115] at hs'
            · simp only [if_neg h41] at hs'
              by_cases c40 : c = 40
              · subst c40
                by_cases p37 : p = 37
                · subst p37
                  simp only [if_true, Option.some.injEq] at hs'
                  subst hs'
                  exact cv_py_par1 hi H
                · simp [p37] at hs'
              · simp only [if_neg c40] at hs'
                by_cases c41 : c = 41
                · subst c41
                  simp only [if_true, Option.some.injEq] at hs'
                  subst hs'
                  exact cv_py_par2 hi h41 H
                · simp only [if_neg c41, Option.some.injEq] at hs'
                  subst hs'
                  exact cv_py_let hi hcur h41 c40 c41 H
        · simp [cpn, hcur] at hs'
  · simp [cstep, s0, s1, s2, s3, s4, s5, s6] at hs
def crun (sty : Sty) : Option Nat → List Nat → CS → Option (Option Nat × CS)
  | p, [], x => some (p, x)
  | p, c :: r, x => match cstep sty p c r.head? x with
    | none => none
    | some x' => crun sty (some c) r x'
theorem head_get {α : Type} {pre r : List α} {c : α} : (pre ++ c :: r)[pre.length]? = some c ∧ (pre ++ c :: r)[pre.length + 1]? = r.head? := by
  constructor
  · simp
  · rw [List.getElem?_append_right (by omega)]
    have : pre.length + 1 - pre.length = 1 := by omega
    rw [this]
    simp [List.head?_eq_getElem?]
theorem cv_loop {X : CvX} {m : ML} {r0 : List (Addr × Obj)} {sty : Sty} (hq : X.q.cps.size < 9000) (hfr : X.fr = some [cvEnv X.aF X.aC, lawEnv X.F] ∨ (sty = .qmark ∨ sty = .format ∨ sty = .numeric)) :
    ∀ (l pre : List Nat) (p : Option Nat) (x : CS) (p' : Option Nat) (x' : CS), X.q.cps.toList = pre ++ l → crun sty p l x = some (p', x') → CvAt X (cvRest X.aMap m r0) sty X.q.cps.size p' x' → CvAt X (cvRest X.aMap m r0) sty pre.length p x
  | [], pre, p, x, p', x', e, h, H => by
    cases h
    have : X.q.cps.size = pre.length := by rw [← Array.length_toList, e]; simp
    rw [← this]
    exact H
  | c :: r, pre, p, x, p', x', e, h, H => by
    unfold crun at h
    split at h
    · cases h
    · rename_i x1 hs
      have hz : X.q.cps.size = pre.length + (r.length + 1) := by rw [← Array.length_toList, e]; simp
      have z := cv_loop hq hfr r (pre ++ [c]) (some c) x1 p' x' (by rw [e]; simp) h H
      have el : (pre ++ [c]).length = pre.length + 1 := by simp
      rw [el] at z
      obtain ⟨g1, g2⟩ := head_get (pre := pre) (r := r) (c := c)
      rw [← e] at g1 g2
      exact cv_head (by simpa using g1) (by simpa using g2) (by omega) (cv_mid (by omega) hfr hs z)
/-- the whole loop, of a text that is not empty -/
theorem cv_all {X : CvX} {m : ML} {r0 : List (Addr × Obj)} {sty : Sty} {k : Nat} {p' : Option Nat} {x' : CS} (hq : X.q.cps.size < 9000) (hfr : X.fr = some [cvEnv X.aF X.aC, lawEnv X.F] ∨ (sty = .qmark ∨ sty = .format ∨ sty = .numeric))
    {c : Nat} {l : List Nat} (e : X.q.cps.toList = c :: l) (h : crun sty none (c :: l) ⟨0, false, [], [], k⟩ = some (p', x')) (H : CvAt X (cvRest X.aMap m r0) sty X.q.cps.size p' x') : CvStart X (cvRest X.aMap m r0) sty k := by
  unfold crun at h
  split at h
  · cases h
  · rename_i x1 hs
    have z := cv_loop hq hfr l [c] (some c) x1 p' x' (by rw [e]; rfl) h H
    obtain ⟨g1, g2⟩ := head_get (pre := []) (r := l) (c := c)
    rw [List.nil_append, ← e] at g1 g2
    exact cv_head0 (by simpa using g1) (by simpa using g2) (by omega) (cv_mid (by omega) hfr hs z)
end Mine
end

section
open PySem PySem.W PySem.W.X PyProof.Rows
namespace Mine

section
variable {w : World} {h : Heap} {R : Result → Shared → Prop} {d : Drawn} {os : OsState} {S : List Addr} {o1 o2 : Obj} {gl : List GenState}
  {aEn aIt aOut aPh aF aMap aC : Addr} {q : Str} {tq : Tok} {k0 k1 k2 k3 k4 k5 k6 k7 k8 k9 k10 k11 k12 k13 k14 k15 c0 c1 c2 c3 c4 c5 c6 : Tok} {fr : Option (List Env)} {F : LF} {D : List DictEntry} {nD : Nat}
/-- the ledger behind convert's loop -/
def cvOut (aF aPh aOut : Addr) (fr : Obj) (ph : List Value) (n2 : Nat) (ov : List Value) (n1 : Nat) (F : LF) (lf : Obj) (rest : List (Addr × Obj)) : List (Addr × Obj) :=
  (aF, fr) :: (aPh, listO ph n2) :: (aOut, listO ov n1) :: (F.a, lf) :: rest
theorem cv_exit {rest : Nat → Tok → List (Addr × Obj)} {sty : Sty} {p : Option Nat} {s : Int} {qe : Bool} {o ph : List Str} {k : Nat} (hq : q.cps.size < 9000)
  (H : ∀ (cc : Code) (tk : Nat) (tcn tst ts tp k16 k17 k18 : Tok) (iv cv nv : Value) (px : List DictEntry) (n n1 n2 : Nat) (sl1 sl2 : Array (Option Value)) (ov phv : List Value), Strs ov o → Strs phv ph → o.length ≤ q.cps.size → ph.length ≤ q.cps.size → CvOk F aC sl1 → LfOk F sl2 → PxOk w.params px →
    J (mkV w h (AF fr) R d os) S (T2 o1 o2) (cvOut aF aPh aOut (cvFr w.params (styS sty) tst q tq qe aPh aOut aMap s ts (optV p tp) k0 k1 k2 k3 k4 k5 k6 k7 k8 k9 k10 k11 k12 k13 k14 k15 c0 c1 c2 c3 c4 c5 c6 (ent w.params "i" k16 iv :: ent w.params "c" k17 cv :: ent w.params "next_c" k18 nv :: px) n sl1) phv n2 ov n1 F (frameO D nD sl2) (rest k tcn))
    ⟨cc, none, .base, leafOf' (.ok .next), gl, tk⟩) : CvAt ⟨w, h, R, d, os, S, o1, o2, gl, aEn, aIt, aOut, aPh, aF, aMap, aC, q, tq, k0, k1, k2, k3, k4, k5, k6, k7, k8, k9, k10, k11, k12, k13, k14, k15, c0, c1, c2, c3, c4, c5, c6, fr, F, D, nD⟩ rest sty q.cps.size p ⟨s, qe, o, ph, k⟩ := by
  intro tk tcn tst ts tp k16 k17 k18 iv cv nv lv px n n1 n2 sl1 sl2 ov phv hov hph hol hpl hs1 hs2 hpx
  try simp only at *
  replace H := fun cc tk => H cc tk tcn tst ts tp k16 k17 k18 iv cv nv px n n1 n2 sl1 sl2 ov phv hov hph hol hpl hs1 hs2 hpx
  clear hov hph hol hpl hs1 hs2 hpx
  obtain ⟨aL, b1, b2, b3, b4, b5, b6⟩ := F
  try simp only at *
  obtain ⟨N, hN⟩ : ∃ N, N = q.cps.size := ⟨_, rfl⟩
  rw [← hN]
  have hN2 : q.length ≤ N := by rw [hN]; exact Nat.le_refl _
  have hN3 : q.cps[N]? = none := by rw [hN]; simp
  generalize optV p tp = pv at *
  generalize styS sty = st at *
  run_tac runJ [] (say := false)
  run_tac useS "H"
/-- the loop upon an empty text -/
theorem cv_exit0 {rest : Nat → Tok → List (Addr × Obj)} {sty : Sty} {k : Nat} (hq : q.cps.size = 0)
  (H : ∀ (cc : Code) (tk : Nat) (tcn tst ts : Tok) (n n1 n2 : Nat) (sl1 sl2 : Array (Option Value)), CvOk F aC sl1 → LfOk F sl2 →
    J (mkV w h (AF fr) R d os) S (T2 o1 o2) (cvOut aF aPh aOut (cvFr w.params (styS sty) tst q tq false aPh aOut aMap 0 ts .none k0 k1 k2 k3 k4 k5 k6 k7 k8 k9 k10 k11 k12 k13 k14 k15 c0 c1 c2 c3 c4 c5 c6 [] n sl1) [] n2 [] n1 F (frameO D nD sl2) (rest k tcn))
    ⟨cc, none, .base, leafOf' (.ok .next), gl, tk⟩) : CvStart ⟨w, h, R, d, os, S, o1, o2, gl, aEn, aIt, aOut, aPh, aF, aMap, aC, q, tq, k0, k1, k2, k3, k4, k5, k6, k7, k8, k9, k10, k11, k12, k13, k14, k15, c0, c1, c2, c3, c4, c5, c6, fr, F, D, nD⟩ rest sty k := by
  intro tk tcn tst ts n n1 n2 sl1 sl2 ov ph hov hph hs1 hs2
  subst hov hph
  try simp only at *
  replace H := fun cc tk => H cc tk tcn tst ts n n1 n2 sl1 sl2 hs1 hs2
  clear hs1 hs2
  obtain ⟨aL, b1, b2, b3, b4, b5, b6⟩ := F
  try simp only at *
  have hN2 : q.length ≤ 0 := by show q.cps.size ≤ 0; omega
  have hN3 : q.cps[0]? = none := by simp [hq]
  generalize styS sty = st at *
  run_tac runJ [] (say := false)
  run_tac useS "H"
end
/-- what stands in convert's frame behind prev_c -/
noncomputable def ROk (P : Params) (r : List DictEntry) : Prop := r = [] ∨ (∃ k16 k17 k18 iv cv nv, r = [ent P "i" k16 iv, ent P "c" k17 cv, ent P "next_c" k18 nv]) ∨ ∃ k16 k17 k18 k19 iv cv nv pv, r = [ent P "i" k16 iv, ent P "c" k17 cv, ent P "next_c" k18 nv, ent P "pidx" k19 pv]
/-- behind convert's loop -/
def CvPost (X : CvX) (rest : Nat → Tok → List (Addr × Obj)) (sty : Sty) (x : CS) : Prop :=
  ∀ (cc : Code) (tk : Nat) (tcn tst ts : Tok) (pv : Value) (n n1 n2 : Nat) (sl1 sl2 : Array (Option Value)) (ov ph : List Value) (r : List DictEntry), Strs ov x.out → Strs ph x.ph → x.out.length ≤ X.q.cps.size → x.ph.length ≤ X.q.cps.size → CvOk X.F X.aC sl1 → LfOk X.F sl2 → ROk X.w.params r →
    J (mkV X.w X.h (AF X.fr) X.R X.d X.os) X.S (T2 X.o1 X.o2) (cvOut X.aF X.aPh X.aOut (cvFr X.w.params (styS sty) tst X.q X.tq x.qe X.aPh X.aOut X.aMap x.s ts pv X.k0 X.k1 X.k2 X.k3 X.k4 X.k5 X.k6 X.k7 X.k8 X.k9 X.k10 X.k11 X.k12 X.k13 X.k14 X.k15 X.c0 X.c1 X.c2 X.c3 X.c4 X.c5 X.c6 r n sl1) ph n2 ov n1 X.F (frameO X.D X.nD sl2) (rest x.cnt tcn))
      ⟨cc, none, .base, leafOf' (.ok .next), X.gl, tk⟩
theorem cv_whole {X : CvX} {m : ML} {r0 : List (Addr × Obj)} {sty : Sty} {kk : Nat} {p' : Option Nat} {x' : CS} (hq : X.q.cps.size < 9000) (hfr : X.fr = some [cvEnv X.aF X.aC, lawEnv X.F] ∨ (sty = .qmark ∨ sty = .format ∨ sty = .numeric))
    (h : crun sty none X.q.cps.toList ⟨0, false, [], [], kk⟩ = some (p', x')) (H : CvPost X (cvRest X.aMap m r0) sty x') : CvStart X (cvRest X.aMap m r0) sty kk := by
  cases e : X.q.cps.toList with
  | nil =>
    rw [e] at h
    cases h
    obtain ⟨w, h, R, d, os, S, o1, o2, gl, aEn, aIt, aOut, aPh, aF, aMap, aC, q, tq, k0, k1, k2, k3, k4, k5, k6, k7, k8, k9, k10, k11, k12, k13, k14, k15, c0, c1, c2, c3, c4, c5, c6, fr, F, D, nD⟩ := X
    refine cv_exit0 (by simpa using congrArg List.length e) ?_
    intro cc tk tcn tst ts n n1 n2 sl1 sl2 hs1 hs2
    exact H cc tk tcn tst ts .none n n1 n2 sl1 sl2 [] [] [] .nil .nil (Nat.zero_le _) (Nat.zero_le _) hs1 hs2 (.inl rfl)
  | cons c l =>
    rw [e] at h
    refine cv_all hq hfr e h ?_
    obtain ⟨w, h, R, d, os, S, o1, o2, gl, aEn, aIt, aOut, aPh, aF, aMap, aC, q, tq, k0, k1, k2, k3, k4, k5, k6, k7, k8, k9, k10, k11, k12, k13, k14, k15, c0, c1, c2, c3, c4, c5, c6, fr, F, D, nD⟩ := X
    obtain ⟨s, qe, o, ph, k⟩ := x'
    refine cv_exit hq ?_
    intro cc tk tcn tst ts tp k16 k17 k18 iv cv nv px n n1 n2 sl1 sl2 ov phv hov hph hol hpl hs1 hs2 hpx
    refine H cc tk tcn tst ts (optV p' tp) n n1 n2 sl1 sl2 ov phv _ hov hph hol hpl hs1 hs2 ?_
    rcases hpx with rfl | ⟨k, v, rfl⟩
    · exact .inr (.inl ⟨_, _, _, _, _, _, rfl⟩)
    · exact .inr (.inr ⟨_, _, _, _, _, _, _, _, rfl⟩)
theorem cv_use {w : World} {h : Heap} {R : Result → Shared → Prop} {d : Drawn} {os : OsState} {S : List Addr} {o1 o2 : Obj} {gl : List GenState}
  {aEn aIt aOut aPh aF aMap aC : Addr} {q : Str} {tq : Tok} {k0 k1 k2 k3 k4 k5 k6 k7 k8 k9 k10 k11 k12 k13 k14 k15 c0 c1 c2 c3 c4 c5 c6 : Tok} {fr : Option (List Env)} {F : LF} {D : List DictEntry} {nD : Nat} {aTup aCnt aD aLam aCode : Addr} {tsm : Tok} {lc : LC} {r0 : List (Addr × Obj)} {sty : Sty} {tk kk n n1 n2 : Nat} {tcn tst ts : Tok} {sl1 sl2 : Array (Option Value)} (hs1 : CvOk F aC sl1) (hs2 : LfOk F sl2)
  (H : CvStart ⟨w, h, R, d, os, S, o1, o2, gl, aEn, aIt, aOut, aPh, aF, aMap, aC, q, tq, k0, k1, k2, k3, k4, k5, k6, k7, k8, k9, k10, k11, k12, k13, k14, k15, c0, c1, c2, c3, c4, c5, c6, fr, F, D, nD⟩ (cvRest aMap ⟨aTup, aCnt, aD, aLam, aCode, tsm, lc⟩ r0) sty kk) :
  J (mkV w h (AF fr) R d os) S (T2 o1 o2) (cvL aEn aIt aF aPh aOut q tq 0 .none (cvFr w.params (styS sty) tst q tq false aPh aOut aMap 0 ts .none k0 k1 k2 k3 k4 k5 k6 k7 k8 k9 k10 k11 k12 k13 k14 k15 c0 c1 c2 c3 c4 c5 c6 [] n sl1) [] n2 [] n1 F (frameO D nD sl2) (cvRest aMap ⟨aTup, aCnt, aD, aLam, aCode, tsm, lc⟩ r0 kk tcn))
    ⟨cvLoop aEn aF aC, none, .base, denote table (cvLoop aEn aF aC), gl, tk⟩ := H tk tcn tst ts n n1 n2 sl1 sl2 [] [] rfl rfl hs1 hs2
end Mine
end

section
open PySem PySem.W PySem.W.X PyProof.Rows
namespace Mine
noncomputable def genE : PySem.Expr := by run_tac navPart 113 15 [(2, some 0), (1, none), (1, some 0)]
noncomputable def genScope : Scope := by run_tac navPart 113 15 [(2, some 0), (1, none), (1, some 0), (2, none)]
noncomputable def genEnv (aFr aC aGC : Addr) : Env := { scope := genScope, locals := aFr, globals := 3, cells := [("args", aC)], qual := "convert_paramstyle.<locals>.<genexpr>.", func := none, code := .ref aGC, frame := some aFr, builtins := 0 }
def genO (i : Nat) (t1 t2 : Tok) : Obj := { cls := .type "generator", data := .fields #[.int (Int.ofNat i) 0, .str "<genexpr>" t1, .str "convert_paramstyle.<locals>.<genexpr>" t2] }
def litO (a : Addr) (i : Nat) : Obj := { cls := .type "list_iterator", data := .fields #[.ref a, .int (Int.ofNat i) 0] }
def cellO (v : Value) : Obj := { cls := .type "cell", data := .cell (some v) }
noncomputable def giv (P : Params) (t1 t2 t3 t4 : Tok) (v1 v2 v3 v4 : Value) (n : Nat) : Obj := { cls := .type "dict", data := .dict ⟨[ent P "a" t1 v1, ent P "bc" t2 v2, ent P "d_1" t3 v3, ent P "kind" t4 v4]⟩ n }
def A6 (hd : Option Value) : Around := { handled := hd, depth := 500, frames := none, guards := none, units := 200 }
def valOf (v1 v2 v3 v4 : Value) (s : Str) : Value := if s = nmA then v1 else if s = nmB then v2 else if s = nmD then v3 else v4
theorem valA (v1 v2 v3 v4 : Value) : valOf v1 v2 v3 v4 nmA = v1 := if_pos rfl
theorem valB (v1 v2 v3 v4 : Value) : valOf v1 v2 v3 v4 nmB = v2 := by
  have h1 : nmB ≠ nmA := by decide
  rw [valOf, if_neg h1, if_pos rfl]
theorem valD (v1 v2 v3 v4 : Value) : valOf v1 v2 v3 v4 nmD = v3 := by
  have h1 : nmD ≠ nmA := by decide
  have h2 : nmD ≠ nmB := by decide
  rw [valOf, if_neg h1, if_neg h2, if_pos rfl]
theorem valK (v1 v2 v3 v4 : Value) : valOf v1 v2 v3 v4 nmK = v4 := by
  have h1 : nmK ≠ nmA := by decide
  have h2 : nmK ≠ nmB := by decide
  have h3 : nmK ≠ nmD := by decide
  rw [valOf, if_neg h1, if_neg h2, if_neg h3]
noncomputable def genLoop (aIt aFr aC aGC : Addr) : Code := .compLoop genE 0 (.ref aIt) .none (genEnv aFr aC aGC)
noncomputable def genStart (aIt aFr aC aGC : Addr) : Code := .compStart genE 0 (.ref aIt) .none (genEnv aFr aC aGC)
theorem take_val {ss : List Str} {f : Str → Value} {lv : List Value} {i : Nat} {s : Str} (h : lv = (ss.take i).map f) (hs : ss[i]? = some s) : lv ++ [f s] = (ss.take (i + 1)).map f := by
  rw [h, List.take_add_one, hs]
  simp
open Lean Elab Tactic Meta in
/-- the stack of rooms where the run of a goal stops first -/
def capKont (goal : String) (run : TacticM Unit) : TacticM Unit := do
  let g ← getMainGoal
  g.withContext do
    let stx ← (match Parser.runParserCategory (← getEnv) `term goal with
      | .ok s => pure s
      | .error e => throwError e)
    let e ← Term.elabTerm stx (some (mkSort 0))
    let e ← whnfD e
    let m ← mkFreshExprSyntheticOpaqueMVar e
    let (_, g1) ← m.mvarId!.intros
    setGoals [g1]
    run
    let g2 ← getMainGoal
    let (t, as) ← g2.withContext do
      let d ← DS.ofGoal g2
      let k ← instantiateMVars d.k
      -- what the run has made: the list
      let some (a, _) := d.L[0]? | throwError "capKont"
      return (← mkLambdaFVars #[a] k, a)
    let _ := as
    for x in (← t.collectFVars.run {}).2.fvarIds do
      unless (← getLCtx).contains x do g2.withContext do throwError "capKont: {mkFVar x} in {t}"
    setGoals [g]
    g.assign t

def genCap0 (aGen aFr aC aGC aIt : Addr) : Prop := ∀ (w : World) (h : Heap) (R : Result → Shared → Prop) (d : Drawn) (os : OsState) (S : List Addr) (o1 o2 : Obj) (rest : List (Addr × Obj)) (tk : Nat) (aPh aG : Addr) (t1 t2 t3 q1 q2 q3 q4 : Tok) (v1 v2 v3 v4 : Value) (nG n2 : Nat) (ph : List Value) (_ : ph.length < 20),
   J (mkV w h (A6 none) R d os) S (T2 o1 o2) ((aGen, genO 0 t1 t2) :: (aFr, frameO [ent w.params ".0" t3 (.ref aIt)] 1 #[]) :: (aIt, litO aPh 0) :: (aPh, listO ph n2) :: (aC, cellO (.ref aG)) :: (aG, giv w.params q1 q2 q3 q4 v1 v2 v3 v4 nG) :: rest)
     ⟨.builtin "proto.collect" ⟨[.ref aGen], []⟩, none, .base, denote table (.builtin "proto.collect" ⟨[.ref aGen], []⟩), [.fresh (genStart aIt aFr aC aGC)], tk⟩
noncomputable def genKont0 (aGen aFr aC aGC aIt : Addr) : Addr → Kont := by
  run_tac capKont "genCap0 aGen aFr aC aGC aIt" (do runJ [] (say := false); rowJ; runJ [] (say := false))
section
variable {w : World} {h : Heap} {A : Around} {R : Result → Shared → Prop} {d : Drawn} {os : OsState} {S : List Addr} {o1 o2 : Obj} {rest : List (Addr × Obj)} {c : Code} {κ : Kont} {tk : Nat} {k : Result → Sem PySem.Fin} {g : Bool} {l : List Value}
theorem gencollect0 (hle : ALe (aroundOf (mkV w h A R d os) true (.ret c none k κ)) (A6 none))
   {aGen aFr aGC aIt aPh aC aG : Addr} {t1 t2 t3 q1 q2 q3 q4 : Tok} {v1 v2 v3 v4 : Value} {nG n2 : Nat} {ph : List Value} {ss : List Str} (hph : Strs ph ss) (h9 : ss.length ≤ 9) (hss : ∀ s ∈ ss, s = nmA ∨ s = nmB ∨ s = nmD ∨ s = nmK)
   (H : ∀ tk' a n' lv, lv = ss.map (valOf v1 v2 v3 v4) → lv.length ≤ 9 → J (mkV w h A R d os) S (T2 o1 o2) ((a, listO lv n') :: (aPh, listO ph n2) :: (aC, cellO (.ref aG)) :: (aG, giv w.params q1 q2 q3 q4 v1 v2 v3 v4 nG) :: rest) ⟨c, none, κ, k (.ok (.ret (.ref a))), [.finished], tk'⟩) :
   J (mkV w h A R d os) S (T2 o1 o2) ((aGen, genO 0 t1 t2) :: (aFr, frameO [ent w.params ".0" t3 (.ref aIt)] 1 #[]) :: (aIt, litO aPh 0) :: (aPh, listO ph n2) :: (aC, cellO (.ref aG)) :: (aG, giv w.params q1 q2 q3 q4 v1 v2 v3 v4 nG) :: rest)
     ⟨c, none, κ, .call (.builtin "proto.collect" ⟨[.ref aGen], []⟩) none g l k, [.fresh (genStart aIt aFr aC aGC)], tk⟩ := by
  refine J.callee (V' := mkV w h (A6 none) (endOf (mkV w h A R d os) (.ret c none k κ)) d os) rfl rfl rfl rfl rfl rfl rfl hle rfl ?_
  have hlen := hph.length
  have hl20 : ph.length < 20 := by omega
  have key : ∀ (m i : Nat), i + m = ss.length → ∀ (tk nf n : Nat) (a : Addr) (fr : List DictEntry) (lv : List Value), lv = (ss.take i).map (valOf v1 v2 v3 v4) → (fr = [ent w.params ".0" t3 (.ref aIt)] ∨ ∃ t v, fr = [ent w.params ".0" t3 (.ref aIt), ent w.params "p" t v]) →
      J (mkV w h (A6 none) (endOf (mkV w h A R d os) (.ret c none k κ)) d os) S (T2 o1 o2) ((a, listO lv n) :: (aGen, genO 0 t1 t2) :: (aFr, frameO fr nf #[]) :: (aIt, litO aPh i) :: (aPh, listO ph n2) :: (aC, cellO (.ref aG)) :: (aG, giv w.params q1 q2 q3 q4 v1 v2 v3 v4 nG) :: rest)
        ⟨genLoop aIt aFr aC aGC, some [], genKont0 aGen aFr aC aGC aIt a, denote table (genLoop aIt aFr aC aGC), [.running], tk⟩ := by
    intro m
    induction m with
    | zero =>
      intro i him tk nf n a fr lv hlv hfr
      have hge : ph.length ≤ i := by omega
      have hi : i < 10000 := by omega
      have hlv2 : lv = ss.map (valOf v1 v2 v3 v4) := by rw [hlv, List.take_of_length_le (by omega)]
      have hll : lv.length < 20 := by rw [hlv2]; simp; omega
      replace H := fun tk' n' => H tk' a n' lv hlv2 (by rw [hlv2]; simpa using h9)
      clear hlv hlv2 hss hph
      have rwI : (Array.mk ph)[i]? = none := by simp [hge]
      rcases hfr with rfl | ⟨t, v, rfl⟩
      all_goals
        run_tac runJ [] (say := false)
        run_tac backJ
        run_tac useS "H"
    | succ m ih =>
      intro i him tk nf n a fr lv hlv hfr
      obtain ⟨s, t, hs1, hs2⟩ := hph.at (i := i) (by omega)
      have hi : i < 10000 := by omega
      have hll : lv.length < 20 := by rw [hlv]; simp; omega
      have hmem : s ∈ ss := List.mem_of_getElem? hs1
      have hval := take_val hlv hs1
      replace ih := fun tk nf n fr lv hlv => ih (i + 1) (by omega) tk nf n a fr lv hlv
      replace hss := hss s hmem
      clear H hlv hmem hph
      have rwI : (Array.mk ph)[(Int.ofNat i).toNat]? = some (.str s t) := by simpa using hs2
      rcases hss with rfl | rfl | rfl | rfl
      all_goals first | rw [valA] at hval | rw [valB] at hval | rw [valD] at hval | rw [valK] at hval
      all_goals
        rcases hfr with rfl | ⟨t', v', rfl⟩
        all_goals
          run_tac runJ [] (say := false)
          all_goals
            run_tac againJ
            run_tac useS "ih"
            · exact hval
            · exact .inr ⟨_, _, rfl⟩
  run_tac runJ [] (say := false)
  run_tac rowJ
  all_goals
    run_tac runJ [] (say := false)
    run_tac againJ
    run_tac useS "key (m := ss.length) (i := 0)"
    · exact Nat.zero_add _
    · rfl
    · exact .inl rfl
end

def genCap1 (aGen aFr aC aGC aIt : Addr) : Prop := ∀ (w : World) (h : Heap) (R : Result → Shared → Prop) (d : Drawn) (os : OsState) (S : List Addr) (o1 o2 : Obj) (rest : List (Addr × Obj)) (tk : Nat) (g0 : GenState) (aPh aG : Addr) (t1 t2 t3 q1 q2 q3 q4 : Tok) (v1 v2 v3 v4 : Value) (nG n2 : Nat) (ph : List Value) (_ : ph.length < 20),
   J (mkV w h (A6 none) R d os) S (T2 o1 o2) ((aGen, genO 1 t1 t2) :: (aFr, frameO [ent w.params ".0" t3 (.ref aIt)] 1 #[]) :: (aIt, litO aPh 0) :: (aPh, listO ph n2) :: (aC, cellO (.ref aG)) :: (aG, giv w.params q1 q2 q3 q4 v1 v2 v3 v4 nG) :: rest)
     ⟨.builtin "proto.collect" ⟨[.ref aGen], []⟩, none, .base, denote table (.builtin "proto.collect" ⟨[.ref aGen], []⟩), [g0, .fresh (genStart aIt aFr aC aGC)], tk⟩
noncomputable def genKont1 (aGen aFr aC aGC aIt : Addr) : Addr → Kont := by
  run_tac capKont "genCap1 aGen aFr aC aGC aIt" (do runJ [] (say := false); rowJ; runJ [] (say := false))
section
variable {w : World} {h : Heap} {A : Around} {R : Result → Shared → Prop} {d : Drawn} {os : OsState} {S : List Addr} {o1 o2 : Obj} {rest : List (Addr × Obj)} {c : Code} {κ : Kont} {tk : Nat} {k : Result → Sem PySem.Fin} {g : Bool} {l : List Value}
theorem gencollect1 (hle : ALe (aroundOf (mkV w h A R d os) true (.ret c none k κ)) (A6 none))
   {g0 : GenState} {aGen aFr aGC aIt aPh aC aG : Addr} {t1 t2 t3 q1 q2 q3 q4 : Tok} {v1 v2 v3 v4 : Value} {nG n2 : Nat} {ph : List Value} {ss : List Str} (hph : Strs ph ss) (h9 : ss.length ≤ 9) (hss : ∀ s ∈ ss, s = nmA ∨ s = nmB ∨ s = nmD ∨ s = nmK)
   (H : ∀ tk' a n' lv, lv = ss.map (valOf v1 v2 v3 v4) → lv.length ≤ 9 → J (mkV w h A R d os) S (T2 o1 o2) ((a, listO lv n') :: (aPh, listO ph n2) :: (aC, cellO (.ref aG)) :: (aG, giv w.params q1 q2 q3 q4 v1 v2 v3 v4 nG) :: rest) ⟨c, none, κ, k (.ok (.ret (.ref a))), [g0, .finished], tk'⟩) :
   J (mkV w h A R d os) S (T2 o1 o2) ((aGen, genO 1 t1 t2) :: (aFr, frameO [ent w.params ".0" t3 (.ref aIt)] 1 #[]) :: (aIt, litO aPh 0) :: (aPh, listO ph n2) :: (aC, cellO (.ref aG)) :: (aG, giv w.params q1 q2 q3 q4 v1 v2 v3 v4 nG) :: rest)
     ⟨c, none, κ, .call (.builtin "proto.collect" ⟨[.ref aGen], []⟩) none g l k, [g0, .fresh (genStart aIt aFr aC aGC)], tk⟩ := by
  refine J.callee (V' := mkV w h (A6 none) (endOf (mkV w h A R d os) (.ret c none k κ)) d os) rfl rfl rfl rfl rfl rfl rfl hle rfl ?_
  have hlen := hph.length
  have hl20 : ph.length < 20 := by omega
  have key : ∀ (m i : Nat), i + m = ss.length → ∀ (tk nf n : Nat) (a : Addr) (fr : List DictEntry) (lv : List Value), lv = (ss.take i).map (valOf v1 v2 v3 v4) → (fr = [ent w.params ".0" t3 (.ref aIt)] ∨ ∃ t v, fr = [ent w.params ".0" t3 (.ref aIt), ent w.params "p" t v]) →
      J (mkV w h (A6 none) (endOf (mkV w h A R d os) (.ret c none k κ)) d os) S (T2 o1 o2) ((a, listO lv n) :: (aGen, genO 1 t1 t2) :: (aFr, frameO fr nf #[]) :: (aIt, litO aPh i) :: (aPh, listO ph n2) :: (aC, cellO (.ref aG)) :: (aG, giv w.params q1 q2 q3 q4 v1 v2 v3 v4 nG) :: rest)
        ⟨genLoop aIt aFr aC aGC, some [], genKont1 aGen aFr aC aGC aIt a, denote table (genLoop aIt aFr aC aGC), [g0, .running], tk⟩ := by
    intro m
    induction m with
    | zero =>
      intro i him tk nf n a fr lv hlv hfr
      have hge : ph.length ≤ i := by omega
      have hi : i < 10000 := by omega
      have hlv2 : lv = ss.map (valOf v1 v2 v3 v4) := by rw [hlv, List.take_of_length_le (by omega)]
      have hll : lv.length < 20 := by rw [hlv2]; simp; omega
      replace H := fun tk' n' => H tk' a n' lv hlv2 (by rw [hlv2]; simpa using h9)
      clear hlv hlv2 hss hph
      have rwI : (Array.mk ph)[i]? = none := by simp [hge]
      rcases hfr with rfl | ⟨t, v, rfl⟩
      all_goals
        run_tac runJ [] (say := false)
        run_tac backJ
        run_tac useS "H"
    | succ m ih =>
      intro i him tk nf n a fr lv hlv hfr
      obtain ⟨s, t, hs1, hs2⟩ := hph.at (i := i) (by omega)
      have hi : i < 10000 := by omega
      have hll : lv.length < 20 := by rw [hlv]; simp; omega
      have hmem : s ∈ ss := List.mem_of_getElem? hs1
      have hval := take_val hlv hs1
      replace ih := fun tk nf n fr lv hlv => ih (i + 1) (by omega) tk nf n a fr lv hlv
      replace hss := hss s hmem
      clear H hlv hmem hph
      have rwI : (Array.mk ph)[(Int.ofNat i).toNat]? = some (.str s t) := by simpa using hs2
      rcases hss with rfl | rfl | rfl | rfl
      all_goals first | rw [valA] at hval | rw [valB] at hval | rw [valD] at hval | rw [valK] at hval
      all_goals
        rcases hfr with rfl | ⟨t', v', rfl⟩
        all_goals
          run_tac runJ [] (say := false)
          all_goals
            run_tac againJ
            run_tac useS "ih"
            · exact hval
            · exact .inr ⟨_, _, rfl⟩
  run_tac runJ [] (say := false)
  run_tac rowJ
  all_goals
    run_tac runJ [] (say := false)
    run_tac againJ
    run_tac useS "key (m := ss.length) (i := 0)"
    · exact Nat.zero_add _
    · rfl
    · exact .inl rfl
end
end Mine
end

section
open PySem PySem.W PySem.W.X PyProof.Rows
namespace Mine
def A4 (fr : Option (List Env)) : Around := { handled := none, depth := 400, frames := fr, guards := none, units := 100 }
/-- the generator's code object: tokens, addresses -/
structure GC where
  (t1 t2 t3 t4 : Tok) (r1 r2 : Addr) (nn : Nat)
def genCO (c : GC) : Obj := { cls := .type "code", data := .fields #[.str "<genexpr>" c.t1, .str "convert_paramstyle.<locals>.<genexpr>" c.t2, .str "/claim/cut.py" c.t3, .int 165 0, .int 1 0, .int 0 0, .int 0 0, .int 51 0, .ref c.r1, .bool true, .int 181 0, .ref c.r2, .none, .none, .none, .none, .int (Int.ofNat c.nn) 0, .int 165 0, .str "/claim/cut.py" c.t4] }
def tupO (vs : List Value) : Obj := { cls := .type "tuple", data := .seq ⟨vs⟩ 0 }
def tab2 (cl cg : Addr) : Obj := { cls := .none, data := .fields #[.int 63 0, .int 20 0, .ref cl, .int 165 0, .int 21 0, .ref cg] }
def tabO (vs : List Value) : Obj := { cls := .none, data := .fields ⟨vs⟩ }
open Lean Elab Tactic Meta in
/-- a call is entered: its room is (A frames), its end the caller's -/
def calleeJ (A : Lean.Expr → MetaM Lean.Expr) : TacticM Unit := do
  let g ← getMainGoal
  let rest := (← getGoals).tail!
  g.withContext do
    let d ← DS.ofGoal g
    let t ← kq d.t
    unless t.isAppOfArity ``Sem.call 6 do throwError "calleeJ: {t.getAppFn}"
    let x := t.getAppArgs
    let c' ← kq x[1]!
    let κ' := mkAppN (mkConst ``Kont.ret) #[d.c, mkApp (mkConst ``Option.none [0]) (mkConst ``Value), x[5]!, d.k]
    let Ar := mkApp3 (mkConst ``aroundOf) d.V (mkConst ``Bool.true) κ'
    let fr ← kq (mkApp (mkConst ``PySem.Around.frames) Ar)
    let fr ← (if fr.isAppOfArity ``Option.some 2 then do return mkApp2 fr.getAppFn fr.getAppArgs[0]! (← XRun.nList fr.appArg! pure) else pure fr : MetaM Lean.Expr)
    let A ← A fr
    let V ← whnfD d.V
    let a := V.getAppArgs
    let R := mkApp2 (mkConst ``endOf) d.V κ'
    let V' := mkAppN (mkConst ``mkV) #[a[1]!, a[2]!, A, R, a[8]!, a[10]!]
    let hle ← mkFreshExprSyntheticOpaqueMVar (mkApp2 (mkConst ``ALe) Ar A)
    let l ← Tactic.run hle.mvarId! (do evalTactic (← `(tactic| exact ⟨rfl, Nat.le_of_ble_eq_true rfl, Nat.le_of_ble_eq_true rfl, .inr rfl, rfl⟩)))
    unless l.isEmpty do throwError "calleeJ: the room"
    let hle ← instantiateMVars hle
    let hR ← mkEqRefl R
    let p (n : Lean.Name) : MetaM Lean.Expr := mkEqRefl (mkApp (mkConst n) d.V)
    let hs := #[← p ``XV.prog, ← p ``XV.w, ← p ``XV.n₁, ← p ``XV.h₀, ← p ``XV.kt, ← p ``XV.d, ← p ``XV.os]
    let d0 := { d with t }
    let g ← flush g d d0 0
    let d' := { d with V := V', c := c', md := mkApp (mkConst ``Option.none [0]) (mkApp (mkConst ``List [0]) (mkConst ``Frame)), k := mkConst ``Kont.base, t := mkApp2 (mkConst ``denote) (mkConst ``table) c' }
    let g ← put g (fun m => mkAppN (mkConst ``J.callee) (#[d.V, V', d.S, d.TE, d.LE, d.c, c', d.k, d.gl, d.tk, x[5]!, x[3]!, x[4]!] ++ hs ++ #[hle, hR, m])) d'.goal
    setGoals (g :: rest)

section
variable {w : World} {h : Heap} {A : Around} {R : Result → Shared → Prop} {d : Drawn} {os : OsState} {S : List Addr} {o1 o2 : Obj} {rest : List (Addr × Obj)} {c : Code} {κ : Kont} {gl : List GenState} {tk : Nat} {k : Result → Sem PySem.Fin} {g : Bool} {l : List Value}
   {F : LF} {D : List DictEntry} {nD : Nat} {sl2 : Array (Option Value)} {q : Str} {ts tq : Tok} {aG : Addr} {q1 q2 q3 q4 : Tok} {v1 v2 v3 v4 : Value} {nG : Nat} {p' : Option Nat} {x' : CS}
theorem cv_first (hle : ALe (aroundOf (mkV w h A R d os) true (.ret c none k κ)) (A4 (some [lawEnv F]))) (hs2 : LfOk F sl2)
   (hq : q.cps.size < 9000) (hb : (q.cps.all fun x => decide (x < 128)) = true) (hrun : crun .named none q.cps.toList ⟨0, false, [], [], 1⟩ = some (p', x'))
   (hx1 : x'.ph.length ≤ 9) (hx2 : ∀ s ∈ x'.ph, s = nmA ∨ s = nmB ∨ s = nmD ∨ s = nmK) (hx3 : JoinOk ⟨#[]⟩ x'.out = true)
   (H : ∀ tk' aR aV tv cl cg lc gc sl2' lv, lv = x'.ph.map (valOf v1 v2 v3 v4) → lv.length ≤ 9 → LfOk F sl2' →
     J (mkV w h A R d os) S (T2 (tab2 cl cg) o2) ((aR, tupO [.str (Str.join ⟨#[]⟩ x'.out) tv, .ref aV]) :: (aV, tupO lv) :: (cl, lamCO lc) :: (cg, genCO gc) :: (F.a, frameO D nD sl2') :: (aG, giv w.params q1 q2 q3 q4 v1 v2 v3 v4 nG) :: rest) ⟨c, none, κ, k (.ok (.ret (.ref aR))), [.finished], tk'⟩) :
   J (mkV w h A R d os) S (T2 (tabO []) o2) ((F.a, frameO D nD sl2) :: (aG, giv w.params q1 q2 q3 q4 v1 v2 v3 v4 nG) :: rest) ⟨c, none, κ, .call (.call (.ref 113) ⟨[.str (styS .named) ts, .str q tq, .ref aG], []⟩) none g l k, [], tk⟩ := by
  refine J.callee (V' := mkV w h (A4 (some [lawEnv F])) (endOf (mkV w h A R d os) (.ret c none k κ)) d os) rfl rfl rfl rfl rfl rfl rfl hle rfl ?_
  run_tac walk [("str.__iter__", "striter_ok")] (say := false)
  run_tac calleeJ fun fr => return Lean.mkApp (Lean.mkConst ``AF) fr
  run_tac useS "cv_use (kk := 1) (sty := .named) (F := F) (lc := ⟨_, _, _, _, _, _, _, _, _, _⟩)"
  case hs1 => exact .inl rfl
  case hs2 => exact hs2
  case H =>
    refine cv_whole hq (.inl rfl) hrun ?_
    intro cc tk2 tcn tst ts2 pv n n1 n2 sl1 sl2 ov ph r hov hph hol hpl hs1 hs2 hr
    obtain ⟨s, qe, o, phs, kk⟩ := x'
    try simp only at *
    clear hol hpl hrun
    rcases hr with rfl | ⟨k16, k17, k18, iv, cv, nv, rfl⟩ | ⟨k16, k17, k18, k19, iv, cv, nv, pv9, rfl⟩
    all_goals
      run_tac backJ
      run_tac walk [("str.join", "join_ok"), ("b:proto.collect", "gencollect0"), ("proto.collect", "stop")] (say := false)
      run_tac backJ
      run_tac useS "H (lc := ⟨_, _, _, _, _, _, _, _, _, _⟩) (gc := ⟨_, _, _, _, _, _, _⟩)"
      run_tac restS side
end
end Mine
end

section
open PySem PySem.W PySem.W.X PyProof.Rows
namespace Mine
section
variable {w : World} {h : Heap} {A : Around} {R : Result → Shared → Prop} {d : Drawn} {os : OsState} {S : List Addr} {o1 o2 : Obj} {rest : List (Addr × Obj)} {c : Code} {κ : Kont} {gl : List GenState} {tk : Nat} {k : Result → Sem PySem.Fin} {g : Bool} {l : List Value}
   {F : LF} {D : List DictEntry} {nD : Nat} {sl2 : Array (Option Value)} {q : Str} {ts tq : Tok} {aG cl cg : Addr} {lc : LC} {gc : GC} {GO : Obj} {q1 q2 q3 q4 : Tok} {v1 v2 v3 v4 : Value} {nG : Nat} {p' : Option Nat} {x' : CS} {sty : Sty}
theorem cv_later (hle : ALe (aroundOf (mkV w h A R d os) true (.ret c none k κ)) (A4 (some [lawEnv F]))) (hs2 : LfOk F sl2)
   (hq : q.cps.size < 9000) (hb : (q.cps.all fun x => decide (x < 128)) = true) (hrun : crun sty none q.cps.toList ⟨0, false, [], [], 1⟩ = some (p', x'))
   (hx3 : JoinOk ⟨#[]⟩ x'.out = true) (hsty : sty ≠ .named)
   (HN : sty ≠ .pyformat → ∀ tk' aR tv lc sl2', LfOk F sl2' →
     J (mkV w h A R d os) S (T2 (tab2 cl cg) o2) ((aR, tupO [.str (Str.join ⟨#[]⟩ x'.out) tv, .ref aG]) :: (cl, lamCO lc) :: (cg, genCO gc) :: (F.a, frameO D nD sl2') :: (aG, GO) :: rest) ⟨c, none, κ, k (.ok (.ret (.ref aR))), gl, tk'⟩)
   (HP : sty = .pyformat → ∃ g0, GO = giv w.params q1 q2 q3 q4 v1 v2 v3 v4 nG ∧ gl = [g0] ∧ x'.ph.length ≤ 9 ∧ (∀ s ∈ x'.ph, s = nmA ∨ s = nmB ∨ s = nmD ∨ s = nmK) ∧
     ∀ tk' aR aV tv lc sl2' lv, lv = x'.ph.map (valOf v1 v2 v3 v4) → lv.length ≤ 9 → LfOk F sl2' →
     J (mkV w h A R d os) S (T2 (tab2 cl cg) o2) ((aR, tupO [.str (Str.join ⟨#[]⟩ x'.out) tv, .ref aV]) :: (aV, tupO lv) :: (cl, lamCO lc) :: (cg, genCO gc) :: (F.a, frameO D nD sl2') :: (aG, giv w.params q1 q2 q3 q4 v1 v2 v3 v4 nG) :: rest) ⟨c, none, κ, k (.ok (.ret (.ref aR))), [g0, .finished], tk'⟩) :
   J (mkV w h A R d os) S (T2 (tab2 cl cg) o2) ((cl, lamCO lc) :: (cg, genCO gc) :: (F.a, frameO D nD sl2) :: (aG, GO) :: rest) ⟨c, none, κ, .call (.call (.ref 113) ⟨[.str (styS sty) ts, .str q tq, .ref aG], []⟩) none g l k, gl, tk⟩ := by
  refine J.callee (V' := mkV w h (A4 (some [lawEnv F])) (endOf (mkV w h A R d os) (.ret c none k κ)) d os) rfl rfl rfl rfl rfl rfl rfl hle rfl ?_
  generalize hst : styS sty = st
  obtain ⟨u1, u2, u3, u4, r1, r2, r3, r4, r5, nn⟩ := lc
  obtain ⟨z1, z2, z3, z4, y1, y2, yn⟩ := gc
  run_tac walk [("str.__iter__", "striter_ok")] (say := false)
  run_tac calleeJ fun fr => return Lean.mkApp (Lean.mkConst ``AF) fr
  subst hst
  run_tac useS "cv_use (kk := 1) (sty := sty) (F := F) (lc := ⟨_, _, _, _, _, _, _, _, _, _⟩)"
  case hs1 => exact .inl rfl
  case hs2 => exact hs2
  case H =>
    refine cv_whole hq (.inl rfl) hrun ?_
    intro cc tk2 tcn tst ts2 pv n n1 n2 sl1 sl2 ov ph r hov hph hol hpl hs1 hs2 hr
    obtain ⟨s, qe, o, phs, kk⟩ := x'
    try simp only at *
    clear hol hpl hrun
    cases sty with
    | named => exact absurd rfl hsty
    | pyformat =>
      obtain ⟨g0, rfl, rfl, hx1, hx2, H⟩ := HP rfl
      clear HN HP
      rcases hr with rfl | ⟨k16, k17, k18, iv, cv, nv, rfl⟩ | ⟨k16, k17, k18, k19, iv, cv, nv, pv9, rfl⟩
      all_goals
        run_tac backJ
        run_tac walk [("str.join", "join_ok"), ("b:proto.collect", "gencollect1"), ("proto.collect", "stop")]
        run_tac backJ
        run_tac useS "H (lc := ⟨_, _, _, _, _, _, _, _, _, _⟩)"
        run_tac restS side
    | _ =>
      replace HN := HN (by intro e; cases e)
      clear HP
      rcases hr with rfl | ⟨k16, k17, k18, iv, cv, nv, rfl⟩ | ⟨k16, k17, k18, k19, iv, cv, nv, pv9, rfl⟩
      all_goals
        run_tac backJ
        run_tac walk [("str.join", "join_ok")] (say := false)
        all_goals
          run_tac backJ
          run_tac useS "HN (lc := ⟨_, _, _, _, _, _, _, _, _, _⟩)"
          run_tac restS side
end
end Mine
end

section
open PySem PySem.W PySem.W.X PyProof.Rows
namespace Mine
noncomputable def tsTarget : PySem.Expr := by run_tac stmtPart 782 5 0
noncomputable def tsBody : List Stmt := by run_tac stmtPart 782 5 2
noncomputable def tsScope : Scope := by run_tac scopePart 782
noncomputable def tsEnv (aF aPc : Addr) : Env := { scope := tsScope, locals := aF, globals := 3, cells := [("placeholders", aPc)], qual := "to_statement.<locals>.", func := some 782, code := .ref 781, frame := some aF, builtins := 0 }
def tsS (F : LF) (aPc : Addr) : Array (Option Value) := #[some (.ref 781), some (.ref 3), none, some (.ref F.a), none, some (.ref 782), some (.ref 0), some (.ref aPc)]
def TsOk (F : LF) (aPc : Addr) (sl : Array (Option Value)) : Prop := sl = #[] ∨ sl = tsS F aPc
noncomputable def tsLoop (aEn aF aPc : Addr) : Code := .forLoop tsTarget (.ref aEn) tsBody [] (tsEnv aF aPc)
/-- the states' objects -/
def stA (s : Int) : Addr := match s with
  | .ofNat 0 => 725
  | .ofNat 1 => 727
  | .ofNat 2 => 729
  | .ofNat 3 => 731
  | .ofNat 4 => 733
  | .ofNat 5 => 735
  | _ => 737
noncomputable def tsFr (P : Params) (q : Str) (tq : Tok) (qe : Bool) (aOut : Addr) (sa : Addr) (pv : Value) (k0 k1 k2 k3 k4 : Tok) (r : List DictEntry) (n : Nat) (sl : Array (Option Value)) : Obj :=
  frameO (ent P "query" k0 (.str q tq) :: ent P "in_quote_escape" k1 (.bool qe) :: ent P "output_query" k2 (.ref aOut) :: ent P "state" k3 (.ref sa) :: ent P "prev_c" k4 pv :: r) n sl
def tsL (aEn aIt aF aPh aOut aPc : Addr) (q : Str) (tq : Tok) (i : Nat) (lv : Value) (fr : Obj) (ph : List Value) (n2 : Nat) (ov : List Value) (n1 : Nat) (F : LF) (lf : Obj) (rest : List (Addr × Obj)) : List (Addr × Obj) :=
  (aEn, enumO aIt i lv) :: (aIt, strItO q tq i) :: (aF, fr) :: (aPh, listO ph n2) :: (aOut, listO ov n1) :: (aPc, cellO (.ref aPh)) :: (F.a, lf) :: rest
structure TsX where
  (w : World) (h : Heap) (R : Result → Shared → Prop) (d : Drawn) (os : OsState) (S : List Addr) (o1 o2 : Obj) (gl : List GenState)
  (aEn aIt aOut aPh aF aPc : Addr) (q : Str) (tq : Tok) (k0 k1 k2 k3 k4 : Tok)
  (fr : Option (List Env)) (F : LF) (D : List DictEntry) (nD : Nat)
/-- to_statement's loop stands before its first character -/
def TsStart (X : TsX) (rest : List (Addr × Obj)) : Prop :=
  ∀ (tk : Nat) (n n1 n2 : Nat) (sl1 sl2 : Array (Option Value)) (ov ph : List Value), ov = [] → ph = [] → TsOk X.F X.aPc sl1 → LfOk X.F sl2 →
    J (mkV X.w X.h (AF X.fr) X.R X.d X.os) X.S (T2 X.o1 X.o2) (tsL X.aEn X.aIt X.aF X.aPh X.aOut X.aPc X.q X.tq 0 .none (tsFr X.w.params X.q X.tq false X.aOut (stA 0) .none X.k0 X.k1 X.k2 X.k3 X.k4 [] n sl1) ph n2 ov n1 X.F (frameO X.D X.nD sl2) rest)
    ⟨tsLoop X.aEn X.aF X.aPc, none, .base, denote table (tsLoop X.aEn X.aF X.aPc), X.gl, tk⟩
/-- to_statement's loop stands before character i -/
def TsAt (X : TsX) (rest : List (Addr × Obj)) (i : Nat) (p : Option Nat) (x : CS) : Prop :=
  ∀ (tk : Nat) (sa : Addr) (tp k16 k17 k18 : Tok) (iv cv nv lv : Value) (px : List DictEntry) (n n1 n2 : Nat) (sl1 sl2 : Array (Option Value)) (ov ph : List Value), sa = stA x.s → Strs ov x.out → Strs ph x.ph → x.out.length ≤ i → x.ph.length ≤ i → TsOk X.F X.aPc sl1 → LfOk X.F sl2 → PxOk X.w.params px →
    J (mkV X.w X.h (AF X.fr) X.R X.d X.os) X.S (T2 X.o1 X.o2) (tsL X.aEn X.aIt X.aF X.aPh X.aOut X.aPc X.q X.tq i lv (tsFr X.w.params X.q X.tq x.qe X.aOut sa (optV p tp) X.k0 X.k1 X.k2 X.k3 X.k4 (ent X.w.params "i" k16 iv :: ent X.w.params "c" k17 cv :: ent X.w.params "next_c" k18 nv :: px) n sl1) ph n2 ov n1 X.F (frameO X.D X.nD sl2) rest)
    ⟨tsLoop X.aEn X.aF X.aPc, none, .base, denote table (tsLoop X.aEn X.aF X.aPc), X.gl, tk⟩
def tsCap (aEn aF aPc : Addr) : Prop := ∀ (X : TsX) (rest : List (Addr × Obj)) (tk i x y : Nat) (tp k16 k17 k18 : Tok) (qe : Bool) (sa : Addr) (pv iv cv nv lv : Value) (px : List DictEntry) (n n1 n2 : Nat) (sl1 lf : Array (Option Value)) (ov ph : List Value)
  (_ : X.q.cps[i]? = some x) (_ : X.q.cps[i+1]? = some y) (_ : i + 1 < X.q.length) (_ : X.q.cps.size < 10000),
  J (mkV X.w X.h (AF X.fr) X.R X.d X.os) X.S (T2 X.o1 X.o2) (tsL aEn X.aIt aF X.aPh X.aOut aPc X.q X.tq i lv (tsFr X.w.params X.q X.tq qe X.aOut sa pv X.k0 X.k1 X.k2 X.k3 X.k4 (ent X.w.params "i" k16 iv :: ent X.w.params "c" k17 cv :: ent X.w.params "next_c" k18 nv :: px) n sl1) ph n2 ov n1 X.F (frameO X.D X.nD lf) rest)
    ⟨tsLoop aEn aF aPc, none, .base, denote table (tsLoop aEn aF aPc), X.gl, tk⟩
open Lean Elab Tactic Meta in
def tsHead : TacticM Unit := do
  let l ← stmtsOf 782
  let f ← Lean.Meta.whnfD l[5]!
  let b ← listOf 100 f.getAppArgs[2]!
  walk [("str_ascii_iterator.__next__", "strnext_ok"), ("str.__getitem__", "stritem_ok")] (say := false) (places := [← placeOf b[1]!])
noncomputable def tsMid (aEn aF aPc : Addr) : Sem PySem.Fin := by
  run_tac capTree "tsCap aEn aF aPc" tsHead
/-- in the turn of character i, which is c and before y -/
def TsMid (X : TsX) (rest : List (Addr × Obj)) (i : Nat) (p : Option Nat) (c : Nat) (y : Option Nat) (x : CS) : Prop :=
  ∀ (tk : Nat) (sa : Addr) (tp tc tn k16 k17 k18 : Tok) (iv lv : Value) (px : List DictEntry) (n n1 n2 : Nat) (sl1 sl2 : Array (Option Value)) (ov ph : List Value), sa = stA x.s → Strs ov x.out → Strs ph x.ph → x.out.length ≤ i → x.ph.length ≤ i → TsOk X.F X.aPc sl1 → LfOk X.F sl2 → PxOk X.w.params px →
    J (mkV X.w X.h (AF X.fr) X.R X.d X.os) X.S (T2 X.o1 X.o2) (tsL X.aEn X.aIt X.aF X.aPh X.aOut X.aPc X.q X.tq (i + 1) lv (tsFr X.w.params X.q X.tq x.qe X.aOut sa (optV p tp) X.k0 X.k1 X.k2 X.k3 X.k4 (ent X.w.params "i" k16 iv :: ent X.w.params "c" k17 (.str ⟨#[c]⟩ tc) :: ent X.w.params "next_c" k18 (optV y tn) :: px) n sl1) ph n2 ov n1 X.F (frameO X.D X.nD sl2) rest)
    ⟨tsLoop X.aEn X.aF X.aPc, none, .base, tsMid X.aEn X.aF X.aPc, X.gl, tk⟩
end Mine
end

section
open PySem PySem.W PySem.W.X PyProof.Rows
namespace Mine

theorem ts_head {X : TsX} {rest : List (Addr × Obj)} {i : Nat} {p : Option Nat} {c : Nat} {y : Option Nat} {x : CS} (hx : X.q.cps[i]? = some c) (hy : X.q.cps[i+1]? = y) (hq : X.q.cps.size < 10000)
  (H : TsMid X rest i p c y x) : TsAt X rest i p x := by
  obtain ⟨w, h, R, d, os, S, o1, o2, gl, aEn, aIt, aOut, aPh, aF, aPc, q, tq, k0, k1, k2, k3, k4, fr, ⟨aL, b1, b2, b3, b4, b5, b6⟩, D, nD⟩ := X
  intro tk sa tp k16 k17 k18 iv cv nv lv px n n1 n2 sl1 sl2 ov ph hsa hov hph hol hpl hs1 hs2 hpx
  replace H := fun tk tc tn k16 k17 k18 iv lv n => H tk sa tp tc tn k16 k17 k18 iv lv px n n1 n2 sl1 sl2 ov ph hsa hov hph hol hpl hs1 hs2 hpx
  clear hsa hov hph hol hpl hs1 hs2 hpx
  simp only at *
  generalize optV p tp = pv at *
  have hl := at_len hy
  have hl2 := at_len hx
  cases y with
  | none =>
    simp only at hl hl2
    run_tac tsHead
    run_tac useS "H (tn := 0)"
  | some y =>
    simp only at hl hl2
    run_tac tsHead
    run_tac useS "H"
theorem ts_head0 {X : TsX} {rest : List (Addr × Obj)} {k : Nat} {c : Nat} {y : Option Nat} (hx : X.q.cps[0]? = some c) (hy : X.q.cps[1]? = y) (hq : X.q.cps.size < 10000)
  (H : TsMid X rest 0 none c y ⟨0, false, [], [], k⟩) : TsStart X rest := by
  obtain ⟨w, h, R, d, os, S, o1, o2, gl, aEn, aIt, aOut, aPh, aF, aPc, q, tq, k0, k1, k2, k3, k4, fr, ⟨aL, b1, b2, b3, b4, b5, b6⟩, D, nD⟩ := X
  intro tk n n1 n2 sl1 sl2 ov ph hov hph hs1 hs2
  subst hov hph
  replace H := fun tk tc tn k16 k17 k18 iv lv n => H tk _ 0 tc tn k16 k17 k18 iv lv [] n n1 n2 sl1 sl2 [] [] rfl .nil .nil (Nat.le_refl _) (Nat.le_refl _) hs1 hs2 (.inl rfl)
  clear hs1 hs2
  simp only at *
  have hl := at_len hy
  have hl2 := at_len hx
  cases y with
  | none =>
    simp only at hl hl2
    run_tac tsHead
    run_tac useS "H (tn := 0)"
  | some y =>
    simp only at hl hl2
    run_tac tsHead
    run_tac useS "H"
end Mine
end

section
open PySem PySem.W PySem.W.X PyProof.Rows
namespace Mine

open Lean Elab Tactic Meta in
/-- the ends of a turn: the loop's next turn, by the lemma -/
def leafT (lem : String) : TacticM Unit := do
  let gs ← getGoals
  let mut out := []
  for g in gs do
    setGoals [g]
    let isJ ← g.withContext do return (← whnfR (← instantiateMVars (← g.getType))).isAppOf ``J
    if isJ then
      againJ
      useS lem
    sides (do evalTactic (← `(tactic| first | exact (show _ = stA 0 from rfl) | exact (show _ = stA 1 from rfl) | exact (show _ = stA 2 from rfl) | exact (show _ = stA 3 from rfl) | exact (show _ = stA 4 from rfl) | exact (show _ = stA 5 from rfl) | exact (show _ = stA 6 from rfl) | assumption | exact Strs.snoc (by assumption) | exact Strs.snocd (by assumption) (by assumption) | exact Strs.snocm (by assumption) (by assumption) (by assumption) (by assumption) | exact EndsIn.strs (by assumption) (by assumption) | exact Or.inl rfl | exact Or.inr rfl | exact Or.inr ⟨_, rfl⟩ | exact Or.inr ⟨_, _, rfl⟩))) (do
      evalTactic (← `(tactic| first | (simp [cstep, cfree, *]; done) | (simp only [List.length_append, List.length_cons, List.length_nil] at *; omega) | omega | assumption)))
    out := out ++ (← getUnsolvedGoals)
  setGoals out

theorem ts_SQ {X : TsX} {rest : List (Addr × Obj)} {i : Nat} {p : Option Nat} {y : Option Nat} {c : Nat} {qe : Bool} {o ph : List Str} {k : Nat} (hi : i < 9000) 
  (H : ∀ x', cstep .named p c y ⟨1, qe, o, ph, k⟩ = some x' → TsAt X rest (i + 1) (some c) x') : TsMid X rest i p c y ⟨1, qe, o, ph, k⟩ := by
  replace H := fun s qe o ph => H ⟨s, qe, o, ph, k⟩
  obtain ⟨w, h, R, d, os, S, o1, o2, gl, aEn, aIt, aOut, aPh, aF, aPc, q, tq, k0, k1, k2, k3, k4, fr, ⟨aL, b1, b2, b3, b4, b5, b6⟩, D, nD⟩ := X
  intro tk sa tp tc tn k16 k17 k18 iv lv px n n1 n2 sl1 sl2 ov phv hsa hov hph hol hpl hs1 hs2 hpx
  simp only at *
  subst hsa
  have ho : ov.length < 9999 := by rw [hov.length]; omega
  have hp9 : phv.length < 9999 := by rw [hph.length]; omega
  simp only [TsAt] at H
  run_tac runJ [] (say := false)
  run_tac leafT "H"

theorem ts_QI {X : TsX} {rest : List (Addr × Obj)} {i : Nat} {p : Option Nat} {y : Option Nat} {c : Nat} {qe : Bool} {o ph : List Str} {k : Nat} (hi : i < 9000) 
  (H : ∀ x', cstep .named p c y ⟨2, qe, o, ph, k⟩ = some x' → TsAt X rest (i + 1) (some c) x') : TsMid X rest i p c y ⟨2, qe, o, ph, k⟩ := by
  replace H := fun s qe o ph => H ⟨s, qe, o, ph, k⟩
  obtain ⟨w, h, R, d, os, S, o1, o2, gl, aEn, aIt, aOut, aPh, aF, aPc, q, tq, k0, k1, k2, k3, k4, fr, ⟨aL, b1, b2, b3, b4, b5, b6⟩, D, nD⟩ := X
  intro tk sa tp tc tn k16 k17 k18 iv lv px n n1 n2 sl1 sl2 ov phv hsa hov hph hol hpl hs1 hs2 hpx
  simp only at *
  subst hsa
  have ho : ov.length < 9999 := by rw [hov.length]; omega
  have hp9 : phv.length < 9999 := by rw [hph.length]; omega
  simp only [TsAt] at H
  run_tac runJ [] (say := false)
  run_tac leafT "H"

theorem ts_ES {X : TsX} {rest : List (Addr × Obj)} {i : Nat} {p : Option Nat} {y : Option Nat} {c : Nat} {qe : Bool} {o ph : List Str} {k : Nat} (hi : i < 9000) 
  (H : ∀ x', cstep .named p c y ⟨3, qe, o, ph, k⟩ = some x' → TsAt X rest (i + 1) (some c) x') : TsMid X rest i p c y ⟨3, qe, o, ph, k⟩ := by
  replace H := fun s qe o ph => H ⟨s, qe, o, ph, k⟩
  obtain ⟨w, h, R, d, os, S, o1, o2, gl, aEn, aIt, aOut, aPh, aF, aPc, q, tq, k0, k1, k2, k3, k4, fr, ⟨aL, b1, b2, b3, b4, b5, b6⟩, D, nD⟩ := X
  intro tk sa tp tc tn k16 k17 k18 iv lv px n n1 n2 sl1 sl2 ov phv hsa hov hph hol hpl hs1 hs2 hpx
  simp only at *
  subst hsa
  have ho : ov.length < 9999 := by rw [hov.length]; omega
  have hp9 : phv.length < 9999 := by rw [hph.length]; omega
  simp only [TsAt] at H
  run_tac runJ [] (say := false)
  run_tac leafT "H"

theorem ts_CO {X : TsX} {rest : List (Addr × Obj)} {i : Nat} {p : Option Nat} {y : Option Nat} {c : Nat} {qe : Bool} {o ph : List Str} {k : Nat} (hi : i < 9000) 
  (H : ∀ x', cstep .named p c y ⟨5, qe, o, ph, k⟩ = some x' → TsAt X rest (i + 1) (some c) x') : TsMid X rest i p c y ⟨5, qe, o, ph, k⟩ := by
  replace H := fun s qe o ph => H ⟨s, qe, o, ph, k⟩
  obtain ⟨w, h, R, d, os, S, o1, o2, gl, aEn, aIt, aOut, aPh, aF, aPc, q, tq, k0, k1, k2, k3, k4, fr, ⟨aL, b1, b2, b3, b4, b5, b6⟩, D, nD⟩ := X
  intro tk sa tp tc tn k16 k17 k18 iv lv px n n1 n2 sl1 sl2 ov phv hsa hov hph hol hpl hs1 hs2 hpx
  simp only at *
  subst hsa
  have ho : ov.length < 9999 := by rw [hov.length]; omega
  have hp9 : phv.length < 9999 := by rw [hph.length]; omega
  simp only [TsAt] at H
  run_tac runJ [] (say := false)
  run_tac leafT "H"

theorem ts_DQ {X : TsX} {rest : List (Addr × Obj)} {i : Nat} {p : Option Nat} {y : Option Nat} {c : Nat} {qe : Bool} {o ph : List Str} {k : Nat} (hi : i < 9000) 
  (H : ∀ x', cstep .named p c y ⟨6, qe, o, ph, k⟩ = some x' → TsAt X rest (i + 1) (some c) x') : TsMid X rest i p c y ⟨6, qe, o, ph, k⟩ := by
  replace H := fun s qe o ph => H ⟨s, qe, o, ph, k⟩
  obtain ⟨w, h, R, d, os, S, o1, o2, gl, aEn, aIt, aOut, aPh, aF, aPc, q, tq, k0, k1, k2, k3, k4, fr, ⟨aL, b1, b2, b3, b4, b5, b6⟩, D, nD⟩ := X
  intro tk sa tp tc tn k16 k17 k18 iv lv px n n1 n2 sl1 sl2 ov phv hsa hov hph hol hpl hs1 hs2 hpx
  simp only at *
  subst hsa
  have ho : ov.length < 9999 := by rw [hov.length]; omega
  have hp9 : phv.length < 9999 := by rw [hph.length]; omega
  simp only [TsAt] at H
  run_tac runJ [] (say := false)
  run_tac leafT "H"
end Mine
end

section
open PySem PySem.W PySem.W.X PyProof.Rows
namespace Mine

theorem ts_o39 {X : TsX} {rest : List (Addr × Obj)} {i : Nat} {p : Option Nat} {y : Option Nat} {qe : Bool} {o ph : List Str} {k : Nat} (hi : i < 9000) 
  (H : ∀ x', cstep .named p 39 y ⟨0, qe, o, ph, k⟩ = some x' → TsAt X rest (i + 1) (some 39) x') : TsMid X rest i p 39 y ⟨0, qe, o, ph, k⟩ := by
  replace H := fun s qe o ph => H ⟨s, qe, o, ph, k⟩
  obtain ⟨w, h, R, d, os, S, o1, o2, gl, aEn, aIt, aOut, aPh, aF, aPc, q, tq, k0, k1, k2, k3, k4, fr, ⟨aL, b1, b2, b3, b4, b5, b6⟩, D, nD⟩ := X
  intro tk sa tp tc tn k16 k17 k18 iv lv px n n1 n2 sl1 sl2 ov phv hsa hov hph hol hpl hs1 hs2 hpx
  simp only at *
  subst hsa
  have ho : ov.length < 9999 := by rw [hov.length]; omega
  have hp9 : phv.length < 9999 := by rw [hph.length]; omega
  simp only [TsAt] at H
  run_tac runJ [] (say := false)
  run_tac leafT "H"

theorem ts_o34 {X : TsX} {rest : List (Addr × Obj)} {i : Nat} {p : Option Nat} {y : Option Nat} {qe : Bool} {o ph : List Str} {k : Nat} (hi : i < 9000) 
  (H : ∀ x', cstep .named p 34 y ⟨0, qe, o, ph, k⟩ = some x' → TsAt X rest (i + 1) (some 34) x') : TsMid X rest i p 34 y ⟨0, qe, o, ph, k⟩ := by
  replace H := fun s qe o ph => H ⟨s, qe, o, ph, k⟩
  obtain ⟨w, h, R, d, os, S, o1, o2, gl, aEn, aIt, aOut, aPh, aF, aPc, q, tq, k0, k1, k2, k3, k4, fr, ⟨aL, b1, b2, b3, b4, b5, b6⟩, D, nD⟩ := X
  intro tk sa tp tc tn k16 k17 k18 iv lv px n n1 n2 sl1 sl2 ov phv hsa hov hph hol hpl hs1 hs2 hpx
  simp only at *
  subst hsa
  have ho : ov.length < 9999 := by rw [hov.length]; omega
  have hp9 : phv.length < 9999 := by rw [hph.length]; omega
  simp only [TsAt] at H
  run_tac runJ [] (say := false)
  run_tac leafT "H"

theorem ts_o45 {X : TsX} {rest : List (Addr × Obj)} {i : Nat} {p : Option Nat} {y : Option Nat} {qe : Bool} {o ph : List Str} {k : Nat} (hi : i < 9000) 
  (H : ∀ x', cstep .named p 45 y ⟨0, qe, o, ph, k⟩ = some x' → TsAt X rest (i + 1) (some 45) x') : TsMid X rest i p 45 y ⟨0, qe, o, ph, k⟩ := by
  replace H := fun s qe o ph => H ⟨s, qe, o, ph, k⟩
  obtain ⟨w, h, R, d, os, S, o1, o2, gl, aEn, aIt, aOut, aPh, aF, aPc, q, tq, k0, k1, k2, k3, k4, fr, ⟨aL, b1, b2, b3, b4, b5, b6⟩, D, nD⟩ := X
  intro tk sa tp tc tn k16 k17 k18 iv lv px n n1 n2 sl1 sl2 ov phv hsa hov hph hol hpl hs1 hs2 hpx
  simp only at *
  subst hsa
  have ho : ov.length < 9999 := by rw [hov.length]; omega
  have hp9 : phv.length < 9999 := by rw [hph.length]; omega
  simp only [TsAt] at H
  run_tac runJ [] (say := false)
  run_tac leafT "H"

theorem ts_o36a {X : TsX} {rest : List (Addr × Obj)} {i : Nat} {y : Option Nat} {qe : Bool} {o ph : List Str} {k : Nat} (hi : i < 9000) 
  (H : ∀ x', cstep .named (some 36) 36 y ⟨0, qe, o, ph, k⟩ = some x' → TsAt X rest (i + 1) (some 36) x') : TsMid X rest i (some 36) 36 y ⟨0, qe, o, ph, k⟩ := by
  replace H := fun s qe o ph => H ⟨s, qe, o, ph, k⟩
  obtain ⟨w, h, R, d, os, S, o1, o2, gl, aEn, aIt, aOut, aPh, aF, aPc, q, tq, k0, k1, k2, k3, k4, fr, ⟨aL, b1, b2, b3, b4, b5, b6⟩, D, nD⟩ := X
  intro tk sa tp tc tn k16 k17 k18 iv lv px n n1 n2 sl1 sl2 ov phv hsa hov hph hol hpl hs1 hs2 hpx
  simp only at *
  subst hsa
  have ho : ov.length < 9999 := by rw [hov.length]; omega
  have hp9 : phv.length < 9999 := by rw [hph.length]; omega
  simp only [TsAt] at H
  run_tac runJ [] (say := false)
  run_tac leafT "H"

theorem ts_o36b {X : TsX} {rest : List (Addr × Obj)} {i : Nat} {p : Option Nat} {qe : Bool} {o ph : List Str} {k : Nat} (hi : i < 9000) (hp : ¬ p = some 36)
  (H : ∀ x', cstep .named p 36 (some 36) ⟨0, qe, o, ph, k⟩ = some x' → TsAt X rest (i + 1) (some 36) x') : TsMid X rest i p 36 (some 36) ⟨0, qe, o, ph, k⟩ := by
  replace H := fun s qe o ph => H ⟨s, qe, o, ph, k⟩
  obtain ⟨w, h, R, d, os, S, o1, o2, gl, aEn, aIt, aOut, aPh, aF, aPc, q, tq, k0, k1, k2, k3, k4, fr, ⟨aL, b1, b2, b3, b4, b5, b6⟩, D, nD⟩ := X
  intro tk sa tp tc tn k16 k17 k18 iv lv px n n1 n2 sl1 sl2 ov phv hsa hov hph hol hpl hs1 hs2 hpx
  simp only at *
  subst hsa
  have ho : ov.length < 9999 := by rw [hov.length]; omega
  have hp9 : phv.length < 9999 := by rw [hph.length]; omega
  simp only [TsAt] at H
  run_tac runJ [] (say := false)
  run_tac leafT "H"

theorem ts_plain {X : TsX} {rest : List (Addr × Obj)} {i : Nat} {p : Option Nat} {y : Option Nat} {c : Nat} {qe : Bool} {o ph : List Str} {k : Nat} (hi : i < 9000) (h39 : ¬ c = 39) (h34 : ¬ c = 34) (h45 : ¬ c = 45) (h36 : ¬ c = 36) (hsp : ¬ c = 58)
  (H : ∀ x', cstep .named p c y ⟨0, qe, o, ph, k⟩ = some x' → TsAt X rest (i + 1) (some c) x') : TsMid X rest i p c y ⟨0, qe, o, ph, k⟩ := by
  replace H := fun s qe o ph => H ⟨s, qe, o, ph, k⟩
  obtain ⟨w, h, R, d, os, S, o1, o2, gl, aEn, aIt, aOut, aPh, aF, aPc, q, tq, k0, k1, k2, k3, k4, fr, ⟨aL, b1, b2, b3, b4, b5, b6⟩, D, nD⟩ := X
  intro tk sa tp tc tn k16 k17 k18 iv lv px n n1 n2 sl1 sl2 ov phv hsa hov hph hol hpl hs1 hs2 hpx
  simp only at *
  subst hsa
  have ho : ov.length < 9999 := by rw [hov.length]; omega
  have hp9 : phv.length < 9999 := by rw [hph.length]; omega
  simp only [TsAt] at H
  run_tac runJ [] (say := false)
  run_tac leafT "H"

theorem ts_colon {X : TsX} {rest : List (Addr × Obj)} {i : Nat} {p : Option Nat} {y : Nat} {qe : Bool} {o ph : List Str} {k : Nat} (hi : i < 9000) 
  (H : ∀ x', cstep .named p 58 (some y) ⟨0, qe, o, ph, k⟩ = some x' → TsAt X rest (i + 1) (some 58) x') : TsMid X rest i p 58 (some y) ⟨0, qe, o, ph, k⟩ := by
  replace H := fun s qe o ph => H ⟨s, qe, o, ph, k⟩
  obtain ⟨w, h, R, d, os, S, o1, o2, gl, aEn, aIt, aOut, aPh, aF, aPc, q, tq, k0, k1, k2, k3, k4, fr, ⟨aL, b1, b2, b3, b4, b5, b6⟩, D, nD⟩ := X
  intro tk sa tp tc tn k16 k17 k18 iv lv px n n1 n2 sl1 sl2 ov phv hsa hov hph hol hpl hs1 hs2 hpx
  simp only at *
  subst hsa
  have ho : ov.length < 9999 := by rw [hov.length]; omega
  have hp9 : phv.length < 9999 := by rw [hph.length]; omega
  simp only [TsAt] at H
  run_tac walk [("str.__contains__", "strin_ok")] (say := false)
  run_tac leafT "H"
end Mine
end

section
open PySem PySem.W PySem.W.X PyProof.Rows
namespace Mine

theorem ts_pn_alnum {X : TsX} {rest : List (Addr × Obj)} {i : Nat} {p : Option Nat} {qe : Bool} {o ph : List Str} {k : Nat} {cur : Str} {c y : Nat} (hi : i < 9000) (hcur : cur.cps.size < 9000) (hy : Unicode.isAlnum y = true)
  (H : TsAt X rest (i + 1) (some c) ⟨4, qe, o, ph ++ [⟨cur.cps ++ #[c]⟩], k⟩) : TsMid X rest i p c (some y) ⟨4, qe, o, ph ++ [cur], k⟩ := by
  obtain ⟨w, h, R, d, os, S, o1, o2, gl, aEn, aIt, aOut, aPh, aF, aPc, q, tq, k0, k1, k2, k3, k4, fr, ⟨aL, b1, b2, b3, b4, b5, b6⟩, D, nD⟩ := X
  intro tk sa tp tc tn k16 k17 k18 iv lv px n n1 n2 sl1 sl2 ov phv hsa hov hph hol hpl hs1 hs2 hpx
  simp only at *
  subst hsa
  have ho : ov.length < 9999 := by rw [hov.length]; omega
  have hp9 : phv.length < 9999 := by rw [hph.length]; omega
  simp only [TsAt] at H
  obtain ⟨us, tcur, he, hus⟩ := Strs.last hph
  have hm : us.length < 9000 := by rw [hus.length]; simp at hpl; omega
  run_tac walk [("list.__getitem__", "last_ok"), ("list.__setitem__", "set_ok"), ("str.__add__", "stradd_ok"), ("str.isalnum", "isalnum_ok (b := true)")] (say := false)
  run_tac leafT "H"

theorem ts_pn_low {X : TsX} {rest : List (Addr × Obj)} {i : Nat} {p : Option Nat} {qe : Bool} {o ph : List Str} {k : Nat} {cur : Str} {c : Nat} (hi : i < 9000) (hcur : cur.cps.size < 9000)
  (H : TsAt X rest (i + 1) (some c) ⟨4, qe, o, ph ++ [⟨cur.cps ++ #[c]⟩], k⟩) : TsMid X rest i p c (some 95) ⟨4, qe, o, ph ++ [cur], k⟩ := by
  obtain ⟨w, h, R, d, os, S, o1, o2, gl, aEn, aIt, aOut, aPh, aF, aPc, q, tq, k0, k1, k2, k3, k4, fr, ⟨aL, b1, b2, b3, b4, b5, b6⟩, D, nD⟩ := X
  intro tk sa tp tc tn k16 k17 k18 iv lv px n n1 n2 sl1 sl2 ov phv hsa hov hph hol hpl hs1 hs2 hpx
  simp only at *
  subst hsa
  have ho : ov.length < 9999 := by rw [hov.length]; omega
  have hp9 : phv.length < 9999 := by rw [hph.length]; omega
  simp only [TsAt] at H
  obtain ⟨us, tcur, he, hus⟩ := Strs.last hph
  have hm : us.length < 9000 := by rw [hus.length]; simp at hpl; omega
  have hy : Unicode.isAlnum 95 = false := by decide +kernel
  run_tac walk [("list.__getitem__", "last_ok"), ("list.__setitem__", "set_ok"), ("str.__add__", "stradd_ok"), ("str.isalnum", "isalnum_ok (b := false)")] (say := false)
  run_tac leafT "H"
end Mine
end

section
open PySem PySem.W PySem.W.X PyProof.Rows
namespace Mine

section
variable {w : World} {hd : Option Value} {h : Heap} {A : Around} {R : Result → Shared → Prop} {d : Drawn} {os : OsState} {S : List Addr} {o1 o2 : Obj} {rest : List (Addr × Obj)} {c : Code} {κ : Kont} {gl : List GenState} {tk : Nat} {k : Result → Sem PySem.Fin} {g : Bool} {l : List Value}
theorem intfmt_ok (hle : ALe (aroundOf (mkV w h A R d os) true (.ret c none k κ)) (A1 hd))
   {L : List (Addr × Obj)} {X : Int} {t ts : Tok} (h0 : 0 ≤ X) (h9 : X < 10)
   (H : ∀ tk' tv n, X = Int.ofNat n → J (mkV w h A R d os) S (T2 o1 o2) L ⟨c, none, κ, k (.ok (.ret (.str (digS n) tv))), gl, tk'⟩) :
   J (mkV w h A R d os) S (T2 o1 o2) L ⟨c, none, κ, .call (.call (.builtin "int.__format__") ⟨[.int X t, .str ⟨#[]⟩ ts], []⟩) none g l k, gl, tk⟩ := by
  refine J.callee (V' := mkV w h (A1 hd) (endOf (mkV w h A R d os) (.ret c none k κ)) d os) rfl rfl rfl rfl rfl rfl rfl hle rfl ?_
  obtain ⟨n, rfl⟩ := Int.eq_ofNat_of_zero_le h0
  have hn : n < 10 := by omega
  replace H := fun tk' tv => H tk' tv n rfl
  clear h0 h9
  have hn : n = 0 ∨ n = 1 ∨ n = 2 ∨ n = 3 ∨ n = 4 ∨ n = 5 ∨ n = 6 ∨ n = 7 ∨ n = 8 ∨ n = 9 := by omega
  rcases hn with rfl | rfl | rfl | rfl | rfl | rfl | rfl | rfl | rfl | rfl
  all_goals
    run_tac runJ [] (say := false)
    run_tac backJ
    run_tac useS "H"
end

open Lean Elab Tactic Meta in
def tpWalk : TacticM Unit := do
  walk [("list.__getitem__", "last_ok"), ("list.__setitem__", "set_ok"), ("str.__add__", "stradd_ok"), ("str.isalnum", "isalnum_ok (b := false)")] (say := false) (places := [← placeIn 782 5 [(2,1),(2,0),(2,0),(2,0),(2,0),(1,1),(1,0)]])
def tpCap (aEn aF aPc : Addr) : Prop := ∀ (X : TsX) (rest : List (Addr × Obj)) (tk i c : Nat) (tp tc tn tcur k16 k17 k18 : Tok) (qe : Bool) (pv iv lv : Value) (px : List DictEntry) (n n1 n2 : Nat) (sl1 lf : Array (Option Value)) (ov ph us : List Value) (cur : Str)
  (_ : EndsIn ph us (.str cur tcur)) (_ : us.length < 9000) (_ : cur.cps.size < 9000) (_ : X.q.cps.size < 10000),
  J (mkV X.w X.h (AF X.fr) X.R X.d X.os) X.S (T2 X.o1 X.o2) (tsL aEn X.aIt aF X.aPh X.aOut aPc X.q X.tq i lv (tsFr X.w.params X.q X.tq qe X.aOut (stA 4) pv X.k0 X.k1 X.k2 X.k3 X.k4 (ent X.w.params "i" k16 iv :: ent X.w.params "c" k17 (.str ⟨#[c]⟩ tc) :: ent X.w.params "next_c" k18 (optV none tn) :: px) n sl1) ph n2 ov n1 X.F (frameO X.D X.nD lf) rest)
    ⟨tsLoop aEn aF aPc, none, .base, tsMid aEn aF aPc, X.gl, tk⟩
noncomputable def tpMid (aEn aF aPc : Addr) : Sem PySem.Fin := by
  run_tac capTree "tpCap aEn aF aPc" tpWalk
/-- in to_statement's loop, where a name has come to its end -/
def TsEnd (X : TsX) (rest : List (Addr × Obj)) (i : Nat) (p : Option Nat) (c : Nat) (y : Option Nat) (cur : Str) (x : CS) : Prop :=
  ∀ (tk : Nat) (tp tc tn k16 k17 k18 tcur : Tok) (iv lv : Value) (px : List DictEntry) (n n1 n2 : Nat) (sl1 sl2 : Array (Option Value)) (ov ph us : List Value), Strs ov x.out → EndsIn ph us (.str cur tcur) → Strs us x.ph → x.out.length ≤ i → x.ph.length + 1 ≤ i → TsOk X.F X.aPc sl1 → LfOk X.F sl2 → PxOk X.w.params px →
    J (mkV X.w X.h (AF X.fr) X.R X.d X.os) X.S (T2 X.o1 X.o2) (tsL X.aEn X.aIt X.aF X.aPh X.aOut X.aPc X.q X.tq (i + 1) lv (tsFr X.w.params X.q X.tq x.qe X.aOut (stA 4) (optV p tp) X.k0 X.k1 X.k2 X.k3 X.k4 (ent X.w.params "i" k16 iv :: ent X.w.params "c" k17 (.str ⟨#[c]⟩ tc) :: ent X.w.params "next_c" k18 (optV y tn) :: px) n sl1) ph n2 ov n1 X.F (frameO X.D X.nD sl2) rest)
    ⟨tsLoop X.aEn X.aF X.aPc, none, .base, tpMid X.aEn X.aF X.aPc, X.gl, tk⟩

theorem ts_pn_end_none {X : TsX} {rest : List (Addr × Obj)} {i : Nat} {p : Option Nat} {qe : Bool} {o ph : List Str} {k : Nat} {cur : Str} {c : Nat} (hi : i < 9000) (hcur : cur.cps.size < 9000) 
  (H : TsEnd X rest i p c none ⟨cur.cps ++ #[c]⟩ ⟨4, qe, o, ph, k⟩) : TsMid X rest i p c none ⟨4, qe, o, ph ++ [cur], k⟩ := by
  obtain ⟨w, h, R, d, os, S, o1, o2, gl, aEn, aIt, aOut, aPh, aF, aPc, q, tq, k0, k1, k2, k3, k4, fr, ⟨aL, b1, b2, b3, b4, b5, b6⟩, D, nD⟩ := X
  intro tk sa tp tc tn k16 k17 k18 iv lv px n n1 n2 sl1 sl2 ov phv hsa hov hph hol hpl hs1 hs2 hpx
  simp only at *
  subst hsa
  obtain ⟨us, tcur, he, hus⟩ := Strs.last hph
  have hm : us.length < 9000 := by rw [hus.length]; simp at hpl; omega
  simp only [List.length_append, List.length_cons, List.length_nil] at hpl
  replace H := fun tk tcur n n2 ph he => H tk tp tc tn k16 k17 k18 tcur iv lv px n n1 n2 sl1 sl2 ov ph us hov he hus hol hpl hs1 hs2 hpx
  clear hov hph hol hpl hs1 hs2 hpx hus
  simp only at *
  run_tac tpWalk
  run_tac useS "H"
  run_tac restS side

theorem ts_pn_end_some {X : TsX} {rest : List (Addr × Obj)} {i : Nat} {p : Option Nat} {qe : Bool} {o ph : List Str} {k : Nat} {cur : Str} {c y : Nat} (hi : i < 9000) (hcur : cur.cps.size < 9000) (hy : Unicode.isAlnum y = false) (hy2 : ¬ y = 95) 
  (H : TsEnd X rest i p c (some y) ⟨cur.cps ++ #[c]⟩ ⟨4, qe, o, ph, k⟩) : TsMid X rest i p c (some y) ⟨4, qe, o, ph ++ [cur], k⟩ := by
  obtain ⟨w, h, R, d, os, S, o1, o2, gl, aEn, aIt, aOut, aPh, aF, aPc, q, tq, k0, k1, k2, k3, k4, fr, ⟨aL, b1, b2, b3, b4, b5, b6⟩, D, nD⟩ := X
  intro tk sa tp tc tn k16 k17 k18 iv lv px n n1 n2 sl1 sl2 ov phv hsa hov hph hol hpl hs1 hs2 hpx
  simp only at *
  subst hsa
  obtain ⟨us, tcur, he, hus⟩ := Strs.last hph
  have hm : us.length < 9000 := by rw [hus.length]; simp at hpl; omega
  simp only [List.length_append, List.length_cons, List.length_nil] at hpl
  replace H := fun tk tcur n n2 ph he => H tk tp tc tn k16 k17 k18 tcur iv lv px n n1 n2 sl1 sl2 ov ph us hov he hus hol hpl hs1 hs2 hpx
  clear hov hph hol hpl hs1 hs2 hpx hus
  simp only at *
  run_tac tpWalk
  run_tac useS "H"
  run_tac restS side

theorem ts_end {X : TsX} {rest : List (Addr × Obj)} {i : Nat} {p : Option Nat} {qe : Bool} {o ph : List Str} {k : Nat} {cur : Str} {c : Nat} {y : Option Nat} (hi : i < 9000) (hp8 : ph.length < 9) (hnm : cur = nmA ∨ cur = nmB ∨ cur = nmD ∨ cur = nmK)
  (hfr : X.fr = some [tsEnv X.aF X.aPc, lawEnv X.F])
  (H1 : ∀ j, whereIs cur ph = some j → TsAt X rest (i + 1) (some c) ⟨0, qe, o ++ [dolS (j + 1)], ph, k⟩)
  (H2 : whereIs cur ph = none → TsAt X rest (i + 1) (some c) ⟨0, qe, o ++ [dolS (ph.length + 1)], ph ++ [cur], k⟩) : TsEnd X rest i p c y cur ⟨4, qe, o, ph, k⟩ := by
  obtain ⟨w, h, R, d, os, S, o1, o2, gl, aEn, aIt, aOut, aPh, aF, aPc, q, tq, k0, k1, k2, k3, k4, fr, ⟨aL, b1, b2, b3, b4, b5, b6⟩, D, nD⟩ := X
  intro tk tp tc tn k16 k17 k18 tcur iv lv px n n1 n2 sl1 sl2 ov phv us hov he hus hol hpl hs1 hs2 hpx
  simp only at *
  subst hfr
  have ho : ov.length < 9999 := by rw [hov.length]; omega
  have hu8 : us.length < 9 := by rw [hus.length]; exact hp8
  have hm : us.length < 9000 := by omega
  have hl8 := hus.length
  have hphl := he.len
  simp only [TsAt] at H1 H2
  run_tac walk [("list.__getitem__", "last_ok"), ("list.__getitem__", "slice_ok"), ("list.index", "stop")] (say := false)
  run_tac useW "index_ok"
  case H1 =>
    intro j hj hjl tk' t'
    replace H1 := H1 j hj
    clear H2
    rcases hpx with rfl | ⟨kp, vp, rfl⟩
    all_goals
      run_tac walk [("int.__format__", "intfmt_ok"), ("list.__delitem__", "del_ok"), ("str.__add__", "stradd_ok")] (say := false)
      run_tac leafT "H1"
  case H2 =>
    intro hnone tk' e b to
    replace H2 := H2 hnone
    clear H1
    rcases hs1 with rfl | rfl <;> rcases hs2 with rfl | ⟨v2, rfl⟩
    all_goals
      run_tac walk [("int.__format__", "intfmt_ok"), ("list.__delitem__", "del_ok"), ("str.__add__", "stradd_ok")] (say := false)
      run_tac leafT "H2"
end Mine
end

section
open PySem PySem.W PySem.W.X PyProof.Rows
namespace Mine

def tstep (p : Option Nat) (x : Nat) (y : Option Nat) (c : CS) : Option CS :=
  if c.s = 0 ∧ x = 36 ∧ p ≠ some 36 ∧ y ≠ some 36 then none else cstep .named p x y c
theorem ts_mid {X : TsX} {rest : List (Addr × Obj)} {i : Nat} {p : Option Nat} {c : Nat} {y : Option Nat} {x x' : CS} (hi : i < 9000) (hfr : X.fr = some [tsEnv X.aF X.aPc, lawEnv X.F])
    (ht : tstep p c y x = some x') (H : TsAt X rest (i + 1) (some c) x') : TsMid X rest i p c y x := by
  obtain ⟨s, qe, o, ph, k⟩ := x
  have hs : cstep .named p c y ⟨s, qe, o, ph, k⟩ = some x' := by
    unfold tstep at ht
    split at ht
    · cases ht
    · exact ht
  have K : ∀ x'', cstep .named p c y ⟨s, qe, o, ph, k⟩ = some x'' → TsAt X rest (i + 1) (some c) x'' := fun x'' h => by
    rw [hs] at h
    cases h
    exact H
  by_cases s0 : s = 0
  · subst s0
    by_cases h39 : c = 39
    · subst h39; exact ts_o39 hi K
    by_cases h34 : c = 34
    · subst h34; exact ts_o34 hi K
    by_cases h45 : c = 45
    · subst h45; exact ts_o45 hi K
    by_cases h36 : c = 36
    · subst h36
      by_cases hp : p = some 36
      · subst hp; exact ts_o36a hi K
      · by_cases hy : y = some 36
        · subst hy; exact ts_o36b hi hp K
        · unfold tstep at ht
          rw [if_pos ⟨rfl, rfl, hp, hy⟩] at ht
          cases ht
    have hs' : cfree .named p c y qe o ph k = some x' := by simpa [cstep, h39, h34, h45, h36] using hs
    by_cases h58 : c = 58
    · subst h58
      cases y with
      | none => simp [cfree] at hs'
      | some y => exact ts_colon hi K
    · exact ts_plain hi h39 h34 h45 h36 h58 K
  by_cases s1 : s = 1
  · subst s1; exact ts_SQ hi K
  by_cases s2 : s = 2
  · subst s2; exact ts_QI hi K
  by_cases s3 : s = 3
  · subst s3; exact ts_ES hi K
  by_cases s5 : s = 5
  · subst s5; exact ts_CO hi K
  by_cases s6 : s = 6
  · subst s6; exact ts_DQ hi K
  by_cases s4 : s = 4
  · subst s4
    cases hl : ph.getLast? with
    | none => simp [cstep, hl] at hs
    | some cur =>
      have e := split_last hl
      have hs' : cpn .named p c y cur qe o ph.dropLast k = some x' := by simpa [cstep, hl] using hs
      clear hs ht K
      generalize ph.dropLast = ph0 at *
      subst e
      by_cases hcur : cur.cps.size < 9000
      · simp only [cpn, if_pos hcur] at hs'
        cases y with
        | none =>
          obtain ⟨a1, a2, a3, a4⟩ := cend_some hs'
          exact ts_pn_end_none hi hcur (ts_end hi a1 a2 hfr (fun j hj => a3 j hj ▸ H) (fun hn => a4 hn ▸ H))
        | some y =>
          by_cases ha : Unicode.isAlnum y = true
          · simp only [if_pos (Or.inl ha : Unicode.isAlnum y = true ∨ y = 95), Option.some.injEq] at hs'
            subst hs'
            exact ts_pn_alnum hi hcur ha H
          · by_cases h95 : y = 95
            · subst h95
              simp only [or_true, if_true, Option.some.injEq] at hs'
              subst hs'
              exact ts_pn_low hi hcur H
            · have : ¬ (Unicode.isAlnum y = true ∨ y = 95) := fun q => q.elim ha h95
              simp only [if_neg this] at hs'
              obtain ⟨a1, a2, a3, a4⟩ := cend_some hs'
              exact ts_pn_end_some hi hcur (by simpa using ha) h95 (ts_end hi a1 a2 hfr (fun j hj => a3 j hj ▸ H) (fun hn => a4 hn ▸ H))
      · simp [cpn, hcur] at hs'
  · simp [cstep, s0, s1, s2, s3, s4, s5, s6] at hs
def trun : Option Nat → List Nat → CS → Option (Option Nat × CS)
  | p, [], x => some (p, x)
  | p, c :: r, x => match tstep p c r.head? x with
    | none => none
    | some x' => trun (some c) r x'
theorem ts_loop {X : TsX} {rest : List (Addr × Obj)} (hq : X.q.cps.size < 9000) (hfr : X.fr = some [tsEnv X.aF X.aPc, lawEnv X.F]) :
    ∀ (l pre : List Nat) (p : Option Nat) (x : CS) (p' : Option Nat) (x' : CS), X.q.cps.toList = pre ++ l → trun p l x = some (p', x') → TsAt X rest X.q.cps.size p' x' → TsAt X rest pre.length p x
  | [], pre, p, x, p', x', e, h, H => by
    cases h
    have : X.q.cps.size = pre.length := by rw [← Array.length_toList, e]; simp
    rw [← this]
    exact H
  | c :: r, pre, p, x, p', x', e, h, H => by
    unfold trun at h
    split at h
    · cases h
    · rename_i x1 hs
      have hz : X.q.cps.size = pre.length + (r.length + 1) := by rw [← Array.length_toList, e]; simp
      have z := ts_loop hq hfr r (pre ++ [c]) (some c) x1 p' x' (by rw [e]; simp) h H
      have el : (pre ++ [c]).length = pre.length + 1 := by simp
      rw [el] at z
      obtain ⟨g1, g2⟩ := head_get (pre := pre) (r := r) (c := c)
      rw [← e] at g1 g2
      exact ts_head (by simpa using g1) (by simpa using g2) (by omega) (ts_mid (by omega) hfr hs z)
theorem ts_all {X : TsX} {rest : List (Addr × Obj)} {k : Nat} {p' : Option Nat} {x' : CS} (hq : X.q.cps.size < 9000) (hfr : X.fr = some [tsEnv X.aF X.aPc, lawEnv X.F])
    {c : Nat} {l : List Nat} (e : X.q.cps.toList = c :: l) (h : trun none (c :: l) ⟨0, false, [], [], k⟩ = some (p', x')) (H : TsAt X rest X.q.cps.size p' x') : TsStart X rest := by
  unfold trun at h
  split at h
  · cases h
  · rename_i x1 hs
    have z := ts_loop hq hfr l [c] (some c) x1 p' x' (by rw [e]; rfl) h H
    obtain ⟨g1, g2⟩ := head_get (pre := []) (r := l) (c := c)
    rw [List.nil_append, ← e] at g1 g2
    exact ts_head0 (by simpa using g1) (by simpa using g2) (by omega) (ts_mid (by omega) hfr hs z)
/-- the ledger behind to_statement's loop -/
def tsOut (aF aPh aOut aPc : Addr) (fr : Obj) (ph : List Value) (n2 : Nat) (ov : List Value) (n1 : Nat) (F : LF) (lf : Obj) (rest : List (Addr × Obj)) : List (Addr × Obj) :=
  (aF, fr) :: (aPh, listO ph n2) :: (aOut, listO ov n1) :: (aPc, cellO (.ref aPh)) :: (F.a, lf) :: rest
/-- behind to_statement's loop -/
def TsPost (X : TsX) (rest : List (Addr × Obj)) (x : CS) : Prop :=
  ∀ (cc : Code) (tk : Nat) (sa : Addr) (pv : Value) (n n1 n2 : Nat) (sl1 sl2 : Array (Option Value)) (ov ph : List Value) (r : List DictEntry), Strs ov x.out → Strs ph x.ph → TsOk X.F X.aPc sl1 → LfOk X.F sl2 → ROk X.w.params r →
    J (mkV X.w X.h (AF X.fr) X.R X.d X.os) X.S (T2 X.o1 X.o2) (tsOut X.aF X.aPh X.aOut X.aPc (tsFr X.w.params X.q X.tq x.qe X.aOut sa pv X.k0 X.k1 X.k2 X.k3 X.k4 r n sl1) ph n2 ov n1 X.F (frameO X.D X.nD sl2) rest)
      ⟨cc, none, .base, leafOf' (.ok .next), X.gl, tk⟩
theorem ts_exit {X : TsX} {rest : List (Addr × Obj)} {p : Option Nat} {x : CS} (hq : X.q.cps.size < 9000) (H : TsPost X rest x) : TsAt X rest X.q.cps.size p x := by
  obtain ⟨w, h, R, d, os, S, o1, o2, gl, aEn, aIt, aOut, aPh, aF, aPc, q, tq, k0, k1, k2, k3, k4, fr, ⟨aL, b1, b2, b3, b4, b5, b6⟩, D, nD⟩ := X
  intro tk sa tp k16 k17 k18 iv cv nv lv px n n1 n2 sl1 sl2 ov phv hsa hov hph hol hpl hs1 hs2 hpx
  replace H := fun cc tk => H cc tk sa (optV p tp) n n1 n2 sl1 sl2 ov phv ((ent w.params "i" k16 iv :: ent w.params "c" k17 cv :: ent w.params "next_c" k18 nv :: px)) hov hph hs1 hs2 (by
    rcases hpx with rfl | ⟨k, v, rfl⟩
    · exact .inr (.inl ⟨_, _, _, _, _, _, rfl⟩)
    · exact .inr (.inr ⟨_, _, _, _, _, _, _, _, rfl⟩))
  clear hsa hov hph hol hpl hs1 hs2 hpx
  simp only at *
  obtain ⟨N, hN⟩ : ∃ N, N = q.cps.size := ⟨_, rfl⟩
  rw [← hN]
  have hN2 : q.length ≤ N := by rw [hN]; exact Nat.le_refl _
  have hN3 : q.cps[N]? = none := by rw [hN]; simp
  generalize optV p tp = pv at *
  run_tac runJ [] (say := false)
  run_tac useS "H"
theorem ts_exit0 {X : TsX} {rest : List (Addr × Obj)} {k : Nat} (hq : X.q.cps.size = 0) (H : TsPost X rest ⟨0, false, [], [], k⟩) : TsStart X rest := by
  obtain ⟨w, h, R, d, os, S, o1, o2, gl, aEn, aIt, aOut, aPh, aF, aPc, q, tq, k0, k1, k2, k3, k4, fr, ⟨aL, b1, b2, b3, b4, b5, b6⟩, D, nD⟩ := X
  intro tk n n1 n2 sl1 sl2 ov ph hov hph hs1 hs2
  subst hov hph
  replace H := fun cc tk => H cc tk (stA 0) .none n n1 n2 sl1 sl2 [] [] [] .nil .nil hs1 hs2 (.inl rfl)
  clear hs1 hs2
  simp only at *
  have hN2 : q.length ≤ 0 := by show q.cps.size ≤ 0; omega
  have hN3 : q.cps[0]? = none := by simp [hq]
  run_tac runJ [] (say := false)
  run_tac useS "H"
theorem ts_whole {X : TsX} {rest : List (Addr × Obj)} {kk : Nat} {p' : Option Nat} {x' : CS} (hq : X.q.cps.size < 9000) (hfr : X.fr = some [tsEnv X.aF X.aPc, lawEnv X.F])
    (h : trun none X.q.cps.toList ⟨0, false, [], [], kk⟩ = some (p', x')) (H : TsPost X rest x') : TsStart X rest := by
  cases e : X.q.cps.toList with
  | nil =>
    rw [e] at h
    cases h
    exact ts_exit0 (by simpa using congrArg List.length e) H
  | cons c l =>
    rw [e] at h
    exact ts_all hq hfr e h (ts_exit hq H)
theorem ts_use {w : World} {h : Heap} {R : Result → Shared → Prop} {d : Drawn} {os : OsState} {S : List Addr} {o1 o2 : Obj} {gl : List GenState}
  {aEn aIt aOut aPh aF aPc : Addr} {q : Str} {tq : Tok} {k0 k1 k2 k3 k4 : Tok} {fr : Option (List Env)} {F : LF} {D : List DictEntry} {nD : Nat} {rest : List (Addr × Obj)} {tk n n1 n2 : Nat} {sl1 sl2 : Array (Option Value)} (hs1 : TsOk F aPc sl1) (hs2 : LfOk F sl2)
  (H : TsStart ⟨w, h, R, d, os, S, o1, o2, gl, aEn, aIt, aOut, aPh, aF, aPc, q, tq, k0, k1, k2, k3, k4, fr, F, D, nD⟩ rest) :
  J (mkV w h (AF fr) R d os) S (T2 o1 o2) (tsL aEn aIt aF aPh aOut aPc q tq 0 .none (tsFr w.params q tq false aOut (stA 0) .none k0 k1 k2 k3 k4 [] n sl1) [] n2 [] n1 F (frameO D nD sl2) rest)
    ⟨tsLoop aEn aF aPc, none, .base, denote table (tsLoop aEn aF aPc), gl, tk⟩ := H tk n n1 n2 sl1 sl2 [] [] rfl rfl hs1 hs2
end Mine
end

section
open PySem PySem.W PySem.W.X PyProof.Rows
namespace Mine
noncomputable def mvArgs : Arguments := by run_tac navPart 782 7 [(1, none)]
noncomputable def mvBody : List Stmt := by run_tac stmtPart 782 7 2
noncomputable def mvScope : Scope := by run_tac navPart 782 7 [(6, none)]
noncomputable def mvO (aPc aMC aCT : Addr) : Obj := { cls := .type "function", data := .func { name := "make_vals", qualname := "to_statement.<locals>.make_vals", params := mvArgs, body := .stmts mvBody, scope := mvScope, globals := 3, closure := [("placeholders", aPc)], defaults := .none, kwdefaults := .none, pyModule := .str "law_fv0017_01" 1403, code := .ref aMC, closureTuple := .ref aCT } }
/-- make_vals' code object: tokens, addresses -/
structure MC where
  (t1 t2 t3 t4 : Tok) (r1 r2 r3 : Addr) (nn : Nat)
def mvCO (c : MC) : Obj := { cls := .type "code", data := .fields #[.str "make_vals" c.t1, .str "to_statement.<locals>.make_vals" c.t2, .str "/claim/cut.py" c.t3, .int 644 0, .int 1 0, .int 0 0, .int 0 0, .int 19 0, .ref c.r1, .bool true, .int 181 0, .ref c.r2, .none, .none, .none, .ref c.r3, .int (Int.ofNat c.nn) 0, .int 644 0, .str "/claim/cut.py" c.t4] }
def tabM (a : Addr) : Obj := { cls := .none, data := .fields #[.int 644 0, .int 4 0, .ref a] }
theorem ts_use2 {w : World} {h : Heap} {R : Result → Shared → Prop} {d : Drawn} {os : OsState} {S : List Addr} {o1 o2 : Obj} {gl : List GenState}
  {aEn aIt aOut aPh aF aPc : Addr} {q : Str} {tq : Tok} {k0 k1 k2 k3 k4 : Tok} {fr : Option (List Env)} {F : LF} {D : List DictEntry} {nD : Nat} {rest : List (Addr × Obj)} {tk n n1 n2 : Nat} {sl1 sl2 : Array (Option Value)} (hs1 : TsOk F aPc sl1) (hs2 : LfOk F sl2)
  (H : TsStart ⟨w, h, R, d, os, S, o1, o2, gl, aEn, aIt, aOut, aPh, aF, aPc, q, tq, k0, k1, k2, k3, k4, fr, F, D, nD⟩ rest) :
  J (mkV w h (AF fr) R d os) S (T2 o1 o2) ((aPc, cellO (.ref aPh)) :: (aEn, enumO aIt 0 .none) :: (aIt, strItO q tq 0) :: (aF, tsFr w.params q tq false aOut (stA 0) .none k0 k1 k2 k3 k4 [] n sl1) :: (aPh, listO [] n2) :: (aOut, listO [] n1) :: (F.a, frameO D nD sl2) :: rest)
    ⟨tsLoop aEn aF aPc, none, .base, denote table (tsLoop aEn aF aPc), gl, tk⟩ :=
  J.perm (List.perm_middle (l₁ := [(aEn, enumO aIt 0 .none), (aIt, strItO q tq 0), (aF, tsFr w.params q tq false aOut (stA 0) .none k0 k1 k2 k3 k4 [] n sl1), (aPh, listO [] n2), (aOut, listO [] n1)])).symm (ts_use hs1 hs2 H)
section
variable {w : World} {h : Heap} {A : Around} {R : Result → Shared → Prop} {d : Drawn} {os : OsState} {S : List Addr} {o1 o2 : Obj} {rest : List (Addr × Obj)} {c : Code} {κ : Kont} {gl : List GenState} {tk : Nat} {k : Result → Sem PySem.Fin} {g : Bool} {l : List Value}
   {F : LF} {D : List DictEntry} {nD : Nat} {sl2 : Array (Option Value)} {q : Str} {tq : Tok} {p' : Option Nat} {x' : CS}
theorem ts_ok (hle : ALe (aroundOf (mkV w h A R d os) true (.ret c none k κ)) (A4 (some [lawEnv F]))) (hs2 : LfOk F sl2)
   (hq : q.cps.size < 9000) (hb : (q.cps.all fun x => decide (x < 128)) = true) (hrun : trun none q.cps.toList ⟨0, false, [], [], 1⟩ = some (p', x'))
   (hx1 : x'.ph.length ≤ 9) (hx2 : ∀ s ∈ x'.ph, s = nmA ∨ s = nmB ∨ s = nmD ∨ s = nmK) (hx3 : JoinOk ⟨#[]⟩ x'.out = true)
   (H : ∀ tk' aR aMv aMC aCT aPc aPh tv mc sl2' phv n2, Strs phv x'.ph → LfOk F sl2' →
     J (mkV w h A R d os) S (T2 o1 (tabM aMC)) ((aR, tupO [.str (Str.join ⟨#[]⟩ x'.out) tv, .ref aMv]) :: (aMv, mvO aPc aMC aCT) :: (aMC, mvCO mc) :: (aPc, cellO (.ref aPh)) :: (aPh, listO phv n2) :: (F.a, frameO D nD sl2') :: rest) ⟨c, none, κ, k (.ok (.ret (.ref aR))), gl, tk'⟩) :
   J (mkV w h A R d os) S (T2 o1 (tabO [])) ((F.a, frameO D nD sl2) :: rest) ⟨c, none, κ, .call (.call (.ref 782) ⟨[.str q tq], []⟩) none g l k, gl, tk⟩ := by
  refine J.callee (V' := mkV w h (A4 (some [lawEnv F])) (endOf (mkV w h A R d os) (.ret c none k κ)) d os) rfl rfl rfl rfl rfl rfl rfl hle rfl ?_
  run_tac walk [("str.__iter__", "striter_ok")] (say := false)
  run_tac calleeJ fun fr => return Lean.mkApp (Lean.mkConst ``AF) fr
  run_tac useS "ts_use2 (F := F)"
  case hs1 => exact .inl rfl
  case hs2 => exact hs2
  case H =>
    refine ts_whole hq rfl hrun ?_
    intro cc tk2 sa pv n n1 n2 sl1 sl2 ov ph r hov hph hs1 hs2 hr
    obtain ⟨s, qe, o, phs, kk⟩ := x'
    try simp only at *
    clear hrun
    have hc1 : decide ((⟨#[116,121,112,101,115]⟩ : Str) ∈ phs) = false := decide_eq_false fun hm => by rcases hx2 _ hm with e | e | e | e <;> cases e
    have hc2 : decide ((⟨#[115,116,114,101,97,109]⟩ : Str) ∈ phs) = false := decide_eq_false fun hm => by rcases hx2 _ hm with e | e | e | e <;> cases e
    rcases hr with rfl | ⟨k16, k17, k18, iv, cv, nv, rfl⟩ | ⟨k16, k17, k18, k19, iv, cv, nv, pv9, rfl⟩
    all_goals
      run_tac backJ
      run_tac walk [("str.join", "join_ok")] (say := false)
      run_tac enterJ
      run_tac walk [("list.__contains__", "contains_ok (b := false)")] (say := false)
      run_tac enterJ
      run_tac walk [("list.__contains__", "contains_ok (b := false)")] (say := false)
      run_tac enterJ
      run_tac walk [("str.join", "join_ok")] (say := false)
      run_tac backJ
      run_tac useS "H (mc := ⟨_, _, _, _, _, _, _, _⟩)"
      run_tac restS side
end
end Mine
end

section
open PySem PySem.W PySem.W.X PyProof.Rows
namespace Mine
noncomputable def mvTarget : PySem.Expr := by run_tac navPart 782 7 [(2, some 2), (0, none)]
noncomputable def mvLBody : List Stmt := by run_tac navPart 782 7 [(2, some 2), (2, none)]
noncomputable def mvEnv (aF aPc aMv aMC : Addr) : Env := { scope := mvScope, locals := aF, globals := 3, cells := [("placeholders", aPc)], qual := "to_statement.<locals>.make_vals.<locals>.", func := some aMv, code := .ref aMC, frame := some aF, builtins := 0 }
noncomputable def mvLoop (aIt aF aPc aMv aMC : Addr) : Code := .forLoop mvTarget (.ref aIt) mvLBody [] (mvEnv aF aPc aMv aMC)
open Lean Elab Tactic Meta in
def mvWalk : TacticM Unit := do
  let p ← placeOf (← nav (← stmtsOf 782)[7]! [(2, some 2)])
  runJ [] [] (loops := false) (places := [p])
  enterJ
  runJ [] [] (say := false)
def A7 : Around := { handled := none, depth := 400, frames := none, guards := none, units := 100 }
section
variable {w : World} {h : Heap} {A : Around} {R : Result → Shared → Prop} {d : Drawn} {os : OsState} {S : List Addr} {o1 o2 : Obj} {rest : List (Addr × Obj)} {c : Code} {κ : Kont} {gl : List GenState} {tk : Nat} {k : Result → Sem PySem.Fin} {g : Bool} {l : List Value}
   {aMv aMC aPc aCT aPh aG : Addr} {mc : MC} {ph : List Value} {ss : List Str} {n2 : Nat} {q1 q2 q3 q4 : Tok} {i1 i2 i3 i4 : Int} {u1 u2 u3 u4 : Tok} {nG : Nat}
theorem mv_loop {fr : Option (List Env)} {aF aIt aVs aAL : Addr} {t1 t2 t3 : Tok} (hph : Strs ph ss) (h9 : ss.length ≤ 9) (hss : ∀ s ∈ ss, s = nmA ∨ s = nmB ∨ s = nmD ∨ s = nmK)
   (H : ∀ cc tk lv n nf fr0 t, (fr0 = [ent w.params "args" t1 (.ref aG), ent w.params "arg_list" t2 (.ref aAL), ent w.params "vals" t3 (.ref aVs)] ∨ ∃ v, fr0 = [ent w.params "args" t1 (.ref aG), ent w.params "arg_list" t2 (.ref aAL), ent w.params "vals" t3 (.ref aVs), ent w.params "p" t v]) → lv = ss.map (valOf (.int i1 u1) (.int i2 u2) (.int i3 u3) (.int i4 u4)) → lv.length ≤ 9 →
     J (mkV w h (AF fr) R d os) S (T2 o1 o2) ((aF, frameO fr0 nf #[]) :: (aPh, listO ph n2) :: (aVs, listO lv n) :: (aG, giv w.params q1 q2 q3 q4 (.int i1 u1) (.int i2 u2) (.int i3 u3) (.int i4 u4) nG) :: rest) ⟨cc, none, .base, leafOf' (.ok .next), gl, tk⟩) :
   ∀ (m i : Nat), i + m = ss.length → ∀ (tk nf n : Nat) (fr0 : List DictEntry) (t : Tok) (lv : List Value), lv = (ss.take i).map (valOf (.int i1 u1) (.int i2 u2) (.int i3 u3) (.int i4 u4)) → (fr0 = [ent w.params "args" t1 (.ref aG), ent w.params "arg_list" t2 (.ref aAL), ent w.params "vals" t3 (.ref aVs)] ∨ ∃ v, fr0 = [ent w.params "args" t1 (.ref aG), ent w.params "arg_list" t2 (.ref aAL), ent w.params "vals" t3 (.ref aVs), ent w.params "p" t v]) →
     J (mkV w h (AF fr) R d os) S (T2 o1 o2) ((aF, frameO fr0 nf #[]) :: (aIt, litO aPh i) :: (aPh, listO ph n2) :: (aVs, listO lv n) :: (aG, giv w.params q1 q2 q3 q4 (.int i1 u1) (.int i2 u2) (.int i3 u3) (.int i4 u4) nG) :: rest)
        ⟨mvLoop aIt aF aPc aMv aMC, none, .base, denote table (mvLoop aIt aF aPc aMv aMC), gl, tk⟩ := by
  have hlen := hph.length
  have hl20 : ph.length < 20 := by omega
  intro m
  induction m with
  | zero =>
    intro i him tk nf n fr0 t lv hlv hfr
    have hge : ph.length ≤ i := by omega
    have hi : i < 10000 := by omega
    have hlv2 : lv = ss.map (valOf (.int i1 u1) (.int i2 u2) (.int i3 u3) (.int i4 u4)) := by rw [hlv, List.take_of_length_le (by omega)]
    replace H := fun cc tk n nf => H cc tk lv n nf fr0 t hfr hlv2 (by rw [hlv2]; simpa using h9)
    clear hlv hlv2 hss hph
    have rwI : (Array.mk ph)[i]? = none := by simp [hge]
    rcases hfr with rfl | ⟨v, rfl⟩
    all_goals
      run_tac runJ [] (say := false)
      run_tac useS "H"
  | succ m ih =>
    intro i him tk nf n fr0 t lv hlv hfr
    obtain ⟨s, ts, hs1, hs2⟩ := hph.at (i := i) (by omega)
    have hi : i < 10000 := by omega
    have hll : lv.length < 20 := by rw [hlv]; simp; omega
    have hmem : s ∈ ss := List.mem_of_getElem? hs1
    have hval := take_val hlv hs1
    replace ih := ih (i + 1) (by omega)
    replace hss := hss s hmem
    clear H hlv hmem hph
    have rwI : (Array.mk ph)[(Int.ofNat i).toNat]? = some (.str s ts) := by simpa using hs2
    rcases hss with rfl | rfl | rfl | rfl
    all_goals first | rw [valA] at hval | rw [valB] at hval | rw [valD] at hval | rw [valK] at hval
    all_goals
      rcases hfr with rfl | ⟨v', rfl⟩
      all_goals
        run_tac runJ [] (say := false)
        all_goals
          run_tac againJ
          run_tac useS "ih"
          run_tac restS (do Lean.Elab.Tactic.evalTactic (← `(tactic| first | assumption | exact Or.inr ⟨_, rfl⟩)))
theorem mv_start {fr : Option (List Env)} {nf n : Nat} {aF aIt aVs aAL : Addr} {t1 t2 t3 : Tok} (hph : Strs ph ss) (h9 : ss.length ≤ 9) (hss : ∀ s ∈ ss, s = nmA ∨ s = nmB ∨ s = nmD ∨ s = nmK)
   (H : ∀ cc tk lv n nf fr0 t, (fr0 = [ent w.params "args" t1 (.ref aG), ent w.params "arg_list" t2 (.ref aAL), ent w.params "vals" t3 (.ref aVs)] ∨ ∃ v, fr0 = [ent w.params "args" t1 (.ref aG), ent w.params "arg_list" t2 (.ref aAL), ent w.params "vals" t3 (.ref aVs), ent w.params "p" t v]) → lv = ss.map (valOf (.int i1 u1) (.int i2 u2) (.int i3 u3) (.int i4 u4)) → lv.length ≤ 9 →
     J (mkV w h (AF fr) R d os) S (T2 o1 o2) ((aF, frameO fr0 nf #[]) :: (aPh, listO ph n2) :: (aVs, listO lv n) :: (aG, giv w.params q1 q2 q3 q4 (.int i1 u1) (.int i2 u2) (.int i3 u3) (.int i4 u4) nG) :: rest) ⟨cc, none, .base, leafOf' (.ok .next), gl, tk⟩) :
     J (mkV w h (AF fr) R d os) S (T2 o1 o2) ((aF, frameO [ent w.params "args" t1 (.ref aG), ent w.params "arg_list" t2 (.ref aAL), ent w.params "vals" t3 (.ref aVs)] nf #[]) :: (aIt, litO aPh 0) :: (aPh, listO ph n2) :: (aVs, listO [] n) :: (aG, giv w.params q1 q2 q3 q4 (.int i1 u1) (.int i2 u2) (.int i3 u3) (.int i4 u4) nG) :: rest)
        ⟨mvLoop aIt aF aPc aMv aMC, none, .base, denote table (mvLoop aIt aF aPc aMv aMC), gl, tk⟩ :=
  mv_loop hph h9 hss H ss.length 0 (Nat.zero_add _) tk nf n _ 0 [] rfl (.inl rfl)
theorem mv_ok (hle : ALe (aroundOf (mkV w h A R d os) true (.ret c none k κ)) A7) (hph : Strs ph ss) (h9 : ss.length ≤ 9) (hss : ∀ s ∈ ss, s = nmA ∨ s = nmB ∨ s = nmD ∨ s = nmK)
   (H : ∀ tk' aR lv, lv = ss.map (valOf (.int i1 u1) (.int i2 u2) (.int i3 u3) (.int i4 u4)) → lv.length ≤ 9 → J (mkV w h A R d os) S (T2 o1 o2) ((aR, tupO lv) :: (aG, giv w.params q1 q2 q3 q4 (.int i1 u1) (.int i2 u2) (.int i3 u3) (.int i4 u4) nG) :: rest) ⟨c, none, κ, k (.ok (.ret (.ref aR))), gl, tk'⟩) :
   J (mkV w h A R d os) S (T2 o1 o2) ((aMv, mvO aPc aMC aCT) :: (aMC, mvCO mc) :: (aPc, cellO (.ref aPh)) :: (aPh, listO ph n2) :: (aG, giv w.params q1 q2 q3 q4 (.int i1 u1) (.int i2 u2) (.int i3 u3) (.int i4 u4) nG) :: rest) ⟨c, none, κ, .call (.call (.ref aMv) ⟨[.ref aG], []⟩) none g l k, gl, tk⟩ := by
  refine J.callee (V' := mkV w h A7 (endOf (mkV w h A R d os) (.ret c none k κ)) d os) rfl rfl rfl rfl rfl rfl rfl hle rfl ?_
  run_tac runJ [] [] (say := false)
  run_tac rowJ
  all_goals
    run_tac mvWalk
    run_tac calleeJ fun fr => return Lean.mkApp (Lean.mkConst ``AF) fr
    run_tac useS "mv_start hph h9 hss"
    · intro cc tk9 lv n nf fr0 t9 hfr hlv hl9
      have rwE : (Array.mk ([] : List Value)) ++ (Array.mk lv) = Array.mk lv := by simp
      try run_tac quickH `rwE
      rcases hfr with rfl | ⟨v, rfl⟩
      all_goals
        run_tac backJ
        run_tac runJ []
        run_tac backJ
        run_tac useS "H"
        run_tac restS side
end
end Mine
end

section
open PySem PySem.W PySem.W.X PyProof.Rows
namespace Mine
inductive OStrs : List Value → List (Option Str) → Prop
  | nil : OStrs [] []
  | no {vs : List Value} {ss : List (Option Str)} : OStrs vs ss → OStrs (.none :: vs) (none :: ss)
  | yes (s : Str) (t : Tok) {vs : List Value} {ss : List (Option Str)} : OStrs vs ss → OStrs (.str s t :: vs) (some s :: ss)
theorem OStrs.length {vs : List Value} {ss : List (Option Str)} (h : OStrs vs ss) : vs.length = ss.length := by
  induction h with
  | nil => rfl
  | no _ ih => simp [ih]
  | yes s t _ ih => simp [ih]
theorem OStrs.at {vs : List Value} {ss : List (Option Str)} (h : OStrs vs ss) : ∀ {i : Nat}, i < ss.length → (ss[i]? = some none ∧ vs[i]? = some .none) ∨ ∃ s t, ss[i]? = some (some s) ∧ vs[i]? = some (.str s t) := by
  induction h with
  | nil => intro i hi; simp at hi
  | no _ ih =>
    intro i hi
    cases i with
    | zero => exact .inl ⟨rfl, rfl⟩
    | succ i => simpa using ih (i := i) (by simpa using hi)
  | yes s t _ ih =>
    intro i hi
    cases i with
    | zero => exact .inr ⟨s, t, rfl, rfl⟩
    | succ i => simpa using ih (i := i) (by simpa using hi)
open Lean Elab Tactic Meta in
/-- the ends of a turn: the loop's next turn, by the lemma -/
def leafH (lem : String) : TacticM Unit := do
  let gs ← getGoals
  let mut out := []
  for g in gs do
    setGoals [g]
    let isJ ← g.withContext do return (← whnfR (← instantiateMVars (← g.getType))).isAppOf ``J
    if isJ then
      againJ
      useS lem
    sides (do evalTactic (← `(tactic| first | assumption | exact Strs.snoc (by assumption) | exact Or.inl rfl | exact Or.inr ⟨_, _, rfl⟩))) (do
      evalTactic (← `(tactic| first | omega | assumption)))
    out := out ++ (← getUnsolvedGoals)
  setGoals out
def zipM : List Str → List (Option Str) → List Str
  | p :: ps, m :: ms => m.getD p :: zipM ps ms
  | _, _ => []
theorem zipM_length : ∀ (ps : List Str) (ms : List (Option Str)), ms.length = ps.length → (zipM ps ms).length = ps.length
  | [], [], _ => rfl
  | [], _ :: _, h => by simp at h
  | _ :: _, [], h => by simp at h
  | p :: ps, m :: ms, h => by
    have := zipM_length ps ms (by simpa using h)
    simp [zipM, this]
theorem zipM_at : ∀ (ps : List Str) (ms : List (Option Str)) (i : Nat) (p : Str) (m : Option Str), ps[i]? = some p → ms[i]? = some m → (zipM ps ms)[i]? = some (m.getD p)
  | [], _, i, p, m, h, _ => by simp at h
  | _ :: _, [], i, p, m, _, h => by simp at h
  | p0 :: ps, m0 :: ms, 0, p, m, h1, h2 => by
    cases h1
    cases h2
    rfl
  | p0 :: ps, m0 :: ms, i + 1, p, m, h1, h2 => zipM_at ps ms i p m (by simpa using h1) (by simpa using h2)
theorem take_snoc {α : Type} {l : List α} {i : Nat} {x : α} (h : l[i]? = some x) : l.take (i + 1) = l.take i ++ [x] := by
  rw [List.take_add_one, h]
  rfl
end Mine
end

section
open PySem PySem.W PySem.W.X PyProof.Rows
namespace Mine

def wordsL : List Str := [⟨#[115,101,108,101,99,116]⟩, ⟨#[97,58,58,105,110,116]⟩, ⟨#[120,32,58,61,32,49]⟩, ⟨#[98,45,99,44]⟩, ⟨#[40,49,41]⟩]
def textsL : List Str := [⟨#[39,105,116,39,39,115,32,63,32,58,97,32,37,115,39]⟩, ⟨#[69,39,110,92,39,32,58,98,99,32,63,39]⟩, ⟨#[34,113,32,58,100,95,49,32,63,32,37,40,97,41,115,34]⟩, ⟨#[45,45,32,58,97,32,63,32,37,115,32,105,116,39,115,10]⟩, ⟨#[36,36,32,105,116,39,115,32,58,97,32,63,32,37,115,32,36,36]⟩]
section
variable {w : World} {hd : Option Value} {h : Heap} {A : Around} {R : Result → Shared → Prop} {d : Drawn} {os : OsState} {S : List Addr} {o1 o2 : Obj} {rest : List (Addr × Obj)} {L : List (Addr × Obj)} {c : Code} {κ : Kont} {gl : List GenState} {tk : Nat} {k : Result → Sem PySem.Fin} {g : Bool} {l : List Value}
theorem drawn_lt (ns : List Int) (i lim : Nat) (hl : 0 < lim) : 0 ≤ drawn ns i lim ∧ drawn ns i lim < Int.ofNat lim := by
  unfold drawn
  split
  · have h1 : (0 : Int) < Int.ofNat lim := by simpa using hl
    exact ⟨Int.fmod_nonneg_of_pos _ h1, Int.fmod_lt_of_pos _ h1⟩
  · exact ⟨Int.le_refl _, by simpa using hl⟩
theorem nextB_ok (hle : ALe (aroundOf (mkV w h A R d os) true (.ret c none k κ)) (A1 none))
   {sa sc : Addr} {i lim : Nat} {ti tl : Tok} {n m : Nat} {vs : List Value} {ns : List Int}
   (hv : IntsAre vs ns) (hl : 0 < lim) (hm : ns.length < 1000) (him : i < 1000)
   (H : ∀ tk' tv tn X, 0 ≤ X → X < Int.ofNat lim → J (mkV w h A R d os) S (T2 o1 o2) ((sa, listO [.ref sc, .int (Int.ofNat (i + 1)) tn] n) :: (sc, listO vs m) :: rest) ⟨c, none, κ, k (.ok (.ret (.int X tv))), gl, tk'⟩) :
   J (mkV w h A R d os) S (T2 o1 o2) ((sa, listO [.ref sc, .int (Int.ofNat i) ti] n) :: (sc, listO vs m) :: rest) ⟨c, none, κ, .call (.call (.ref 792) ⟨[.ref sa, .int (Int.ofNat lim) tl], []⟩) none g l k, gl, tk⟩ :=
  next_ok hle hv hl hm him fun tk' tv tn => H tk' tv tn _ (drawn_lt ns i lim hl).1 (drawn_lt ns i lim hl).2
theorem script_ok (hle : ALe (aroundOf (mkV w h A R d os) true (.ret c none k κ)) (A1 hd))
   {a sl : Addr} {vs : List Value} {n e : Nat} {tj : Tok} {j : Int} (hj : j = Int.ofNat e) (hlen : vs.length < 10000) (he : e < 10000)
   (H : ∀ tk' b us, us = vs.take e → J (mkV w h A R d os) S (T2 o1 o2) ((b, listO us 0) :: (sl, sliceO j tj) :: (a, listO vs n) :: rest) ⟨c, none, κ, k (.ok (.ret (.ref b))), gl, tk'⟩) :
   J (mkV w h A R d os) S (T2 o1 o2) ((sl, sliceO j tj) :: (a, listO vs n) :: rest) ⟨c, none, κ, .call (.call (.builtin "list.__getitem__") ⟨[.ref a, .ref sl], []⟩) none g l k, gl, tk⟩ :=
  listupto_ok hle hj hlen he fun tk' b => H tk' b _ rfl
theorem wordat_ok (hle : ALe (aroundOf (mkV w h A R d os) true (.ret c none k κ)) (A1 hd))
   {X : Int} {t : Tok} (h0 : 0 ≤ X) (h9 : X < Int.ofNat 5)
   (H : ∀ tk' s ts, s ∈ wordsL → J (mkV w h A R d os) S (T2 o1 o2) L ⟨c, none, κ, k (.ok (.ret (.str s ts))), gl, tk'⟩) :
   J (mkV w h A R d os) S (T2 o1 o2) L ⟨c, none, κ, .call (.call (.builtin "tuple.__getitem__") ⟨[.ref 783, .int X t], []⟩) none g l k, gl, tk⟩ := by
  refine J.callee (V' := mkV w h (A1 hd) (endOf (mkV w h A R d os) (.ret c none k κ)) d os) rfl rfl rfl rfl rfl rfl rfl hle rfl ?_
  have hX : X = 0 ∨ X = 1 ∨ X = 2 ∨ X = 3 ∨ X = 4 := by
    have : Int.ofNat 5 = 5 := rfl
    omega
  clear h0 h9
  rcases hX with rfl | rfl | rfl | rfl | rfl
  all_goals
    run_tac runJ [] (say := false)
    run_tac backJ
    run_tac useS "H"
  all_goals simp [wordsL, nmA, nmB, nmD, nmK]
theorem textat_ok (hle : ALe (aroundOf (mkV w h A R d os) true (.ret c none k κ)) (A1 hd))
   {X : Int} {t : Tok} (h0 : 0 ≤ X) (h9 : X < Int.ofNat 5)
   (H : ∀ tk' s ts, s ∈ textsL → J (mkV w h A R d os) S (T2 o1 o2) L ⟨c, none, κ, k (.ok (.ret (.str s ts))), gl, tk'⟩) :
   J (mkV w h A R d os) S (T2 o1 o2) L ⟨c, none, κ, .call (.call (.builtin "tuple.__getitem__") ⟨[.ref 784, .int X t], []⟩) none g l k, gl, tk⟩ := by
  refine J.callee (V' := mkV w h (A1 hd) (endOf (mkV w h A R d os) (.ret c none k κ)) d os) rfl rfl rfl rfl rfl rfl rfl hle rfl ?_
  have hX : X = 0 ∨ X = 1 ∨ X = 2 ∨ X = 3 ∨ X = 4 := by
    have : Int.ofNat 5 = 5 := rfl
    omega
  clear h0 h9
  rcases hX with rfl | rfl | rfl | rfl | rfl
  all_goals
    run_tac runJ [] (say := false)
    run_tac backJ
    run_tac useS "H"
  all_goals simp [textsL, nmA, nmB, nmD, nmK]
theorem nameat_ok (hle : ALe (aroundOf (mkV w h A R d os) true (.ret c none k κ)) (A1 hd))
   {X : Int} {t : Tok} (h0 : 0 ≤ X) (h9 : X < Int.ofNat 4)
   (H : ∀ tk' s ts, s ∈ names4 → J (mkV w h A R d os) S (T2 o1 o2) L ⟨c, none, κ, k (.ok (.ret (.str s ts))), gl, tk'⟩) :
   J (mkV w h A R d os) S (T2 o1 o2) L ⟨c, none, κ, .call (.call (.builtin "tuple.__getitem__") ⟨[.ref 785, .int X t], []⟩) none g l k, gl, tk⟩ := by
  refine J.callee (V' := mkV w h (A1 hd) (endOf (mkV w h A R d os) (.ret c none k κ)) d os) rfl rfl rfl rfl rfl rfl rfl hle rfl ?_
  have hX : X = 0 ∨ X = 1 ∨ X = 2 ∨ X = 3 := by
    have : Int.ofNat 4 = 4 := rfl
    omega
  clear h0 h9
  rcases hX with rfl | rfl | rfl | rfl
  all_goals
    run_tac runJ [] (say := false)
    run_tac backJ
    run_tac useS "H"
  all_goals simp [names4, nmA, nmB, nmD, nmK]
end
end Mine
end

section
open PySem PySem.W PySem.W.X PyProof.Rows
namespace Mine
noncomputable def ljTarget : PySem.Expr := by run_tac navPart 799 1 [(0, none)]
noncomputable def ljBody : List Stmt := by run_tac navPart 799 1 [(2, none)]
noncomputable def ljScope : Scope := by run_tac scopePart 799
noncomputable def ljEnv (aF : Addr) : Env := { scope := ljScope, locals := aF, globals := 3, cells := [], qual := "_law_joined.<locals>.", func := some 799, code := .ref 798, frame := some aF, builtins := 0 }
noncomputable def ljLoop (aIt aF : Addr) : Code := .forLoop ljTarget (.ref aIt) ljBody [] (ljEnv aF)
section
variable {w : World} {h : Heap} {A : Around} {R : Result → Shared → Prop} {d : Drawn} {os : OsState} {S : List Addr} {o1 o2 : Obj} {rest : List (Addr × Obj)} {c : Code} {κ : Kont} {gl : List GenState} {tk : Nat} {k : Result → Sem PySem.Fin} {g : Bool} {l : List Value}
   {aP aM : Addr} {pv mv : List Value} {ps : List Str} {ms : List (Option Str)} {n1 n2 : Nat}
noncomputable def ljR (P : Params) (aP aM aR : Addr) (t1 t2 t3 : Tok) (r : List DictEntry) : List DictEntry := ent P "parts" t1 (.ref aP) :: ent P "marks" t2 (.ref aM) :: ent P "rows" t3 (.ref aR) :: r
noncomputable def LjOk (P : Params) (r : List DictEntry) : Prop := r = [] ∨ ∃ t v, r = [ent P "k" t v]
theorem lj_loop {fr : Option (List Env)} {aF aIt aR : Addr} {t1 t2 t3 : Tok} (hp : Strs pv ps) (hm : OStrs mv ms) (he : ms.length = ps.length) (h9 : ps.length ≤ 9)
   (H : ∀ cc tk rv n nf r, LjOk w.params r → Strs rv (zipM ps ms) → rv.length ≤ 9 →
     J (mkV w h (AF fr) R d os) S (T2 o1 o2) ((aF, frameO (ljR w.params aP aM aR t1 t2 t3 r) nf #[]) :: (aR, listO rv n) :: (aP, listO pv n1) :: (aM, listO mv n2) :: rest) ⟨cc, none, .base, leafOf' (.ok .next), gl, tk⟩) :
   ∀ (m i : Nat), i + m = ps.length → ∀ (tk nf n : Nat) (r : List DictEntry) (rv : List Value), Strs rv ((zipM ps ms).take i) → LjOk w.params r →
     J (mkV w h (AF fr) R d os) S (T2 o1 o2) ((aF, frameO (ljR w.params aP aM aR t1 t2 t3 r) nf #[]) :: (aIt, riterO i m) :: (aR, listO rv n) :: (aP, listO pv n1) :: (aM, listO mv n2) :: rest)
        ⟨ljLoop aIt aF, none, .base, denote table (ljLoop aIt aF), gl, tk⟩ := by
  have hlp := hp.length
  have hlm := hm.length
  have hz := zipM_length ps ms he
  intro m
  induction m with
  | zero =>
    intro i him tk nf n r rv hrv hr
    have hi : i < 10000 := by omega
    rw [List.take_of_length_le (by omega)] at hrv
    have hr9 : rv.length ≤ 9 := by rw [hrv.length]; omega
    replace H := fun cc tk n nf => H cc tk rv n nf r hr hrv hr9
    clear hrv hr hp hm
    run_tac runJ [] (say := false)
    run_tac useS "H"
  | succ m ih =>
    intro i him tk nf n r rv hrv hr
    obtain ⟨s, ts, hs1, hs2⟩ := hp.at (i := i) (by omega)
    have hi : i < 10000 := by omega
    have hll : rv.length < 20 := by rw [hrv.length]; simp; omega
    have hm9 : m < 10000 := by omega
    have rwM : Int.ofNat (m + 1) - 1 = Int.ofNat m := by simp
    have hlp2 : pv.length < 10000 := by omega
    have hlm2 : mv.length < 10000 := by omega
    replace ih := ih (i + 1) (by omega)
    rcases hm.at (i := i) (by omega) with ⟨hn1, hn2⟩ | ⟨s', ts', hn1, hn2⟩
    · rw [take_snoc (zipM_at ps ms i s none hs1 hn1)] at ih
      clear H hp hm hs1 hn1
      rcases hr with rfl | ⟨t, v, rfl⟩
      all_goals
        run_tac walk [("list.__getitem__", "listat_ok (i := i) (hv := hs2)"), ("list.__getitem__", "listat_ok (i := i) (hv := hn2)")] (say := false)
        run_tac leafH "ih"
    · rw [take_snoc (zipM_at ps ms i s (some s') hs1 hn1)] at ih
      clear H hp hm hs1 hn1
      rcases hr with rfl | ⟨t, v, rfl⟩
      all_goals
        run_tac walk [("list.__getitem__", "listat_ok (i := i) (hv := hs2)"), ("list.__getitem__", "listat_ok (i := i) (hv := hn2)")] (say := false)
        run_tac leafH "ih"
end
end Mine
end

section
open PySem PySem.W PySem.W.X PyProof.Rows
namespace Mine
section
variable {w : World} {h : Heap} {A : Around} {R : Result → Shared → Prop} {d : Drawn} {os : OsState} {S : List Addr} {o1 o2 : Obj} {rest : List (Addr × Obj)} {c : Code} {κ : Kont} {gl : List GenState} {tk : Nat} {k : Result → Sem PySem.Fin} {g : Bool} {l : List Value}
   {aP aM : Addr} {pv mv : List Value} {ps : List Str} {ms : List (Option Str)} {n1 n2 : Nat}
theorem lj_start {fr : Option (List Env)} {aF aIt aR : Addr} {t1 t2 t3 : Tok} {m nf n : Nat} (hp : Strs pv ps) (hm : OStrs mv ms) (he : ms.length = ps.length) (h9 : ps.length ≤ 9) (hmm : m = ps.length)
   (H : ∀ cc tk rv n nf r, LjOk w.params r → Strs rv (zipM ps ms) → rv.length ≤ 9 →
     J (mkV w h (AF fr) R d os) S (T2 o1 o2) ((aF, frameO (ljR w.params aP aM aR t1 t2 t3 r) nf #[]) :: (aR, listO rv n) :: (aP, listO pv n1) :: (aM, listO mv n2) :: rest) ⟨cc, none, .base, leafOf' (.ok .next), gl, tk⟩) :
     J (mkV w h (AF fr) R d os) S (T2 o1 o2) ((aF, frameO (ljR w.params aP aM aR t1 t2 t3 []) nf #[]) :: (aIt, riterO 0 m) :: (aR, listO [] n) :: (aP, listO pv n1) :: (aM, listO mv n2) :: rest)
        ⟨ljLoop aIt aF, none, .base, denote table (ljLoop aIt aF), gl, tk⟩ :=
  lj_loop hp hm he h9 H m 0 (by omega) tk nf n [] [] .nil (.inl rfl)
theorem lj_ok (hle : ALe (aroundOf (mkV w h A R d os) true (.ret c none k κ)) A7) (hp : Strs pv ps) (hm : OStrs mv ms) (he : ms.length = ps.length) (h9 : ps.length ≤ 9) (hj : JoinOk ⟨#[32]⟩ (zipM ps ms) = true)
   (H : ∀ tk' tv, J (mkV w h A R d os) S (T2 o1 o2) ((aP, listO pv n1) :: (aM, listO mv n2) :: rest) ⟨c, none, κ, k (.ok (.ret (.str (Str.join ⟨#[32]⟩ (zipM ps ms)) tv))), gl, tk'⟩) :
   J (mkV w h A R d os) S (T2 o1 o2) ((aP, listO pv n1) :: (aM, listO mv n2) :: rest) ⟨c, none, κ, .call (.call (.ref 799) ⟨[.ref aP, .ref aM], []⟩) none g l k, gl, tk⟩ := by
  refine J.callee (V' := mkV w h A7 (endOf (mkV w h A R d os) (.ret c none k κ)) d os) rfl rfl rfl rfl rfl rfl rfl hle rfl ?_
  have hl := hp.length
  have hl9 : pv.length ≤ 9 := by omega
  run_tac walk [("range.__iter__", "rangeiter_ok")] (say := false)
  rename Int.ofNat _ = Int.ofNat _ => hh
  have hN := Int.ofNat.inj hh
  run_tac calleeJ fun fr => return Lean.mkApp (Lean.mkConst ``AF) fr
  run_tac useS "lj_start hp hm he h9"
  case hmm => rw [← hN]; exact hl
  case H =>
    intro cc tk9 rv n nf r hr hrv hr9
    rcases hr with rfl | ⟨t, v, rfl⟩
    all_goals
      run_tac backJ
      run_tac walk [("str.join", "join_ok")] (say := false)
      run_tac backJ
      run_tac useS "H"
end
end Mine
end

section
open PySem PySem.W PySem.W.X PyProof.Rows
namespace Mine
open Lean Elab Tactic Meta
/-- the run stands at a row of the parameters: both ways to the loop that they meet at; one goal is left -/
def rowK : TacticM Unit := do
  let g ← getMainGoal
  let rest := (← getGoals).tail!
  setGoals [g]
  rowJ
  let [g1, g2] ← getGoals | throwError "rowK: two ways"
  let run1 (g : MVarId) : TacticM (MVarId × DS) := do
    setGoals [g]
    runJ [] [] (say := false)
    againJ
    let [g'] ← getGoals | throwError "rowK: a way has parted"
    g'.withContext do return (g', ← DS.ofGoal g')
  let (h1, d1) ← run1 g1
  let (h2, d2) ← run1 g2
  let m ← g.withContext do
    let ty ← withLocalDeclD `tk (mkConst ``Nat) fun tk => mkForallFVars #[tk] { d1 with tk }.goal
    for x in (← ty.collectFVars.run {}).2.fvarIds do
      unless (← getLCtx).contains x do throwError "rowK: {mkFVar x}"
    mkFreshExprSyntheticOpaqueMVar ty
  unless (d1.L.map (·.1)) == (d2.L.map (·.1)) do throwError "rowK: two ledgers"
  h1.assign (mkApp m d1.tk)
  h2.assign (mkApp m d2.tk)
  let (_, g) ← m.mvarId!.intro1P
  setGoals (g :: rest)
end Mine
end

section
open PySem PySem.W PySem.W.X PyProof.Rows
namespace Mine
section
variable {V V' : XV} {S : List Addr} {T L : List (Addr × Obj)} {c c' : Code} {κ : Kont} {gl : List GenState} {tk : Nat} {k : Result → Sem PySem.Fin}
/-- a code that is entered already: walked under a room of its own -/
theorem J.room (hp : V.prog = V'.prog) (hw : V.w = V'.w) (e1 : V.n₁ = V'.n₁) (e2 : V.h₀ = V'.h₀) (e3 : V.kt = V'.kt) (e4 : V.d = V'.d) (e5 : V.os = V'.os)
    (hle : ALe (aroundOf V true (.ret c none k κ)) V'.A₀) (hR : V'.R₀ = endOf V (.ret c none k κ))
    (H : J V' S T L ⟨c', none, .base, denote table c', gl, tk⟩) : J V S T L ⟨c', none, .ret c none k κ, denote table c', gl, tk⟩ := .mk fun h D => by
  have z0 := H.app h (D.same e1 e2 e3)
  have z : wpOwn (model V'.prog V'.w) V'.A₀ c' (denote table c') (postC V'.prog V'.w V'.A₀ V'.R₀) (postE V'.R₀) ⟨h, ⟨gl⟩, V'.d, tk, V'.os⟩ := z0
  rw [← hp, ← hw, ← e4, ← e5, hR] at z
  intro Γ p hc hΓ
  have hΓ' : Γ.Below V'.A₀ := ⟨hΓ.1.trans hle.handled, Nat.le_trans hΓ.2.1 hle.depth, fun l hl => (by rcases hle.frames with q | q <;> rw [q] at hl; (cases hl); exact hΓ.2.2.1 l hl), fun g hg => (by rw [hle.guards] at hg; cases hg), Nat.le_trans hΓ.2.2.2.2 hle.units⟩
  refine Sem.wp_mono _ Γ _ (fun fin p' s' h' => ?_) (fun _ _ _ h' => h') p _ (z Γ p hc hΓ')
  cases fin with
  | done f => exact h'
  | again c'' => exact ⟨h'.1, codeAny_le hle h'.2⟩
end
open Lean Elab Tactic Meta in
/-- a code that is entered already: its room is (A frames), its end the caller's -/
def roomJ (A : Lean.Expr → MetaM Lean.Expr) : TacticM Unit := do
  let g ← getMainGoal
  let rest := (← getGoals).tail!
  g.withContext do
    let d ← DS.ofGoal g
    let κ ← kq d.k
    unless κ.isAppOfArity ``Kont.ret 4 do throwError "roomJ: {κ.getAppFn}"
    let y := κ.getAppArgs
    unless (← kq y[1]!).isAppOf ``Option.none do throwError "roomJ: a mark"
    let κ' := mkAppN (mkConst ``Kont.ret) #[y[0]!, mkApp (mkConst ``Option.none [0]) (mkConst ``Value), y[2]!, y[3]!]
    let Ar := mkApp3 (mkConst ``aroundOf) d.V (mkConst ``Bool.true) κ'
    let fr ← kq (mkApp (mkConst ``PySem.Around.frames) Ar)
    let fr ← (if fr.isAppOfArity ``Option.some 2 then do return mkApp2 fr.getAppFn fr.getAppArgs[0]! (← XRun.nList fr.appArg! pure) else pure fr : MetaM Lean.Expr)
    let A ← A fr
    let V ← whnfD d.V
    let a := V.getAppArgs
    let R := mkApp2 (mkConst ``endOf) d.V κ'
    let V' := mkAppN (mkConst ``mkV) #[a[1]!, a[2]!, A, R, a[8]!, a[10]!]
    let hle ← mkFreshExprSyntheticOpaqueMVar (mkApp2 (mkConst ``ALe) Ar A)
    roomS hle.mvarId! Ar A
    let hle ← instantiateMVars hle
    let hR ← mkEqRefl R
    let p (n : Lean.Name) : MetaM Lean.Expr := mkEqRefl (mkApp (mkConst n) d.V)
    let hs := #[← p ``XV.prog, ← p ``XV.w, ← p ``XV.n₁, ← p ``XV.h₀, ← p ``XV.kt, ← p ``XV.d, ← p ``XV.os]
    let d' := { d with V := V', k := mkConst ``Kont.base }
    let g ← put g (fun m => mkAppN (mkConst ``J.room) (#[d.V, V', d.S, d.TE, d.LE, y[0]!, d.c, y[3]!, d.gl, d.tk, y[2]!] ++ hs ++ #[hle, hR, m])) d'.goal
    setGoals (g :: rest)
end Mine
end

section
open PySem PySem.W PySem.W.X PyProof.Rows
namespace Mine

def AL : Around := callerA.mark none
def AW (fr : Option (List Env)) : Around := { handled := none, depth := 350, frames := fr, guards := none, units := 50 }
noncomputable def lwTarget : PySem.Expr := by run_tac stmtPart 804 3 0
noncomputable def lwBody : List Stmt := by run_tac stmtPart 804 3 2
noncomputable def lwLoop (aIt : Addr) (F : LF) : Code := .forLoop lwTarget (.ref aIt) lwBody [] (lawEnv F)
def ItOk (p : Str × Option Str) : Prop := match p.2 with
  | none => p.1 ∈ wordsL ++ textsL
  | some nm => nm ∈ names4 ∧ p.1 = ⟨#[]⟩
noncomputable def lwFr (P : Params) (aSr aP : Addr) (t1 t2 : Tok) (r : List DictEntry) : List DictEntry := ent P "script" t1 (.ref aSr) :: ent P "parts" t2 (.ref aP) :: r
noncomputable def LwOk (P : Params) (r : List DictEntry) : Prop := r = [] ∨ ∃ t1 t2 t3 v1 v2 v3, r = [ent P "k" t1 v1, ent P "pick" t2 v2, ent P "name" t3 v3]
theorem OStrs.app {vs : List Value} {ss : List (Option Str)} (h : OStrs vs ss) {us : List Value} {ts : List (Option Str)} (h' : OStrs us ts) : OStrs (vs ++ us) (ss ++ ts) := by
  induction h with
  | nil => exact h'
  | no _ ih => exact .no ih
  | yes s t _ ih => exact .yes s t ih
theorem OStrs.sno {vs : List Value} {ss : List (Option Str)} (h : OStrs vs ss) : OStrs (vs ++ [.none]) (ss ++ [none]) := h.app (.no .nil)
theorem OStrs.syes {vs : List Value} {ss : List (Option Str)} {s : Str} {t : Tok} (h : OStrs vs ss) : OStrs (vs ++ [.str s t]) (ss ++ [some s]) := h.app (.yes s t .nil)
open Lean Elab Tactic Meta in
/-- the ends of a turn: the loop's next turn, by the lemma -/
def leafG (lem : String) (sd : TacticM Unit) : TacticM Unit := do
  let gs ← getGoals
  let mut out := []
  for g in gs do
    setGoals [g]
    let isJ ← g.withContext do return (← whnfR (← instantiateMVars (← g.getType))).isAppOf ``J
    if isJ then
      againJ
      useS lem
    restS sd
    out := out ++ (← getUnsolvedGoals)
  setGoals out
/-- what the first loop has gathered -/
structure Got (n : Nat) (pv nv : List Value) : Prop where
  ex : ∃ its : List (Str × Option Str), its.length = n ∧ (∀ p ∈ its, ItOk p) ∧ Strs pv (its.map (·.1)) ∧ OStrs nv (its.map (·.2))
theorem Got.len {n : Nat} {pv nv : List Value} (g : Got n pv nv) : pv.length = n ∧ nv.length = n := by
  obtain ⟨its, h1, h2, h3, h4⟩ := g.ex
  exact ⟨by rw [h3.length, List.length_map, h1], by rw [h4.length, List.length_map, h1]⟩
theorem Got.word {n : Nat} {pv nv : List Value} {s : Str} {t : Tok} (g : Got n pv nv) (hs : s ∈ wordsL) : Got (n + 1) (pv ++ [.str s t]) (nv ++ [.none]) := by
  obtain ⟨its, h1, h2, h3, h4⟩ := g.ex
  refine ⟨its ++ [(s, none)], by simp [h1], ?_, by simpa using h3.snoc, by simpa using h4.sno⟩
  intro p hp
  rcases List.mem_append.mp hp with hp | hp
  · exact h2 p hp
  · rw [List.mem_singleton.mp hp]
    exact List.mem_append_left _ hs
theorem Got.text {n : Nat} {pv nv : List Value} {s : Str} {t : Tok} (g : Got n pv nv) (hs : s ∈ textsL) : Got (n + 1) (pv ++ [.str s t]) (nv ++ [.none]) := by
  obtain ⟨its, h1, h2, h3, h4⟩ := g.ex
  refine ⟨its ++ [(s, none)], by simp [h1], ?_, by simpa using h3.snoc, by simpa using h4.sno⟩
  intro p hp
  rcases List.mem_append.mp hp with hp | hp
  · exact h2 p hp
  · rw [List.mem_singleton.mp hp]
    exact List.mem_append_right _ hs
theorem Got.name {n : Nat} {pv nv : List Value} {s : Str} {t t' : Tok} (g : Got n pv nv) (hs : s ∈ names4) : Got (n + 1) (pv ++ [.str ⟨#[]⟩ t]) (nv ++ [.str s t']) := by
  obtain ⟨its, h1, h2, h3, h4⟩ := g.ex
  refine ⟨its ++ [(⟨#[]⟩, some s)], by simp [h1], ?_, by simpa using h3.snoc, by simpa using h4.syes⟩
  intro p hp
  rcases List.mem_append.mp hp with hp | hp
  · exact h2 p hp
  · rw [List.mem_singleton.mp hp]
    exact ⟨hs, rfl⟩
open Lean Elab Tactic Meta in
def leafL (lem : String) : TacticM Unit := leafG lem do
  evalTactic (← `(tactic| first | exact Got.word (by assumption) (by assumption) | exact Got.text (by assumption) (by assumption) | exact Got.name (by assumption) (by assumption) | exact Or.inr ⟨_, _, _, _, _, _, rfl⟩ | assumption | omega))
section
variable {w : World} {h : Heap} {R : Result → Shared → Prop} {d : Drawn} {os : OsState} {S : List Addr} {o1 o2 : Obj} {rest : List (Addr × Obj)} {gl : List GenState}
theorem lw_loop {fr : Option (List Env)} {aF b1 b2 b3 b4 b5 b6 aIt aSr aP aN aS aSc : Addr} {t1 t2 : Tok} {sv : List Value} {zs : List Int} {n4 N : Nat} (hsv : IntsAre sv zs) (hzs : zs.length < 1000) (hN : N < 10)
   (H : ∀ cc tk nf n1 n2 n3 ti i r pv nv, LwOk w.params r → Got N pv nv → i < 100 →
     J (mkV w h (AW fr) R d os) S (T2 o1 o2) ((b5, cellO (.ref aN)) :: (b6, cellO (.ref aS)) :: (aF, frameO (lwFr w.params aSr aP t1 t2 r) nf #[]) :: (aP, listO pv n1) :: (aN, listO nv n2) :: (aS, listO [.ref aSc, .int (Int.ofNat i) ti] n3) :: (aSc, listO sv n4) :: rest)
       ⟨cc, none, .base, leafOf' (.ok .next), gl, tk⟩) :
   ∀ (m j : Nat), j + m = N → ∀ (tk nf n1 n2 n3 i : Nat) (ti : Tok) (r : List DictEntry) (pv nv : List Value), LwOk w.params r → Got j pv nv → i ≤ 1 + 3 * j →
     J (mkV w h (AW fr) R d os) S (T2 o1 o2) ((b5, cellO (.ref aN)) :: (b6, cellO (.ref aS)) :: (aF, frameO (lwFr w.params aSr aP t1 t2 r) nf #[]) :: (aIt, riterO j m) :: (aP, listO pv n1) :: (aN, listO nv n2) :: (aS, listO [.ref aSc, .int (Int.ofNat i) ti] n3) :: (aSc, listO sv n4) :: rest)
       ⟨lwLoop aIt ⟨aF, b1, b2, b3, b4, b5, b6⟩, none, .base, denote table (lwLoop aIt ⟨aF, b1, b2, b3, b4, b5, b6⟩), gl, tk⟩ := by
  intro m
  induction m with
  | zero =>
    intro j hj tk nf n1 n2 n3 i ti r pv nv hr hg hi
    have hj0 : j = N := by omega
    subst hj0
    have hj9 : j < 10000 := by omega
    replace H := fun cc tk => H cc tk nf n1 n2 n3 ti i r pv nv hr hg (by omega)
    clear hr hg
    run_tac runJ [] (say := false)
    run_tac useS "H"
  | succ m ih =>
    intro j hj tk nf n1 n2 n3 i ti r pv nv hr hg hi
    have hj9 : j < 10000 := by omega
    have hm9 : m < 10000 := by omega
    have hi1 : i < 1000 := by omega
    have hi2 : i + 1 < 1000 := by omega
    have rwM : Int.ofNat (m + 1) - 1 = Int.ofNat m := by simp
    have hb2 : i + 1 + 1 ≤ 1 + 3 * (j + 1) := by omega
    have hp9 : pv.length < 20 := by have := hg.len; omega
    have hn9 : nv.length < 20 := by have := hg.len; omega
    replace ih := ih (j + 1) (by omega)
    clear H
    rcases hr with rfl | ⟨u1, u2, u3, v1, v2, v3, rfl⟩
    all_goals
      run_tac walk [("fn:792", "nextB_ok (hv := hsv)"), ("tuple.__getitem__", "wordat_ok"), ("tuple.__getitem__", "textat_ok"), ("tuple.__getitem__", "nameat_ok")] (say := false)
      run_tac leafL "ih"
end
end Mine
end

section
open PySem PySem.W PySem.W.X PyProof.Rows
namespace Mine

/-- a comprehension's scope: the law's own variables are cells -/
def ownSc (sc : Scope) : Scope := { sc with names := sc.names.map fun (n, k) => if k == .free then (n, .cell) else (n, k) }
noncomputable def lawCEnv (sc : Scope) (aD aF : Addr) (cells : List (Str × Addr)) : Env := { scope := ownSc sc, locals := aD, globals := 3, cells := cells, qual := "law.<locals>.", func := none, code := .ref 803, frame := some aF, builtins := 0 }
def dictO (es : List DictEntry) (n : Nat) : Obj := { cls := .type "dict", data := .dict ⟨es⟩ n }
noncomputable def askE : PySem.Expr := by run_tac navPart 804 5 [(1, none)]
noncomputable def askSc : Scope := by run_tac navPart 804 5 [(1, none), (2, none)]
noncomputable def askEnv (aD aF : Addr) : Env := lawCEnv askSc aD aF []
noncomputable def D1Ok (P : Params) (x : Str) (r : List DictEntry) : Prop := r = [] ∨ ∃ t v, r = [ent P x t v]
def somes (l : List (Option Str)) : List Str := l.filterMap id
section
variable {w : World} {h : Heap} {R : Result → Shared → Prop} {d : Drawn} {os : OsState} {S : List Addr} {o1 o2 : Obj} {rest : List (Addr × Obj)} {gl : List GenState} {fr : Option (List Env)}
  {aIt aAcc aD aF aN : Addr} {nv : List Value} {ns : List (Option Str)} {n2 : Nat}
theorem ask_loop (hv : OStrs nv ns) (h9 : ns.length ≤ 9)
   (H : ∀ cc tk av na nd r, D1Ok w.params "name" r → Strs av (somes ns) → av.length ≤ 9 → J (mkV w h (AW fr) R d os) S (T2 o1 o2) ((aD, dictO r nd) :: (aAcc, listO av na) :: (aN, listO nv n2) :: rest) ⟨cc, none, .base, leafOf' (.ok .next), gl, tk⟩) :
   ∀ (m i : Nat), i + m = ns.length → ∀ (tk na nd : Nat) (r : List DictEntry) (av : List Value), Strs av (somes (ns.take i)) → D1Ok w.params "name" r →
    J (mkV w h (AW fr) R d os) S (T2 o1 o2) ((aD, dictO r nd) :: (aIt, litO aN i) :: (aAcc, listO av na) :: (aN, listO nv n2) :: rest)
      ⟨.compLoop askE 0 (.ref aIt) (.ref aAcc) (askEnv aD aF), none, .base, denote table (.compLoop askE 0 (.ref aIt) (.ref aAcc) (askEnv aD aF)), gl, tk⟩ := by
  have hlen := hv.length
  have hl20 : nv.length < 20 := by omega
  intro m
  induction m with
  | zero =>
    intro i him tk na nd r av hav hr
    have hi : i < 10000 := by omega
    have hge : nv.length ≤ i := by omega
    rw [List.take_of_length_le (by omega)] at hav
    have ha9 : av.length ≤ 9 := by rw [hav.length]; exact Nat.le_trans (List.length_filterMap_le _ _) h9
    replace H := fun cc tk => H cc tk av na nd r hr hav ha9
    clear hav hr hv
    have rwI : (Array.mk nv)[i]? = none := by simp [hge]
    run_tac runJ [] (say := false)
    run_tac useS "H"
  | succ m ih =>
    intro i him tk na nd r av hav hr
    have hi : i < 10000 := by omega
    have hl9 : av.length < 20 := by
      rw [hav.length]
      exact Nat.lt_of_le_of_lt (List.length_filterMap_le _ _) (by simp; omega)
    replace ih := ih (i + 1) (by omega)
    clear H
    rcases hv.at (i := i) (by omega) with ⟨h1, h2⟩ | ⟨s, ts, h1, h2⟩
    · rw [take_snoc h1] at ih
      simp only [somes, List.filterMap_append, List.filterMap_cons, List.filterMap_nil, id, List.append_nil] at ih hav
      have rwI : (Array.mk nv)[(Int.ofNat i).toNat]? = some .none := by simpa using h2
      clear h1 h2 hv
      rcases hr with rfl | ⟨t, v, rfl⟩
      all_goals
        run_tac runJ [] (say := false)
        run_tac leafH "ih"
    · rw [take_snoc h1] at ih
      simp only [somes, List.filterMap_append, List.filterMap_cons, List.filterMap_nil, id] at ih hav
      have rwI : (Array.mk nv)[(Int.ofNat i).toNat]? = some (.str s ts) := by simpa using h2
      clear h1 h2 hv
      rcases hr with rfl | ⟨t, v, rfl⟩
      all_goals
        run_tac runJ [] (say := false)
        run_tac leafH "ih"
end
end Mine
end

section
open PySem PySem.W PySem.W.X PyProof.Rows
namespace Mine

theorem List.reverseRecOn' {α : Type} {P : List α → Prop} (l : List α) (nil : P []) (snoc : ∀ l a, P l → P (l ++ [a])) : P l := by
  have : ∀ n, ∀ l : List α, l.length = n → P l := by
    intro n
    induction n with
    | zero => intro l h; rw [List.length_eq_zero_iff.mp h]; exact nil
    | succ n ih =>
      intro l h
      have hne : l ≠ [] := by intro e; subst e; simp at h
      have e := List.dropLast_concat_getLast hne
      rw [← e]
      exact snoc _ _ (ih _ (by simp [h]))
  exact this _ l rfl
theorem Strs.take {vs : List Value} {ss : List Str} (h : Strs vs ss) : ∀ n, Strs (vs.take n) (ss.take n) := by
  induction h with
  | nil => intro n; simpa using Strs.nil
  | cons s t _ ih =>
    intro n
    cases n with
    | zero => exact .nil
    | succ n => exact .cons s t (ih n)
def addNew (acc : List Str) (x : Str) : List Str := if x ∈ acc then acc else acc ++ [x]
/-- each name where it came first -/
def firsts (l : List Str) : List Str := l.foldl addNew []
theorem firsts_snoc (l : List Str) (x : Str) : firsts (l ++ [x]) = addNew (firsts l) x := by simp [firsts, List.foldl_append]
theorem mem_firsts (l : List Str) : ∀ x, x ∈ firsts l ↔ x ∈ l := by
  induction l using List.reverseRecOn' with
  | nil => intro x; simp [firsts]
  | snoc l a ih =>
    intro x
    rw [firsts_snoc, addNew]
    split
    · rename_i h
      rw [ih, List.mem_append, List.mem_singleton]
      constructor
      · exact .inl
      · rintro (h' | rfl)
        · exact h'
        · exact (ih _).mp h
    · rw [List.mem_append, ih, List.mem_append]
section
variable {w : World} {hd : Option Value} {h : Heap} {A : Around} {R : Result → Shared → Prop} {d : Drawn} {os : OsState} {S : List Addr} {o1 o2 : Obj} {rest : List (Addr × Obj)} {L : List (Addr × Obj)} {c : Code} {κ : Kont} {gl : List GenState} {tk : Nat} {k : Result → Sem PySem.Fin} {g : Bool} {l : List Value}
theorem sliceS_ok (hle : ALe (aroundOf (mkV w h A R d os) true (.ret c none k κ)) (A1 hd))
   {a sl : Addr} {vs : List Value} {ss : List Str} {n e : Nat} {tj : Tok} {j : Int} (hj : j = Int.ofNat e) (hv : Strs vs ss) (hlen : vs.length < 10000) (he : e < 10000)
   (H : ∀ tk' b us, Strs us (ss.take e) → us.length ≤ vs.length → J (mkV w h A R d os) S (T2 o1 o2) ((b, listO us 0) :: (sl, sliceO j tj) :: (a, listO vs n) :: rest) ⟨c, none, κ, k (.ok (.ret (.ref b))), gl, tk'⟩) :
   J (mkV w h A R d os) S (T2 o1 o2) ((sl, sliceO j tj) :: (a, listO vs n) :: rest) ⟨c, none, κ, .call (.call (.builtin "list.__getitem__") ⟨[.ref a, .ref sl], []⟩) none g l k, gl, tk⟩ :=
  listupto_ok hle hj hlen he fun tk' b => H tk' b _ (hv.take e) (by simp; omega)
end
noncomputable def fstE : PySem.Expr := by run_tac navPart 804 6 [(1, none)]
noncomputable def fstSc : Scope := by run_tac navPart 804 6 [(1, none), (2, none)]
noncomputable def fstEnv (aD aF b3 : Addr) : Env := lawCEnv fstSc aD aF [("asked", b3)]
section
variable {w : World} {h : Heap} {R : Result → Shared → Prop} {d : Drawn} {os : OsState} {S : List Addr} {o1 o2 : Obj} {rest : List (Addr × Obj)} {gl : List GenState} {fr : Option (List Env)}
  {aIt aAcc aD aF aA b3 : Addr} {av : List Value} {as : List Str} {n2 : Nat}
theorem fst_loop (hv : Strs av as) (h9 : as.length ≤ 9)
   (H : ∀ cc tk fv na nd r, D1Ok w.params "k" r → Strs fv (firsts as) → fv.length ≤ 9 → J (mkV w h (AW fr) R d os) S (T2 o1 o2) ((aD, dictO r nd) :: (aAcc, listO fv na) :: (b3, cellO (.ref aA)) :: (aA, listO av n2) :: rest) ⟨cc, none, .base, leafOf' (.ok .next), gl, tk⟩) :
   ∀ (m i : Nat), i + m = as.length → ∀ (tk na nd : Nat) (r : List DictEntry) (fv : List Value), Strs fv (firsts (as.take i)) → fv.length ≤ i → D1Ok w.params "k" r →
    J (mkV w h (AW fr) R d os) S (T2 o1 o2) ((aD, dictO r nd) :: (aIt, riterO i m) :: (aAcc, listO fv na) :: (b3, cellO (.ref aA)) :: (aA, listO av n2) :: rest)
      ⟨.compLoop fstE 0 (.ref aIt) (.ref aAcc) (fstEnv aD aF b3), none, .base, denote table (.compLoop fstE 0 (.ref aIt) (.ref aAcc) (fstEnv aD aF b3)), gl, tk⟩ := by
  have hlen := hv.length
  have hl20 : av.length < 20 := by omega
  intro m
  induction m with
  | zero =>
    intro i him tk na nd r fv hfv hfi hr
    have hi : i < 10000 := by omega
    rw [List.take_of_length_le (by omega)] at hfv
    replace H := fun cc tk => H cc tk fv na nd r hr hfv (by omega)
    clear hfv hr hv
    run_tac runJ [] (say := false)
    run_tac useS "H"
  | succ m ih =>
    intro i him tk na nd r fv hfv hfi hr
    have hi : i < 10000 := by omega
    have hm9 : m < 10000 := by omega
    have hl9 : fv.length < 20 := by omega
    have hl2 : av.length < 10000 := by omega
    have rwM : Int.ofNat (m + 1) - 1 = Int.ofNat m := by simp
    obtain ⟨s, ts, h1, h2⟩ := hv.at (i := i) (by omega)
    replace ih := ih (i + 1) (by omega)
    clear H
    rw [take_snoc h1, firsts_snoc, addNew] at ih
    by_cases hm : s ∈ as.take i
    · have hmd : decide (s ∈ as.take i) = true := decide_eq_true hm
      rw [if_pos ((mem_firsts _ _).mpr hm)] at ih
      have hfi2 : fv.length ≤ i + 1 := by omega
      clear h1 hm
      rcases hr with rfl | ⟨t, v, rfl⟩
      all_goals
        run_tac walk [("list.__getitem__", "listat_ok (i := i) (hv := h2)"), ("list.__getitem__", "sliceS_ok (e := i)"), ("list.__contains__", "contains_ok (b := true)")] (say := false)
        run_tac leafH "ih"
    · have hmd : decide (s ∈ as.take i) = false := decide_eq_false hm
      rw [if_neg (fun q => hm ((mem_firsts _ _).mp q))] at ih
      clear h1 hm
      rcases hr with rfl | ⟨t, v, rfl⟩
      all_goals
        run_tac walk [("list.__getitem__", "listat_ok (i := i) (hv := h2)"), ("list.__getitem__", "sliceS_ok (e := i)"), ("list.__contains__", "contains_ok (b := false)")] (say := false)
        run_tac leafH "ih"
        all_goals simp
        all_goals omega
end
end Mine
end

section
open PySem PySem.W PySem.W.X PyProof.Rows
namespace Mine

section
variable {w : World} {hd : Option Value} {h : Heap} {A : Around} {R : Result → Shared → Prop} {d : Drawn} {os : OsState} {S : List Addr} {o1 o2 : Obj} {rest : List (Addr × Obj)} {L : List (Addr × Obj)} {c : Code} {κ : Kont} {gl : List GenState} {tk : Nat} {k : Result → Sem PySem.Fin} {g : Bool} {l : List Value}
theorem strmod_ok (hle : ALe (aroundOf (mkV w h A R d os) true (.ret c none k κ)) (A1 hd))
   {X : Int} {t ts : Tok} (h0 : 0 ≤ X) (h9 : X < 10)
   (H : ∀ tk' tv n, X = Int.ofNat n → J (mkV w h A R d os) S (T2 o1 o2) L ⟨c, none, κ, k (.ok (.ret (.str (dolS n) tv))), gl, tk'⟩) :
   J (mkV w h A R d os) S (T2 o1 o2) L ⟨c, none, κ, .call (.call (.builtin "str.__mod__") ⟨[.str ⟨#[36, 37, 100]⟩ ts, .int X t], []⟩) none g l k, gl, tk⟩ := by
  refine J.callee (V' := mkV w h (A1 hd) (endOf (mkV w h A R d os) (.ret c none k κ)) d os) rfl rfl rfl rfl rfl rfl rfl hle rfl ?_
  obtain ⟨n, rfl⟩ := Int.eq_ofNat_of_zero_le h0
  have hn : n < 10 := by omega
  replace H := fun tk' tv => H tk' tv n rfl
  clear h0 h9
  have hn : n = 0 ∨ n = 1 ∨ n = 2 ∨ n = 3 ∨ n = 4 ∨ n = 5 ∨ n = 6 ∨ n = 7 ∨ n = 8 ∨ n = 9 := by omega
  rcases hn with rfl | rfl | rfl | rfl | rfl | rfl | rfl | rfl | rfl | rfl
  all_goals
    run_tac runJ [] (say := false)
    run_tac backJ
    run_tac useS "H"
theorem indexIn_ok (hle : ALe (aroundOf (mkV w h A R d os) true (.ret c none k κ)) (A1 none))
   {a : Addr} {vs : List Value} {ss : List Str} {n j : Nat} {tn : Tok} {nm : Str} (hv : Strs vs ss) (hm : vs.length < 10000) (hnm : nm = nmA ∨ nm = nmB ∨ nm = nmD ∨ nm = nmK) (hj : whereIs nm ss = some j)
   (H : ∀ tk' t, J (mkV w h A R d os) S (T2 o1 o2) ((a, listO vs n) :: rest) ⟨c, none, κ, k (.ok (.ret (.int (Int.ofNat j) t))), gl, tk'⟩) :
   J (mkV w h A R d os) S (T2 o1 o2) ((a, listO vs n) :: rest) ⟨c, none, κ, .call (.call (.builtin "list.index") ⟨[.ref a, .str nm tn], []⟩) none g l k, gl, tk⟩ :=
  index_ok hle hv hm nm hnm (fun j' hj' _ => by rw [hj] at hj'; cases hj'; exact H) (fun hn => by rw [hj] at hn; cases hn)
end
theorem whereIs_mem {x : Str} : ∀ {l : List Str}, x ∈ l → ∃ j, whereIs x l = some j ∧ j < l.length
  | [], h => by cases h
  | y :: l, h => by
    by_cases e : y = x
    · exact ⟨0, if_pos e, by simp⟩
    · have hm : x ∈ l := (List.mem_cons.mp h).resolve_left fun q => e q.symm
      obtain ⟨j, hj, hl⟩ := whereIs_mem hm
      exact ⟨j + 1, (if_neg e).trans (by rw [hj]; rfl), by simp; omega⟩
/-- the number of a name: where it stands among the first ones -/
def numOf (fs : List Str) (s : Str) : Str := dolS ((whereIs s fs).getD 0 + 1)
noncomputable def numE : PySem.Expr := by run_tac navPart 804 7 [(1, none)]
noncomputable def numSc : Scope := by run_tac navPart 804 7 [(1, none), (2, none)]
noncomputable def numEnv (aD aF b2 : Addr) : Env := lawCEnv numSc aD aF [("first", b2)]
section
variable {w : World} {h : Heap} {R : Result → Shared → Prop} {d : Drawn} {os : OsState} {S : List Addr} {o1 o2 : Obj} {rest : List (Addr × Obj)} {gl : List GenState} {fr : Option (List Env)}
  {aIt aAcc aD aF aN b2 aFi : Addr} {nv fv : List Value} {ns : List (Option Str)} {fs : List Str} {n2 n3 : Nat}
theorem num_loop (hv : OStrs nv ns) (h9 : ns.length ≤ 9) (hf : Strs fv fs) (hf9 : fs.length ≤ 9) (hns : ∀ s, some s ∈ ns → (s = nmA ∨ s = nmB ∨ s = nmD ∨ s = nmK) ∧ s ∈ fs)
   (H : ∀ cc tk ov na nd r, D1Ok w.params "name" r → OStrs ov (ns.map (Option.map (numOf fs))) → ov.length ≤ 9 → J (mkV w h (AW fr) R d os) S (T2 o1 o2) ((aD, dictO r nd) :: (aAcc, listO ov na) :: (aN, listO nv n2) :: (b2, cellO (.ref aFi)) :: (aFi, listO fv n3) :: rest) ⟨cc, none, .base, leafOf' (.ok .next), gl, tk⟩) :
   ∀ (m i : Nat), i + m = ns.length → ∀ (tk na nd : Nat) (r : List DictEntry) (ov : List Value), OStrs ov ((ns.take i).map (Option.map (numOf fs))) → D1Ok w.params "name" r →
    J (mkV w h (AW fr) R d os) S (T2 o1 o2) ((aD, dictO r nd) :: (aIt, litO aN i) :: (aAcc, listO ov na) :: (aN, listO nv n2) :: (b2, cellO (.ref aFi)) :: (aFi, listO fv n3) :: rest)
      ⟨.compLoop numE 0 (.ref aIt) (.ref aAcc) (numEnv aD aF b2), none, .base, denote table (.compLoop numE 0 (.ref aIt) (.ref aAcc) (numEnv aD aF b2)), gl, tk⟩ := by
  have hlen := hv.length
  have hfl := hf.length
  have hl20 : nv.length < 20 := by omega
  have hfl2 : fv.length < 10000 := by omega
  intro m
  induction m with
  | zero =>
    intro i him tk na nd r ov hov hr
    have hi : i < 10000 := by omega
    have hge : nv.length ≤ i := by omega
    rw [List.take_of_length_le (by omega)] at hov
    have ho9 : ov.length ≤ 9 := by rw [hov.length]; simpa using h9
    replace H := fun cc tk => H cc tk ov na nd r hr hov ho9
    clear hov hr hv hf hns
    have rwI : (Array.mk nv)[i]? = none := by simp [hge]
    run_tac runJ [] (say := false)
    run_tac useS "H"
  | succ m ih =>
    intro i him tk na nd r ov hov hr
    have hi : i < 10000 := by omega
    have hl9 : ov.length < 20 := by rw [hov.length]; simp; omega
    replace ih := ih (i + 1) (by omega)
    clear H
    rcases hv.at (i := i) (by omega) with ⟨h1, h2⟩ | ⟨s, ts, h1, h2⟩
    · rw [take_snoc h1, List.map_append] at ih
      have hov2 := hov.sno
      have rwI : (Array.mk nv)[(Int.ofNat i).toNat]? = some .none := by simpa using h2
      clear h1 h2 hv hf hns hov
      rcases hr with rfl | ⟨t, v, rfl⟩
      all_goals
        run_tac runJ [] (say := false)
        run_tac leafH "ih"
    · rw [take_snoc h1, List.map_append] at ih
      obtain ⟨hnm, hin⟩ := hns s (List.mem_of_getElem? h1)
      obtain ⟨j, hj, hjl⟩ := whereIs_mem hin
      have hov2 : ∀ t, OStrs (ov ++ [.str (dolS (j + 1)) t]) ((ns.take i).map (Option.map (numOf fs)) ++ [some s].map (Option.map (numOf fs))) := by
        intro t
        have e : numOf fs s = dolS (j + 1) := by rw [numOf, hj]; rfl
        simp only [List.map_cons, List.map_nil, Option.map_some, e]
        exact hov.syes
      have rwI : (Array.mk nv)[(Int.ofNat i).toNat]? = some (.str s ts) := by simpa using h2
      clear h1 h2 hv hns hov
      rcases hr with rfl | ⟨t, v, rfl⟩
      all_goals
        run_tac walk [("list.index", "indexIn_ok (hj := hj)"), ("str.__mod__", "strmod_ok")] (say := false)
        rename Int.ofNat (j + 1) = Int.ofNat _ => hh
        cases Int.ofNat.inj hh
        run_tac leafG "ih" (do Lean.Elab.Tactic.evalTactic (← `(tactic| first | assumption | apply_assumption | exact Or.inr ⟨_, _, rfl⟩)))
end
end Mine
end

section
open PySem PySem.W PySem.W.X PyProof.Rows
namespace Mine
noncomputable def vlsE : PySem.Expr := by run_tac navPart 804 9 [(1, none), (1, some 0)]
noncomputable def vlsSc : Scope := by run_tac navPart 804 9 [(1, none), (1, some 0), (2, none)]
noncomputable def vlsEnv (aD aF b4 : Addr) : Env := lawCEnv vlsSc aD aF [("given", b4)]
section
variable {w : World} {h : Heap} {R : Result → Shared → Prop} {d : Drawn} {os : OsState} {S : List Addr} {o1 o2 : Obj} {rest : List (Addr × Obj)} {gl : List GenState} {fr : Option (List Env)}
  {aIt aAcc aD aF aL b4 aG : Addr} {fv : List Value} {fs : List Str} {n2 nG : Nat} {q1 q2 q3 q4 u1 u2 u3 u4 : Tok} {i1 i2 i3 i4 : Int}
theorem vls_loop (hf : Strs fv fs) (h9 : fs.length ≤ 9) (hss : ∀ s ∈ fs, s = nmA ∨ s = nmB ∨ s = nmD ∨ s = nmK)
   (H : ∀ cc tk lv na nd r, D1Ok w.params "name" r → lv = fs.map (valOf (.int i1 u1) (.int i2 u2) (.int i3 u3) (.int i4 u4)) → lv.length ≤ 9 → J (mkV w h (AW fr) R d os) S (T2 o1 o2) ((aD, dictO r nd) :: (aAcc, listO lv na) :: (aL, listO fv n2) :: (b4, cellO (.ref aG)) :: (aG, giv w.params q1 q2 q3 q4 (.int i1 u1) (.int i2 u2) (.int i3 u3) (.int i4 u4) nG) :: rest) ⟨cc, none, .base, leafOf' (.ok .next), gl, tk⟩) :
   ∀ (m i : Nat), i + m = fs.length → ∀ (tk na nd : Nat) (r : List DictEntry) (lv : List Value), lv = (fs.take i).map (valOf (.int i1 u1) (.int i2 u2) (.int i3 u3) (.int i4 u4)) → D1Ok w.params "name" r →
    J (mkV w h (AW fr) R d os) S (T2 o1 o2) ((aD, dictO r nd) :: (aIt, litO aL i) :: (aAcc, listO lv na) :: (aL, listO fv n2) :: (b4, cellO (.ref aG)) :: (aG, giv w.params q1 q2 q3 q4 (.int i1 u1) (.int i2 u2) (.int i3 u3) (.int i4 u4) nG) :: rest)
      ⟨.compLoop vlsE 0 (.ref aIt) (.ref aAcc) (vlsEnv aD aF b4), none, .base, denote table (.compLoop vlsE 0 (.ref aIt) (.ref aAcc) (vlsEnv aD aF b4)), gl, tk⟩ := by
  have hlen := hf.length
  have hl20 : fv.length < 20 := by omega
  intro m
  induction m with
  | zero =>
    intro i him tk na nd r lv hlv hr
    have hi : i < 10000 := by omega
    have hge : fv.length ≤ i := by omega
    rw [List.take_of_length_le (by omega)] at hlv
    replace H := fun cc tk => H cc tk lv na nd r hr hlv (by rw [hlv]; simpa using h9)
    clear hlv hr hf hss
    have rwI : (Array.mk fv)[i]? = none := by simp [hge]
    run_tac runJ [] (say := false)
    run_tac useS "H"
  | succ m ih =>
    intro i him tk na nd r lv hlv hr
    have hi : i < 10000 := by omega
    have hl9 : lv.length < 20 := by rw [hlv]; simp; omega
    obtain ⟨s, ts, h1, h2⟩ := hf.at (i := i) (by omega)
    have hmem : s ∈ fs := List.mem_of_getElem? h1
    have hval := take_val hlv h1
    replace ih := ih (i + 1) (by omega)
    replace hss := hss s hmem
    clear H hlv hmem hf
    have rwI : (Array.mk fv)[(Int.ofNat i).toNat]? = some (.str s ts) := by simpa using h2
    clear h1 h2
    rcases hss with rfl | rfl | rfl | rfl
    all_goals first | rw [valA] at hval | rw [valB] at hval | rw [valD] at hval | rw [valK] at hval
    all_goals
      rcases hr with rfl | ⟨t, v, rfl⟩
      all_goals
        run_tac runJ [] (say := false)
        run_tac leafG "ih" (do Lean.Elab.Tactic.evalTactic (← `(tactic| first | assumption | exact Or.inr ⟨_, _, rfl⟩)))
end
noncomputable def rowE : PySem.Expr := by run_tac navPart 804 10 [(1, none), (1, some 0)]
noncomputable def rowSc : Scope := by run_tac navPart 804 10 [(1, none), (1, some 0), (2, none)]
noncomputable def rowEnv (aD aF b4 : Addr) : Env := lawCEnv rowSc aD aF [("given", b4)]
section
variable {w : World} {h : Heap} {R : Result → Shared → Prop} {d : Drawn} {os : OsState} {S : List Addr} {o1 o2 : Obj} {rest : List (Addr × Obj)} {gl : List GenState} {fr : Option (List Env)}
  {aIt aAcc aD aF aL b4 aG : Addr} {fv : List Value} {fs : List Str} {n2 nG : Nat} {q1 q2 q3 q4 u1 u2 u3 u4 : Tok} {i1 i2 i3 i4 : Int}
theorem row_loop (hf : Strs fv fs) (h9 : fs.length ≤ 9) (hss : ∀ s ∈ fs, s = nmA ∨ s = nmB ∨ s = nmD ∨ s = nmK)
   (H : ∀ cc tk lv na nd r, D1Ok w.params "name" r → lv = fs.map (valOf (.int i1 u1) (.int i2 u2) (.int i3 u3) (.int i4 u4)) → lv.length ≤ 9 → J (mkV w h (AW fr) R d os) S (T2 o1 o2) ((aD, dictO r nd) :: (aAcc, listO lv na) :: (aL, listO fv n2) :: (b4, cellO (.ref aG)) :: (aG, giv w.params q1 q2 q3 q4 (.int i1 u1) (.int i2 u2) (.int i3 u3) (.int i4 u4) nG) :: rest) ⟨cc, none, .base, leafOf' (.ok .next), gl, tk⟩) :
   ∀ (m i : Nat), i + m = fs.length → ∀ (tk na nd : Nat) (r : List DictEntry) (lv : List Value), lv = (fs.take i).map (valOf (.int i1 u1) (.int i2 u2) (.int i3 u3) (.int i4 u4)) → D1Ok w.params "name" r →
    J (mkV w h (AW fr) R d os) S (T2 o1 o2) ((aD, dictO r nd) :: (aIt, litO aL i) :: (aAcc, listO lv na) :: (aL, listO fv n2) :: (b4, cellO (.ref aG)) :: (aG, giv w.params q1 q2 q3 q4 (.int i1 u1) (.int i2 u2) (.int i3 u3) (.int i4 u4) nG) :: rest)
      ⟨.compLoop rowE 0 (.ref aIt) (.ref aAcc) (rowEnv aD aF b4), none, .base, denote table (.compLoop rowE 0 (.ref aIt) (.ref aAcc) (rowEnv aD aF b4)), gl, tk⟩ := by
  have hlen := hf.length
  have hl20 : fv.length < 20 := by omega
  intro m
  induction m with
  | zero =>
    intro i him tk na nd r lv hlv hr
    have hi : i < 10000 := by omega
    have hge : fv.length ≤ i := by omega
    rw [List.take_of_length_le (by omega)] at hlv
    replace H := fun cc tk => H cc tk lv na nd r hr hlv (by rw [hlv]; simpa using h9)
    clear hlv hr hf hss
    have rwI : (Array.mk fv)[i]? = none := by simp [hge]
    run_tac runJ [] (say := false)
    run_tac useS "H"
  | succ m ih =>
    intro i him tk na nd r lv hlv hr
    have hi : i < 10000 := by omega
    have hl9 : lv.length < 20 := by rw [hlv]; simp; omega
    obtain ⟨s, ts, h1, h2⟩ := hf.at (i := i) (by omega)
    have hmem : s ∈ fs := List.mem_of_getElem? h1
    have hval := take_val hlv h1
    replace ih := ih (i + 1) (by omega)
    replace hss := hss s hmem
    clear H hlv hmem hf
    have rwI : (Array.mk fv)[(Int.ofNat i).toNat]? = some (.str s ts) := by simpa using h2
    clear h1 h2
    rcases hss with rfl | rfl | rfl | rfl
    all_goals first | rw [valA] at hval | rw [valB] at hval | rw [valD] at hval | rw [valK] at hval
    all_goals
      rcases hr with rfl | ⟨t, v, rfl⟩
      all_goals
        run_tac runJ [] (say := false)
        run_tac leafG "ih" (do Lean.Elab.Tactic.evalTactic (← `(tactic| first | assumption | exact Or.inr ⟨_, _, rfl⟩)))
end
end Mine
end

section
open PySem PySem.W PySem.W.X PyProof.Rows
namespace Mine
def colS (s : Str) : Str := ⟨⟨[58]⟩ ++ s.cps⟩
def pyS (s : Str) : Str := ⟨(⟨⟨[37, 40]⟩ ++ s.cps⟩ : Str).cps ++ ⟨[41, 115]⟩⟩
noncomputable def nmdE : PySem.Expr := by run_tac navPart 804 13 [(1, none), (1, some 1)]
noncomputable def nmdSc : Scope := by run_tac navPart 804 13 [(1, none), (1, some 1), (2, none)]
noncomputable def nmdEnv (aD aF : Addr) : Env := lawCEnv nmdSc aD aF []
section
variable {w : World} {h : Heap} {R : Result → Shared → Prop} {d : Drawn} {os : OsState} {S : List Addr} {o1 o2 : Obj} {rest : List (Addr × Obj)} {gl : List GenState} {fr : Option (List Env)}
  {aIt aAcc aD aF aN b1 : Addr} {nv : List Value} {ns : List (Option Str)} {n2 : Nat} {mk : Str} {tmk : Tok}
theorem nmd_loop (hv : OStrs nv ns) (h9 : ns.length ≤ 9) (hns : ∀ s, some s ∈ ns → s = nmA ∨ s = nmB ∨ s = nmD ∨ s = nmK)
   (H : ∀ cc tk ov na nd r, D1Ok w.params "name" r → OStrs ov (ns.map (Option.map colS)) → ov.length ≤ 9 → J (mkV w h (AW fr) R d os) S (T2 o1 o2) ((aD, dictO r nd) :: (aAcc, listO ov na) :: (aN, listO nv n2) :: rest) ⟨cc, none, .base, leafOf' (.ok .next), gl, tk⟩) :
   ∀ (m i : Nat), i + m = ns.length → ∀ (tk na nd : Nat) (r : List DictEntry) (ov : List Value), OStrs ov ((ns.take i).map (Option.map colS)) → D1Ok w.params "name" r →
    J (mkV w h (AW fr) R d os) S (T2 o1 o2) ((aD, dictO r nd) :: (aIt, litO aN i) :: (aAcc, listO ov na) :: (aN, listO nv n2) :: rest)
      ⟨.compLoop nmdE 0 (.ref aIt) (.ref aAcc) (nmdEnv aD aF), none, .base, denote table (.compLoop nmdE 0 (.ref aIt) (.ref aAcc) (nmdEnv aD aF)), gl, tk⟩ := by
  have hlen := hv.length
  have hl20 : nv.length < 20 := by omega
  intro m
  induction m with
  | zero =>
    intro i him tk na nd r ov hov hr
    have hi : i < 10000 := by omega
    have hge : nv.length ≤ i := by omega
    rw [List.take_of_length_le (by omega)] at hov
    have ho9 : ov.length ≤ 9 := by rw [hov.length]; simpa using h9
    replace H := fun cc tk => H cc tk ov na nd r hr hov ho9
    clear hov hr hv
    have rwI : (Array.mk nv)[i]? = none := by simp [hge]
    run_tac runJ [] (say := false)
    run_tac useS "H"
  | succ m ih =>
    intro i him tk na nd r ov hov hr
    have hi : i < 10000 := by omega
    have hl9 : ov.length < 20 := by rw [hov.length]; simp; omega
    replace ih := ih (i + 1) (by omega)
    clear H
    rcases hv.at (i := i) (by omega) with ⟨h1, h2⟩ | ⟨s, ts, h1, h2⟩
    · rw [take_snoc h1, List.map_append] at ih
      have hov2 := hov.sno
      have rwI : (Array.mk nv)[(Int.ofNat i).toNat]? = some .none := by simpa using h2
      clear h1 h2 hv hov
      rcases hr with rfl | ⟨t, v, rfl⟩
      all_goals
        run_tac runJ [] (say := false)
        run_tac leafH "ih"
    · rw [take_snoc h1, List.map_append] at ih
      have hmem : some s ∈ ns := List.mem_of_getElem? h1
      have hsz : s.cps.size < 100 := by rcases hns s hmem with rfl | rfl | rfl | rfl <;> decide
      have hsz2 : s.cps.size < 10000 := by omega
      have hov2 : ∀ t, OStrs (ov ++ [.str ⟨⟨[58]⟩ ++ s.cps⟩ t]) ((ns.take i).map (Option.map colS) ++ [some s].map (Option.map colS)) := fun t => hov.syes
      clear hns
      have rwI : (Array.mk nv)[(Int.ofNat i).toNat]? = some (.str s ts) := by simpa using h2
      clear h1 h2 hv hov hmem
      rcases hr with rfl | ⟨t, v, rfl⟩
      all_goals
        run_tac walk [("str.__add__", "stradd_ok")] (say := false)
        run_tac leafG "ih" (do Lean.Elab.Tactic.evalTactic (← `(tactic| first | assumption | apply_assumption | exact Or.inr ⟨_, _, rfl⟩)))
end
noncomputable def pyfE : PySem.Expr := by run_tac navPart 804 15 [(0, none), (0, none), (1, some 1), (1, some 1)]
noncomputable def pyfSc : Scope := by run_tac navPart 804 15 [(0, none), (0, none), (1, some 1), (1, some 1), (2, none)]
noncomputable def pyfEnv (aD aF : Addr) : Env := lawCEnv pyfSc aD aF []
section
variable {w : World} {h : Heap} {R : Result → Shared → Prop} {d : Drawn} {os : OsState} {S : List Addr} {o1 o2 : Obj} {rest : List (Addr × Obj)} {gl : List GenState} {fr : Option (List Env)}
  {aIt aAcc aD aF aN b1 : Addr} {nv : List Value} {ns : List (Option Str)} {n2 : Nat} {mk : Str} {tmk : Tok}
theorem pyf_loop (hv : OStrs nv ns) (h9 : ns.length ≤ 9) (hns : ∀ s, some s ∈ ns → s = nmA ∨ s = nmB ∨ s = nmD ∨ s = nmK)
   (H : ∀ cc tk ov na nd r, D1Ok w.params "name" r → OStrs ov (ns.map (Option.map pyS)) → ov.length ≤ 9 → J (mkV w h (AW fr) R d os) S (T2 o1 o2) ((aD, dictO r nd) :: (aAcc, listO ov na) :: (aN, listO nv n2) :: rest) ⟨cc, none, .base, leafOf' (.ok .next), gl, tk⟩) :
   ∀ (m i : Nat), i + m = ns.length → ∀ (tk na nd : Nat) (r : List DictEntry) (ov : List Value), OStrs ov ((ns.take i).map (Option.map pyS)) → D1Ok w.params "name" r →
    J (mkV w h (AW fr) R d os) S (T2 o1 o2) ((aD, dictO r nd) :: (aIt, litO aN i) :: (aAcc, listO ov na) :: (aN, listO nv n2) :: rest)
      ⟨.compLoop pyfE 0 (.ref aIt) (.ref aAcc) (pyfEnv aD aF), none, .base, denote table (.compLoop pyfE 0 (.ref aIt) (.ref aAcc) (pyfEnv aD aF)), gl, tk⟩ := by
  have hlen := hv.length
  have hl20 : nv.length < 20 := by omega
  intro m
  induction m with
  | zero =>
    intro i him tk na nd r ov hov hr
    have hi : i < 10000 := by omega
    have hge : nv.length ≤ i := by omega
    rw [List.take_of_length_le (by omega)] at hov
    have ho9 : ov.length ≤ 9 := by rw [hov.length]; simpa using h9
    replace H := fun cc tk => H cc tk ov na nd r hr hov ho9
    clear hov hr hv
    have rwI : (Array.mk nv)[i]? = none := by simp [hge]
    run_tac runJ [] (say := false)
    run_tac useS "H"
  | succ m ih =>
    intro i him tk na nd r ov hov hr
    have hi : i < 10000 := by omega
    have hl9 : ov.length < 20 := by rw [hov.length]; simp; omega
    replace ih := ih (i + 1) (by omega)
    clear H
    rcases hv.at (i := i) (by omega) with ⟨h1, h2⟩ | ⟨s, ts, h1, h2⟩
    · rw [take_snoc h1, List.map_append] at ih
      have hov2 := hov.sno
      have rwI : (Array.mk nv)[(Int.ofNat i).toNat]? = some .none := by simpa using h2
      clear h1 h2 hv hov
      rcases hr with rfl | ⟨t, v, rfl⟩
      all_goals
        run_tac runJ [] (say := false)
        run_tac leafH "ih"
    · rw [take_snoc h1, List.map_append] at ih
      have hmem : some s ∈ ns := List.mem_of_getElem? h1
      have hsz : s.cps.size < 100 := by rcases hns s hmem with rfl | rfl | rfl | rfl <;> decide
      have hsz2 : s.cps.size < 10000 := by omega
      have hov2 : ∀ t, OStrs (ov ++ [.str ⟨(⟨⟨[37, 40]⟩ ++ s.cps⟩ : Str).cps ++ ⟨[41, 115]⟩⟩ t]) ((ns.take i).map (Option.map pyS) ++ [some s].map (Option.map pyS)) := fun t => hov.syes
      have hsz3 : (⟨[37, 40]⟩ ++ s.cps : Array Nat).size < 10000 := by simp; omega
      clear hns
      have rwI : (Array.mk nv)[(Int.ofNat i).toNat]? = some (.str s ts) := by simpa using h2
      clear h1 h2 hv hov hmem
      rcases hr with rfl | ⟨t, v, rfl⟩
      all_goals
        run_tac walk [("str.__add__", "stradd_ok")] (say := false)
        run_tac leafG "ih" (do Lean.Elab.Tactic.evalTactic (← `(tactic| first | assumption | apply_assumption | exact Or.inr ⟨_, _, rfl⟩)))
end
noncomputable def mrkE : PySem.Expr := by run_tac navPart 804 19 [(2, some 0), (0, none), (0, none), (1, some 1), (1, some 1)]
noncomputable def mrkSc : Scope := by run_tac navPart 804 19 [(2, some 0), (0, none), (0, none), (1, some 1), (1, some 1), (2, none)]
noncomputable def mrkEnv (aD aF : Addr) (b1 : Addr) : Env := lawCEnv mrkSc aD aF [("mark", b1)]
section
variable {w : World} {h : Heap} {R : Result → Shared → Prop} {d : Drawn} {os : OsState} {S : List Addr} {o1 o2 : Obj} {rest : List (Addr × Obj)} {gl : List GenState} {fr : Option (List Env)}
  {aIt aAcc aD aF aN b1 : Addr} {nv : List Value} {ns : List (Option Str)} {n2 : Nat} {mk : Str} {tmk : Tok}
theorem mrk_loop (hv : OStrs nv ns) (h9 : ns.length ≤ 9) 
   (H : ∀ cc tk ov na nd r, D1Ok w.params "name" r → OStrs ov (ns.map (Option.map (fun _ => mk))) → ov.length ≤ 9 → J (mkV w h (AW fr) R d os) S (T2 o1 o2) ((aD, dictO r nd) :: (aAcc, listO ov na) :: (aN, listO nv n2) :: (b1, cellO (.str mk tmk)) :: rest) ⟨cc, none, .base, leafOf' (.ok .next), gl, tk⟩) :
   ∀ (m i : Nat), i + m = ns.length → ∀ (tk na nd : Nat) (r : List DictEntry) (ov : List Value), OStrs ov ((ns.take i).map (Option.map (fun _ => mk))) → D1Ok w.params "name" r →
    J (mkV w h (AW fr) R d os) S (T2 o1 o2) ((aD, dictO r nd) :: (aIt, litO aN i) :: (aAcc, listO ov na) :: (aN, listO nv n2) :: (b1, cellO (.str mk tmk)) :: rest)
      ⟨.compLoop mrkE 0 (.ref aIt) (.ref aAcc) (mrkEnv aD aF b1), none, .base, denote table (.compLoop mrkE 0 (.ref aIt) (.ref aAcc) (mrkEnv aD aF b1)), gl, tk⟩ := by
  have hlen := hv.length
  have hl20 : nv.length < 20 := by omega
  intro m
  induction m with
  | zero =>
    intro i him tk na nd r ov hov hr
    have hi : i < 10000 := by omega
    have hge : nv.length ≤ i := by omega
    rw [List.take_of_length_le (by omega)] at hov
    have ho9 : ov.length ≤ 9 := by rw [hov.length]; simpa using h9
    replace H := fun cc tk => H cc tk ov na nd r hr hov ho9
    clear hov hr hv
    have rwI : (Array.mk nv)[i]? = none := by simp [hge]
    run_tac runJ [] (say := false)
    run_tac useS "H"
  | succ m ih =>
    intro i him tk na nd r ov hov hr
    have hi : i < 10000 := by omega
    have hl9 : ov.length < 20 := by rw [hov.length]; simp; omega
    replace ih := ih (i + 1) (by omega)
    clear H
    rcases hv.at (i := i) (by omega) with ⟨h1, h2⟩ | ⟨s, ts, h1, h2⟩
    · rw [take_snoc h1, List.map_append] at ih
      have hov2 := hov.sno
      have rwI : (Array.mk nv)[(Int.ofNat i).toNat]? = some .none := by simpa using h2
      clear h1 h2 hv hov
      rcases hr with rfl | ⟨t, v, rfl⟩
      all_goals
        run_tac runJ [] (say := false)
        run_tac leafH "ih"
    · rw [take_snoc h1, List.map_append] at ih
      have hmem : some s ∈ ns := List.mem_of_getElem? h1
      have hov2 : OStrs (ov ++ [.str mk tmk]) ((ns.take i).map (Option.map (fun _ => mk)) ++ [some s].map (Option.map (fun _ => mk))) := hov.syes
      have rwI : (Array.mk nv)[(Int.ofNat i).toNat]? = some (.str s ts) := by simpa using h2
      clear h1 h2 hv hov hmem
      rcases hr with rfl | ⟨t, v, rfl⟩
      all_goals
        run_tac walk [] (say := false)
        run_tac leafG "ih" (do Lean.Elab.Tactic.evalTactic (← `(tactic| first | assumption | apply_assumption | exact Or.inr ⟨_, _, rfl⟩)))
end
end Mine
end

section
open PySem PySem.W PySem.W.X PyProof.Rows
namespace Mine
section
variable {w : World} {hd : Option Value} {h : Heap} {A : Around} {R : Result → Shared → Prop} {d : Drawn} {os : OsState} {S : List Addr} {o1 o2 : Obj} {rest : List (Addr × Obj)} {c : Code} {κ : Kont} {gl : List GenState} {tk : Nat} {k : Result → Sem PySem.Fin} {g : Bool} {l : List Value}
def slice1O (t : Tok) : Obj := { cls := .type "slice", data := .fields #[.int 1 t, .none, .none] }
theorem strtail_ok (hle : ALe (aroundOf (mkV w h A R d os) true (.ret c none k κ)) (A1 hd))
   {a : Addr} {j : Nat} {t ts : Tok} (hj : j < 10)
   (H : ∀ tk' tv, J (mkV w h A R d os) S (T2 o1 o2) ((a, slice1O t) :: rest) ⟨c, none, κ, k (.ok (.ret (.str (digS j) tv))), gl, tk'⟩) :
   J (mkV w h A R d os) S (T2 o1 o2) ((a, slice1O t) :: rest) ⟨c, none, κ, .call (.call (.builtin "str.__getitem__") ⟨[.str (dolS j) ts, .ref a], []⟩) none g l k, gl, tk⟩ := by
  refine J.callee (V' := mkV w h (A1 hd) (endOf (mkV w h A R d os) (.ret c none k κ)) d os) rfl rfl rfl rfl rfl rfl rfl hle rfl ?_
  have hn : j = 0 ∨ j = 1 ∨ j = 2 ∨ j = 3 ∨ j = 4 ∨ j = 5 ∨ j = 6 ∨ j = 7 ∨ j = 8 ∨ j = 9 := by omega
  clear hj
  rcases hn with rfl | rfl | rfl | rfl | rfl | rfl | rfl | rfl | rfl | rfl
  all_goals
    run_tac runJ [] (say := false)
    run_tac backJ
    run_tac useS "H"
end
def nrcS (s : Str) : Str := ⟨⟨[58]⟩ ++ ⟨s.cps.toList.drop 1⟩⟩
noncomputable def nrcE : PySem.Expr := by run_tac navPart 804 16 [(0, none), (0, none), (1, some 1), (1, some 1)]
noncomputable def nrcSc : Scope := by run_tac navPart 804 16 [(0, none), (0, none), (1, some 1), (1, some 1), (2, none)]
noncomputable def nrcEnv (aD aF : Addr) : Env := lawCEnv nrcSc aD aF []
section
variable {w : World} {h : Heap} {R : Result → Shared → Prop} {d : Drawn} {os : OsState} {S : List Addr} {o1 o2 : Obj} {rest : List (Addr × Obj)} {gl : List GenState} {fr : Option (List Env)}
  {aIt aAcc aD aF aN b1 : Addr} {nv : List Value} {ns : List (Option Str)} {n2 : Nat} {mk : Str} {tmk : Tok}
theorem nrc_loop (hv : OStrs nv ns) (h9 : ns.length ≤ 9) (hns : ∀ s, some s ∈ ns → ∃ j, j < 10 ∧ s = dolS j)
   (H : ∀ cc tk ov na nd r, D1Ok w.params "mark" r → OStrs ov (ns.map (Option.map nrcS)) → ov.length ≤ 9 → J (mkV w h (AW fr) R d os) S (T2 o1 o2) ((aD, dictO r nd) :: (aAcc, listO ov na) :: (aN, listO nv n2) :: rest) ⟨cc, none, .base, leafOf' (.ok .next), gl, tk⟩) :
   ∀ (m i : Nat), i + m = ns.length → ∀ (tk na nd : Nat) (r : List DictEntry) (ov : List Value), OStrs ov ((ns.take i).map (Option.map nrcS)) → D1Ok w.params "mark" r →
    J (mkV w h (AW fr) R d os) S (T2 o1 o2) ((aD, dictO r nd) :: (aIt, litO aN i) :: (aAcc, listO ov na) :: (aN, listO nv n2) :: rest)
      ⟨.compLoop nrcE 0 (.ref aIt) (.ref aAcc) (nrcEnv aD aF), none, .base, denote table (.compLoop nrcE 0 (.ref aIt) (.ref aAcc) (nrcEnv aD aF)), gl, tk⟩ := by
  have hlen := hv.length
  have hl20 : nv.length < 20 := by omega
  intro m
  induction m with
  | zero =>
    intro i him tk na nd r ov hov hr
    have hi : i < 10000 := by omega
    have hge : nv.length ≤ i := by omega
    rw [List.take_of_length_le (by omega)] at hov
    have ho9 : ov.length ≤ 9 := by rw [hov.length]; simpa using h9
    replace H := fun cc tk => H cc tk ov na nd r hr hov ho9
    clear hov hr hv
    have rwI : (Array.mk nv)[i]? = none := by simp [hge]
    run_tac runJ [] (say := false)
    run_tac useS "H"
  | succ m ih =>
    intro i him tk na nd r ov hov hr
    have hi : i < 10000 := by omega
    have hl9 : ov.length < 20 := by rw [hov.length]; simp; omega
    replace ih := ih (i + 1) (by omega)
    clear H
    rcases hv.at (i := i) (by omega) with ⟨h1, h2⟩ | ⟨s, ts, h1, h2⟩
    · rw [take_snoc h1, List.map_append] at ih
      have hov2 := hov.sno
      have rwI : (Array.mk nv)[(Int.ofNat i).toNat]? = some .none := by simpa using h2
      clear h1 h2 hv hov
      rcases hr with rfl | ⟨t, v, rfl⟩
      all_goals
        run_tac runJ [] (say := false)
        run_tac leafH "ih"
    · rw [take_snoc h1, List.map_append] at ih
      have hmem : some s ∈ ns := List.mem_of_getElem? h1
      obtain ⟨j, hj, hsj⟩ := hns s hmem
      have hov2 : ∀ t, OStrs (ov ++ [.str ⟨⟨[58]⟩ ++ ⟨[48 + j]⟩⟩ t]) ((ns.take i).map (Option.map nrcS) ++ [some (dolS j)].map (Option.map nrcS)) := fun t => hov.syes
      clear hns
      have rwI : (Array.mk nv)[(Int.ofNat i).toNat]? = some (.str s ts) := by simpa using h2
      clear h1 h2 hv hov hmem
      subst hsj
      rcases hr with rfl | ⟨t, v, rfl⟩
      all_goals
        run_tac walk [("str.__getitem__", "strtail_ok (j := j)"), ("str.__add__", "stradd_ok")] (say := false)
        run_tac leafG "ih" (do Lean.Elab.Tactic.evalTactic (← `(tactic| first | assumption | apply_assumption | exact Or.inr ⟨_, _, rfl⟩)))
end
end Mine
end

section
open PySem PySem.W PySem.W.X PyProof.Rows
namespace Mine

theorem OStrs.take {vs : List Value} {ss : List (Option Str)} (h : OStrs vs ss) : ∀ n, OStrs (vs.take n) (ss.take n) := by
  induction h with
  | nil => intro n; simpa using OStrs.nil
  | no _ ih =>
    intro n
    cases n with
    | zero => exact .nil
    | succ n => exact .no (ih n)
  | yes s t _ ih =>
    intro n
    cases n with
    | zero => exact .nil
    | succ n => exact .yes s t (ih n)
def AX (fr : Option (List Env)) : Around := { handled := none, depth := 370, frames := fr, guards := none, units := 80 }
section
variable {w : World} {hd : Option Value} {h : Heap} {A : Around} {R : Result → Shared → Prop} {d : Drawn} {os : OsState} {S : List Addr} {o1 o2 : Obj} {rest : List (Addr × Obj)} {c : Code} {κ : Kont} {gl : List GenState} {tk : Nat} {k : Result → Sem PySem.Fin} {g : Bool} {l : List Value}
theorem sliceO_ok (hle : ALe (aroundOf (mkV w h A R d os) true (.ret c none k κ)) (A1 hd))
   {a sl : Addr} {vs : List Value} {ss : List (Option Str)} {n e : Nat} {tj : Tok} {j : Int} (hj : j = Int.ofNat e) (hv : OStrs vs ss) (hlen : vs.length < 10000) (he : e < 10000)
   (H : ∀ tk' b us, OStrs us (ss.take e) → us.length ≤ vs.length → J (mkV w h A R d os) S (T2 o1 o2) ((b, listO us 0) :: (sl, sliceO j tj) :: (a, listO vs n) :: rest) ⟨c, none, κ, k (.ok (.ret (.ref b))), gl, tk'⟩) :
   J (mkV w h A R d os) S (T2 o1 o2) ((sl, sliceO j tj) :: (a, listO vs n) :: rest) ⟨c, none, κ, .call (.call (.builtin "list.__getitem__") ⟨[.ref a, .ref sl], []⟩) none g l k, gl, tk⟩ :=
  listupto_ok hle hj hlen he fun tk' b => H tk' b _ (hv.take e) (by simp; omega)
end
noncomputable def cntE : PySem.Expr := by run_tac navPart 804 8 [(1, none)]
noncomputable def cntSc : Scope := by run_tac navPart 804 8 [(1, none), (2, none)]
noncomputable def cntEnv (aD aF b5 : Addr) : Env := lawCEnv cntSc aD aF [("names", b5)]
end Mine
end

section
open PySem PySem.W PySem.W.X PyProof.Rows
namespace Mine
noncomputable def cniE : PySem.Expr := by run_tac navPart 804 8 [(1, none), (0, none), (2, none), (2, none), (2, none), (1, some 0)]
noncomputable def cniSc : Scope := by run_tac navPart 804 8 [(1, none), (0, none), (2, none), (2, none), (2, none), (1, some 0), (2, none)]
noncomputable def cniEnv (aD aF : Addr) : Env := lawCEnv cniSc aD aF []
section
variable {w : World} {h : Heap} {R : Result → Shared → Prop} {d : Drawn} {os : OsState} {S : List Addr} {o1 o2 : Obj} {rest : List (Addr × Obj)} {gl : List GenState} {fr : Option (List Env)}
  {aIt aAcc aD aF aN : Addr} {nv : List Value} {ns : List (Option Str)} {n2 : Nat}
theorem cni_loop (hv : OStrs nv ns) (h9 : ns.length ≤ 9)
   (H : ∀ cc tk av na nd r, D1Ok w.params "name" r → Strs av (somes ns) → av.length ≤ 9 → J (mkV w h (AX fr) R d os) S (T2 o1 o2) ((aD, dictO r nd) :: (aAcc, listO av na) :: (aN, listO nv n2) :: rest) ⟨cc, none, .base, leafOf' (.ok .next), gl, tk⟩) :
   ∀ (m i : Nat), i + m = ns.length → ∀ (tk na nd : Nat) (r : List DictEntry) (av : List Value), Strs av (somes (ns.take i)) → D1Ok w.params "name" r →
    J (mkV w h (AX fr) R d os) S (T2 o1 o2) ((aD, dictO r nd) :: (aIt, litO aN i) :: (aAcc, listO av na) :: (aN, listO nv n2) :: rest)
      ⟨.compLoop cniE 0 (.ref aIt) (.ref aAcc) (cniEnv aD aF), none, .base, denote table (.compLoop cniE 0 (.ref aIt) (.ref aAcc) (cniEnv aD aF)), gl, tk⟩ := by
  have hlen := hv.length
  have hl20 : nv.length < 20 := by omega
  intro m
  induction m with
  | zero =>
    intro i him tk na nd r av hav hr
    have hi : i < 10000 := by omega
    have hge : nv.length ≤ i := by omega
    rw [List.take_of_length_le (by omega)] at hav
    have ha9 : av.length ≤ 9 := by rw [hav.length]; exact Nat.le_trans (List.length_filterMap_le _ _) h9
    replace H := fun cc tk => H cc tk av na nd r hr hav ha9
    clear hav hr hv
    have rwI : (Array.mk nv)[i]? = none := by simp [hge]
    run_tac runJ [] (say := false)
    run_tac useS "H"
  | succ m ih =>
    intro i him tk na nd r av hav hr
    have hi : i < 10000 := by omega
    have hl9 : av.length < 20 := by
      rw [hav.length]
      exact Nat.lt_of_le_of_lt (List.length_filterMap_le _ _) (by simp; omega)
    replace ih := ih (i + 1) (by omega)
    clear H
    rcases hv.at (i := i) (by omega) with ⟨h1, h2⟩ | ⟨s, ts, h1, h2⟩
    · rw [take_snoc h1] at ih
      simp only [somes, List.filterMap_append, List.filterMap_cons, List.filterMap_nil, id, List.append_nil] at ih hav
      have rwI : (Array.mk nv)[(Int.ofNat i).toNat]? = some .none := by simpa using h2
      clear h1 h2 hv
      rcases hr with rfl | ⟨t, v, rfl⟩
      all_goals
        run_tac runJ [] (say := false)
        run_tac leafH "ih"
    · rw [take_snoc h1] at ih
      simp only [somes, List.filterMap_append, List.filterMap_cons, List.filterMap_nil, id] at ih hav
      have rwI : (Array.mk nv)[(Int.ofNat i).toNat]? = some (.str s ts) := by simpa using h2
      clear h1 h2 hv
      rcases hr with rfl | ⟨t, v, rfl⟩
      all_goals
        run_tac runJ [] (say := false)
        run_tac leafH "ih"
end
end Mine
end

section
open PySem PySem.W PySem.W.X PyProof.Rows
namespace Mine

/-- the marks counted one by one -/
def cntAt (ns : List (Option Str)) (k : Nat) : Option Str := match ns[k]? with
  | some (some _) => some (dolS (1 + (somes (ns.take k)).length))
  | _ => none
section
variable {w : World} {h : Heap} {R : Result → Shared → Prop} {d : Drawn} {os : OsState} {S : List Addr} {o1 o2 : Obj} {rest : List (Addr × Obj)} {gl : List GenState} {fr : Option (List Env)}
  {aIt aAcc aD aF aN b5 : Addr} {nv : List Value} {ns : List (Option Str)} {n2 : Nat}
theorem cni_start {tk na nd : Nat} (hv : OStrs nv ns) (h9 : ns.length ≤ 9)
   (H : ∀ cc tk av na nd r, D1Ok w.params "name" r → Strs av (somes ns) → av.length ≤ 9 → J (mkV w h (AX fr) R d os) S (T2 o1 o2) ((aD, dictO r nd) :: (aAcc, listO av na) :: (aN, listO nv n2) :: rest) ⟨cc, none, .base, leafOf' (.ok .next), gl, tk⟩) :
    J (mkV w h (AX fr) R d os) S (T2 o1 o2) ((aD, dictO [] nd) :: (aIt, litO aN 0) :: (aAcc, listO [] na) :: (aN, listO nv n2) :: rest)
      ⟨.compLoop cniE 0 (.ref aIt) (.ref aAcc) (cniEnv aD aF), none, .base, denote table (.compLoop cniE 0 (.ref aIt) (.ref aAcc) (cniEnv aD aF)), gl, tk⟩ :=
  cni_loop hv h9 H ns.length 0 (Nat.zero_add _) tk na nd [] [] .nil (.inl rfl)
theorem cnt_loop (hv : OStrs nv ns) (h9 : ns.length ≤ 9)
   (H : ∀ cc tk ov na nd r, D1Ok w.params "k" r → OStrs ov ((List.range ns.length).map (cntAt ns)) → ov.length ≤ 9 → J (mkV w h (AW fr) R d os) S (T2 o1 o2) ((aD, dictO r nd) :: (aAcc, listO ov na) :: (b5, cellO (.ref aN)) :: (aN, listO nv n2) :: rest) ⟨cc, none, .base, leafOf' (.ok .next), gl, tk⟩) :
   ∀ (m i : Nat), i + m = ns.length → ∀ (tk na nd : Nat) (r : List DictEntry) (ov : List Value), OStrs ov ((List.range i).map (cntAt ns)) → D1Ok w.params "k" r →
    J (mkV w h (AW fr) R d os) S (T2 o1 o2) ((aD, dictO r nd) :: (aIt, riterO i m) :: (aAcc, listO ov na) :: (b5, cellO (.ref aN)) :: (aN, listO nv n2) :: rest)
      ⟨.compLoop cntE 0 (.ref aIt) (.ref aAcc) (cntEnv aD aF b5), none, .base, denote table (.compLoop cntE 0 (.ref aIt) (.ref aAcc) (cntEnv aD aF b5)), gl, tk⟩ := by
  have hlen := hv.length
  intro m
  induction m with
  | zero =>
    intro i him tk na nd r ov hov hr
    have hi : i < 10000 := by omega
    have e : i = ns.length := by omega
    subst e
    have ho9 : ov.length ≤ 9 := by rw [hov.length]; simpa using h9
    replace H := fun cc tk => H cc tk ov na nd r hr hov ho9
    clear hov hr hv
    run_tac runJ [] (say := false)
    run_tac useS "H"
  | succ m ih =>
    intro i him tk na nd r ov hov hr
    have hi : i < 10000 := by omega
    have hm9 : m < 10000 := by omega
    have hl2 : nv.length < 10000 := by omega
    have hl9 : ov.length < 20 := by rw [hov.length]; simp; omega
    have ht9 : (ns.take i).length ≤ 9 := by simp; omega
    have rwM : Int.ofNat (m + 1) - 1 = Int.ofNat m := by simp
    replace ih := ih (i + 1) (by omega)
    rw [List.range_succ, List.map_append] at ih
    clear H
    rcases hv.at (i := i) (by omega) with ⟨h1, h2⟩ | ⟨s, ts, h1, h2⟩
    · have e : [i].map (cntAt ns) = [none] := by simp [cntAt, h1]
      rw [e] at ih
      have hov2 := hov.sno
      clear h1 hov hv
      rcases hr with rfl | ⟨t, v, rfl⟩
      all_goals
        run_tac walk [("list.__getitem__", "listat_ok (i := i) (hv := h2)")] (say := false)
        run_tac leafH "ih"
    · have e : [i].map (cntAt ns) = [some (dolS (1 + (somes (ns.take i)).length))] := by simp [cntAt, h1]
      rw [e] at ih
      have hov2 : ∀ t, OStrs (ov ++ [.str (dolS (1 + (somes (ns.take i)).length)) t]) ((List.range i).map (cntAt ns) ++ [some (dolS (1 + (somes (ns.take i)).length))]) := fun t => hov.syes
      have hs8 : (somes (ns.take i)).length ≤ 8 := Nat.le_trans (List.length_filterMap_le _ _) (by simp; omega)
      clear h1 hov
      rcases hr with rfl | ⟨t, v, rfl⟩
      all_goals
        run_tac walk [("list.__getitem__", "listat_ok (i := i) (hv := h2)"), ("list.__getitem__", "sliceO_ok (e := i) (hv := hv)")] (say := false)
        run_tac rowK
        run_tac roomJ fun fr => return Lean.mkApp (Lean.mkConst ``AX) fr
        rename OStrs _ (ns.take i) => hus
        run_tac useS "cni_start hus ht9"
        intro cc tk9 av na9 nd9 r9 hr9 hav hav9
        have hal : av.length = (somes (ns.take i)).length := hav.length
        have hal8 : av.length ≤ 8 := by omega
        rcases hr9 with rfl | ⟨t9, v9, rfl⟩
        all_goals
          run_tac backJ
          run_tac walk [("str.__mod__", "strmod_ok")] (say := false)
          rename Int.ofNat _ = Int.ofNat _ => hh
          have hh2 : 1 + av.length = _ := Int.ofNat.inj hh
          rw [hal] at hh2
          subst hh2
          run_tac leafG "ih" (do Lean.Elab.Tactic.evalTactic (← `(tactic| first | assumption | apply_assumption | exact Or.inr ⟨_, _, rfl⟩)))
end
end Mine
end

section
open PySem PySem.W PySem.W.X PyProof.Rows
namespace Mine

/-- a step function, run over a text -/
def runG (f : Option Nat → Nat → Option Nat → CS → Option CS) : Option Nat → List Nat → CS → Option (Option Nat × CS)
  | p, [], x => some (p, x)
  | p, c :: r, x => match f p c r.head? x with
    | none => none
    | some x' => runG f (some c) r x'
theorem crun_runG (sty : Sty) : ∀ (l : List Nat) (p : Option Nat) (x : CS), crun sty p l x = runG (cstep sty) p l x
  | [], p, x => rfl
  | c :: r, p, x => by
    show (match cstep sty p c r.head? x with | none => none | some x' => crun sty (some c) r x') = (match cstep sty p c r.head? x with | none => none | some x' => runG (cstep sty) (some c) r x')
    cases cstep sty p c r.head? x with
    | none => rfl
    | some x' => exact crun_runG sty r (some c) x'
theorem trun_runG : ∀ (l : List Nat) (p : Option Nat) (x : CS), trun p l x = runG tstep p l x
  | [], p, x => rfl
  | c :: r, p, x => by
    show (match tstep p c r.head? x with | none => none | some x' => trun (some c) r x') = (match tstep p c r.head? x with | none => none | some x' => runG tstep (some c) r x')
    cases tstep p c r.head? x with
    | none => rfl
    | some x' => exact trun_runG r (some c) x'
/-- the text of a list of texts -/
def flat (o : List Str) : List Nat := o.flatMap fun s => s.cps.toList
theorem flat_app (a b : List Str) : flat (a ++ b) = flat a ++ flat b := by simp [flat]
theorem flat_one (s : Str) : flat [s] = s.cps.toList := by simp [flat]
/-- a text whose characters all stand in the output as they are -/
def litRun (f : Option Nat → Nat → Option Nat → CS → Option CS) : Option Nat → List Nat → Option Nat → Int → Bool → Option (Int × Bool)
  | _, [], _, s, qe => some (s, qe)
  | p, c :: r, e, s, qe => match f p c (r.head?.or e) ⟨s, qe, [], [], 1⟩ with
    | some ⟨s', qe', [⟨⟨[z]⟩⟩], [], 1⟩ => if z = c then litRun f (some c) r e s' qe' else none
    | _ => none
theorem cfree_lit {sty : Sty} {p : Option Nat} {x : Nat} {y : Option Nat} {s' : Int} {qe qe' : Bool} (h : cfree sty p x y qe [] [] 1 = some ⟨s', qe', [⟨#[x]⟩], [], 1⟩) (o ph : List Str) (k : Nat) :
    cfree sty p x y qe o ph k = some ⟨s', qe', o ++ [⟨#[x]⟩], ph, k⟩ := by
  cases sty <;> simp only [cfree, List.nil_append] at h ⊢ <;> (repeat' split at h) <;>
    first
    | (cases h; done)
    | (simp only [Option.some.injEq, CS.mk.injEq] at h; obtain ⟨h1, h2, h3, h4, h5⟩ := h; subst h1 h2; simp [*]; done)
    | (exfalso; simp_all; done)
theorem cstep_lit {sty : Sty} {p : Option Nat} {x : Nat} {y : Option Nat} {s s' : Int} {qe qe' : Bool} (h : cstep sty p x y ⟨s, qe, [], [], 1⟩ = some ⟨s', qe', [⟨#[x]⟩], [], 1⟩) (o ph : List Str) (k : Nat) :
    cstep sty p x y ⟨s, qe, o, ph, k⟩ = some ⟨s', qe', o ++ [⟨#[x]⟩], ph, k⟩ := by
  unfold cstep at h ⊢
  simp only [List.nil_append, List.getLast?_nil] at h ⊢
  by_cases s4 : s = 4
  · subst s4
    cases sty <;> simp at h
  · (repeat' split at h) <;>
      first
      | (cases h; done)
      | (exact absurd ‹s = 4› s4)
      | (simp only [*, if_true, if_false, ite_true, ite_false]; exact cfree_lit h o ph k)
      | (simp only [Option.some.injEq, CS.mk.injEq] at h; obtain ⟨h1, h2, h3, h4, h5⟩ := h; subst h1 h2; simp [*]; done)
      | (simp only [Option.some.injEq, CS.mk.injEq] at h; obtain ⟨h1, h2, h3, h4, h5⟩ := h; subst h1 h2; simp_all; done)
      | (exfalso; simp_all; done)
theorem tstep_lit {p : Option Nat} {x : Nat} {y : Option Nat} {s s' : Int} {qe qe' : Bool} (h : tstep p x y ⟨s, qe, [], [], 1⟩ = some ⟨s', qe', [⟨#[x]⟩], [], 1⟩) (o ph : List Str) (k : Nat) :
    tstep p x y ⟨s, qe, o, ph, k⟩ = some ⟨s', qe', o ++ [⟨#[x]⟩], ph, k⟩ := by
  unfold tstep at h ⊢
  split at h
  · cases h
  · rename_i hn
    rw [if_neg hn]
    exact cstep_lit h o ph k
/-- a step function that lets literal texts stand -/
structure Good (f : Option Nat → Nat → Option Nat → CS → Option CS) : Prop where
  lit : ∀ {p : Option Nat} {x : Nat} {y : Option Nat} {s s' : Int} {qe qe' : Bool}, f p x y ⟨s, qe, [], [], 1⟩ = some ⟨s', qe', [⟨#[x]⟩], [], 1⟩ → ∀ (o ph : List Str) (k : Nat), f p x y ⟨s, qe, o, ph, k⟩ = some ⟨s', qe', o ++ [⟨#[x]⟩], ph, k⟩
theorem head_or : ∀ (P l : List Nat), (P ++ l).head? = P.head?.or l.head?
  | [], l => rfl
  | _ :: _, _ => rfl
theorem lit_run {f : Option Nat → Nat → Option Nat → CS → Option CS} (hf : Good f) : ∀ (P l : List Nat) (p : Option Nat) (s : Int) (qe : Bool) (s' : Int) (qe' : Bool), litRun f p P l.head? s qe = some (s', qe') → ∀ (o ph : List Str) (k : Nat),
    ∃ p' o', runG f p (P ++ l) ⟨s, qe, o, ph, k⟩ = runG f p' l ⟨s', qe', o', ph, k⟩ ∧ flat o' = flat o ++ P
  | [], l, p, s, qe, s', qe', h, o, ph, k => by
    cases h
    exact ⟨p, o, rfl, by simp⟩
  | c :: r, l, p, s, qe, s', qe', h, o, ph, k => by
    have e : litRun f p (c :: r) l.head? s qe = (match f p c (r.head?.or l.head?) ⟨s, qe, [], [], 1⟩ with
      | some ⟨s', qe', [⟨⟨[z]⟩⟩], [], 1⟩ => if z = c then litRun f (some c) r l.head? s' qe' else none
      | _ => none) := rfl
    rw [e] at h
    split at h
    · rename_i s1 qe1 z hz
      split at h
      · rename_i hzc
        subst hzc
        have hs := hf.lit hz o ph k
        obtain ⟨p', o', h1, h2⟩ := lit_run hf r l (some z) s1 qe1 s' qe' h (o ++ [⟨#[z]⟩]) ph k
        refine ⟨p', o', ?_, ?_⟩
        · show (match f p z (r ++ l).head? ⟨s, qe, o, ph, k⟩ with | none => none | some x' => runG f (some z) (r ++ l) x') = _
          rw [head_or, hs]
          exact h1
        · rw [h2, flat_app, flat_one]
          simp
      · cases h
    · cases h
/-- what stands before and behind a piece -/
def Edge (l : List Nat) : Prop := l = [] ∨ ∃ r, l = 32 :: r
def Edp (p : Option Nat) : Prop := p = none ∨ p = some 32
/-- a piece of the query, and what becomes of it -/
structure Seg (f : Option Nat → Nat → Option Nat → CS → Option CS) (P Q : Str) (ph : List Str) (k : Nat) (ph' : List Str) (k' : Nat) : Prop where
  run : ∀ (p : Option Nat) (l : List Nat), Edp p → Edge l → ∀ o : List Str, ∃ p' o', runG f p (P.cps.toList ++ l) ⟨0, false, o, ph, k⟩ = runG f p' l ⟨0, false, o', ph', k'⟩ ∧ flat o' = flat o ++ Q.cps.toList
inductive Segs (f : Option Nat → Nat → Option Nat → CS → Option CS) : List Str → List Str → List Str → Nat → List Str → Nat → Prop
  | nil {ph : List Str} {k : Nat} : Segs f [] [] ph k ph k
  | cons {P Q : Str} {Ps Qs ph ph' ph'' : List Str} {k k' k'' : Nat} : Seg f P Q ph k ph' k' → Segs f Ps Qs ph' k' ph'' k'' → Segs f (P :: Ps) (Q :: Qs) ph k ph'' k''
theorem join_cons (sep x y : Str) (r : List Str) : (Str.join sep (x :: y :: r)).cps.toList = x.cps.toList ++ (sep.cps.toList ++ (Str.join sep (y :: r)).cps.toList) := by
  show ((x ++ sep ++ Str.join sep (y :: r) : Str)).cps.toList = _
  show ((x.cps ++ sep.cps) ++ (Str.join sep (y :: r)).cps).toList = _
  simp
theorem Segs.runs {f : Option Nat → Nat → Option Nat → CS → Option CS} (h32 : ∀ p y o ph k, f p 32 y ⟨0, false, o, ph, k⟩ = some ⟨0, false, o ++ [⟨#[32]⟩], ph, k⟩)
    {Ps Qs ph ph' : List Str} {k k' : Nat} (h : Segs f Ps Qs ph k ph' k') : ∀ (p : Option Nat), Edp p → ∀ o : List Str,
    ∃ p' o', runG f p (Str.join ⟨#[32]⟩ Ps).cps.toList ⟨0, false, o, ph, k⟩ = some (p', ⟨0, false, o', ph', k'⟩) ∧ flat o' = flat o ++ (Str.join ⟨#[32]⟩ Qs).cps.toList := by
  induction h with
  | nil => intro p _ o; exact ⟨p, o, rfl, by simp [Str.join]; rfl⟩
  | @cons P Q Ps Qs ph ph1 ph2 k k1 k2 hs ht ih =>
    intro p hp o
    cases ht with
    | nil =>
      obtain ⟨p', o', h1, h2⟩ := hs.run p [] hp (.inl rfl) o
      rw [List.append_nil] at h1
      exact ⟨p', o', h1, h2⟩
    | @cons P' Q' Ps' Qs' _ ph3 _ _ k3 _ hs' ht' =>
      obtain ⟨p', o', h1, h2⟩ := hs.run p (32 :: (Str.join ⟨#[32]⟩ (P' :: Ps')).cps.toList) hp (.inr ⟨_, rfl⟩) o
      obtain ⟨p2, o2, h3, h4⟩ := ih (some 32) (.inr rfl) (o' ++ [⟨#[32]⟩])
      refine ⟨p2, o2, ?_, ?_⟩
      · rw [join_cons]
        show runG f p (P.cps.toList ++ 32 :: (Str.join ⟨#[32]⟩ (P' :: Ps')).cps.toList) _ = _
        rw [h1]
        show (match f p' 32 (Str.join ⟨#[32]⟩ (P' :: Ps')).cps.toList.head? ⟨0, false, o', ph1, k1⟩ with | none => none | some x' => runG f (some 32) (Str.join ⟨#[32]⟩ (P' :: Ps')).cps.toList x') = _
        rw [h32]
        exact h3
      · rw [h4, flat_app, h2, join_cons]
        simp [flat_one]
theorem join_none : ∀ o : List Str, (Str.join ⟨#[]⟩ o).cps.toList = flat o
  | [] => rfl
  | [x] => by simp [Str.join, flat]
  | x :: y :: r => by
    rw [join_cons, join_none (y :: r)]
    simp [flat]
theorem str_ext {a b : Str} (h : a.cps.toList = b.cps.toList) : a = b := by
  cases a with | mk a =>
  cases b with | mk b =>
  cases a with | mk a =>
  cases b with | mk b =>
  cases h
  rfl
theorem flat_len : ∀ o : List Str, (o.map (·.length)).sum = (flat o).length
  | [] => rfl
  | x :: r => by
    have := flat_len r
    simp only [List.map_cons, List.sum_cons, this, flat, List.flatMap_cons, List.length_append]
    rfl
end Mine
end

section
open PySem PySem.W PySem.W.X PyProof.Rows
namespace Mine

theorem good_c (sty : Sty) : Good (cstep sty) := ⟨fun h o ph k => cstep_lit h o ph k⟩
theorem good_t : Good tstep := ⟨fun h o ph k => tstep_lit h o ph k⟩
def litAll (f : Option Nat → Nat → Option Nat → CS → Option CS) : Bool :=
  (wordsL ++ textsL).all fun P => [none, some 32].all fun p => [none, some 32].all fun e => litRun f p P.cps.toList e 0 false == some (0, false)
theorem lit_named : litAll (cstep .named) = true := by decide +kernel
theorem lit_pyformat : litAll (cstep .pyformat) = true := by decide +kernel
theorem lit_numeric : litAll (cstep .numeric) = true := by decide +kernel
theorem lit_qmark : litAll (cstep .qmark) = true := by decide +kernel
theorem lit_format : litAll (cstep .format) = true := by decide +kernel
theorem lit_t : litAll tstep = true := by decide +kernel
theorem seg_lit {f : Option Nat → Nat → Option Nat → CS → Option CS} (hf : Good f) (ha : litAll f = true) {P : Str} (hP : P ∈ wordsL ++ textsL) (ph : List Str) (k : Nat) : Seg f P P ph k ph k := by
  refine ⟨fun p l hp hl o => ?_⟩
  have h1 := List.all_eq_true.mp ha P hP
  have h2 := List.all_eq_true.mp h1 p (by rcases hp with rfl | rfl <;> simp)
  have h3 := List.all_eq_true.mp h2 l.head? (by rcases hl with rfl | ⟨r, rfl⟩ <;> simp)
  exact lit_run hf P.cps.toList l p 0 false 0 false (by simpa using h3) o ph k
theorem c32 (sty : Sty) : ∀ p y o ph k, cstep sty p 32 y ⟨0, false, o, ph, k⟩ = some ⟨0, false, o ++ [⟨#[32]⟩], ph, k⟩ := by
  intro p y o ph k
  cases sty <;> rfl
theorem t32 : ∀ p y o ph k, tstep p 32 y ⟨0, false, o, ph, k⟩ = some ⟨0, false, o ++ [⟨#[32]⟩], ph, k⟩ := fun p y o ph k => c32 .named p y o ph k
/-- the numbers of names -/
theorem whereIs_none {x : Str} : ∀ {l : List Str}, x ∉ l → whereIs x l = none
  | [], _ => rfl
  | y :: l, h => by
    have h1 : ¬ y = x := fun e => h (by simp [e])
    have h2 : x ∉ l := fun e => h (by simp [e])
    exact (if_neg h1).trans (by rw [whereIs_none h2]; rfl)
theorem whereIs_app {x : Str} : ∀ {l : List Str} (t : List Str), x ∈ l → whereIs x (l ++ t) = whereIs x l
  | [], _, h => by cases h
  | y :: l, t, h => by
    by_cases e : y = x
    · exact (if_pos e).trans (if_pos e).symm
    · have hm : x ∈ l := (List.mem_cons.mp h).resolve_left fun q => e q.symm
      refine (if_neg e).trans (Eq.trans ?_ (if_neg e).symm)
      rw [← whereIs_app t hm]
      rfl
theorem whereIs_last {x : Str} : ∀ {l : List Str}, x ∉ l → whereIs x (l ++ [x]) = some l.length
  | [], _ => if_pos rfl
  | y :: l, h => by
    have h1 : ¬ y = x := fun e => h (by simp [e])
    have h2 : x ∉ l := fun e => h (by simp [e])
    refine (if_neg h1).trans ?_
    show (whereIs x (l ++ [x])).map (· + 1) = _
    rw [whereIs_last h2]
    rfl
theorem fold_app : ∀ (l ph : List Str), ∃ t, l.foldl addNew ph = ph ++ t
  | [], ph => ⟨[], by simp⟩
  | x :: l, ph => by
    obtain ⟨t, ht⟩ := fold_app l (addNew ph x)
    by_cases h : x ∈ ph
    · exact ⟨t, by rw [List.foldl_cons, ht, addNew, if_pos h]⟩
    · exact ⟨x :: t, by rw [List.foldl_cons, ht, addNew, if_neg h]; simp⟩
theorem mem_addNew (ph : List Str) (x : Str) : x ∈ addNew ph x := by
  unfold addNew
  split
  · assumption
  · simp
theorem numOf_fold (ph l : List Str) (x : Str) : numOf (l.foldl addNew (addNew ph x)) x = numOf (addNew ph x) x := by
  obtain ⟨t, ht⟩ := fold_app l (addNew ph x)
  rw [numOf, numOf, ht, whereIs_app t (mem_addNew ph x)]
theorem cend_eq {cur : Str} {ph : List Str} (h : ph.length < 9) (hc : cur = nmA ∨ cur = nmB ∨ cur = nmD ∨ cur = nmK) (o : List Str) (k : Nat) :
    cend cur false o ph k = some ⟨0, false, o ++ [numOf (addNew ph cur) cur], addNew ph cur, k⟩ := by
  unfold cend
  rw [if_pos ⟨h, hc⟩]
  by_cases hm : cur ∈ ph
  · obtain ⟨j, hj, _⟩ := whereIs_mem hm
    rw [hj]
    simp only [numOf, addNew, if_pos hm, hj, Option.getD_some]
  · rw [whereIs_none hm]
    simp only [numOf, addNew, if_neg hm, whereIs_last hm, Option.getD_some]
theorem runG_cons {f : Option Nat → Nat → Option Nat → CS → Option CS} {p : Option Nat} {c : Nat} {r : List Nat} {x x' : CS} (h : f p c r.head? x = some x') : runG f p (c :: r) x = runG f (some c) r x' := by
  show (match f p c r.head? x with | none => none | some x' => runG f (some c) r x') = _
  rw [h]
theorem edge_head {l : List Nat} (h : Edge l) : l.head? = none ∨ l.head? = some 32 := by
  rcases h with rfl | ⟨r, rfl⟩
  · exact .inl rfl
  · exact .inr rfl
/-- the characters of a name, one by one -/
theorem named_tail {f : Option Nat → Nat → Option Nat → CS → Option CS} (hf : ∀ p x y c, x ≠ 36 → f p x y c = cstep .named p x y c) {l : List Nat} (hl : Edge l) (nm : Str) (hnm : nm = nmA ∨ nm = nmB ∨ nm = nmD ∨ nm = nmK) {ph : List Str} (h9 : ph.length < 9) :
    ∀ (cs : List Nat) (x : Nat) (p : Option Nat) (cur : Str), (∀ c ∈ x :: cs, c ≠ 36 ∧ (Unicode.isAlnum c = true ∨ c = 95)) → cur.cps.toList ++ x :: cs = nm.cps.toList → ∀ (o : List Str) (k : Nat),
      ∃ p', runG f p (x :: cs ++ l) ⟨4, false, o, ph ++ [cur], k⟩ = runG f p' l ⟨0, false, o ++ [numOf (addNew ph nm) nm], addNew ph nm, k⟩
  | [], x, p, cur, hc, he, o, k => by
    have hsz : cur.cps.size < 9000 := by
      have h1 : cur.cps.toList.length < nm.cps.toList.length := by rw [← he]; simp
      have h2 : nm.cps.toList.length < 9 := by rcases hnm with rfl | rfl | rfl | rfl <;> decide
      have h3 : cur.cps.size = cur.cps.toList.length := by simp
      omega
    have hcur : (⟨cur.cps ++ #[x]⟩ : Str) = nm := str_ext (by simpa using he)
    refine ⟨some x, runG_cons ?_⟩
    rw [hf _ _ _ _ (hc x (by simp)).1]
    have e : cstep .named p x l.head? ⟨4, false, o, ph ++ [cur], k⟩ = cpn .named p x l.head? cur false o ph k := by simp [cstep]
    have e2 : cpn .named p x l.head? cur false o ph k = cend nm false o ph k := by
      rcases edge_head hl with h | h
      · rw [h]; simp only [cpn, if_pos hsz, hcur]
      · rw [h]
        have : ¬ (Unicode.isAlnum 32 = true ∨ (32 : Nat) = 95) := by decide +kernel
        simp only [cpn, if_pos hsz, hcur, if_neg this]
    show cstep .named p x l.head? _ = _
    rw [e, e2, cend_eq h9 hnm]
  | y :: cs, x, p, cur, hc, he, o, k => by
    have hsz : cur.cps.size < 9000 := by
      have h1 : cur.cps.toList.length < nm.cps.toList.length := by rw [← he]; simp
      have h2 : nm.cps.toList.length < 9 := by rcases hnm with rfl | rfl | rfl | rfl <;> decide
      have h3 : cur.cps.size = cur.cps.toList.length := by simp
      omega
    obtain ⟨p', h⟩ := named_tail hf hl nm hnm h9 cs y (some x) ⟨cur.cps ++ #[x]⟩ (fun c h => hc c (by simp at h ⊢; exact .inr h)) (by simpa using he) o k
    refine ⟨p', Eq.trans (runG_cons ?_) h⟩
    rw [hf _ _ _ _ (hc x (by simp)).1]
    show cstep .named p x (some y) ⟨4, false, o, ph ++ [cur], k⟩ = _
    have e : cstep .named p x (some y) ⟨4, false, o, ph ++ [cur], k⟩ = cpn .named p x (some y) cur false o ph k := by simp [cstep]
    rw [e]
    simp only [cpn, if_pos hsz, if_pos (hc y (by simp)).2]
theorem name_chars {nm : Str} (hnm : nm = nmA ∨ nm = nmB ∨ nm = nmD ∨ nm = nmK) : ∃ x cs, nm.cps.toList = x :: cs ∧ x ≠ 58 ∧ x ≠ 61 ∧ (∀ c ∈ x :: cs, c ≠ 36 ∧ (Unicode.isAlnum c = true ∨ c = 95)) ∧ (∀ c ∈ x :: cs, c ≠ 40 ∧ c ≠ 41) := by
  rcases hnm with rfl | rfl | rfl | rfl
  · exact ⟨97, [], rfl, by decide, by decide, by decide +kernel, by decide +kernel⟩
  · exact ⟨98, [99], rfl, by decide, by decide, by decide +kernel, by decide +kernel⟩
  · exact ⟨100, [95, 49], rfl, by decide, by decide, by decide +kernel, by decide +kernel⟩
  · exact ⟨107, [105, 110, 100], rfl, by decide, by decide, by decide +kernel, by decide +kernel⟩
theorem seg_named {f : Option Nat → Nat → Option Nat → CS → Option CS} (hf : ∀ p x y c, x ≠ 36 → f p x y c = cstep .named p x y c) {nm : Str} (hnm : nm = nmA ∨ nm = nmB ∨ nm = nmD ∨ nm = nmK) {ph : List Str} (h9 : ph.length < 9) (k : Nat) :
    Seg f (colS nm) (numOf (addNew ph nm) nm) ph k (addNew ph nm) k := by
  refine ⟨fun p l hp hl o => ?_⟩
  obtain ⟨x, cs, hx, hx1, hx2, hx3, _⟩ := name_chars hnm
  obtain ⟨p', h⟩ := named_tail hf hl nm hnm h9 cs x (some 58) ⟨#[]⟩ hx3 (by rw [hx]; rfl) o k
  refine ⟨p', o ++ [numOf (addNew ph nm) nm], Eq.trans ?_ h, by rw [flat_app, flat_one]⟩
  have e : (colS nm).cps.toList ++ l = 58 :: (x :: cs ++ l) := by simp [colS, hx]
  rw [e]
  refine runG_cons ?_
  rw [hf _ _ _ _ (by decide)]
  show cstep .named p 58 (some x) ⟨0, false, o, ph, k⟩ = _
  have hp58 : p ≠ some 58 := by rcases hp with rfl | rfl <;> decide
  simp [cstep, cfree, hx1, hx2, hp58]
/-- the characters of a name between %( and )s -/
theorem py_tail {l : List Nat} (nm : Str) (hnm : nm = nmA ∨ nm = nmB ∨ nm = nmD ∨ nm = nmK) {ph : List Str} (h9 : ph.length < 9) :
    ∀ (cs : List Nat) (p : Nat) (cur : Str), p ≠ 41 → (∀ c ∈ cs, c ≠ 40 ∧ c ≠ 41) → cur.cps.toList ++ cs = nm.cps.toList → ∀ (o : List Str) (k : Nat),
      runG (cstep .pyformat) (some p) (cs ++ 41 :: 115 :: l) ⟨4, false, o, ph ++ [cur], k⟩ = runG (cstep .pyformat) (some 115) l ⟨0, false, o ++ [numOf (addNew ph nm) nm], addNew ph nm, k⟩
  | [], p, cur, hp, hc, he, o, k => by
    have hcur : cur = nm := str_ext (by simpa using he)
    subst hcur
    have hsz : cur.cps.size < 9000 := by
      have h2 : cur.cps.toList.length < 9 := by rcases hnm with rfl | rfl | rfl | rfl <;> decide
      have h3 : cur.cps.size = cur.cps.toList.length := by simp
      omega
    refine Eq.trans (runG_cons (x' := ⟨4, false, o, ph ++ [cur], k⟩) ?_) (runG_cons ?_)
    · simp [cstep, cpn, hsz, hp]
    · have e : cstep .pyformat (some 41) 115 l.head? ⟨4, false, o, ph ++ [cur], k⟩ = cend cur false o ph k := by simp [cstep, cpn, hsz]
      rw [e, cend_eq h9 hnm]
  | x :: cs, p, cur, hp, hc, he, o, k => by
    have hsz : cur.cps.size < 9000 := by
      have h1 : cur.cps.toList.length < nm.cps.toList.length := by rw [← he]; simp
      have h2 : nm.cps.toList.length < 9 := by rcases hnm with rfl | rfl | rfl | rfl <;> decide
      have h3 : cur.cps.size = cur.cps.toList.length := by simp
      omega
    have hx := hc x (by simp)
    refine Eq.trans (runG_cons (x' := ⟨4, false, o, ph ++ [⟨cur.cps ++ #[x]⟩], k⟩) ?_) (py_tail nm hnm h9 cs x ⟨cur.cps ++ #[x]⟩ hx.2 (fun c h => hc c (by simp [h])) (by simpa using he) o k)
    simp [cstep, cpn, hsz, hp, hx.1, hx.2]
theorem seg_py {nm : Str} (hnm : nm = nmA ∨ nm = nmB ∨ nm = nmD ∨ nm = nmK) {ph : List Str} (h9 : ph.length < 9) (k : Nat) :
    Seg (cstep .pyformat) (pyS nm) (numOf (addNew ph nm) nm) ph k (addNew ph nm) k := by
  refine ⟨fun p l hp hl o => ?_⟩
  obtain ⟨x, cs, hx, _, _, _, hx4⟩ := name_chars hnm
  refine ⟨some 115, o ++ [numOf (addNew ph nm) nm], Eq.trans ?_ (py_tail nm hnm h9 (x :: cs) 40 ⟨#[]⟩ (by decide) hx4 (by rw [hx]; rfl) o k), by rw [flat_app, flat_one]⟩
  have e : (pyS nm).cps.toList ++ l = 37 :: 40 :: (x :: cs ++ 41 :: 115 :: l) := by simp [pyS, hx]
  rw [e]
  refine Eq.trans (runG_cons (x' := ⟨4, false, o, ph ++ [⟨#[]⟩], k⟩) ?_) (runG_cons ?_)
  · simp [cstep, cfree]
  · simp [cstep, cpn]
theorem seg_num {j : Nat} (hj : j < 10) (ph : List Str) (k : Nat) : Seg (cstep .numeric) (nrcS (dolS j)) (dolS j) ph k ph k := by
  refine ⟨fun p l hp hl o => ?_⟩
  have hp58 : p ≠ some 58 := by rcases hp with rfl | rfl <;> decide
  refine ⟨some (48 + j), o ++ [⟨#[36]⟩] ++ [⟨#[48 + j]⟩], ?_, by rw [flat_app, flat_app, flat_one, flat_one]; simp [dolS]⟩
  have e : (nrcS (dolS j)).cps.toList ++ l = 58 :: (48 + j) :: l := by simp [nrcS, dolS]
  rw [e]
  refine Eq.trans (runG_cons (x' := ⟨0, false, o ++ [⟨#[36]⟩], ph, k⟩) ?_) (runG_cons ?_)
  · have h1 : 48 + j ≠ 58 := by omega
    have h2 : 48 + j ≠ 61 := by omega
    simp [cstep, cfree, h1, h2, hp58]
  · have h1 : 48 + j ≠ 58 := by omega
    have h2 : 48 + j ≠ 39 := by omega
    have h3 : 48 + j ≠ 34 := by omega
    have h4 : 48 + j ≠ 45 := by omega
    have h5 : 48 + j ≠ 36 := by omega
    simp [cstep, cfree, h1, h2, h3, h4, h5]
theorem seg_qmark {k : Nat} (hk : k < 10) (ph : List Str) : Seg (cstep .qmark) ⟨#[63]⟩ (dolS k) ph k ph (k + 1) := by
  refine ⟨fun p l hp hl o => ⟨some 63, o ++ [dolS k], ?_, by rw [flat_app, flat_one]⟩⟩
  refine runG_cons ?_
  simp [cstep, cfree, hk]
theorem seg_format {k : Nat} (hk : k < 10) (ph : List Str) : Seg (cstep .format) ⟨#[37, 115]⟩ (dolS k) ph k ph (k + 1) := by
  refine ⟨fun p l hp hl o => ⟨some 115, o ++ [dolS k], ?_, by rw [flat_app, flat_one]⟩⟩
  refine Eq.trans (runG_cons (x' := ⟨4, false, o ++ [dolS k], ph, k + 1⟩) ?_) (runG_cons ?_)
  · simp [cstep, cfree, hk]
  · simp [cstep]
end Mine
end

section
open PySem PySem.W PySem.W.X PyProof.Rows
namespace Mine

def cnts : Nat → List (Option Str) → List (Option Str)
  | _, [] => []
  | k, none :: r => none :: cnts k r
  | k, some _ :: r => some (dolS k) :: cnts (k + 1) r
theorem cnt_gen : ∀ (ns : List (Option Str)) (k : Nat), (List.range ns.length).map (fun i => match ns[i]? with | some (some _) => some (dolS (k + (somes (ns.take i)).length)) | _ => none) = cnts k ns
  | [], k => rfl
  | none :: r, k => by
    rw [List.length_cons, List.range_succ_eq_map, List.map_cons, List.map_map, cnts, ← cnt_gen r k]
    rfl
  | some x :: r, k => by
    rw [List.length_cons, List.range_succ_eq_map, List.map_cons, List.map_map, cnts, ← cnt_gen r (k + 1)]
    congr 1
    apply List.map_congr_left
    intro i _
    simp only [Function.comp, Nat.succ_eq_add_one, List.getElem?_cons_succ, List.take_succ_cons, somes, List.filterMap_cons, id]
    rcases r[i]? with _ | _ | y
    · rfl
    · rfl
    · simp only [List.length_cons]
      congr 2
      omega
theorem cnt_range (ns : List (Option Str)) : (List.range ns.length).map (cntAt ns) = cnts 1 ns := cnt_gen ns 1
theorem addNew_len (ph : List Str) (x : Str) : (addNew ph x).length ≤ ph.length + 1 := by
  unfold addNew
  split
  · omega
  · simp
theorem mem_fold {x : Str} : ∀ (l ph : List Str), (x ∈ ph ∨ x ∈ l) → x ∈ l.foldl addNew ph
  | [], ph, h => by rcases h with h | h; exact h; cases h
  | y :: l, ph, h => by
    refine mem_fold l (addNew ph y) ?_
    rcases h with h | h
    · left
      unfold addNew
      split
      · exact h
      · simp [h]
    · rcases List.mem_cons.mp h with rfl | h
      · exact .inl (mem_addNew ph x)
      · exact .inr h
theorem names_or {nm : Str} (h : nm ∈ names4) : nm = nmA ∨ nm = nmB ∨ nm = nmD ∨ nm = nmK := by simpa [names4] using h
section
variable {f : Option Nat → Nat → Option Nat → CS → Option CS}
theorem chain_name (hf : Good f) (ha : litAll f = true) (sc : Str → Str) (k : Nat) (hs : ∀ nm, (nm = nmA ∨ nm = nmB ∨ nm = nmD ∨ nm = nmK) → ∀ ph : List Str, ph.length < 9 → Seg f (sc nm) (numOf (addNew ph nm) nm) ph k (addNew ph nm) k) :
    ∀ (its : List (Str × Option Str)) (ph fs : List Str), (∀ p ∈ its, ItOk p) → ph.length + its.length ≤ 9 → fs = (somes (its.map (·.2))).foldl addNew ph →
      Segs f (zipM (its.map (·.1)) ((its.map (·.2)).map (Option.map sc))) (zipM (its.map (·.1)) ((its.map (·.2)).map (Option.map (numOf fs)))) ph k fs k
  | [], ph, fs, _, _, e => by subst e; exact .nil
  | (p, none) :: r, ph, fs, hi, h9, e => by
    have hp : p ∈ wordsL ++ textsL := hi (p, none) (by simp)
    exact .cons (seg_lit hf ha hp ph k) (chain_name hf ha sc k hs r ph fs (fun q hq => hi q (by simp [hq])) (by simp at h9; omega) e)
  | (p, some nm) :: r, ph, fs, hi, h9, e => by
    have hp : nm ∈ names4 ∧ p = ⟨#[]⟩ := hi (p, some nm) (by simp)
    have e' : fs = (somes (r.map (·.2))).foldl addNew (addNew ph nm) := e
    have hl := addNew_len ph nm
    have hn : numOf fs nm = numOf (addNew ph nm) nm := by rw [e', numOf_fold]
    have h := chain_name hf ha sc k hs r (addNew ph nm) fs (fun q hq => hi q (by simp [hq])) (by simp at h9; omega) e'
    refine .cons ?_ h
    show Seg f (sc nm) (numOf fs nm) ph k (addNew ph nm) k
    rw [hn]
    exact hs nm (names_or hp.1) ph (by simp at h9; omega)
theorem numOf_dol {fs : List Str} {nm : Str} (h : nm ∈ fs) (h9 : fs.length ≤ 9) : ∃ j, j < 10 ∧ numOf fs nm = dolS j := by
  obtain ⟨j, hj, hl⟩ := whereIs_mem h
  exact ⟨j + 1, by omega, by rw [numOf, hj]; rfl⟩
theorem chain_num {fs : List Str} (h9 : fs.length ≤ 9) (k : Nat) (ph : List Str) :
    ∀ (its : List (Str × Option Str)), (∀ p ∈ its, ItOk p) → (∀ s, some s ∈ its.map (·.2) → s ∈ fs) →
      Segs (cstep .numeric) (zipM (its.map (·.1)) (((its.map (·.2)).map (Option.map (numOf fs))).map (Option.map nrcS))) (zipM (its.map (·.1)) ((its.map (·.2)).map (Option.map (numOf fs)))) ph k ph k
  | [], _, _ => .nil
  | (p, none) :: r, hi, hn => by
    have hp : p ∈ wordsL ++ textsL := hi (p, none) (by simp)
    exact .cons (seg_lit (good_c _) lit_numeric hp ph k) (chain_num h9 k ph r (fun q hq => hi q (by simp [hq])) (fun s h => hn s (List.mem_cons_of_mem _ h)))
  | (p, some nm) :: r, hi, hn => by
    obtain ⟨j, hj, e⟩ := numOf_dol (hn nm (by simp)) h9
    have h := chain_num h9 k ph r (fun q hq => hi q (by simp [hq])) (fun s h => hn s (List.mem_cons_of_mem _ h))
    refine .cons ?_ h
    show Seg _ (nrcS (numOf fs nm)) (numOf fs nm) ph k ph k
    rw [e]
    exact seg_num hj ph k
theorem chain_mark (hf : Good f) (ha : litAll f = true) (mk : Str) (ph : List Str) (hs : ∀ k, k < 10 → Seg f mk (dolS k) ph k ph (k + 1)) :
    ∀ (its : List (Str × Option Str)) (k : Nat), (∀ p ∈ its, ItOk p) → k + its.length ≤ 10 →
      ∃ k', Segs f (zipM (its.map (·.1)) ((its.map (·.2)).map (Option.map fun _ => mk))) (zipM (its.map (·.1)) (cnts k (its.map (·.2)))) ph k ph k'
  | [], k, _, _ => ⟨k, .nil⟩
  | (p, none) :: r, k, hi, h9 => by
    have hp : p ∈ wordsL ++ textsL := hi (p, none) (by simp)
    obtain ⟨k', h⟩ := chain_mark hf ha mk ph hs r k (fun q hq => hi q (by simp [hq])) (by simp at h9; omega)
    exact ⟨k', .cons (seg_lit hf ha hp ph k) h⟩
  | (p, some nm) :: r, k, hi, h9 => by
    obtain ⟨k', h⟩ := chain_mark hf ha mk ph hs r (k + 1) (fun q hq => hi q (by simp [hq])) (by simp at h9; omega)
    exact ⟨k', .cons (hs k (by simp at h9; omega)) h⟩
end
/-- a piece of moderate size, of plain characters -/
def PieceOk (P : Str) : Prop := P.cps.toList.length ≤ 30 ∧ ∀ c ∈ P.cps.toList, c < 128
theorem join_ok_pieces : ∀ (Ps : List Str), (∀ P ∈ Ps, PieceOk P) → (Str.join ⟨#[32]⟩ Ps).cps.toList.length ≤ 31 * Ps.length ∧ ∀ c ∈ (Str.join ⟨#[32]⟩ Ps).cps.toList, c < 128
  | [], _ => ⟨by decide, by intro c h; cases h⟩
  | [x], h => by
    have hx := h x (by simp)
    exact ⟨by have := hx.1; simp only [Str.join, List.length_singleton]; omega, hx.2⟩
  | x :: y :: r, h => by
    have hx := h x (by simp)
    have ih := join_ok_pieces (y :: r) (fun P hP => h P (by simp at hP ⊢; exact .inr hP))
    rw [join_cons]
    constructor
    · have h1 := hx.1
      have h2 := ih.1
      simp only [List.length_append, List.length_cons, List.length_nil] at h2 ⊢
      omega
    · intro c hc
      rcases List.mem_append.mp hc with hc | hc
      · exact hx.2 c hc
      · rcases List.mem_append.mp hc with hc | hc
        · rw [List.mem_singleton.mp hc]; decide
        · exact ih.2 c hc
theorem sum_le : ∀ (Ps : List Str), (∀ P ∈ Ps, PieceOk P) → (Ps.map (·.length)).sum ≤ 30 * Ps.length
  | [], _ => Nat.le_refl _
  | x :: r, h => by
    have h1 : x.length ≤ 30 := (h x (by simp)).1
    have h2 := sum_le r (fun P hP => h P (by simp [hP]))
    simp only [List.map_cons, List.sum_cons, List.length_cons]
    omega
/-- what convert makes of a query of pieces -/
structure QOk (run : Option Nat → List Nat → CS → Option (Option Nat × CS)) (Ps : List Str) (out : Str) (fs : List Str) : Prop where
  joins : JoinOk ⟨#[32]⟩ Ps = true
  size : (Str.join ⟨#[32]⟩ Ps).cps.size < 9000
  plain : ((Str.join ⟨#[32]⟩ Ps).cps.all fun x => decide (x < 128)) = true
  runs : ∃ p' x', run none (Str.join ⟨#[32]⟩ Ps).cps.toList ⟨0, false, [], [], 1⟩ = some (p', x') ∧ x'.ph = fs ∧ Str.join ⟨#[]⟩ x'.out = out ∧ JoinOk ⟨#[]⟩ x'.out = true
theorem q_ok {run : Option Nat → List Nat → CS → Option (Option Nat × CS)} {f : Option Nat → Nat → Option Nat → CS → Option CS} (hr : ∀ p l x, run p l x = runG f p l x)
    (h32 : ∀ p y o ph k, f p 32 y ⟨0, false, o, ph, k⟩ = some ⟨0, false, o ++ [⟨#[32]⟩], ph, k⟩)
    {Ps Qs fs : List Str} {k' : Nat} (h : Segs f Ps Qs [] 1 fs k') (hP : ∀ P ∈ Ps, PieceOk P) (hQ : ∀ P ∈ Qs, PieceOk P) (hl : Ps.length ≤ 9) (hl2 : Qs.length ≤ 9) : QOk run Ps (Str.join ⟨#[32]⟩ Qs) fs := by
  obtain ⟨h1, h2⟩ := join_ok_pieces Ps hP
  obtain ⟨h3, h4⟩ := join_ok_pieces Qs hQ
  have h5 := sum_le Ps hP
  obtain ⟨p', o', hrun, ho⟩ := h.runs h32 none (.inl rfl) []
  have ho' : flat o' = (Str.join ⟨#[32]⟩ Qs).cps.toList := by simpa [flat] using ho
  refine ⟨?_, ?_, ?_, p', ⟨0, false, o', fs, k'⟩, by rw [hr]; exact hrun, rfl, ?_, ?_⟩
  · refine joinOk_of ?_
    show (Ps.map (·.length)).sum + Ps.length * 1 ≤ 16777216
    omega
  · have : (Str.join ⟨#[32]⟩ Ps).cps.size = (Str.join ⟨#[32]⟩ Ps).cps.toList.length := by simp
    omega
  · rw [← Array.all_toList]
    exact List.all_eq_true.mpr fun c hc => decide_eq_true (h2 c hc)
  · refine str_ext ?_
    rw [join_none]
    exact ho'
  · refine joinOk_of ?_
    show (o'.map (·.length)).sum + o'.length * 0 ≤ 16777216
    rw [flat_len, ho']
    omega
theorem mem_zip {x : Str} : ∀ (ps : List Str) (ms : List (Option Str)), x ∈ zipM ps ms → x ∈ ps ∨ some x ∈ ms
  | [], _, h => by cases h
  | _ :: _, [], h => by cases h
  | p :: ps, m :: ms, h => by
    rcases List.mem_cons.mp h with h | h
    · cases m with
      | none => exact .inl (by simp [h])
      | some m => exact .inr (by simp [h])
    · rcases mem_zip ps ms h with h | h
      · exact .inl (by simp [h])
      · exact .inr (by simp [h])
theorem piece_lits : ∀ P ∈ wordsL ++ textsL, PieceOk P := by
  have h : ((wordsL ++ textsL).all fun P => decide (P.cps.toList.length ≤ 30) && P.cps.toList.all fun c => decide (c < 128)) = true := by decide +kernel
  intro P hP
  have h1 := List.all_eq_true.mp h P hP
  rw [Bool.and_eq_true] at h1
  exact ⟨of_decide_eq_true h1.1, fun c hc => of_decide_eq_true (List.all_eq_true.mp h1.2 c hc)⟩
theorem piece_dol {j : Nat} (hj : j < 10) : PieceOk (dolS j) := ⟨by simp [dolS], by
  intro c hc
  have : c = 36 ∨ c = 48 + j := by simpa [dolS] using hc
  omega⟩
theorem piece_nrc {j : Nat} (hj : j < 10) : PieceOk (nrcS (dolS j)) := ⟨by simp [nrcS, dolS], by
  intro c hc
  have : c = 58 ∨ c = 48 + j := by simpa [nrcS, dolS] using hc
  omega⟩
theorem piece_col {nm : Str} (h : nm = nmA ∨ nm = nmB ∨ nm = nmD ∨ nm = nmK) : PieceOk (colS nm) := by
  rcases h with rfl | rfl | rfl | rfl <;> exact ⟨by decide, by decide⟩
theorem piece_py {nm : Str} (h : nm = nmA ∨ nm = nmB ∨ nm = nmD ∨ nm = nmK) : PieceOk (pyS nm) := by
  rcases h with rfl | rfl | rfl | rfl <;> exact ⟨by decide, by decide⟩
theorem its_pieces {its : List (Str × Option Str)} (hi : ∀ p ∈ its, ItOk p) {ms : List (Option Str)} (hm : ∀ s, some s ∈ ms → PieceOk s) : ∀ P ∈ zipM (its.map (·.1)) ms, PieceOk P := by
  intro P hP
  rcases mem_zip _ _ hP with h | h
  · obtain ⟨⟨p, m⟩, hq, rfl⟩ := List.mem_map.mp h
    cases m with
    | none => exact piece_lits _ (hi _ hq)
    | some nm =>
      have h2 : nm ∈ names4 ∧ p = ⟨#[]⟩ := hi _ hq
      have h3 : PieceOk ⟨#[]⟩ := ⟨by decide, by decide⟩
      rw [← h2.2] at h3
      exact h3
  · exact hm P h
theorem mem_cnts {x : Str} : ∀ (k : Nat) (ns : List (Option Str)), some x ∈ cnts k ns → ∃ j, j < k + ns.length ∧ x = dolS j
  | _, [], h => by cases h
  | k, none :: r, h => by
    rcases List.mem_cons.mp h with h | h
    · cases h
    · obtain ⟨j, h1, h2⟩ := mem_cnts k r h
      exact ⟨j, by simp; omega, h2⟩
  | k, some _ :: r, h => by
    rcases List.mem_cons.mp h with h | h
    · cases h
      exact ⟨k, by simp, rfl⟩
    · obtain ⟨j, h1, h2⟩ := mem_cnts (k + 1) r h
      exact ⟨j, by simp; omega, h2⟩
theorem cnts_length : ∀ (k : Nat) (ns : List (Option Str)), (cnts k ns).length = ns.length
  | _, [] => rfl
  | k, none :: r => by simp [cnts, cnts_length k r]
  | k, some _ :: r => by simp [cnts, cnts_length (k + 1) r]
/-- pieces of equal sizes: the whole tells the parts -/
theorem join_inj {sep : Str} : ∀ (xs ys : List Str), xs.length = ys.length → (∀ (i : Nat) (x y : Str), xs[i]? = some x → ys[i]? = some y → x.cps.toList.length = y.cps.toList.length) → Str.join sep xs = Str.join sep ys → xs = ys
  | [], [], _, _, _ => rfl
  | [], _ :: _, h, _, _ => by simp at h
  | _ :: _, [], h, _, _ => by simp at h
  | [x], [y], _, _, h => by simpa [Str.join] using h
  | [x], y :: z :: r, h, _, _ => by simp at h
  | x :: z :: r, [y], h, _, _ => by simp at h
  | x :: x2 :: r, y :: y2 :: r', hl, hs, h => by
    have h1 : (Str.join sep (x :: x2 :: r)).cps.toList = (Str.join sep (y :: y2 :: r')).cps.toList := by rw [h]
    rw [join_cons, join_cons] at h1
    have hxy := hs 0 x y rfl rfl
    obtain ⟨h2, h3⟩ := List.append_inj h1 hxy
    have h4 := List.append_cancel_left h3
    have ih := join_inj (x2 :: r) (y2 :: r') (by simpa using hl) (fun i a b ha hb => hs (i + 1) a b (by simpa using ha) (by simpa using hb)) (str_ext h4)
    rw [str_ext h2, ih]
theorem dol_inj {a b : Nat} (h : dolS a = dolS b) : a = b := by
  have h1 : (dolS a).cps.toList = (dolS b).cps.toList := by rw [h]
  have h2 : 48 + a = 48 + b := by simpa [dolS] using h1
  omega
theorem fold_len : ∀ (l ph : List Str), (l.foldl addNew ph).length ≤ ph.length + l.length
  | [], ph => Nat.le_refl _
  | x :: l, ph => by
    have h1 := fold_len l (addNew ph x)
    have h2 := addNew_len ph x
    simp only [List.foldl_cons, List.length_cons]
    omega
/-- the marks are the numbers exactly if no name comes twice -/
theorem zip_eq_iff : ∀ (its : List (Str × Option Str)) (ph fs : List Str), fs = (somes (its.map (·.2))).foldl addNew ph →
    (zipM (its.map (·.1)) ((its.map (·.2)).map (Option.map (numOf fs))) = zipM (its.map (·.1)) (cnts (1 + ph.length) (its.map (·.2))) ↔ fs.length = ph.length + (somes (its.map (·.2))).length)
  | [], ph, fs, e => by subst e; simp [somes, cnts]
  | (p, none) :: r, ph, fs, e => by
    have ih := zip_eq_iff r ph fs e
    simp only [List.map_cons, Option.map_none, cnts, zipM, Option.getD_none, List.cons.injEq, true_and]
    exact ih
  | (p, some nm) :: r, ph, fs, e => by
    have e' : fs = (somes (r.map (·.2))).foldl addNew (addNew ph nm) := e
    have hs : (somes (List.map (·.2) ((p, some nm) :: r))).length = (somes (r.map (·.2))).length + 1 := rfl
    simp only [List.map_cons, Option.map_some, cnts, zipM, Option.getD_some, List.cons.injEq]
    have hn : numOf fs nm = numOf (addNew ph nm) nm := by rw [e', numOf_fold]
    by_cases hm : nm ∈ ph
    · obtain ⟨j, hj, hl⟩ := whereIs_mem hm
      have h1 : numOf fs nm = dolS (j + 1) := by rw [hn, addNew, if_pos hm, numOf, hj]; rfl
      have h2 : fs.length ≤ ph.length + (somes (r.map (·.2))).length := by
        rw [e', addNew, if_pos hm]
        exact fold_len _ _
      constructor
      · intro h
        rw [h1] at h
        have := dol_inj h.1
        omega
      · intro h
        have h3 : fs.length = ph.length + ((somes (r.map (·.2))).length + 1) := h
        omega
    · have h1 : numOf fs nm = dolS (1 + ph.length) := by
        rw [hn, addNew, if_neg hm, numOf, whereIs_last hm, Option.getD_some, Nat.add_comm]
      have ha : addNew ph nm = ph ++ [nm] := by rw [addNew, if_neg hm]
      rw [ha] at e'
      have ih := zip_eq_iff r (ph ++ [nm]) fs e'
      have hl : (ph ++ [nm]).length = ph.length + 1 := by simp
      rw [hl] at ih
      constructor
      · intro h
        have h3 := ih.mp (by have := h.2; rwa [show 1 + (ph.length + 1) = 1 + ph.length + 1 from rfl])
        show fs.length = ph.length + ((somes (r.map (·.2))).length + 1)
        omega
      · intro h
        have h3 : fs.length = ph.length + ((somes (r.map (·.2))).length + 1) := h
        exact ⟨h1, ih.mpr (by omega)⟩
end Mine
end

section
open PySem PySem.W PySem.W.X PyProof.Rows
namespace Mine

def mkQ : Str := ⟨#[63]⟩
def mkS : Str := ⟨#[37, 115]⟩
/-- what the six writings come to -/
structure Facts (ps : List Str) (ns : List (Option Str)) (fs : List Str) (bn bm : Str) : Prop where
  len : ns.length = ps.length
  le9 : ps.length ≤ 9
  fl9 : fs.length ≤ 9
  al9 : (somes ns).length ≤ 9
  isF : fs = firsts (somes ns)
  nsA : ∀ s, some s ∈ ns → s = nmA ∨ s = nmB ∨ s = nmD ∨ s = nmK
  nsF : ∀ s, some s ∈ ns → (s = nmA ∨ s = nmB ∨ s = nmD ∨ s = nmK) ∧ s ∈ fs
  fsA : ∀ s ∈ fs, s = nmA ∨ s = nmB ∨ s = nmD ∨ s = nmK
  soA : ∀ s ∈ somes ns, s = nmA ∨ s = nmB ∨ s = nmD ∨ s = nmK
  num : ∀ s, some s ∈ ns.map (Option.map (numOf fs)) → ∃ j, j < 10 ∧ s = dolS j
  jn : JoinOk ⟨#[32]⟩ (zipM ps (ns.map (Option.map (numOf fs)))) = true
  en : Str.join ⟨#[32]⟩ (zipM ps (ns.map (Option.map (numOf fs)))) = bn
  jm : JoinOk ⟨#[32]⟩ (zipM ps ((List.range ns.length).map (cntAt ns))) = true
  em : Str.join ⟨#[32]⟩ (zipM ps ((List.range ns.length).map (cntAt ns))) = bm
  named : QOk (crun .named) (zipM ps (ns.map (Option.map colS))) bn fs
  pyf : QOk (crun .pyformat) (zipM ps (ns.map (Option.map pyS))) bn fs
  nrc : QOk (crun .numeric) (zipM ps ((ns.map (Option.map (numOf fs))).map (Option.map nrcS))) bn []
  ts : QOk trun (zipM ps (ns.map (Option.map colS))) bn fs
  qm : QOk (crun .qmark) (zipM ps (ns.map (Option.map fun _ => mkQ))) bm []
  fm : QOk (crun .format) (zipM ps (ns.map (Option.map fun _ => mkS))) bm []
  eqv : bn = bm ↔ fs.length = (somes ns).length
theorem mem_map_some {g : Str → Str} {ns : List (Option Str)} {s : Str} (h : some s ∈ ns.map (Option.map g)) : ∃ x, some x ∈ ns ∧ s = g x := by
  obtain ⟨m, h1, h2⟩ := List.mem_map.mp h
  cases m with
  | none => cases h2
  | some x => cases h2; exact ⟨x, h1, rfl⟩
theorem mem_somes {s : Str} {ns : List (Option Str)} : s ∈ somes ns ↔ some s ∈ ns := by
  simp [somes, List.mem_filterMap]
theorem zip_at {ps : List Str} {ms : List (Option Str)} {i : Nat} {x : Str} (hl : ms.length = ps.length) (h : (zipM ps ms)[i]? = some x) : ∃ p m, ps[i]? = some p ∧ ms[i]? = some m ∧ x = m.getD p := by
  have hi : i < (zipM ps ms).length := (List.getElem?_eq_some_iff.mp h).1
  rw [zipM_length ps ms hl] at hi
  obtain ⟨p, hp⟩ : ∃ p, ps[i]? = some p := ⟨ps[i], List.getElem?_eq_getElem hi⟩
  obtain ⟨m, hm⟩ : ∃ m, ms[i]? = some m := ⟨ms[i]'(by omega), List.getElem?_eq_getElem (by omega)⟩
  rw [zipM_at ps ms i p m hp hm] at h
  exact ⟨p, m, hp, hm, (Option.some.inj h).symm⟩
theorem cnts_at : ∀ (ns : List (Option Str)) (k i : Nat), (ns[i]? = some none → (cnts k ns)[i]? = some none) ∧ (∀ x, ns[i]? = some (some x) → ∃ j, (cnts k ns)[i]? = some (some (dolS j)))
  | [], k, i => ⟨fun h => by simp at h, fun x h => by simp at h⟩
  | none :: r, k, 0 => ⟨fun _ => rfl, fun x h => by simp at h⟩
  | some y :: r, k, 0 => ⟨fun h => by simp at h, fun x h => ⟨k, rfl⟩⟩
  | none :: r, k, i + 1 => by simpa [cnts] using cnts_at r k i
  | some y :: r, k, i + 1 => by simpa [cnts] using cnts_at r (k + 1) i
theorem facts_ok {its : List (Str × Option Str)} (hi : ∀ p ∈ its, ItOk p) (h9 : its.length ≤ 9) :
    ∃ fs bn bm, Facts (its.map (·.1)) (its.map (·.2)) fs bn bm := by
  obtain ⟨fs, hfs⟩ : ∃ fs, fs = firsts (somes (its.map (·.2))) := ⟨_, rfl⟩
  have hsl : (somes (its.map (·.2))).length ≤ 9 := Nat.le_trans (List.length_filterMap_le _ _) (by simpa using h9)
  have hfl : (fs).length ≤ 9 := by
    have := fold_len (somes (its.map (·.2))) []
    have e : fs.length = ((somes (its.map (·.2))).foldl addNew []).length := by rw [hfs]; rfl
    simp only [List.length_nil] at this
    omega
  have hA : ∀ s, some s ∈ its.map (·.2) → s = nmA ∨ s = nmB ∨ s = nmD ∨ s = nmK := by
    intro s hs
    obtain ⟨⟨p, m⟩, hq, e⟩ := List.mem_map.mp hs
    have e' : m = some s := e
    subst e'
    exact names_or (hi _ hq).1
  have hF : ∀ s, some s ∈ its.map (·.2) → s ∈ fs := fun s hs => by rw [hfs]; exact (mem_firsts _ s).mpr (mem_somes.mpr hs)
  have hsA : ∀ s ∈ somes (its.map (·.2)), s = nmA ∨ s = nmB ∨ s = nmD ∨ s = nmK := fun s hs => hA s (mem_somes.mp hs)
  have hnum : ∀ s, some s ∈ (its.map (·.2)).map (Option.map (numOf (fs))) → ∃ j, j < 10 ∧ s = dolS j := by
    intro s hs
    obtain ⟨x, hx, rfl⟩ := mem_map_some hs
    exact numOf_dol (hF x hx) hfl
  have hpn : ∀ P ∈ zipM (its.map (·.1)) ((its.map (·.2)).map (Option.map (numOf (fs)))), PieceOk P :=
    its_pieces hi fun s hs => by obtain ⟨j, hj, rfl⟩ := hnum s hs; exact piece_dol hj
  have hpm : ∀ P ∈ zipM (its.map (·.1)) (cnts 1 (its.map (·.2))), PieceOk P :=
    its_pieces hi fun s hs => by
      obtain ⟨j, hj, rfl⟩ := mem_cnts _ _ hs
      exact piece_dol (by simp at hj; omega)
  have hpc : ∀ P ∈ zipM (its.map (·.1)) ((its.map (·.2)).map (Option.map colS)), PieceOk P :=
    its_pieces hi fun s hs => by obtain ⟨x, hx, rfl⟩ := mem_map_some hs; exact piece_col (hA x hx)
  have hpp : ∀ P ∈ zipM (its.map (·.1)) ((its.map (·.2)).map (Option.map pyS)), PieceOk P :=
    its_pieces hi fun s hs => by obtain ⟨x, hx, rfl⟩ := mem_map_some hs; exact piece_py (hA x hx)
  have hpr : ∀ P ∈ zipM (its.map (·.1)) (((its.map (·.2)).map (Option.map (numOf (fs)))).map (Option.map nrcS)), PieceOk P :=
    its_pieces hi fun s hs => by
      obtain ⟨x, hx, rfl⟩ := mem_map_some hs
      obtain ⟨j, hj, rfl⟩ := hnum x hx
      exact piece_nrc hj
  have hpk : ∀ mk, PieceOk mk → ∀ P ∈ zipM (its.map (·.1)) ((its.map (·.2)).map (Option.map fun _ => mk)), PieceOk P := fun mk hmk =>
    its_pieces hi fun s hs => by obtain ⟨x, hx, rfl⟩ := mem_map_some hs; exact hmk
  have hlz : ∀ ms : List (Option Str), ms.length = its.length → (zipM (its.map (·.1)) ms).length ≤ 9 := by
    intro ms hm
    rw [zipM_length _ _ (by simpa using hm)]
    simpa using h9
  have hlc : (cnts 1 (its.map (·.2))).length = its.length := by rw [cnts_length]; simp
  have jo : ∀ Ps : List Str, (∀ P ∈ Ps, PieceOk P) → Ps.length ≤ 9 → JoinOk ⟨#[32]⟩ Ps = true := by
    intro Ps hP hl
    have := sum_le Ps hP
    refine joinOk_of ?_
    show (Ps.map (·.length)).sum + Ps.length * 1 ≤ 16777216
    omega
  obtain ⟨kq, hq⟩ := chain_mark (good_c .qmark) lit_qmark mkQ [] (fun k hk => seg_qmark hk []) its 1 hi (by omega)
  obtain ⟨kf, hf⟩ := chain_mark (good_c .format) lit_format mkS [] (fun k hk => seg_format hk []) its 1 hi (by omega)
  refine ⟨fs, Str.join ⟨#[32]⟩ (zipM (its.map (·.1)) ((its.map (·.2)).map (Option.map (numOf (fs))))), Str.join ⟨#[32]⟩ (zipM (its.map (·.1)) (cnts 1 (its.map (·.2)))),
    { len := by simp, le9 := by simpa using h9, fl9 := hfl, al9 := hsl, isF := hfs, nsA := hA, nsF := fun s hs => ⟨hA s hs, hF s hs⟩, fsA := fun s hs => hsA s ((mem_firsts _ s).mp (by rw [← hfs]; exact hs)), soA := hsA, num := hnum,
      jn := jo _ hpn (hlz _ (by simp)), en := rfl, jm := by rw [cnt_range]; exact jo _ hpm (hlz _ hlc), em := by rw [cnt_range], named := ?_, pyf := ?_, nrc := ?_, ts := ?_, qm := ?_, fm := ?_, eqv := ?_ }⟩
  · exact q_ok (fun p l x => crun_runG .named l p x) (c32 .named) (chain_name (good_c .named) lit_named colS 1 (fun nm h ph h9 => seg_named (fun _ _ _ _ _ => rfl) h h9 1) its [] fs hi (by simpa using h9) hfs) hpc hpn (hlz _ (by simp)) (hlz _ (by simp))
  · exact q_ok (fun p l x => crun_runG .pyformat l p x) (c32 .pyformat) (chain_name (good_c .pyformat) lit_pyformat pyS 1 (fun nm h ph h9 => seg_py h h9 1) its [] fs hi (by simpa using h9) hfs) hpp hpn (hlz _ (by simp)) (hlz _ (by simp))
  · exact q_ok (fun p l x => crun_runG .numeric l p x) (c32 .numeric) (chain_num hfl 1 [] its hi hF) hpr hpn (hlz _ (by simp)) (hlz _ (by simp))
  · exact q_ok (fun p l x => trun_runG l p x) t32 (chain_name good_t lit_t colS 1 (fun nm h ph h9 => seg_named (fun p x y c hx => if_neg (fun hh => hx hh.2.1)) h h9 1) its [] fs hi (by simpa using h9) hfs) hpc hpn (hlz _ (by simp)) (hlz _ (by simp))
  · exact q_ok (fun p l x => crun_runG .qmark l p x) (c32 .qmark) hq (hpk mkQ ⟨by decide, by decide⟩) hpm (hlz _ (by simp)) (hlz _ hlc)
  · exact q_ok (fun p l x => crun_runG .format l p x) (c32 .format) hf (hpk mkS ⟨by decide, by decide⟩) hpm (hlz _ (by simp)) (hlz _ hlc)
  · have hz := zip_eq_iff its [] fs hfs
    simp only [List.length_nil, Nat.add_zero, Nat.zero_add] at hz
    refine Iff.trans ⟨fun h => ?_, fun h => congrArg (Str.join ⟨#[32]⟩) h⟩ hz
    refine join_inj _ _ ?_ ?_ h
    · rw [zipM_length _ _ (by simp), zipM_length _ _ (by simpa using hlc)]
    · intro i x y hx hy
      obtain ⟨p, m, hp, hm, rfl⟩ := zip_at (by simp) hx
      obtain ⟨p', m', hp', hm', rfl⟩ := zip_at (by simpa using hlc) hy
      rw [hp] at hp'
      cases hp'
      rw [List.getElem?_map] at hm
      obtain ⟨n, hn, hmn⟩ := Option.map_eq_some_iff.mp hm
      have hc := cnts_at (its.map (·.2)) 1 i
      cases n with
      | none =>
        rw [hc.1 hn] at hm'
        cases hm'
        subst hmn
        rfl
      | some s =>
        obtain ⟨j, hj⟩ := hc.2 s hn
        rw [hj] at hm'
        cases hm'
        subst hmn
        rfl
/-- the parts and the names, as the loop has gathered them -/
theorem Got.facts {N : Nat} {pv nv : List Value} (g : Got N pv nv) (h : N < 10) : ∃ ps ns fs bn bm, Strs pv ps ∧ OStrs nv ns ∧ Facts ps ns fs bn bm := by
  obtain ⟨its, h1, h2, h3, h4⟩ := g.ex
  obtain ⟨fs, bn, bm, hf⟩ := facts_ok h2 (by omega)
  exact ⟨_, _, fs, bn, bm, h3, h4, hf⟩
end Mine
end

section
open PySem PySem.W PySem.W.X PyProof.Rows
namespace Mine
theorem by_share {P Q : Prop} (f : P → Q) (p : P) : Q := f p
open Lean Elab Tactic Meta
/-- the goals that there are after t: all at one and the same state; what differs in the ledger is dropped; the way from there is gone once -/
def shareJ (t : TacticM Unit) : TacticM Unit := do
  let g ← getMainGoal
  let rest := (← getGoals).tail!
  let pass (g : MVarId) : TacticM (List (MVarId × DS)) := do
    setGoals [g]
    t
    let mut ends : List (MVarId × DS) := []
    for g' in (← getGoals) do
      ends := ends ++ [← g'.withContext do return (g', ← DS.ofGoal g')]
    let keep (d : DS) : List Bool := d.L.map fun (a, o) => ends.all fun (_, e) => match idxOf e.L a with
      | some (_, o') => o == o'
      | none => false
    let mut outs : List (MVarId × DS) := []
    for (g', d) in ends do
      let r ← g'.withContext do
        let mut g := g'
        let mut d := d
        let gone := ((d.L.zip (keep d)).filter (!·.2)).map (·.1.1)
        for a in gone do
          let some (i, _) := idxOf d.L a | throwError "shareJ"
          let (g1, e1) ← pullG g d i
          let (g2, e2) ← skipG g1 e1
          g := g2
          d := e2
        return (g, d)
      outs := outs ++ [r]
    return outs
  let sv ← saveState
  let ty ← (do
    let outs ← pass g
    let (_, d1) :: _ := outs | throwError "shareJ: none"
    for (_, d) in outs do
      unless (d.L.map (·.1)) == (d1.L.map (·.1)) do throwError "shareJ: two ledgers"
    g.withContext do
      let ty ← withLocalDeclD `tk (mkConst ``Nat) fun tk => mkForallFVars #[tk] { d1 with tk }.goal
      let ty ← instantiateMVars ty
      for x in (← ty.collectFVars.run {}).2.fvarIds do
        unless (← getLCtx).contains x do throwError "shareJ: a name of one way: {mkFVar x}"
      return ty : TacticM Lean.Expr)
  sv.restore
  let m ← g.withContext <| mkFreshExprSyntheticOpaqueMVar ty
  let g1 ← g.withContext do
    let goal ← g.getType
    let m1 ← mkFreshExprSyntheticOpaqueMVar (mkForall `hmeet .default ty goal)
    g.assign (mkApp4 (mkConst ``by_share) ty goal m1 m)
    return m1.mvarId!
  let (hm, g1) ← g1.intro1
  let g1 ← g1.withContext do
    let lctx := (← getLCtx).setKind hm .implDetail
    let m1 ← mkFreshExprMVarAt lctx (← getLocalInstances) (← g1.getType) .syntheticOpaque
    g1.assign m1
    return m1.mvarId!
  let outs ← pass g1
  for (h, d) in outs do
    h.assign (mkApp (mkFVar hm) d.tk)
  let (_, g) ← m.mvarId!.intro1P
  setGoals (g :: rest)
/-- the goals that there are after t: all run to one and the same -/
def meetJ (t : TacticM Unit) (run : TacticM Unit) : TacticM Unit := shareJ do
  t
  let gs ← getGoals
  let mut l := []
  for g in gs do
    setGoals [g]
    run
    let [g'] ← getGoals | throwError "meetJ: a way has parted"
    l := l ++ [g']
  setGoals l
/-- the run stands at a row of the parameters: both ways to the loop that they meet at; one goal is left -/
def rowL : TacticM Unit := meetJ rowJ do
  runJ [] [] (say := false)
  againJ
/-- the goals but the J's, by t; the J's are left as they are -/
def restJ (t : TacticM Unit) : TacticM Unit := do
  let gs ← getGoals
  let mut out := []
  for g in gs do
    if ← g.isAssigned then continue
    let ty ← g.withContext do instantiateMVars (← g.getType)
    unless ← g.withContext (Meta.isProp ty) do continue
    if ← g.withContext (Meta.forallTelescope ty fun _ b => do return (← whnfR b).isAppOf ``J) then
      out := out ++ [g]
      continue
    setGoals [g]
    try t; out := out ++ (← getUnsolvedGoals) catch _ => out := out ++ [g]
  setGoals out
/-- drop what cannot be reached any more -/
def sweepJ : TacticM Unit := do
  let g ← getMainGoal
  let rest := (← getGoals).tail!
  g.withContext do
    let d0 ← DS.ofGoal g
    let fv (e : Lean.Expr) : List FVarId := (Lean.collectFVars {} e).fvarIds.toList
    let mut live : List FVarId := fv d0.c ++ fv d0.k ++ fv d0.t ++ fv d0.gl ++ fv d0.S ++ fv d0.TE ++ fv d0.md
    let mut left := d0.L
    let mut go := true
    while go do
      go := false
      let mut l := []
      for (a, o) in left do
        if !a.isFVar || live.contains a.fvarId! then
          live := live ++ fv o
          go := true
        else l := l ++ [(a, o)]
      left := l
    let mut g := g
    let mut d := d0
    for (a, _) in left do
      let some (i, _) := idxOf d.L a | throwError "sweepJ"
      let (g1, e1) ← pullG g d i
      let (g2, e2) ← skipG g1 e1
      g := g2
      d := e2
    setGoals (g :: rest)
/-- the numbers that stand in objects, the objects' epochs: but their names -/
def namesJ : TacticM Unit := do
  let g ← getMainGoal
  let rest := (← getGoals).tail!
  let g ← g.withContext do
    let d ← DS.ofGoal g
    let r ← IO.mkRef (#[] : Array (Lean.Expr × Lean.Expr))
    let push (x ty : Lean.Expr) : MetaM Unit := do
      if x.hasFVar && !x.isFVar && !x.hasLooseBVars then
        unless (← r.get).any (·.1 == x) do r.modify (·.push (x, ty))
    for (_, o) in d.L do
      o.forEach fun e => do
        if e.isAppOfArity ``Value.int 2 then push e.getAppArgs[0]! (mkConst ``Int)
        else if e.isAppOfArity ``Data.dict 2 || e.isAppOfArity ``Data.seq 2 then push e.getAppArgs[1]! (mkConst ``Nat)
    let xs ← r.get
    let ty := d.goal
    let m ← withLocalDeclsD (xs.mapIdx fun i x => ((`iv).appendIndexAfter i, fun _ => pure x.2)) fun ys => do
      let ty' := ty.replace fun e => match xs.findIdx? (·.1 == e) with | some i => some ys[i]! | none => none
      mkFreshExprSyntheticOpaqueMVar (← mkForallFVars ys ty')
    g.assign (mkAppN m (xs.map (·.1)))
    let (_, g) ← m.mvarId!.introNP xs.size
    return g
  setGoals (g :: rest)
end Mine
end

section
open PySem PySem.Spec PySem.Calls PySem.W PySem.W.X PyProof.Rows PySem.Builtin
namespace Mine
section
variable {V : XV} {S : List Addr} {T : List (Addr × Obj)} {c : Code} {κ : Kont} {gl : List GenState} {tk : Nat} {k : Result → Sem PySem.Fin} {g : Bool} {l : List Value} {rest : List (Addr × Obj)}
theorem all_true (n : Nat) : (List.range n).all (fun _ => true) = true := List.all_eq_true.mpr fun _ _ => rfl
theorem tupeq_ok {a b : Addr} {lv : List Value}
    (H : J V S T ((a, tupO lv) :: (b, tupO lv) :: rest) ⟨c, none, κ, k (.ok (.ret (.bool true))), gl, tk⟩) :
    J V S T ((a, tupO lv) :: (b, tupO lv) :: rest) ⟨c, none, κ, .call (.call (.builtin "tuple.__eq__") ⟨[.ref a, .ref b], []⟩) none g l k, gl, tk⟩ := by
  refine J.meets F.slot_tuple_eq F.entry_tuple_eq (F.args_tuple_eq_2 _ _) (SeqAt.tuple_eqAt a b ⟨lv⟩ ⟨lv⟩ 0 0 none none #[] #[] fun _ => true) (fun h D => ?_) fun h D => ?_
  · exact ⟨_, (D.atL (a, tupO lv) (List.mem_cons_self ..)).2.1, rfl⟩
  · refine ⟨(D.atL (a, tupO lv) (List.mem_cons_self ..)).2.1, (D.atL (b, tupO lv) (by simp)).2.1, fun j _ _ => SeqAt.EqAt.same _, ?_⟩
    have e : ((List.range (min (Array.mk lv).size (Array.mk lv).size)).all (fun _ => true) && (Array.mk lv).size == (Array.mk lv).size) = true := by simp
    rw [e]
    exact J.came H D
theorem tupne_ok {a b : Addr} {lv : List Value}
    (H : J V S T ((a, tupO lv) :: (b, tupO lv) :: rest) ⟨c, none, κ, k (.ok (.ret (.bool false))), gl, tk⟩) :
    J V S T ((a, tupO lv) :: (b, tupO lv) :: rest) ⟨c, none, κ, .call (.call (.builtin "tuple.__ne__") ⟨[.ref a, .ref b], []⟩) none g l k, gl, tk⟩ := by
  refine J.meets F.slot_tuple_ne F.entry_tuple_ne (F.args_tuple_ne_2 _ _) (SeqAt.tuple_neAt a b ⟨lv⟩ ⟨lv⟩ 0 0 none none #[] #[] fun _ => true) (fun h D => ?_) fun h D => ?_
  · exact ⟨_, (D.atL (a, tupO lv) (List.mem_cons_self ..)).2.1, rfl⟩
  · refine ⟨(D.atL (a, tupO lv) (List.mem_cons_self ..)).2.1, (D.atL (b, tupO lv) (by simp)).2.1, fun j _ _ => SeqAt.EqAt.same _, ?_⟩
    have e : (!((List.range (min (Array.mk lv).size (Array.mk lv).size)).all (fun _ => true) && (Array.mk lv).size == (Array.mk lv).size)) = false := by simp
    rw [e]
    exact J.came H D
end
section
variable {w : World} {h : Heap} {A : Around} {R : Result → Shared → Prop} {d : Drawn} {os : OsState} {S : List Addr} {T : List (Addr × Obj)} {rest : List (Addr × Obj)} {c : Code} {κ : Kont} {gl : List GenState} {tk : Nat} {k : Result → Sem PySem.Fin} {g : Bool} {l : List Value}
theorem eq_pair {A' : Around} {s : Shared} {b : Str} {t1 t2 : Tok} {x y : Addr} (hxy : SeqAt.EqAt A' s (.ref x) (.ref y) true) : ∀ j (h1 : j < (Array.mk [Value.str b t1, .ref x]).size) (h2 : j < (Array.mk [Value.str b t2, .ref y]).size), SeqAt.EqAt A' s (Array.mk [Value.str b t1, .ref x])[j] (Array.mk [Value.str b t2, .ref y])[j] true
  | 0, _, _ => by
    have z : SeqAt.EqAt A' s (.str b t1) (.str b t2) (b == b) := SeqAt.EqAt.str_str b t1 b t2
    rw [beq_self_eq_true] at z
    exact z
  | 1, _, _ => hxy
  | j + 2, h1, _ => absurd h1 (by simp)
/-- two pairs of a text and values, alike -/
theorem pairne_ok (hle : ALe (aroundOf (mkV w h A R d os) true (.ret c none k κ)) A7) {a b x y : Addr} {st : Str} {t1 t2 : Tok} {lv : List Value}
    (H : J (mkV w h A R d os) S T ((a, tupO [.str st t1, .ref x]) :: (b, tupO [.str st t2, .ref y]) :: (x, tupO lv) :: (y, tupO lv) :: rest) ⟨c, none, κ, k (.ok (.ret (.bool false))), gl, tk⟩) :
    J (mkV w h A R d os) S T ((a, tupO [.str st t1, .ref x]) :: (b, tupO [.str st t2, .ref y]) :: (x, tupO lv) :: (y, tupO lv) :: rest) ⟨c, none, κ, .call (.call (.builtin "tuple.__ne__") ⟨[.ref a, .ref b], []⟩) none g l k, gl, tk⟩ := by
  refine J.meets F.slot_tuple_ne F.entry_tuple_ne (F.args_tuple_ne_2 _ _) (SeqAt.tuple_neAt a b ⟨[.str st t1, .ref x]⟩ ⟨[.str st t2, .ref y]⟩ 0 0 none none #[] #[] fun _ => true) (fun hh D => ?_) fun hh D => ?_
  · exact ⟨_, (D.atL (a, tupO [.str st t1, .ref x]) (List.mem_cons_self ..)).2.1, rfl⟩
  · refine ⟨(D.atL (a, tupO [.str st t1, .ref x]) (List.mem_cons_self ..)).2.1, (D.atL (b, tupO [.str st t2, .ref y]) (by simp)).2.1, eq_pair ?_, J.came H D⟩
    by_cases e : x = y
    · subst e
      exact SeqAt.EqAt.same _
    · have hx := (D.atL (x, tupO lv) (by simp)).2.1
      have hy := (D.atL (y, tupO lv) (by simp)).2.1
      refine SeqAt.EqAt.of_refs e ?_
      have z := SeqAt.RcAt.tuples (A := ((aroundOf (mkV w h A R d os) true (.ret c none k κ))).in1) (s := ⟨hh, ⟨gl⟩, (mkV w h A R d os).d, tk, (mkV w h A R d os).os⟩) (items := ⟨lv⟩) (items2 := ⟨lv⟩) (e := fun _ => true) ⟨_, hx, rfl, 0, rfl⟩ ⟨_, hy, rfl, 0, rfl⟩ (by
        have hu := hle.units
        have e1 : A7.units = 100 := rfl
        show _ + 1 < cLine
        unfold cLine
        omega) (fun j _ _ => SeqAt.EqAt.same _)
      have e1 : ((List.range (min (Array.mk lv).size (Array.mk lv).size)).all (fun _ => true) && (Array.mk lv).size == (Array.mk lv).size) = true := by simp
      rw [e1] at z
      exact z
theorem pairsame_ok {a b x : Addr} {st : Str} {t1 t2 : Tok}
    (H : J (mkV w h A R d os) S T ((a, tupO [.str st t1, .ref x]) :: (b, tupO [.str st t2, .ref x]) :: rest) ⟨c, none, κ, k (.ok (.ret (.bool false))), gl, tk⟩) :
    J (mkV w h A R d os) S T ((a, tupO [.str st t1, .ref x]) :: (b, tupO [.str st t2, .ref x]) :: rest) ⟨c, none, κ, .call (.call (.builtin "tuple.__ne__") ⟨[.ref a, .ref b], []⟩) none g l k, gl, tk⟩ := by
  refine J.meets F.slot_tuple_ne F.entry_tuple_ne (F.args_tuple_ne_2 _ _) (SeqAt.tuple_neAt a b ⟨[.str st t1, .ref x]⟩ ⟨[.str st t2, .ref x]⟩ 0 0 none none #[] #[] fun _ => true) (fun h D => ?_) fun h D => ?_
  · exact ⟨_, (D.atL (a, tupO [.str st t1, .ref x]) (List.mem_cons_self ..)).2.1, rfl⟩
  · exact ⟨(D.atL (a, tupO [.str st t1, .ref x]) (List.mem_cons_self ..)).2.1, (D.atL (b, tupO [.str st t2, .ref x]) (by simp)).2.1, eq_pair (SeqAt.EqAt.same _), J.came H D⟩
end
section
variable {w : World} {hd : Option Value} {h : Heap} {A : Around} {R : Result → Shared → Prop} {d : Drawn} {os : OsState} {S : List Addr} {o1 o2 : Obj} {rest : List (Addr × Obj)} {c : Code} {κ : Kont} {gl : List GenState} {tk : Nat} {k : Result → Sem PySem.Fin} {g : Bool} {l : List Value}
/-- two texts -/
theorem strne_ok (hle : ALe (aroundOf (mkV w h A R d os) true (.ret c none k κ)) (A1 hd)) {L : List (Addr × Obj)} {a b : Str} {x : Bool} {t1 t2 : Tok} (hx : decide (a = b) = x)
    (H : ∀ tk', J (mkV w h A R d os) S (T2 o1 o2) L ⟨c, none, κ, k (.ok (.ret (.bool (!x)))), gl, tk'⟩) :
    J (mkV w h A R d os) S (T2 o1 o2) L ⟨c, none, κ, .call (.call (.builtin "str.__ne__") ⟨[.str a t1, .str b t2], []⟩) none g l k, gl, tk⟩ := by
  have e : (!x) = (a.cps.toList != b.cps.toList) := by
    subst hx
    by_cases h : a = b
    · subst h; simp
    · have h2 : ¬ a.cps = b.cps := fun h3 => h (by cases a; cases b; cases h3; rfl)
      simp [h, h2, bne]
  refine J.callee (V' := mkV w h (A1 hd) (endOf (mkV w h A R d os) (.ret c none k κ)) d os) rfl rfl rfl rfl rfl rfl rfl hle rfl ?_
  run_tac runJ []
  refine J.back (V := mkV w h A R d os) (r := .ok (.ret _)) rfl rfl rfl rfl rfl rfl rfl rfl ?_
  refine J.castT (congrArg (fun z => k (.ok (.ret (.bool z)))) (a₂ := !x) ?_) ?_
  · rw [e]
  run_tac useS "H"
theorem streq_ok (hle : ALe (aroundOf (mkV w h A R d os) true (.ret c none k κ)) (A1 hd)) {L : List (Addr × Obj)} {a b : Str} {x : Bool} {t1 t2 : Tok} (hx : decide (a = b) = x)
    (H : ∀ tk', J (mkV w h A R d os) S (T2 o1 o2) L ⟨c, none, κ, k (.ok (.ret (.bool x))), gl, tk'⟩) :
    J (mkV w h A R d os) S (T2 o1 o2) L ⟨c, none, κ, .call (.call (.builtin "str.__eq__") ⟨[.str a t1, .str b t2], []⟩) none g l k, gl, tk⟩ := by
  have e : x = (a.cps.toList == b.cps.toList) := by
    subst hx
    by_cases h : a = b
    · subst h; simp
    · have h2 : ¬ a.cps = b.cps := fun h3 => h (by cases a; cases b; cases h3; rfl)
      simp [h, h2]
  refine J.callee (V' := mkV w h (A1 hd) (endOf (mkV w h A R d os) (.ret c none k κ)) d os) rfl rfl rfl rfl rfl rfl rfl hle rfl ?_
  run_tac runJ []
  refine J.back (V := mkV w h A R d os) (r := .ok (.ret _)) rfl rfl rfl rfl rfl rfl rfl rfl ?_
  refine J.castT (congrArg (fun z => k (.ok (.ret (.bool z)))) (a₂ := x) ?_) ?_
  · rw [e]
  run_tac useS "H"
end
end Mine
end

section
open PySem PySem.W PySem.W.X PyProof.Rows
namespace Mine
/-- what convert makes of a query -/
structure QR (run : Option Nat → List Nat → CS → Option (Option Nat × CS)) (q out : Str) (fs : List Str) : Prop where
  size : q.cps.size < 9000
  plain : (q.cps.all fun x => decide (x < 128)) = true
  runs : ∃ p' x', run none q.cps.toList ⟨0, false, [], [], 1⟩ = some (p', x') ∧ x'.ph = fs ∧ Str.join ⟨#[]⟩ x'.out = out ∧ JoinOk ⟨#[]⟩ x'.out = true
theorem QOk.qr {run : Option Nat → List Nat → CS → Option (Option Nat × CS)} {Ps : List Str} {out : Str} {fs : List Str} (h : QOk run Ps out fs) : ∃ q, Str.join ⟨#[32]⟩ Ps = q ∧ QR run q out fs :=
  ⟨_, rfl, ⟨h.size, h.plain, h.runs⟩⟩
theorem lf0 {F : LF} : LfOk F #[] := Or.inl rfl
section
variable {w : World} {h : Heap} {A : Around} {R : Result → Shared → Prop} {d : Drawn} {os : OsState} {S : List Addr} {o1 o2 : Obj} {rest : List (Addr × Obj)} {c : Code} {κ : Kont} {gl : List GenState} {tk : Nat} {k : Result → Sem PySem.Fin} {g : Bool} {l : List Value}
   {F : LF} {D : List DictEntry} {nD : Nat} {sl2 : Array (Option Value)} {q out : Str} {fs : List Str} {ts tq : Tok} {aG cl cg : Addr} {lc : LC} {gc : GC} {GO : Obj} {q1 q2 q3 q4 : Tok} {v1 v2 v3 v4 : Value} {nG : Nat}
   {aP aM : Addr} {pv mv : List Value} {ps : List Str} {ms : List (Option Str)} {n1 n2 : Nat}
theorem lj_eq {b : Str} (hle : ALe (aroundOf (mkV w h A R d os) true (.ret c none k κ)) A7) (hp : Strs pv ps) (hm : OStrs mv ms) (he : ms.length = ps.length) (h9 : ps.length ≤ 9) (hj : JoinOk ⟨#[32]⟩ (zipM ps ms) = true) (hb : Str.join ⟨#[32]⟩ (zipM ps ms) = b)
   (H : ∀ tk' tv, J (mkV w h A R d os) S (T2 o1 o2) ((aP, listO pv n1) :: (aM, listO mv n2) :: rest) ⟨c, none, κ, k (.ok (.ret (.str b tv))), gl, tk'⟩) :
   J (mkV w h A R d os) S (T2 o1 o2) ((aP, listO pv n1) :: (aM, listO mv n2) :: rest) ⟨c, none, κ, .call (.call (.ref 799) ⟨[.ref aP, .ref aM], []⟩) none g l k, gl, tk⟩ := by
  subst hb
  exact lj_ok hle hp hm he h9 hj H
theorem cvn_ok {lv : List Value} (hle : ALe (aroundOf (mkV w h A R d os) true (.ret c none k κ)) (A4 (some [lawEnv F]))) (hs2 : LfOk F sl2) (hQ : QR (crun .named) q out fs)
   (hx1 : fs.length ≤ 9) (hx2 : ∀ s ∈ fs, s = nmA ∨ s = nmB ∨ s = nmD ∨ s = nmK) (hlv : lv = fs.map (valOf v1 v2 v3 v4))
   (H : ∀ tk' aR aV tv cl cg lc gc sl2', LfOk F sl2' →
     J (mkV w h A R d os) S (T2 (tab2 cl cg) o2) ((aR, tupO [.str out tv, .ref aV]) :: (aV, tupO lv) :: (cl, lamCO lc) :: (cg, genCO gc) :: (F.a, frameO D nD sl2') :: (aG, giv w.params q1 q2 q3 q4 v1 v2 v3 v4 nG) :: rest) ⟨c, none, κ, k (.ok (.ret (.ref aR))), [.finished], tk'⟩) :
   J (mkV w h A R d os) S (T2 (tabO []) o2) ((F.a, frameO D nD sl2) :: (aG, giv w.params q1 q2 q3 q4 v1 v2 v3 v4 nG) :: rest) ⟨c, none, κ, .call (.call (.ref 113) ⟨[.str (styS .named) ts, .str q tq, .ref aG], []⟩) none g l k, [], tk⟩ := by
  obtain ⟨hq, hb, p', x', hrun, rfl, rfl, hj⟩ := hQ
  refine cv_first hle hs2 hq hb hrun hx1 hx2 hj fun tk' aR aV tv cl cg lc gc sl2' lv' hlv' _ hs => ?_
  rw [← hlv] at hlv'
  subst hlv'
  exact H tk' aR aV tv cl cg lc gc sl2' hs
theorem cvp_ok {lv : List Value} {g0 : GenState} (hle : ALe (aroundOf (mkV w h A R d os) true (.ret c none k κ)) (A4 (some [lawEnv F]))) (hs2 : LfOk F sl2) (hQ : QR (crun .pyformat) q out fs)
   (hx1 : fs.length ≤ 9) (hx2 : ∀ s ∈ fs, s = nmA ∨ s = nmB ∨ s = nmD ∨ s = nmK) (hlv : lv = fs.map (valOf v1 v2 v3 v4))
   (H : ∀ tk' aR aV tv lc sl2', LfOk F sl2' →
     J (mkV w h A R d os) S (T2 (tab2 cl cg) o2) ((aR, tupO [.str out tv, .ref aV]) :: (aV, tupO lv) :: (cl, lamCO lc) :: (cg, genCO gc) :: (F.a, frameO D nD sl2') :: (aG, giv w.params q1 q2 q3 q4 v1 v2 v3 v4 nG) :: rest) ⟨c, none, κ, k (.ok (.ret (.ref aR))), [g0, .finished], tk'⟩) :
   J (mkV w h A R d os) S (T2 (tab2 cl cg) o2) ((cl, lamCO lc) :: (cg, genCO gc) :: (F.a, frameO D nD sl2) :: (aG, giv w.params q1 q2 q3 q4 v1 v2 v3 v4 nG) :: rest) ⟨c, none, κ, .call (.call (.ref 113) ⟨[.str (styS .pyformat) ts, .str q tq, .ref aG], []⟩) none g l k, [g0], tk⟩ := by
  obtain ⟨hq, hb, p', x', hrun, rfl, rfl, hj⟩ := hQ
  refine cv_later hle hs2 hq hb hrun hj (fun e => by cases e) (fun e => absurd rfl e) fun _ => ⟨g0, rfl, rfl, hx1, hx2, fun tk' aR aV tv lc sl2' lv' hlv' _ hs => ?_⟩
  rw [← hlv] at hlv'
  subst hlv'
  exact H tk' aR aV tv lc sl2' hs
theorem cvr_ok {sty : Sty} (hle : ALe (aroundOf (mkV w h A R d os) true (.ret c none k κ)) (A4 (some [lawEnv F]))) (hs2 : LfOk F sl2) (hQ : QR (crun sty) q out fs) (hsty : sty ≠ .named) (hpy : sty ≠ .pyformat)
   (H : ∀ tk' aR tv lc sl2', LfOk F sl2' →
     J (mkV w h A R d os) S (T2 (tab2 cl cg) o2) ((aR, tupO [.str out tv, .ref aG]) :: (cl, lamCO lc) :: (cg, genCO gc) :: (F.a, frameO D nD sl2') :: (aG, GO) :: rest) ⟨c, none, κ, k (.ok (.ret (.ref aR))), gl, tk'⟩) :
   J (mkV w h A R d os) S (T2 (tab2 cl cg) o2) ((cl, lamCO lc) :: (cg, genCO gc) :: (F.a, frameO D nD sl2) :: (aG, GO) :: rest) ⟨c, none, κ, .call (.call (.ref 113) ⟨[.str (styS sty) ts, .str q tq, .ref aG], []⟩) none g l k, gl, tk⟩ := by
  obtain ⟨hq, hb, p', x', hrun, rfl, rfl, hj⟩ := hQ
  exact cv_later (q1 := 0) (q2 := 0) (q3 := 0) (q4 := 0) (v1 := .none) (v2 := .none) (v3 := .none) (v4 := .none) (nG := 0) hle hs2 hq hb hrun hj hsty (fun _ => H) fun e => absurd e hpy
theorem tso_ok (hle : ALe (aroundOf (mkV w h A R d os) true (.ret c none k κ)) (A4 (some [lawEnv F]))) (hs2 : LfOk F sl2) (hQ : QR trun q out fs)
   (hx1 : fs.length ≤ 9) (hx2 : ∀ s ∈ fs, s = nmA ∨ s = nmB ∨ s = nmD ∨ s = nmK)
   (H : ∀ tk' aR aMv aMC aCT aPc aPh tv mc sl2' phv n2, Strs phv fs → LfOk F sl2' →
     J (mkV w h A R d os) S (T2 o1 (tabM aMC)) ((aR, tupO [.str out tv, .ref aMv]) :: (aMv, mvO aPc aMC aCT) :: (aMC, mvCO mc) :: (aPc, cellO (.ref aPh)) :: (aPh, listO phv n2) :: (F.a, frameO D nD sl2') :: rest) ⟨c, none, κ, k (.ok (.ret (.ref aR))), gl, tk'⟩) :
   J (mkV w h A R d os) S (T2 o1 (tabO [])) ((F.a, frameO D nD sl2) :: rest) ⟨c, none, κ, .call (.call (.ref 782) ⟨[.str q tq], []⟩) none g l k, gl, tk⟩ := by
  obtain ⟨hq, hb, p', x', hrun, rfl, rfl, hj⟩ := hQ
  exact ts_ok hle hs2 hq hb hrun hx1 hx2 hj H
theorem mvo_ok {aMv aMC aPc aCT aPh : Addr} {mc : MC} {ph lv : List Value} {u1 u2 u3 u4 : Tok} {i1 i2 i3 i4 : Int} (hle : ALe (aroundOf (mkV w h A R d os) true (.ret c none k κ)) A7) (hph : Strs ph fs) (h9 : fs.length ≤ 9) (hss : ∀ s ∈ fs, s = nmA ∨ s = nmB ∨ s = nmD ∨ s = nmK)
   (hlv : lv = fs.map (valOf (.int i1 u1) (.int i2 u2) (.int i3 u3) (.int i4 u4)))
   (H : ∀ tk' aR, J (mkV w h A R d os) S (T2 o1 o2) ((aR, tupO lv) :: (aG, giv w.params q1 q2 q3 q4 (.int i1 u1) (.int i2 u2) (.int i3 u3) (.int i4 u4) nG) :: rest) ⟨c, none, κ, k (.ok (.ret (.ref aR))), gl, tk'⟩) :
   J (mkV w h A R d os) S (T2 o1 o2) ((aMv, mvO aPc aMC aCT) :: (aMC, mvCO mc) :: (aPc, cellO (.ref aPh)) :: (aPh, listO ph n2) :: (aG, giv w.params q1 q2 q3 q4 (.int i1 u1) (.int i2 u2) (.int i3 u3) (.int i4 u4) nG) :: rest) ⟨c, none, κ, .call (.call (.ref aMv) ⟨[.ref aG], []⟩) none g l k, gl, tk⟩ := by
  refine mv_ok hle hph h9 hss fun tk' aR lv' hlv' _ => ?_
  rw [← hlv] at hlv'
  subst hlv'
  exact H tk' aR
end
end Mine
end

section
open PySem PySem.W PySem.W.X PyProof.Rows
namespace Mine
open Lean Elab Tactic Meta
/-- the law's frame and cells by names -/
def nameLaw : TacticM Unit := do
  let g ← getMainGoal
  let rest := (← getGoals).tail!
  let g ← g.withContext do
    let d ← DS.ofGoal g
    let c ← kq d.c
    unless c.isAppOf ``Code.func do throwError "nameLaw: {c.getAppFn}"
    let env ← kq c.appArg!
    let fr ← kq (mkApp (mkConst ``PySem.Env.locals) env)
    let cells ← listOf 50 (mkApp (mkConst ``PySem.Env.cells) env)
    let mut as : List (Lean.Name × Lean.Expr) := [(`aF, fr)]
    for (x, n) in cells.zip [`b1, `b2, `b3, `b4, `b5, `b6] do
      let p ← kq x
      as := as ++ [(n, ← kq p.appArg!)]
    let mut g := g
    for (n, a) in as do
      unless a.isFVar do throwError "nameLaw: {n} {a}"
      g ← g.rename a.fvarId! n
    return g
  setGoals (g :: rest)
/-- name what stands in an entry of the law's frame or in a cell -/
def nameCell (b : Lean.Name) (n : Lean.Name) : TacticM Unit := do
  let g ← getMainGoal
  let rest := (← getGoals).tail!
  let g ← g.withContext do
    let d ← DS.ofGoal g
    let b := (← getLocalDeclFromUserName b).toExpr
    let some (_, o) := idxOf d.L b | throwError "nameCell: no cell"
    let r ← IO.mkRef (none : Option Lean.Expr)
    o.forEach fun e => do if e.isAppOfArity ``Value.ref 1 then r.set (some e.appArg!)
    let some a ← r.get | throwError "nameCell: nothing in it"
    unless a.isFVar do throwError "nameCell: {a}"
    g.rename a.fvarId! n
  setGoals (g :: rest)
/-- run to the call of a function that is an object of the run -/
def runV : TacticM Unit := do
  let g ← getMainGoal
  let rest := (← getGoals).tail!
  g.withContext do
    let d ← DS.ofGoal g
    let e ← Env0.of d { stop := fun c => do
      unless c.isAppOfArity ``Code.call 2 do return false
      let f ← kq c.getAppArgs[0]!
      unless f.isAppOfArity ``Value.ref 1 do return false
      return (← XRun.addrOf f.appArg!).isFVar, batch := 80, say := false }
    let l ← drive e 6000 g d d 0
    setGoals (l.map (·.goal) ++ rest)
end Mine
end

section
open PySem PySem.W PySem.W.X PyProof.Rows
namespace Mine

theorem IntsAre.take {vs : List Value} {zs : List Int} (h : IntsAre vs zs) : ∀ n, IntsAre (vs.take n) (zs.take n) := by
  induction h with
  | nil => intro n; simpa using IntsAre.nil
  | cons a t _ ih =>
    intro n
    cases n with
    | zero => exact .nil
    | succ n => exact .cons a t (ih n)
section
variable {w : World} {h : Heap} {R : Result → Shared → Prop} {d : Drawn} {os : OsState} {S : List Addr} {o1 o2 : Obj} {rest : List (Addr × Obj)} {gl : List GenState}
theorem lw_start {fr : Option (List Env)} {aF b1 b2 b3 b4 b5 b6 aIt aSr aP aN aS aSc : Addr} {t1 t2 : Tok} {sv : List Value} {zs : List Int} {n1 n2 n3 n4 N tk nf : Nat} {ti : Tok} (hsv : IntsAre sv zs) (hzs : zs.length < 1000) (hN : N < 10)
   (H : ∀ cc tk nf n1 n2 n3 ti i r pv nv, LwOk w.params r → Got N pv nv → i < 100 →
     J (mkV w h (AW fr) R d os) S (T2 o1 o2) ((b5, cellO (.ref aN)) :: (b6, cellO (.ref aS)) :: (aF, frameO (lwFr w.params aSr aP t1 t2 r) nf #[]) :: (aP, listO pv n1) :: (aN, listO nv n2) :: (aS, listO [.ref aSc, .int (Int.ofNat i) ti] n3) :: (aSc, listO sv n4) :: rest)
       ⟨cc, none, .base, leafOf' (.ok .next), gl, tk⟩) :
     J (mkV w h (AW fr) R d os) S (T2 o1 o2) ((b5, cellO (.ref aN)) :: (b6, cellO (.ref aS)) :: (aF, frameO (lwFr w.params aSr aP t1 t2 []) nf #[]) :: (aIt, riterO 0 N) :: (aP, listO [] n1) :: (aN, listO [] n2) :: (aS, listO [.ref aSc, .int (Int.ofNat 1) ti] n3) :: (aSc, listO sv n4) :: rest)
       ⟨lwLoop aIt ⟨aF, b1, b2, b3, b4, b5, b6⟩, none, .base, denote table (lwLoop aIt ⟨aF, b1, b2, b3, b4, b5, b6⟩), gl, tk⟩ :=
  lw_loop hsv hzs hN H N 0 (Nat.zero_add _) tk nf n1 n2 n3 1 ti [] [] [] (.inl rfl) ⟨⟨[], rfl, (by intro p hp; cases hp), .nil, .nil⟩⟩ (by omega)
end
open Lean Elab Tactic Meta in
/-- the end of a comprehension, both ways, to a place of the law's text -/
def compEnd (i : Nat) (path : List (Nat × Option Nat)) (fns : List Nat := []) : TacticM Unit := do
  let p ← placeOf (← nav (← stmtsOf 804)[i]! path)
  meetJ (do
    match Parser.runParserCategory (← getEnv) `tactic "rcases hr9 with rfl | ⟨t9, v9, rfl⟩" with
    | .ok stx => evalTactic stx
    | .error e => throwError e) do
    backJ
    runJ fns [] (say := false) (places := [p])
theorem fin_eq (x : Bool) (hx : x = true) : (Decidable.rec (motive := fun _ => Bool) (fun h => (fun _ => false) h) (fun h => (fun _ => true) h) (Z.eqZ (condFn Int true 1 0) (condFn Int x 1 0)) : Bool) = true := by
  subst hx
  rfl
theorem fin_ne (x : Bool) (hx : x = false) : (Decidable.rec (motive := fun _ => Bool) (fun h => (fun _ => false) h) (fun h => (fun _ => true) h) (Z.eqZ (condFn Int false 1 0) (condFn Int x 1 0)) : Bool) = true := by
  subst hx
  rfl
/-- the law, whole -/
theorem law_J {w : World} {h : Heap} {R : Result → Shared → Prop} {d : Drawn} {os : OsState} {tk : Nat} {vs : List Value} {zs : List Int} {n : Nat} (hlen : vs.length < 64) (hv : IntsAre vs zs)
   (H : ∀ cc tk cl cg aMC b, b = true → J (mkV w h AL R d os) [805] (T2 (tab2 cl cg) (tabM aMC)) [(nat_lit 805, listO vs n)] ⟨cc, none, .base, leafOf' (.ok (.ret (.bool b))), [.finished, .finished], tk⟩) :
   J (mkV w h AL R d os) [805] (T2 (tabO []) (tabO [])) [(nat_lit 805, listO vs n)] ⟨.call (.ref 804) ⟨[.ref 805], []⟩, none, .base, denote table (.call (.ref 804) ⟨[.ref 805], []⟩), [], tk⟩ := by
  have h10 : vs.length < 10000 := by omega
  run_tac walk [("list.__getitem__", "stop")] (say := false)
  run_tac useW "script_ok (e := 60)"
  intro tk1 aSc sv hsv0
  have hsv : IntsAre sv (zs.take 60) := by rw [hsv0]; exact hv.take 60
  have hzs : (zs.take 60).length < 1000 := by simp; omega
  clear hsv0 hv
  run_tac walk [("fn:792", "nextB_ok (hv := hsv)"), ("range.__iter__", "rangeiter_ok")] (say := false)
  run_tac calleeJ fun fr => return Lean.mkApp (Lean.mkConst ``AW) fr
  run_tac useS "lw_start hsv hzs"
  case hN => assumption
  case H =>
    intro cc tk2 nf n1 n2 n3 ti i r pv nv hr hg hi
    have e0 : i < 1000 := by omega
    have e1 : i + 1 < 1000 := by omega
    have e2 : i + 1 + 1 < 1000 := by omega
    have e3 : i + 1 + 1 + 1 < 1000 := by omega
    obtain ⟨ps, ns, fs, bn, bm, hps, hns, hF⟩ := hg.facts (by assumption)
    clear hg
    obtain ⟨qn, hqn, Qn⟩ := hF.named.qr
    obtain ⟨qp, hqp, Qp⟩ := hF.pyf.qr
    obtain ⟨qr, hqr, Qr⟩ := hF.nrc.qr
    obtain ⟨qt, hqt, Qt⟩ := hF.ts.qr
    rw [hqn] at hqt
    subst hqt
    obtain ⟨qq, hqq, Qq⟩ := hF.qm.qr
    obtain ⟨qf, hqf, Qf⟩ := hF.fm.qr
    have hlp := hps.length
    have hln := hns.length
    have hl1 := hF.len
    have hl2 := hF.le9
    have hn9 : ns.length ≤ 9 := by omega
    rcases hr with rfl | ⟨u1, u2, u3, v1, v2, v3, rfl⟩
    all_goals
      run_tac backJ
      run_tac walk [("fn:792", "stop")] (say := false)
      run_tac rowL
      run_tac walk [("fn:792", "nextB_ok (hv := hsv)")] (say := false) (loops := false)
      clear hi e0 e1 e2 e3
      run_tac sweepJ
      run_tac namesJ
      run_tac rowL
      run_tac roomJ fun fr => return Lean.mkApp (Lean.mkConst ``AW) fr
      run_tac useS "ask_loop hns hn9 ?_ ns.length 0 (Nat.zero_add _) _ _ _ [] [] .nil (.inl rfl)"
      intro cc9 tk9 av na nd9 r9 hr9 hav ha9
      run_tac compEnd 6 []
      run_tac nameLaw
      run_tac sweepJ
      run_tac namesJ
      clear hr9 r9 nd9 cc9
      have ha8 := hF.al9
      run_tac walk [("range.__iter__", "rangeiter_ok")] (say := false)
      run_tac rowL
      run_tac roomJ fun fr => return Lean.mkApp (Lean.mkConst ``AW) fr
      rename Int.ofNat _ = Int.ofNat _ => hh
      have hal : 0 + av.length = (somes ns).length := by rw [Nat.zero_add]; exact hav.length
      have hal2 : av.length = _ := Int.ofNat.inj hh
      rw [hal2] at hal
      run_tac useS "fst_loop hav ha8 ?_ _ 0 hal _ _ _ [] [] .nil (Nat.le_refl _) (.inl rfl)"
      clear hh hal hal2
      intro cc9 tk9 fv nf9 nd9 r9 hr9 hfv hf9
      run_tac compEnd 7 []
      run_tac sweepJ
      run_tac namesJ
      clear hr9 r9 nd9 cc9
      rw [← hF.isF] at hfv
      run_tac walk [] (say := false)
      run_tac rowL
      run_tac roomJ fun fr => return Lean.mkApp (Lean.mkConst ``AW) fr
      run_tac useS "num_loop hns hn9 hfv hF.fl9 hF.nsF ?_ ns.length 0 (Nat.zero_add _) _ _ _ [] [] .nil (.inl rfl)"
      intro cc9 tk9 nuv nn nd9 r9 hr9 hnu hnu9
      run_tac compEnd 8 []
      run_tac sweepJ
      run_tac namesJ
      clear hr9 r9 nd9 cc9
      run_tac walk [("range.__iter__", "rangeiter_ok")] (say := false)
      run_tac rowL
      run_tac roomJ fun fr => return Lean.mkApp (Lean.mkConst ``AW) fr
      rename Int.ofNat _ = Int.ofNat _ => hh
      have hal : 0 + nv.length = ns.length := by rw [Nat.zero_add]; exact hns.length
      have hal2 : nv.length = _ := Int.ofNat.inj hh
      rw [hal2] at hal
      run_tac useS "cnt_loop hns hn9 ?_ _ 0 hal _ _ _ [] [] .nil (.inl rfl)"
      clear hh hal hal2
      intro cc9 tk9 cov cn nd9 r9 hr9 hco hco9
      run_tac compEnd 9 []
      run_tac sweepJ
      run_tac namesJ
      clear hr9 r9 nd9 cc9
      run_tac walk [] (say := false)
      run_tac rowL
      run_tac roomJ fun fr => return Lean.mkApp (Lean.mkConst ``AW) fr
      run_tac useS "vls_loop hfv hF.fl9 hF.fsA ?_ fs.length 0 (Nat.zero_add _) _ _ _ [] [] rfl (.inl rfl)"
      intro cc9 tk9 lv ln nd9 r9 hr9 hlv hlv9
      run_tac compEnd 9 [(1, none)]
      run_tac sweepJ
      run_tac namesJ
      clear hr9 r9 nd9 cc9
      have rwE1 : (Array.mk ([] : List Value)) ++ (Array.mk lv) = Array.mk lv := by simp
      run_tac quickH `rwE1
      have hl20 : lv.length < 20 := by omega
      run_tac walk [] (say := false)
      run_tac rowL
      run_tac roomJ fun fr => return Lean.mkApp (Lean.mkConst ``AW) fr
      run_tac useS "row_loop hav hF.al9 hF.soA ?_ (somes ns).length 0 (Nat.zero_add _) _ _ _ [] [] rfl (.inl rfl)"
      intro cc9 tk9 rv rn nd9 r9 hr9 hrv hrv9
      run_tac compEnd 10 [(1, none)]
      run_tac sweepJ
      run_tac namesJ
      clear hr9 r9 nd9 cc9 hl20
      have rwE2 : (Array.mk ([] : List Value)) ++ (Array.mk rv) = Array.mk rv := by simp
      run_tac quickH `rwE2
      have hl20 : rv.length < 20 := by omega
      have hen : (ns.map (Option.map (numOf fs))).length = ps.length := by rw [List.length_map]; exact hl1
      have hem : ((List.range ns.length).map (cntAt ns)).length = ps.length := by rw [List.length_map, List.length_range]; exact hl1
      run_tac walk [("fn:799", "lj_eq (hp := hps) (hm := hnu) (he := hen) (h9 := hF.le9) (hj := hF.jn) (hb := hF.en)"), ("fn:799", "lj_eq (hp := hps) (hm := hco) (he := hem) (h9 := hF.le9) (hj := hF.jm) (hb := hF.em)")] (say := false)
      clear hen hem
      run_tac sweepJ
      run_tac rowL
      run_tac roomJ fun fr => return Lean.mkApp (Lean.mkConst ``AW) fr
      run_tac useS "nmd_loop hns hn9 hF.nsA ?_ ns.length 0 (Nat.zero_add _) _ _ _ [] [] .nil (.inl rfl)"
      intro cc9 tk9 nmv nmn nd9 r9 hr9 hnm hnm9
      run_tac compEnd 13 [(1, none)] [799]
      run_tac sweepJ
      run_tac namesJ
      clear hr9 r9 nd9 cc9 hl20
      have hec : (ns.map (Option.map colS)).length = ps.length := by rw [List.length_map]; exact hl1
      run_tac walk [("fn:799", "lj_eq (hp := hps) (hm := hnm) (he := hec) (h9 := hF.le9) (hj := hF.named.joins) (hb := hqn)"), ("fn:113", "cvn_ok (F := ⟨aF, b1, b2, b3, b4, b5, b6⟩) (sl2 := #[]) (hs2 := lf0) (hQ := Qn) (hx1 := hF.fl9) (hx2 := hF.fsA) (hlv := hlv)"), ("tuple.__ne__", "pairsame_ok"), ("tuple.__ne__", "pairne_ok")] (say := false)
      run_tac sweepJ
      run_tac namesJ
      clear hec hnm hnm9
      run_tac rowL
      run_tac roomJ fun fr => return Lean.mkApp (Lean.mkConst ``AW) fr
      run_tac useS "pyf_loop hns hn9 hF.nsA ?_ ns.length 0 (Nat.zero_add _) _ _ _ [] [] .nil (.inl rfl)"
      intro cc9 tk9 pmv pmn nd9 r9 hr9 hpm hpm9
      run_tac compEnd 15 [(0, none), (0, none), (1, some 1)] [799]
      run_tac sweepJ
      run_tac namesJ
      clear hr9 r9 nd9 cc9
      have hec : (ns.map (Option.map pyS)).length = ps.length := by rw [List.length_map]; exact hl1
      run_tac walk [("fn:799", "lj_eq (hp := hps) (hm := hpm) (he := hec) (h9 := hF.le9) (hj := hF.pyf.joins) (hb := hqp)"), ("fn:113", "cvp_ok (F := ⟨aF, b1, b2, b3, b4, b5, b6⟩) (hQ := Qp) (hx1 := hF.fl9) (hx2 := hF.fsA) (hlv := hlv)"), ("tuple.__ne__", "pairsame_ok"), ("tuple.__ne__", "pairne_ok")] (say := false)
      run_tac sweepJ
      run_tac namesJ
      clear hec hpm hpm9
      have hnn : (ns.map (Option.map (numOf fs))).length ≤ 9 := by rw [List.length_map]; exact hn9
      run_tac rowL
      run_tac roomJ fun fr => return Lean.mkApp (Lean.mkConst ``AW) fr
      run_tac useS "nrc_loop hnu hnn hF.num ?_ _ 0 (Nat.zero_add _) _ _ _ [] [] .nil (.inl rfl)"
      intro cc9 tk9 rmv rmn nd9 r9 hr9 hrm hrm9
      run_tac compEnd 16 [(0, none), (0, none), (1, some 1)] [799]
      run_tac sweepJ
      run_tac namesJ
      clear hr9 r9 nd9 cc9
      have hec : ((ns.map (Option.map (numOf fs))).map (Option.map nrcS)).length = ps.length := by rw [List.length_map, List.length_map]; exact hl1
      run_tac walk [("fn:799", "lj_eq (hp := hps) (hm := hrm) (he := hec) (h9 := hF.le9) (hj := hF.nrc.joins) (hb := hqr)"), ("fn:113", "cvr_ok (sty := .numeric) (F := ⟨aF, b1, b2, b3, b4, b5, b6⟩) (hQ := Qr) (hsty := nofun) (hpy := nofun)"), ("tuple.__ne__", "pairsame_ok"), ("tuple.__ne__", "pairne_ok"), ("fn:782", "tso_ok (F := ⟨aF, b1, b2, b3, b4, b5, b6⟩) (hQ := Qt) (hx1 := hF.fl9) (hx2 := hF.fsA)"), ("str.__ne__", "stop")] (say := false)
      run_tac useS "strne_ok (x := true) (hx := decide_eq_true rfl)"
      run_tac restJ side
      intro tk9
      run_tac runV
      run_tac useS "mvo_ok (h9 := hF.fl9) (hss := hF.fsA) (hlv := hlv)"
      run_tac restJ side
      intro tk9 aR9
      run_tac walk [("tuple.__ne__", "tupne_ok")] (say := false) (loops := false)
      run_tac sweepJ
      run_tac namesJ
      run_tac rowL
      run_tac roomJ fun fr => return Lean.mkApp (Lean.mkConst ``AW) fr
      run_tac useS "mrk_loop (mk := mkQ) hns hn9 ?_ ns.length 0 (Nat.zero_add _) _ _ _ [] [] .nil (.inl rfl)"
      intro cc9 tk9 qmv qmn nd9 r9 hr9 hqm hqm9
      run_tac compEnd 19 [(2, some 0), (0, none), (0, none), (1, some 1)] [799]
      run_tac sweepJ
      run_tac namesJ
      clear hr9 r9 nd9 cc9
      have hec : (ns.map (Option.map fun _ => mkQ)).length = ps.length := by rw [List.length_map]; exact hl1
      run_tac walk [("fn:799", "lj_eq (hp := hps) (hm := hqm) (he := hec) (h9 := hF.le9) (hj := hF.qm.joins) (hb := hqq)"), ("fn:113", "cvr_ok (sty := .qmark) (F := ⟨aF, b1, b2, b3, b4, b5, b6⟩) (hQ := Qq) (hsty := nofun) (hpy := nofun)"), ("tuple.__ne__", "pairsame_ok"), ("tuple.__ne__", "pairne_ok"), ("str.__eq__", "stop")] (say := false) (loops := false)
      clear hec hqm hqm9
      run_tac sweepJ
      run_tac namesJ
      run_tac rowL
      run_tac roomJ fun fr => return Lean.mkApp (Lean.mkConst ``AW) fr
      run_tac useS "mrk_loop (mk := mkS) hns hn9 ?_ ns.length 0 (Nat.zero_add _) _ _ _ [] [] .nil (.inl rfl)"
      intro cc9 tk9 qmv qmn nd9 r9 hr9 hqm hqm9
      run_tac compEnd 19 [(2, some 0), (0, none), (0, none), (1, some 1)] [799]
      run_tac sweepJ
      run_tac namesJ
      clear hr9 r9 nd9 cc9
      have hec : (ns.map (Option.map fun _ => mkS)).length = ps.length := by rw [List.length_map]; exact hl1
      run_tac walk [("fn:799", "lj_eq (hp := hps) (hm := hqm) (he := hec) (h9 := hF.le9) (hj := hF.fm.joins) (hb := hqf)"), ("fn:113", "cvr_ok (sty := .format) (F := ⟨aF, b1, b2, b3, b4, b5, b6⟩) (hQ := Qf) (hsty := nofun) (hpy := nofun)"), ("tuple.__ne__", "pairsame_ok"), ("tuple.__ne__", "pairne_ok"), ("str.__eq__", "stop")] (say := false) (loops := false)
      clear hec hqm hqm9
      have hfa : fv.length = fs.length := hfv.length
      have hva : av.length = (somes ns).length := hav.length
      by_cases hb : bn = bm
      · have hl : fv.length = av.length := by rw [hfa, hva]; exact hF.eqv.mp hb
        run_tac useS "streq_ok (x := true) (hx := decide_eq_true hb)"
        run_tac restJ side
        intro tk9
        run_tac walk [] (say := false)
        run_tac useS "H"
        exact fin_eq _ (by simp; omega)
      · have hl : ¬ fv.length = av.length := fun e => hb (hF.eqv.mpr (by rw [← hfa, ← hva]; exact e))
        run_tac useS "streq_ok (x := false) (hx := decide_eq_false hb)"
        run_tac restJ side
        intro tk9
        run_tac walk [] (say := false)
        run_tac useS "H"
        exact fin_ne _ (by simp; omega)
end Mine
end

section
open PySem PySem.W PySem.W.X PyProof.Rows
namespace Mine

theorem codeTab {h : Heap} {P : Params} (ZH : KT.Holds h 1 0 (KTop P)) {b : Addr} (c : Addr) {o : Obj} {vs : Array Value} (hk : (KTop P).get c = some o) (hc : o.cls = .type "code") (hd : o.data = .fields vs) (hv : vs[11]? = some (.ref b)) : isCodeTable h b :=
  ⟨c, o, vs, kt_at ZH hk, hc, hd, hv⟩
theorem link {w : World} {s₁ : Shared} {c : ClaimW} {cl : Str → Option Addr} {mean : ExcName → Option Value} {args : List WData} {vs : List Value} {zs : List Int}
    (ZH : KT.Holds s₁.heap 1 0 (KTop w.params)) (hsz : s₁.heap.objs.size = 805 + 1) (hg : s₁.gens = #[]) (ho : s₁.heap.get? 805 = some { cls := .type "list", data := .seq vs.toArray }) (hlen : ¬ ((63 : Nat) : Int) < zs.length) (hv : IntsAre vs zs) (hvz : vs.length = zs.length)
    (hr : ∀ cls, c.raises args cls = false) (hpost : c.post args (.bool true) args = true) :
    wpAny (model PySem.Challenge.pw_fv0017_01 w) callerA (PySem.call (.ref 804) [.ref 805]) (fun v s' => GoodWG c cl mean args s₁ (.ok (.ret v)) s')
      (fun e s' => GoodWG c cl mean args s₁ (.error e) s') s₁ := by
  obtain ⟨hp, g, d, tk, os⟩ := s₁
  have hg' : g = #[] := hg
  subst hg'
  replace ZH : KT.Holds hp 1 0 (KTop w.params) := ZH
  replace hsz : hp.objs.size = 806 := hsz
  replace ho : hp.get? 805 = some (listO vs 0) := ho
  replace hlen : vs.length < 64 := by omega
  obtain ⟨kk, hkk, hcall⟩ : ∃ kk : Result → Sem Value, (∀ v, kk (.ok (.ret v)) = .pure v) ∧ PySem.call (.ref 804) [.ref 805] = Sem.call (.call (.ref 804) ⟨[.ref 805], []⟩) none false [] kk := ⟨_, fun v => rfl, rfl⟩
  rw [hcall]
  refine y_start _ _ _ _ _ _ _ _ none false [] kk (fun e => by cases e) (y_code _ _ _ _ _ _ ?_)
  have h108 : (KTop w.params).get 108 = some (tabO []) := rfl
  have h777 : (KTop w.params).get 777 = some (tabO []) := rfl
  have t108 : isCodeTable hp 108 := codeTab ZH 112 rfl rfl rfl rfl
  have t777 : isCodeTable hp 777 := codeTab ZH 781 rfl rfl rfl rfl
  have D0 : Led (mkV w hp AL (postA PySem.Challenge.pw_fv0017_01 w callerA (fun v s' => GoodWG c cl mean args ⟨hp, #[], d, tk, os⟩ (.ok (.ret v)) s') (fun e s' => GoodWG c cl mean args ⟨hp, #[], d, tk, os⟩ (.error e) s') kk) d os) [805] (T2 (tabO []) (tabO [])) [(nat_lit 805, listO vs 0)] hp := by
    have hn : (805 : Nat) ≤ hp.objs.size := by omega
    refine ⟨hn, Nat.le_refl _, fun b o e _ _ => ?_, fun b o e _ _ => e, fun p hp' => ?_, fun p hp' => ?_, ?_, ?_⟩
    · rcases e with e | e
      · exact kt_at ZH e
      · exact e
    · rcases List.mem_cons.mp hp' with rfl | hp'
      · exact ⟨show (108 : Nat) < 805 by decide, kt_at ZH h108⟩
      · rw [List.mem_singleton.mp hp']
        exact ⟨show (777 : Nat) < 805 by decide, kt_at ZH h777⟩
    · rw [List.mem_singleton.mp hp']
      exact ⟨Nat.le_refl _, ho, .inl (by simp)⟩
    · decide
    · simp
  refine (law_J (w := w) (h := hp) (R := postA PySem.Challenge.pw_fv0017_01 w callerA (fun v s' => GoodWG c cl mean args ⟨hp, #[], d, tk, os⟩ (.ok (.ret v)) s') (fun e s' => GoodWG c cl mean args ⟨hp, #[], d, tk, os⟩ (.error e) s') kk) (d := d) (os := os) (tk := tk) (n := 0) hlen hv ?_).app hp D0
  intro cc tk' a1 a2 a3 b hb
  subst hb
  refine .mk fun hh D => ?_
  · refine y_pure _ _ _ _ _ _ _ _ _ (y_done _ _ _ _ _ _ (y_endOk _ _ _ _ _ _ _ _ _ (.bool true) (hkk _) ?_))
    have a108 := (D.atT (108, tab2 a1 a2) (by simp [T2])).2
    have a777 := (D.atT (777, tabM a3) (by simp [T2])).2
    have a805 := (D.atL (805, listO vs 0) (by simp)).2.1
    have key : ∀ b o, hp.get? b = some o → asItWas hp hh b o ∧ ∃ o', hh.get? b = some o' := by
      intro b o e
      by_cases e8 : b = 108
      · subst e8
        have e2 : o = tabO [] := Option.some.inj (e.symm.trans (kt_at ZH h108))
        subst e2
        exact ⟨.inr (.inl ⟨t108, rfl, #[], #[.int 63 0, .int 20 0, .ref a1, .int 165 0, .int 21 0, .ref a2], rfl, a108⟩), _, a108⟩
      by_cases e7 : b = 777
      · subst e7
        have e2 : o = tabO [] := Option.some.inj (e.symm.trans (kt_at ZH h777))
        subst e2
        exact ⟨.inr (.inl ⟨t777, rfl, #[], #[.int 644 0, .int 4 0, .ref a3], rfl, a777⟩), _, a777⟩
      by_cases e5 : b = 805
      · subst e5
        have e2 : o = listO vs 0 := Option.some.inj (e.symm.trans ho)
        subst e2
        exact ⟨.inl a805, _, a805⟩
      have k : hh.get? b = some o := by
        by_cases hb : b < 805
        · refine D.base b o (.inr e) hb fun p hp' => ?_
          rcases List.mem_cons.mp hp' with rfl | hp'
          · exact fun q => e8 q.symm
          · rw [List.mem_singleton.mp hp']
            exact fun q => e7 q.symm
        · exact D.keep b o e (Nat.le_of_not_lt hb) (by simpa using e5)
      exact ⟨.inl k, _, k⟩
    exact ⟨.inl ⟨_, _, [], rfl, hr, ReadsW.bool true, hpost, fun _ => ⟨List.nodup_nil, fun _ hm => (nomatch hm)⟩⟩, ⟨fun b o e => (key b o e).1, fun b o e => (key b o e).2⟩, rfl, allBare_of _ rfl⟩
open Lean Elab Tactic Meta in
/-- the objects of the top's run stand as they are written: without twins of their own (each twin's equation of a whole heap is long) -/
def noTwins (d : Lean.Name) (n : Nat) : TacticM Unit := do
  for k in [0:n] do
    PySem.W.Fast.primed.modify (·.insert (d.str s!"o_{k}") none)
end Mine
end

open PySem PySem.W PySem.W.X PyProof.Rows
theorem PySem.Challenge.cw_fv0017_01_holds : PySem.Challenge.rw_fv0017_01.Holds := by
  run_tac Mine.noTwins `PySem.Challenge.cw_fv0017_01_holds 6000
  w_on; o_law; z_head; (case hw => w_witness2)
  k_fill
  intro w s₀ s₁ mg mb G y fa o pm cd doc dV kV ho hd hcd hD hmg hg args vals as L hpre hlay hrd hwl hlo
  z_open y L KX ZH ZN ZT
  refine Ground.open G ?_
  intro T B D TE TW
  wrow_args hpre hlay hrd hwl hlo
  obtain ⟨hat, hsz⟩ := script_at L
  have htk := script_toks L ZT
  rw [ZN] at hat hsz
  subst hat
  x_fa T KX hmg
  all_lens
  rename IntsAre _ _ => hia
  rename Heap.IsList _ _ _ => hli
  rename ¬ (_ < _) => h63
  rename _ ∧ _ ≤ 2 ^ 20 => hbb
  have hol := script_obj L hli
  exact Mine.link ZH hsz hg hol h63 hia hbb.1 (fun _ => rfl) (by first | rfl | wrow_post)
