import PyProof.Rows.All
import Wide.All
import OpenK.AllK
import Wide.FinOn
import KE.BytesMake
import KE.KDictIter
import KE.KItemsList
import KE.KLam
import KE.KMinKey
import KE.KNest
import KE.KRevSl
import KE.KSortAsk
import KE.KSortTup
import PyProof.CompUse
import PyProof.NeKinds
import PyProof.RaisesMany
import PyProof.Rows.CatchTuple
import PyProof.Rows.RuleIs2
import PyProof.WalksPairs
import PyProof.ZipIter
import Wide.BytesRules
import PySem.Challenge.RW_nb0257_01
set_option Elab.async false
set_option maxRecDepth 100000
set_option linter.unusedVariables false
section
open PySem PySem.W PyProof.Rows
set_option Elab.async false
namespace Mine

/-- a state with another heap and another count of tokens -/
noncomputable def up (s : Shared) (h : Heap) (t : Nat) : Shared := { s with heap := h, toks := t }
/-- frozen knowledge: what stands at which address -/
abbrev KMap := Addr → Option Obj
def Sub (K : KMap) (h : Heap) : Prop := ∀ b o, K b = some o → h.get? b = some o
def KLe (K K' : KMap) : Prop := ∀ b o, K b = some o → K' b = some o
theorem KLe.refl (K : KMap) : KLe K K := fun _ _ e => e
theorem KLe.trans {K₁ K₂ K₃ : KMap} (a : KLe K₁ K₂) (b : KLe K₂ K₃) : KLe K₁ K₃ := fun x o e => b x o (a x o e)
theorem KLe.sub {K K' : KMap} {h : Heap} (a : KLe K K') (b : Sub K' h) : Sub K h := fun x o e => b x o (a x o e)
/-- what a heap holds, as a map -/
noncomputable def hk (h : Heap) : KMap := fun b => h.get? b
theorem sub_hk (h : Heap) : Sub (hk h) h := fun _ _ e => e
def Keeps (h h' : Heap) : Prop := ∀ b o, h.get? b = some o → h'.get? b = some o
theorem Keeps.refl (h : Heap) : Keeps h h := fun _ _ e => e
theorem Keeps.trans {a b c : Heap} (x : Keeps a b) (y : Keeps b c) : Keeps a c := fun p o e => y p o (x p o e)
theorem Keeps.push (h : Heap) (o : Obj) : Keeps h (h.push o) := fun _ _ e => Heap.get?_push_of_some o e
/-- the map without one address -/
noncomputable def drp (K : KMap) (a : Addr) : KMap := fun b => if b = a then none else K b
/-- the map with one address more -/
noncomputable def add (K : KMap) (a : Addr) (o : Obj) : KMap := fun b => if b = a then some o else K b
noncomputable def join (K N : KMap) : KMap := fun b => (K b).or (N b)
theorem drp_self (K : KMap) (a : Addr) : drp K a a = none := by simp [drp]
theorem drp_le (K : KMap) (a : Addr) : KLe (drp K a) K := fun b o e => by
  unfold drp at e; split at e
  · cases e
  · exact e
theorem le_drp {K₀ K : KMap} {a : Addr} (h : KLe K₀ K) (ha : K₀ a = none) : KLe K₀ (drp K a) := fun b o e => by
  unfold drp; split
  · rename_i hb; rw [hb, ha] at e; cases e
  · exact h b o e
theorem le_add {K : KMap} {a : Addr} {o : Obj} (ha : K a = none) : KLe K (add K a o) := fun b x e => by
  unfold add; split
  · rename_i hb; rw [hb, ha] at e; cases e
  · exact e
theorem add_self (K : KMap) (a : Addr) (o : Obj) : add K a o a = some o := by simp [add]
theorem le_join (K N : KMap) : KLe K (join K N) := fun b o e => by simp [join, e]
theorem le_join_right {K N : KMap} (hd : ∀ b o, N b = some o → K b = none) : KLe N (join K N) := fun b o e => by simp [join, hd b o e, e]

noncomputable abbrev lst (vs : List Value) (n : Nat) : Obj := { cls := .type "list", data := .seq vs.toArray n }
noncomputable abbrev tup (vs : List Value) (n : Nat) : Obj := { cls := .type "tuple", data := .seq vs.toArray n }
noncomputable abbrev clo (v : Option Value) : Obj := { cls := .type "cell", data := .cell v }

/-- a variable: its name, its cell if it lives in one, its value if bound -/
abbrev Var := Str × Option Addr × Option Value
noncomputable def look : List Var → Str → Option Value
  | [], _ => none
  | (x, none, v) :: r, y => if y = x then v else look r y
  | (_, some _, _) :: r, y => look r y
noncomputable def cellsOf : List Var → List (Addr × Obj)
  | [] => []
  | (_, none, _) :: r => cellsOf r
  | (_, some c, v) :: r => (c, clo v) :: cellsOf r

theorem one_obj {l : List (Addr × Obj)} {a : Addr} {o o' : Obj} (nd : (l.map (·.1)).Nodup) (h1 : (a, o) ∈ l) (h2 : (a, o') ∈ l) : o = o' := by
  induction l with
  | nil => cases h1
  | cons q r ih =>
    simp only [List.map_cons, List.nodup_cons] at nd
    rcases List.mem_cons.mp h1 with e1 | e1 <;> rcases List.mem_cons.mp h2 with e2 | e2
    · rw [← e1] at e2; cases e2; rfl
    · exact absurd (List.mem_map_of_mem (f := (·.1)) e2) (by rw [← e1] at nd; exact nd.1)
    · exact absurd (List.mem_map_of_mem (f := (·.1)) e1) (by rw [← e2] at nd; exact nd.1)
    · exact ih nd.2 e1 e2

/-- the frame at hand: K is kept, lk are its variables, ws its own objects -/
structure Fm (K₀ : KMap) (K : KMap) (env : Env) (gs : List Str) (lk : List Var) (ws : List (Addr × Obj)) (h : Heap) : Prop where
  fk : env.scope.kind = .function
  gl : env.globals = mainGlobals ∧ env.builtins = builtinsNs
  nd : (lk.map (·.1)).Nodup
  kind : ∀ p ∈ lk, (p.1 == ("__debug__" : Str)) = false ∧ (match p.2.1 with
    | none => env.kindOf p.1 = some .local
    | some c => env.cells.lookup p.1 = some c ∧ (env.kindOf p.1 = some .cell ∨ (env.kindOf p.1 = some .free ∧ (p.1 == ("__classdict__" : Str)) = false)))
  glob : ∀ x ∈ gs, env.kindOf x = some .globalImplicit ∧ (x == ("__debug__" : Str)) = false
  nsp : h.Ns env.locals (look lk)
  base : KLe K₀ K
  kept : Sub K h
  kL : K env.locals = none
  own : ∀ p ∈ cellsOf lk ++ ws, h.get? p.1 = some p.2 ∧ K p.1 = none
  apart : (env.locals :: (cellsOf lk ++ ws).map (·.1)).Nodup

/-- bind a variable -/
inductive Put : List Var → Str → Value → List Var → Prop where
  | head {x : Str} {c : Option Addr} {v' : Option Value} {v : Value} {r : List Var} : Put ((x, c, v') :: r) x v ((x, c, some v) :: r)
  | tail {p : Var} {x : Str} {v : Value} {r r' : List Var} : Put r x v r' → Put (p :: r) x v (p :: r')
/-- change an own object -/
inductive Upd1 : List (Addr × Obj) → Addr → Obj → Obj → List (Addr × Obj) → Prop where
  | head {a : Addr} {o o' : Obj} {r : List (Addr × Obj)} : Upd1 ((a, o) :: r) a o o' ((a, o') :: r)
  | tail {p : Addr × Obj} {a : Addr} {o o' : Obj} {r r' : List (Addr × Obj)} : Upd1 r a o o' r' → Upd1 (p :: r) a o o' (p :: r')

theorem Put.keys {lk lk' : List Var} {x : Str} {v : Value} (p : Put lk x v lk') : lk'.map (·.1) = lk.map (·.1) := by
  induction p with
  | head => rfl
  | tail _ ih => simp [ih]
theorem Put.mem {lk lk' : List Var} {x : Str} {v : Value} (p : Put lk x v lk') : ∃ c, (x, c, some v) ∈ lk' ∧ ∃ v', (x, c, v') ∈ lk := by
  induction p with
  | @head x c v' v r => exact ⟨c, .head _, v', .head _⟩
  | tail _ ih => obtain ⟨c, a, v', b⟩ := ih; exact ⟨c, .tail _ a, v', .tail _ b⟩
theorem Put.mem' {lk lk' : List Var} {x : Str} {v : Value} (p : Put lk x v lk') : ∀ q ∈ lk', ∃ v', (q.1, q.2.1, v') ∈ lk := by
  induction p with
  | @head x c v' v r =>
    intro q hq
    rcases List.mem_cons.mp hq with rfl | hq
    · exact ⟨v', .head _⟩
    · exact ⟨q.2.2, .tail _ hq⟩
  | tail _ ih =>
    intro q hq
    rcases List.mem_cons.mp hq with rfl | hq
    · exact ⟨q.2.2, .head _⟩
    · obtain ⟨v', hv⟩ := ih q hq; exact ⟨v', .tail _ hv⟩
theorem Put.addrs {lk lk' : List Var} {x : Str} {v : Value} (p : Put lk x v lk') : (cellsOf lk').map (·.1) = (cellsOf lk).map (·.1) := by
  induction p with
  | @head x c v' v r => cases c <;> rfl
  | @tail p x v r r' _ ih =>
    obtain ⟨y, c, w⟩ := p
    cases c with
    | none => exact ih
    | some c => simp only [cellsOf, List.map_cons, ih]
theorem look_none {lk : List Var} {x : Str} (h : x ∉ lk.map (·.1)) : look lk x = none := by
  induction lk with
  | nil => rfl
  | cons p r ih =>
    obtain ⟨y, c, w⟩ := p
    simp only [List.map_cons, List.mem_cons, not_or] at h
    cases c with
    | none => simp only [look]; rw [if_neg h.1]; exact ih h.2
    | some c => simp only [look]; exact ih h.2
theorem look_mem {lk : List Var} {x : Str} {v : Option Value} (nd : (lk.map (·.1)).Nodup) (h : (x, none, v) ∈ lk) : look lk x = v := by
  induction lk with
  | nil => cases h
  | cons p r ih =>
    obtain ⟨y, c, w⟩ := p
    simp only [List.map_cons, List.nodup_cons] at nd
    rcases List.mem_cons.mp h with e | h1
    · cases e; simp [look]
    · have hne : x ≠ y := fun e => nd.1 (e ▸ List.mem_map_of_mem (f := (·.1)) h1)
      cases c with
      | none => simp only [look]; rw [if_neg hne]; exact ih nd.2 h1
      | some c => simp only [look]; exact ih nd.2 h1
theorem look_put {lk lk' : List Var} {x : Str} {v : Value} (p : Put lk x v lk') (nd : (lk.map (·.1)).Nodup) {v' : Option Value} (hm : (x, none, v') ∈ lk) :
    (fun y => if y = x then some v else look lk y) = look lk' := by
  induction p with
  | @head x c w v r =>
    simp only [List.map_cons, List.nodup_cons] at nd
    rcases List.mem_cons.mp hm with e | hm
    · cases e
      funext y
      simp only [look]
      split
      · rfl
      · rfl
    · exact absurd (List.mem_map_of_mem (f := (·.1)) hm) nd.1
  | @tail p x v r r' hp ih =>
    obtain ⟨y, c, w⟩ := p
    simp only [List.map_cons, List.nodup_cons] at nd
    rcases List.mem_cons.mp hm with e | hm
    · cases e
      obtain ⟨c', _, v'', h2⟩ := hp.mem
      exact absurd (List.mem_map_of_mem (f := (·.1)) h2) nd.1
    · have hne : x ≠ y := fun e => nd.1 (e ▸ List.mem_map_of_mem (f := (·.1)) hm)
      have ih' := ih nd.2 hm
      funext z
      have iz := congrFun ih' z
      cases c with
      | none =>
        simp only [look]
        by_cases hz : z = y
        · subst hz
          rw [if_neg (fun e => hne e.symm), if_pos rfl, if_pos rfl]
        · rw [if_neg hz, if_neg hz]; exact iz
      | some c => simp only [look]; exact iz
theorem mem_cells {lk : List Var} {x : Str} {c : Addr} {v : Option Value} (h : (x, some c, v) ∈ lk) : (c, clo v) ∈ cellsOf lk := by
  induction lk with
  | nil => cases h
  | cons p r ih =>
    obtain ⟨y, c', w⟩ := p
    rcases List.mem_cons.mp h with e | h1
    · cases e; exact .head _
    · cases c' with
      | none => exact ih h1
      | some c' => exact .tail _ (ih h1)
theorem cells_put {lk lk' : List Var} {x : Str} {v : Value} (p : Put lk x v lk') (nd : (lk.map (·.1)).Nodup) : ∀ q ∈ cellsOf lk', q ∈ cellsOf lk ∨ ∃ c, (x, some c, some v) ∈ lk' ∧ q = (c, clo (some v)) := by
  induction p with
  | @head x c w v r =>
    intro q hq
    cases c with
    | none => exact .inl hq
    | some c =>
      rcases List.mem_cons.mp hq with rfl | hq
      · exact .inr ⟨c, .head _, rfl⟩
      · exact .inl (.tail _ hq)
  | @tail p x v r r' hp ih =>
    intro q hq
    obtain ⟨y, c, w⟩ := p
    simp only [List.map_cons, List.nodup_cons] at nd
    cases c with
    | none =>
      rcases ih nd.2 q hq with a | ⟨c, a, b⟩
      · exact .inl a
      · exact .inr ⟨c, .tail _ a, b⟩
    | some c =>
      rcases List.mem_cons.mp hq with rfl | hq
      · exact .inl (.head _)
      · rcases ih nd.2 q hq with a | ⟨c, a, b⟩
        · exact .inl (.tail _ a)
        · exact .inr ⟨c, .tail _ a, b⟩
theorem cells_put_local {lk lk' : List Var} {x : Str} {v : Value} (p : Put lk x v lk') (nd : (lk.map (·.1)).Nodup) {v' : Option Value} (hm : (x, none, v') ∈ lk) : cellsOf lk' = cellsOf lk := by
  induction p with
  | @head x c w v r =>
    simp only [List.map_cons, List.nodup_cons] at nd
    rcases List.mem_cons.mp hm with e | hm
    · cases e; rfl
    · exact absurd (List.mem_map_of_mem (f := (·.1)) hm) nd.1
  | @tail p x v r r' hp ih =>
    obtain ⟨y, c, w⟩ := p
    simp only [List.map_cons, List.nodup_cons] at nd
    rcases List.mem_cons.mp hm with e | hm
    · cases e
      obtain ⟨c', _, v'', h2⟩ := hp.mem
      exact absurd (List.mem_map_of_mem (f := (·.1)) h2) nd.1
    · have hh := ih nd.2 hm
      cases c with
      | none => exact hh
      | some c => simp only [cellsOf, hh]
theorem look_put_cell {lk lk' : List Var} {x : Str} {v : Value} (p : Put lk x v lk') (nd : (lk.map (·.1)).Nodup) {c : Addr} {v' : Option Value} (hm : (x, some c, v') ∈ lk) : look lk' = look lk := by
  induction p with
  | @head x c' w v r =>
    simp only [List.map_cons, List.nodup_cons] at nd
    rcases List.mem_cons.mp hm with e | hm
    · cases e; rfl
    · exact absurd (List.mem_map_of_mem (f := (·.1)) hm) nd.1
  | @tail p x v r r' hp ih =>
    obtain ⟨y, c, w⟩ := p
    simp only [List.map_cons, List.nodup_cons] at nd
    rcases List.mem_cons.mp hm with e | hm
    · cases e
      obtain ⟨c', _, v'', h2⟩ := hp.mem
      exact absurd (List.mem_map_of_mem (f := (·.1)) h2) nd.1
    · funext z
      have iz := congrFun (ih nd.2 hm) z
      cases c with
      | none => simp only [look, iz]
      | some c => simp only [look, iz]

section
variable {K₀ K : KMap} {env : Env} {gs : List Str} {lk : List Var} {ws : List (Addr × Obj)} {h h' : Heap}
theorem Fm.keeps (F : Fm K₀ K env gs lk ws h) (hk : Keeps h h') : Fm K₀ K env gs lk ws h' :=
  { F with nsp := F.nsp.keeps hk, kept := fun b o e => hk b o (F.kept b o e), own := fun p hp => ⟨hk _ _ (F.own p hp).1, (F.own p hp).2⟩ }
theorem Fm.isIn (F : Fm K₀ K env gs lk ws h) {a : Addr} {o : Obj} (hm : (a, o) ∈ ws) : h.get? a = some o := (F.own _ (List.mem_append_right _ hm)).1
theorem Fm.neL (F : Fm K₀ K env gs lk ws h) {a : Addr} {o : Obj} (hm : (a, o) ∈ ws) : a ≠ env.locals := fun e => by
  have := F.apart
  simp only [List.nodup_cons] at this
  exact this.1 (e ▸ List.mem_map_of_mem (f := (·.1)) (List.mem_append_right _ hm))
theorem Fm.L_some (F : Fm K₀ K env gs lk ws h) : ∃ o, h.get? env.locals = some o := let ⟨o, _, _, e, _⟩ := F.nsp; ⟨o, e⟩
/-- an object that was not there: an own one -/
theorem Fm.newObj (F : Fm K₀ K env gs lk ws h) (hkp : Keeps h h') {a : Addr} {o : Obj} (ha : h'.get? a = some o) (hn : h.get? a = none) : Fm K₀ K env gs lk ((a, o) :: ws) h' := by
  have F' := F.keeps hkp
  have hne : ∀ b ob, h.get? b = some ob → b ≠ a := fun b ob e q => by rw [q, hn] at e; cases e
  refine { F' with own := fun p hp => ?_, apart := ?_ }
  · rcases List.mem_append.mp hp with hp | hp
    · exact F'.own p (List.mem_append_left _ hp)
    · rcases List.mem_cons.mp hp with rfl | hp
      · refine ⟨ha, ?_⟩
        cases e : K a with
        | none => rfl
        | some o' => exact absurd rfl (hne _ _ (F.kept _ _ e))
      · exact F'.own p (List.mem_append_right _ hp)
  · obtain ⟨oL, eL⟩ := F.L_some
    have hap := F.apart
    have hall : ∀ b ∈ env.locals :: (cellsOf lk ++ ws).map (·.1), b ≠ a := by
      intro b hb
      rcases List.mem_cons.mp hb with rfl | hb
      · exact hne _ _ eL
      · obtain ⟨p, hp, rfl⟩ := List.mem_map.mp hb
        exact hne _ _ (F.own p hp).1
    have hperm : (env.locals :: (cellsOf lk ++ (a, o) :: ws).map (·.1)).Perm (a :: env.locals :: (cellsOf lk ++ ws).map (·.1)) := by
      simp only [List.map_append, List.map_cons]
      exact ((List.perm_middle (a := a) (l₁ := env.locals :: (cellsOf lk).map (·.1)) (l₂ := ws.map (·.1))))
    exact hperm.nodup_iff.mpr (List.nodup_cons.mpr ⟨fun hb => hall a hb rfl, hap⟩)
/-- an own object is given up -/
theorem Fm.drop (F : Fm K₀ K env gs lk ws h) {ws' : List (Addr × Obj)} (hs : ws'.Sublist ws) : Fm K₀ K env gs lk ws' h :=
  { F with
    own := fun p hp => F.own p ((List.Sublist.append_left hs _).subset hp)
    apart := F.apart.sublist ((List.Sublist.append_left hs _).map _ |>.cons_cons _) }
/-- an own object is frozen -/
theorem Fm.freeze {a : Addr} {o : Obj} (F : Fm K₀ K env gs lk ((a, o) :: ws) h) : Fm K₀ (add K a o) env gs lk ws h := by
  have hne : ∀ b ∈ env.locals :: (cellsOf lk ++ ws).map (·.1), b ≠ a := by
    have hperm : (env.locals :: (cellsOf lk ++ (a, o) :: ws).map (·.1)).Perm (a :: env.locals :: (cellsOf lk ++ ws).map (·.1)) := by
      simp only [List.map_append, List.map_cons]
      exact ((List.perm_middle (a := a) (l₁ := env.locals :: (cellsOf lk).map (·.1)) (l₂ := ws.map (·.1))))
    have := (List.nodup_cons.mp (hperm.nodup_iff.mp F.apart)).1
    exact fun b hb e => this (e ▸ hb)
  have Ka : K a = none := (F.own (a, o) (List.mem_append_right _ (.head _))).2
  refine { F with base := F.base.trans (le_add Ka), kept := fun b x e => ?_, kL := ?_, own := fun p hp => ?_, apart := F.apart.sublist ((List.Sublist.append_left (List.sublist_cons_self _ _) _).map _ |>.cons_cons _) }
  · unfold add at e
    split at e
    · rename_i hb; cases e; rw [hb]; exact F.isIn (.head _)
    · exact F.kept b x e
  · unfold add; rw [if_neg (hne _ (.head _))]; exact F.kL
  · have hp' : p ∈ cellsOf lk ++ (a, o) :: ws := (List.Sublist.append_left (List.sublist_cons_self _ _) _).subset hp
    refine ⟨(F.own p hp').1, ?_⟩
    unfold add; rw [if_neg (hne _ (.tail _ (List.mem_map_of_mem hp)))]; exact (F.own p hp').2
/-- new frozen objects -/
theorem Fm.more (F : Fm K₀ K env gs lk ws h) (hkp : Keeps h h') {N : KMap} (hN : ∀ b o, N b = some o → h'.get? b = some o ∧ h.get? b = none) : Fm K₀ (join K N) env gs lk ws h' := by
  have F' := F.keeps hkp
  have hno : ∀ b ob, h.get? b = some ob → N b = none := fun b ob e => by
    cases q : N b with
    | none => rfl
    | some o => rw [(hN b o q).2] at e; cases e
  obtain ⟨oL, eL⟩ := F.L_some
  refine { F' with base := F.base.trans (le_join _ _), kept := fun b x e => ?_, kL := ?_, own := fun p hp => ⟨(F'.own p hp).1, ?_⟩ }
  · simp only [join] at e
    cases q : K b with
    | none => rw [q] at e; exact (hN b x e).1
    | some o => rw [q] at e; cases e; exact F'.kept b _ q
  · simp only [join, F.kL, hno _ _ eL]; rfl
  · simp only [join, (F.own p hp).2, hno _ _ (F.own p hp).1]; rfl
/-- a frozen object becomes an own one -/
theorem Fm.thaw (F : Fm K₀ K env gs lk ws h) {a : Addr} {o : Obj} (ha : K a = some o) (h0 : K₀ a = none) : Fm K₀ (drp K a) env gs lk ((a, o) :: ws) h := by
  have hne : ∀ b, K b = none → b ≠ a := fun b e q => by rw [q, ha] at e; cases e
  refine { F with base := le_drp F.base h0, kept := (drp_le K a).sub F.kept, kL := ?_, own := fun p hp => ?_, apart := ?_ }
  · unfold drp; split
    · rfl
    · exact F.kL
  · rcases List.mem_append.mp hp with hp | hp
    · refine ⟨(F.own p (List.mem_append_left _ hp)).1, ?_⟩
      unfold drp; split
      · rfl
      · exact (F.own p (List.mem_append_left _ hp)).2
    · rcases List.mem_cons.mp hp with rfl | hp
      · exact ⟨F.kept _ _ ha, drp_self _ _⟩
      · refine ⟨(F.own p (List.mem_append_right _ hp)).1, ?_⟩
        unfold drp; split
        · rfl
        · exact (F.own p (List.mem_append_right _ hp)).2
  · have hall : ∀ b ∈ env.locals :: (cellsOf lk ++ ws).map (·.1), b ≠ a := by
      intro b hb
      rcases List.mem_cons.mp hb with rfl | hb
      · exact hne _ F.kL
      · obtain ⟨p, hp, rfl⟩ := List.mem_map.mp hb
        exact hne _ (F.own p hp).2
    have hperm : (env.locals :: (cellsOf lk ++ (a, o) :: ws).map (·.1)).Perm (a :: env.locals :: (cellsOf lk ++ ws).map (·.1)) := by
      simp only [List.map_append, List.map_cons]
      exact ((List.perm_middle (a := a) (l₁ := env.locals :: (cellsOf lk).map (·.1)) (l₂ := ws.map (·.1))))
    exact hperm.nodup_iff.mpr (List.nodup_cons.mpr ⟨fun hb => hall a hb rfl, F.apart⟩)

theorem Upd1.addrs {ws ws' : List (Addr × Obj)} {a : Addr} {o o' : Obj} (u : Upd1 ws a o o' ws') : ws'.map (·.1) = ws.map (·.1) := by
  induction u with
  | head => rfl
  | tail _ ih => simp [ih]
theorem Upd1.mem {ws ws' : List (Addr × Obj)} {a : Addr} {o o' : Obj} (u : Upd1 ws a o o' ws') : (a, o) ∈ ws := by
  induction u with
  | head => exact .head _
  | tail _ ih => exact .tail _ ih
theorem Upd1.mem' {ws ws' : List (Addr × Obj)} {a : Addr} {o o' : Obj} (u : Upd1 ws a o o' ws') : (a, o') ∈ ws' := by
  induction u with
  | head => exact .head _
  | tail _ ih => exact .tail _ ih
theorem Upd1.only {ws ws' : List (Addr × Obj)} {a : Addr} {o o' : Obj} (u : Upd1 ws a o o' ws') : ∀ p ∈ ws', p = (a, o') ∨ p ∈ ws := by
  induction u with
  | head => intro p hp; rcases List.mem_cons.mp hp with rfl | hp; exact .inl rfl; exact .inr (.tail _ hp)
  | tail _ ih =>
    intro p hp
    rcases List.mem_cons.mp hp with rfl | hp
    · exact .inr (.head _)
    · rcases ih p hp with e | e
      · exact .inl e
      · exact .inr (.tail _ e)
/-- an own object has changed, all else stands -/
theorem Fm.upd (F : Fm K₀ K env gs lk ws h) {ws' : List (Addr × Obj)} {a : Addr} {o o' : Obj} (u : Upd1 ws a o o' ws') (ha : h'.get? a = some o') (hs : ∀ b x, b ≠ a → h.get? b = some x → h'.get? b = some x) :
    Fm K₀ K env gs lk ws' h' := by
  have hm := u.mem
  have hLa : env.locals ≠ a := (F.neL hm).symm
  have hKa : K a = none := (F.own _ (List.mem_append_right _ hm)).2
  have hap : (env.locals :: (cellsOf lk ++ ws').map (·.1)).Nodup := by
    simp only [List.map_append, u.addrs]; have := F.apart; simpa only [List.map_append] using this
  have hpw : ∀ p ∈ cellsOf lk, p.1 ≠ a := by
    intro p hp e
    have := F.apart
    simp only [List.nodup_cons, List.map_append, List.nodup_append] at this
    exact this.2.2.2 p.1 (List.mem_map_of_mem hp) a (List.mem_map_of_mem (f := (·.1)) hm) e
  refine { F with nsp := F.nsp.extBut (fun b x hb e => hs b x hb e) hLa, kept := fun b x e => hs b x (fun q => by rw [q, hKa] at e; cases e) (F.kept b x e), own := fun p hp => ?_, apart := hap }
  rcases List.mem_append.mp hp with hp | hp
  · exact ⟨hs _ _ (hpw p hp) (F.own p (List.mem_append_left _ hp)).1, (F.own p (List.mem_append_left _ hp)).2⟩
  · by_cases hpa : p.1 = a
    · have hsame : p = (a, o') := by
        have hnd : (ws'.map (·.1)).Nodup := by
          rw [u.addrs]; have := F.apart; simp only [List.nodup_cons, List.map_append, List.nodup_append] at this; exact this.2.2.1
        have hu' := u.mem'
        obtain ⟨pa, po⟩ := p
        simp only at hpa; subst hpa
        rw [one_obj hnd hp hu']
      rw [hsame]; exact ⟨ha, hKa⟩
    · rcases u.only p hp with e | e
      · exact absurd (by rw [e]) hpa
      · exact ⟨hs _ _ hpa (F.own p (List.mem_append_right _ e)).1, (F.own p (List.mem_append_right _ e)).2⟩
end

section
variable {M : Model} {A : Around} {E : Value → Shared → Prop} {s : Shared} {t : Nat} {K₀ K : KMap} {env : Env} {gs : List Str} {lk : List Var} {ws : List (Addr × Obj)} {h : Heap}

theorem ldn {x : Str} {c : Option Addr} {v : Value} {Q : Value → Shared → Prop} (F : Fm K₀ K env gs lk ws h) (hx : (x, c, some v) ∈ lk) (q : Q v (up s h t)) :
    wpAny M A (loadName env x) Q E (up s h t) := by
  have hk := F.kind _ hx
  cases c with
  | none => exact wpAny_loadName_local F.fk hk.2 F.nsp (look_mem F.nd hx) q
  | some c =>
    obtain ⟨_, hc, hkd⟩ := hk
    have hcell : (up s h t).heap.IsCell c (some v) := ⟨_, (F.own _ (List.mem_append_left _ (mem_cells hx))).1, rfl⟩
    rcases hkd with hkd | ⟨hkd, hn⟩
    · exact wpAny_loadName_cell F.fk hkd hc hcell q
    · exact wpAny_loadName_free F.fk hkd hc hcell q hn
theorem ld {x : Str} {c : Option Addr} {v : Value} {pos : Pos} {Q : Value → Shared → Prop} (F : Fm K₀ K env gs lk ws h) (hx : (x, c, some v) ∈ lk) (q : Q v (up s h t)) :
    wpAny M A (eval (.Name x pos) env) Q E (up s h t) := wpAny_Name (ldn F hx q) (F.kind _ hx).1

theorem put_same {lk lk' : List Var} {x : Str} {v : Value} {c c' : Option Addr} {v' v'' : Option Value} (p : Put lk x v lk') (nd : (lk.map (·.1)).Nodup) (hc' : (x, c', v'') ∈ lk') (hm : (x, c, v') ∈ lk) : c' = c := by
  induction p with
  | @head x c1 w v r =>
    simp only [List.map_cons, List.nodup_cons] at nd
    rcases List.mem_cons.mp hm with e | hm
    · cases e
      rcases List.mem_cons.mp hc' with e | hc'
      · cases e; rfl
      · exact absurd (List.mem_map_of_mem (f := (·.1)) hc') nd.1
    · exact absurd (List.mem_map_of_mem (f := (·.1)) hm) nd.1
  | @tail p x v r r' hp ih =>
    simp only [List.map_cons, List.nodup_cons] at nd
    rcases List.mem_cons.mp hm with e | hm
    · rw [← e] at nd
      obtain ⟨c2, _, v2, h2⟩ := hp.mem
      exact absurd (List.mem_map_of_mem (f := (·.1)) h2) nd.1
    · rcases List.mem_cons.mp hc' with e | hc'
      · rw [← e] at nd
        exact absurd (List.mem_map_of_mem (f := (·.1)) hm) nd.1
      · exact ih nd.2 hc' hm

theorem stn {x : Str} {v : Value} {lk' : List Var} {Q : Unit → Shared → Prop} (F : Fm K₀ K env gs lk ws h) (p : Put lk x v lk') (q : ∀ h' t', Fm K₀ K env gs lk' ws h' → Q () (up s h' t')) :
    wpAny M A (storeName env x v) Q E (up s h t) := by
  obtain ⟨c, hm', v', hm⟩ := p.mem
  have hk := F.kind _ hm
  have kind' : ∀ q ∈ lk', (q.1 == ("__debug__" : Str)) = false ∧ (match q.2.1 with
      | none => env.kindOf q.1 = some .local
      | some c => env.cells.lookup q.1 = some c ∧ (env.kindOf q.1 = some .cell ∨ (env.kindOf q.1 = some .free ∧ (q.1 == ("__classdict__" : Str)) = false))) := by
    intro q hq
    obtain ⟨v1, h1⟩ := p.mem' q hq
    exact F.kind (q.1, q.2.1, v1) h1
  have nd' : (lk'.map (·.1)).Nodup := by rw [p.keys]; exact F.nd
  cases c with
  | none =>
    refine wpAny_storeName_local hk.2 F.nsp (fun h' hn hs => q h' _ ?_) (by rw [F.fk]; rfl)
    have hne : ∀ b o, K b = some o → b ≠ env.locals := fun b o e q => by rw [q, F.kL] at e; cases e
    rw [look_put p F.nd hm] at hn
    have hcc := cells_put_local p F.nd hm
    refine { F with nd := nd', kind := kind', nsp := hn, kept := fun b o e => (hs.2 b (hne b o e)).trans (F.kept b o e), own := fun r hr => ?_, apart := by rw [hcc]; exact F.apart }
    rw [hcc] at hr
    have hrL : r.1 ≠ env.locals := fun e => by
      have := F.apart
      simp only [List.nodup_cons] at this
      exact this.1 (e ▸ List.mem_map_of_mem (f := (·.1)) hr)
    exact ⟨(hs.2 _ hrL).trans (F.own r hr).1, (F.own r hr).2⟩
  | some c =>
    obtain ⟨_, hc, hkd⟩ := hk
    have hget := (F.own _ (List.mem_append_left ws (mem_cells hm))).1
    have hKc := (F.own _ (List.mem_append_left ws (mem_cells hm))).2
    have hap := F.apart
    have hcL : env.locals ≠ c := fun e => by
      simp only [List.nodup_cons] at hap
      exact hap.1 (e ▸ List.mem_map_of_mem (f := (·.1)) (List.mem_append_left _ (mem_cells hm)))
    have go : wpAny M A (cellSet c (some v)) Q E (up s h t) := by
      unfold cellSet
      refine wpAny_bind (wpAny_load hget ?_)
      refine wpAny_update hget ?_
      have hself : (h.update c fun o => { o with data := .cell (some v) }).get? c = some (clo (some v)) := Heap.get?_update_self _ hget rfl
      have hoth : ∀ b, b ≠ c → (h.update c fun o => { o with data := .cell (some v) }).get? b = h.get? b := fun b hb => Heap.get?_update_other h _ (Ne.symm hb)
      refine q _ _ { F with nd := nd', kind := kind', nsp := ?_, kept := fun b o e => (hoth b fun q => by rw [q, hKc] at e; cases e).trans (F.kept b o e), own := fun r hr => ?_, apart := by rw [List.map_append, p.addrs, ← List.map_append]; exact hap }
      · rw [look_put_cell p F.nd hm]; exact F.nsp.sameBut (Heap.SameBut.update _ _ _) hcL
      · have hdisj : ∀ r ∈ ws, r.1 ≠ c := fun r hr e => by
          simp only [List.nodup_cons, List.map_append, List.nodup_append] at hap
          exact hap.2.2.2 c (List.mem_map_of_mem (f := (·.1)) (mem_cells hm)) r.1 (List.mem_map_of_mem hr) e.symm
        rcases List.mem_append.mp hr with hr | hr
        · by_cases hrc : r.1 = c
          · have hnd : ((cellsOf lk').map (·.1)).Nodup := by
              rw [p.addrs]; simp only [List.nodup_cons, List.map_append, List.nodup_append] at hap; exact hap.2.1
            have hin := mem_cells hm'
            have hsame : r = (c, clo (some v)) := by
              obtain ⟨ra, ro⟩ := r
              simp only at hrc; subst hrc
              rw [one_obj hnd hr hin]
            rw [hsame]; exact ⟨hself, hKc⟩
          · rcases cells_put p F.nd r hr with e | ⟨c', hc', e⟩
            · exact ⟨(hoth _ hrc).trans (F.own r (List.mem_append_left _ e)).1, (F.own r (List.mem_append_left _ e)).2⟩
            · exfalso
              have : some c' = some c := put_same p F.nd hc' hm
              cases this; exact hrc (by rw [e])
        · exact ⟨(hoth _ (hdisj r hr)).trans (F.own r (List.mem_append_right _ hr)).1, (F.own r (List.mem_append_right _ hr)).2⟩
    rcases hkd with hkd | ⟨hkd, hn⟩
    · show wpAny M A (storeName env x v) Q E _
      unfold storeName
      simp only [hkd, F.fk]
      exact wpAny_bind (wpAny_cellOf hc go)
    · show wpAny M A (storeName env x v) Q E _
      unfold storeName
      simp only [hkd, F.fk]
      exact wpAny_bind (wpAny_cellOf hc go)

theorem st {x : Str} {v : Value} {lk' : List Var} {Q : Unit → Shared → Prop} (F : Fm K₀ K env gs lk ws h) (p : Put lk x v lk') (q : ∀ h' t', Fm K₀ K env gs lk' ws h' → Q () (up s h' t')) :
    wpAny M A (bindName env x v) Q E (up s h t) := wpAny_bindName (stn F p q)
theorem asg {x : Str} {v : Value} {pos : Pos} {lk' : List Var} {Q : Unit → Shared → Prop} (F : Fm K₀ K env gs lk ws h) (p : Put lk x v lk') (q : ∀ h' t', Fm K₀ K env gs lk' ws h' → Q () (up s h' t')) :
    wpAny M A (assign (.Name x pos) env v) Q E (up s h t) := by
  show wpAny M A (do standAt pos; bindName env x v) Q E _
  exact wpAny_bind (wpAny_standAt (st F p q))
end
end Mine
end
section
open PySem PySem.W PyProof.Rows
set_option Elab.async false
namespace Mine

noncomputable def varsOf (n : Addr) : List (Str × NameKind) → List Var
  | [] => []
  | (x, .local) :: r => (x, none, none) :: varsOf n r
  | (x, .cell) :: r => (x, some n, none) :: varsOf (n + 1) r
  | (_, .free) :: r => varsOf n r
  | (_, .globalExplicit) :: r => varsOf n r
  | (_, .globalImplicit) :: r => varsOf n r
noncomputable def globsOf : List (Str × NameKind) → List Str
  | [] => []
  | (x, .globalImplicit) :: r => x :: globsOf r
  | (_, .local) :: r => globsOf r
  | (_, .cell) :: r => globsOf r
  | (_, .free) :: r => globsOf r
  | (_, .globalExplicit) :: r => globsOf r
noncomputable def scopeOk (sc : Scope) : Bool := decide (sc.kind = .function) && !sc.isGenerator && !sc.isCoroutine && decide ((sc.names.map (·.1)).Nodup) && sc.names.all fun p => !(p.1 == ("__debug__" : Str)) && !(p.1 == ("__classdict__" : Str))

theorem look_varsOf (names : List (Str × NameKind)) (n : Addr) (y : Str) : look (varsOf n names) y = none := by
  induction names generalizing n with
  | nil => rfl
  | cons p r ih =>
    obtain ⟨x, k⟩ := p
    cases k <;> simp only [varsOf, look, ih]
    split <;> rfl
theorem keys_varsOf (names : List (Str × NameKind)) (n : Addr) : ((varsOf n names).map (·.1)).Sublist (names.map (·.1)) := by
  induction names generalizing n with
  | nil => exact .slnil
  | cons p r ih =>
    obtain ⟨x, k⟩ := p
    cases k <;> simp only [varsOf, List.map_cons] <;> first | exact (ih _).cons_cons _ | exact (ih _).cons _
theorem mem_varsOf {names : List (Str × NameKind)} {n : Addr} {p : Var} (h : p ∈ varsOf n names) : (p.2.1 = none ∧ (p.1, NameKind.local) ∈ names) ∨ (∃ c, p = (p.1, some c, none) ∧ (p.1, NameKind.cell) ∈ names) := by
  induction names generalizing n with
  | nil => cases h
  | cons q r ih =>
    obtain ⟨x, k⟩ := q
    cases k <;> simp only [varsOf] at h
    · rcases List.mem_cons.mp h with rfl | h
      · exact .inl ⟨rfl, .head _⟩
      · rcases ih h with ⟨a, b⟩ | ⟨c, a, b⟩
        · exact .inl ⟨a, .tail _ b⟩
        · exact .inr ⟨c, a, .tail _ b⟩
    · rcases List.mem_cons.mp h with rfl | h
      · exact .inr ⟨n, rfl, .head _⟩
      · rcases ih h with ⟨a, b⟩ | ⟨c, a, b⟩
        · exact .inl ⟨a, .tail _ b⟩
        · exact .inr ⟨c, a, .tail _ b⟩
    all_goals
      rcases ih h with ⟨a, b⟩ | ⟨c, a, b⟩
      · exact .inl ⟨a, .tail _ b⟩
      · exact .inr ⟨c, a, .tail _ b⟩
theorem lookup_of_mem {α : Type} {l : List (Str × α)} {x : Str} {k : α} (nd : (l.map (·.1)).Nodup) (h : (x, k) ∈ l) : l.lookup x = some k := by
  induction l with
  | nil => cases h
  | cons p r ih =>
    obtain ⟨y, k'⟩ := p
    simp only [List.map_cons, List.nodup_cons] at nd
    rw [List.lookup_cons]
    rcases List.mem_cons.mp h with e | h1
    · cases e; simp
    · have hne : x ≠ y := fun e => nd.1 (e ▸ List.mem_map_of_mem (f := (·.1)) h1)
      rw [beq_eq_false_iff_ne.mpr hne]
      exact ih nd.2 h1
theorem cellsFrom_skip {names : List (Str × NameKind)} {x : Str} (h : x ∉ names.map (·.1)) (n : Addr) (acc : List (Str × Addr)) : (cellsFrom n names acc).lookup x = acc.lookup x := by
  induction names generalizing n acc with
  | nil => rfl
  | cons p r ih =>
    obtain ⟨y, k⟩ := p
    simp only [List.map_cons, List.mem_cons, not_or] at h
    unfold cellsFrom
    split
    · rw [ih h.2, List.lookup_cons, beq_eq_false_iff_ne.mpr h.1]
    · exact ih h.2 _ _
theorem cellsFrom_lookup {names : List (Str × NameKind)} {x : Str} {c : Addr} {v : Option Value} (nd : (names.map (·.1)).Nodup) {n : Addr} (h : (x, some c, v) ∈ varsOf n names) (acc : List (Str × Addr)) : (cellsFrom n names acc).lookup x = some c := by
  induction names generalizing n acc with
  | nil => cases h
  | cons p r ih =>
    obtain ⟨y, k⟩ := p
    simp only [List.map_cons, List.nodup_cons] at nd
    cases k <;> simp only [varsOf] at h
    · rcases List.mem_cons.mp h with e | h
      · cases e
      · exact ih nd.2 h acc
    · rcases List.mem_cons.mp h with e | h
      · cases e
        show (cellsFrom (c + 1) r ((x, c) :: acc)).lookup x = some c
        rw [cellsFrom_skip nd.1]; simp
      · exact ih nd.2 h ((y, n) :: acc)
    all_goals exact ih nd.2 h acc
theorem pushCells_at {names : List (Str × NameKind)} {h : Heap} : ∀ p ∈ cellsOf (varsOf h.objs.size names), (pushCells h names).get? p.1 = some p.2 ∧ h.objs.size ≤ p.1 := by
  induction names generalizing h with
  | nil => intro p hp; cases hp
  | cons q r ih =>
    obtain ⟨x, k⟩ := q
    intro p hp
    cases k <;> simp only [varsOf, cellsOf] at hp
    · exact ih p hp
    · rcases List.mem_cons.mp hp with rfl | hp
      · exact ⟨pushCells_keeps r _ _ _ (Heap.get?_push_size h (o := clo none) rfl), Nat.le_refl _⟩
      · have := ih (h := h.push (clo none)) p (by rw [Heap.size_push]; exact hp)
        exact ⟨this.1, by have := this.2; rw [Heap.size_push] at this; exact Nat.le_of_lt this⟩
    all_goals exact ih p hp
theorem cells_nodup (names : List (Str × NameKind)) (n : Addr) : ((cellsOf (varsOf n names)).map (·.1)).Nodup ∧ ∀ a ∈ (cellsOf (varsOf n names)).map (·.1), n ≤ a := by
  induction names generalizing n with
  | nil => exact ⟨.nil, fun _ h => by cases h⟩
  | cons q r ih =>
    obtain ⟨x, k⟩ := q
    cases k <;> simp only [varsOf, cellsOf]
    · exact ih n
    · obtain ⟨i1, i2⟩ := ih (n + 1)
      refine ⟨List.nodup_cons.mpr ⟨fun hm => ?_, i1⟩, fun a ha => ?_⟩
      · exact absurd (i2 _ hm) (Nat.not_succ_le_self n)
      · rcases List.mem_cons.mp ha with rfl | ha
        · exact Nat.le_refl _
        · exact Nat.le_of_succ_le (i2 _ ha)
    all_goals exact ih n
theorem globsOf_mem {names : List (Str × NameKind)} {x : Str} (h : x ∈ globsOf names) : (x, NameKind.globalImplicit) ∈ names := by
  induction names with
  | nil => cases h
  | cons q r ih =>
    obtain ⟨y, k⟩ := q
    cases k <;> simp only [globsOf] at h
    case globalImplicit =>
      rcases List.mem_cons.mp h with rfl | h
      · exact .head _
      · exact .tail _ (ih h)
    all_goals exact .tail _ (ih h)

inductive PutAll : List Var → List (Str × Value) → List Var → Prop where
  | nil {lk : List Var} : PutAll lk [] lk
  | cons {lk lk' lk'' : List Var} {x : Str} {v : Value} {r : List (Str × Value)} : Put lk x v lk' → PutAll lk' r lk'' → PutAll lk ((x, v) :: r) lk''

noncomputable def stm (i : Nat) : Stmt := PySem.Challenge.pw_nb0257_01.main.body.getD i (.Pass ⟨0, 0, 0, 0⟩)
noncomputable def fdOf (st : Stmt) (dflt code pm : Value) : FuncData :=
  match st with
  | .FunctionDef name args body _ _ _ scope _ _ _ => { name := name, qualname := name, params := args, body := .stmts body, scope := scope, globals := mainGlobals, closure := [], defaults := dflt, kwdefaults := .none, pyModule := pm, code := code, builtins := builtinsNs }
  | _ => default
/-- the octets a to z, 0 to 9 -/
noncomputable def digitsL : List UInt8 := [97, 98, 99, 100, 101, 102, 103, 104, 105, 106, 107, 108, 109, 110, 111, 112, 113, 114, 115, 116, 117, 118, 119, 120, 121, 122, 48, 49, 50, 51, 52, 53, 54, 55, 56, 57]
noncomputable def digitsB : Array UInt8 := digitsL.toArray
noncomputable def dig (i : Nat) : UInt8 := digitsL.getD i 0
/-- the top's names -/
noncomputable abbrev GT : List (Str × Value) := [(Str.ofString "heappop", .ref 21), (Str.ofString "heapreplace", .ref 28), (Str.ofString "heapify", .ref 35), (Str.ofString "_heapreplace_max", .ref 42), (Str.ofString "_heapify_max", .ref 49),
  (Str.ofString "_siftdown", .ref 56), (Str.ofString "_siftup", .ref 63), (Str.ofString "_siftdown_max", .ref 70), (Str.ofString "_siftup_max", .ref 77), (Str.ofString "nsmallest", .ref 83), (Str.ofString "nlargest", .ref 89),
  (Str.ofString "T", .ref 96), (Str.ofString "digits", .bytes digitsB 307), (Str.ofString "generate_generalized_integer", .ref 103), (Str.ofString "adapt", .ref 110), (Str.ofString "generate_integers", .ref 117),
  (Str.ofString "_law_rows", .ref 124), (Str.ofString "_law_numeral", .ref 131), (Str.ofString "_law_words", .ref 136), (Str.ofString "_law_octets", .ref 141), (Str.ofString "_law_ahead", .ref 148), (Str.ofString "_law_rising", .ref 153), (Str.ofString "_law_falling", .ref 158)]
/-- the built-in names -/
noncomputable abbrev BT : List (Str × Value) := [(Str.ofString "len", .builtin "len"), (Str.ofString "range", .type "range"), (Str.ofString "reversed", .type "reversed"), (Str.ofString "min", .builtin "min"), (Str.ofString "max", .builtin "max"), (Str.ofString "sum", .builtin "sum"),
  (Str.ofString "sorted", .builtin "sorted"), (Str.ofString "iter", .builtin "iter"), (Str.ofString "object", .type "object"), (Str.ofString "TypeError", .type "TypeError"), (Str.ofString "AttributeError", .type "AttributeError"), (Str.ofString "zip", .type "zip"),
  (Str.ofString "bytearray", .type "bytearray"), (Str.ofString "bytes", .type "bytes"), (Str.ofString "enumerate", .type "enumerate"), (Str.ofString "list", .type "list")]
/-- the top's defs: address, place in the text, code -/
noncomputable abbrev FT : List (Addr × Nat × Addr) := [(21, 1, 20), (28, 2, 27), (35, 3, 34), (42, 4, 41), (49, 5, 48), (56, 6, 55), (63, 7, 62), (70, 8, 69), (77, 9, 76), (96, 13, 95), (103, 15, 102), (110, 16, 109), (117, 17, 116), (124, 19, 123), (131, 20, 130), (136, 21, 135), (141, 22, 140), (148, 23, 147), (153, 24, 152), (158, 25, 157)]
/-- a def of the top -/
structure Fn (K₀ : KMap) (fa : Addr) (fd : FuncData) : Prop where
  obj : ∃ o, K₀ fa = some o ∧ o.data = .func fd
  code : ∀ h, Sub K₀ h → h.CodeRec fd.code fd.qualname
  glob : fd.globals = mainGlobals ∧ fd.builtins = builtinsNs
  clo : fd.closure = []
  ok : scopeOk fd.scope = true
/-- what the top holds: names, built-ins, the limit, the defs -/
structure Base (K₀ : KMap) : Prop where
  names : ∀ h, Sub K₀ h → ∃ mg mb, h.Ns mainGlobals mg ∧ h.Ns builtinsNs mb ∧ (∀ p ∈ GT, mg p.1 = some p.2) ∧ ∀ p ∈ BT, mg p.1 = none ∧ mb p.1 = some p.2
  lim : ∀ h, Sub K₀ h → h.NoLimit
  fn : ∀ p ∈ FT, ∃ pm, Fn K₀ p.1 (fdOf (stm p.2.1) .none (.ref p.2.2) pm)

section
variable {prog : Program} {w : World} {A : Around} {s : Shared} {t : Nat} {K₀ K : KMap} {h : Heap}

theorem entry_frame {fa : Addr} {fd : FuncData} (hs : Sub K₀ h) (hF : Fn K₀ fa fd) :
    Fm K₀ (hk h) (callEnvC fd h.objs.size fa) (globsOf fd.scope.names) (varsOf (h.objs.size + 1) fd.scope.names) [] (pushCells (h.push { cls := .type "frame", data := .dict #[] }) fd.scope.names) := by
  have ok := hF.ok
  simp only [scopeOk, Bool.and_eq_true, decide_eq_true_eq, Bool.not_eq_true', List.all_eq_true] at ok
  obtain ⟨⟨⟨⟨ok1, ok2⟩, ok3⟩, nd⟩, ok5⟩ := ok
  have hkd : ∀ x k, (x, k) ∈ fd.scope.names → (callEnvC fd h.objs.size fa).kindOf x = some k := fun x k hm => lookup_of_mem nd hm
  have hsz : (h.push { cls := .type "frame", data := .dict #[] }).objs.size = h.objs.size + 1 := Heap.size_push ..
  refine { fk := ok1, gl := hF.glob, nd := nd.sublist (keys_varsOf _ _), kind := fun p hp => ?_, glob := fun x hx => ?_, nsp := ?_, base := hs, kept := fun b o e => pushCells_keeps _ _ b o (Heap.get?_push_of_some _ e), kL := ?_, own := fun p hp => ?_, apart := ?_ }
  · rcases mem_varsOf hp with ⟨h1, h2⟩ | ⟨c, h1, h2⟩
    · refine ⟨(ok5 _ h2).1, ?_⟩
      rw [h1]; exact hkd _ _ h2
    · refine ⟨(ok5 _ h2).1, ?_⟩
      rw [h1]
      exact ⟨cellsFrom_lookup nd (h1 ▸ hp) [], .inl (hkd _ _ h2)⟩
  · exact ⟨hkd _ _ (globsOf_mem hx), (ok5 _ (globsOf_mem hx)).1⟩
  · have e : look (varsOf (h.objs.size + 1) fd.scope.names) = fun _ => none := funext fun y => look_varsOf _ _ y
    rw [e]
    exact (Heap.Ns.new h (.type "frame")).keeps (pushCells_keeps _ _)
  · show h.get? h.objs.size = none
    cases e : h.get? h.objs.size with
    | none => rfl
    | some o => exact absurd (Heap.lt_size e) (Nat.lt_irrefl _)
  · rw [List.append_nil, ← hsz] at hp
    have := pushCells_at p hp
    refine ⟨this.1, ?_⟩
    show h.get? p.1 = none
    cases e : h.get? p.1 with
    | none => rfl
    | some o => have h2 := (pushCells_at p hp).2; rw [hsz] at h2; exact absurd (Nat.lt_of_lt_of_le (Heap.lt_size e) (Nat.le_of_succ_le h2)) (Nat.lt_irrefl _)
  · rw [List.append_nil]
    obtain ⟨c1, c2⟩ := cells_nodup fd.scope.names (h.objs.size + 1)
    refine List.nodup_cons.mpr ⟨fun hm => ?_, c1⟩
    have := c2 _ hm
    have : h.objs.size + 1 ≤ h.objs.size := this
    (clear hsz; lia)

theorem storeAll {M : Model} {E : Value → Shared → Prop} {env : Env} {gs : List Str} {ws : List (Addr × Obj)} (f : Str × Value → PUnit → Sem (ForInStep PUnit)) (hf : ∀ n v u, f (n, v) u = (do storeName env n v; pure (.yield ⟨⟩))) :
    ∀ {binds : List (Str × Value)} {lk lk' : List Var} {h : Heap} {t : Nat} {Q : PUnit → Shared → Prop}, PutAll lk binds lk' → Fm K₀ K env gs lk ws h →
      (∀ h' t', Fm K₀ K env gs lk' ws h' → Q ⟨⟩ (up s h' t')) → wpAny M A (forIn binds ⟨⟩ f) Q E (up s h t) := by
  intro binds
  induction binds with
  | nil =>
    intro lk lk' h t Q p F q
    cases p
    rw [List.forIn_nil]; exact wpAny_pure (q _ _ F)
  | cons b r ih =>
    intro lk lk' h t Q p F q
    cases p with
    | cons p1 p2 =>
      rw [List.forIn_cons, hf]
      exact wpAny_bind (wpAny_bind (stn F p1 fun h' t' F' => wpAny_pure (ih p2 F' q)))

/-- a call of a def of the top: its body, from the frame that the call makes -/
theorem enter {R : Result → Shared → Prop} {fa : Addr} {fd : FuncData} {body : List Stmt} {args : Args} {binds : List (Str × Value)} {lk : List Var} {gs : List Str}
    (hB : Base K₀) (hs : Sub K₀ h) (hF : Fn K₀ fa fd) (hroom : A.depth < recursionLimit) (hbody : fd.body = .stmts body)
    (hgs : globsOf fd.scope.names = gs) (hbind : bindArgs fd args = pure binds) (hput : PutAll (varsOf (h.objs.size + 1) fd.scope.names) binds lk)
    (k : ∀ env h' t', Fm K₀ (hk h) env gs lk [] h' →
      wpAny (model prog w) (A.deeper env) (execs body env) (fun f s' => R (.ok (.ret (match f with | .ret v => v | _ => .none))) s') (fun _ _ => False) (up s h' t')) :
    codeAny (model prog w) A (.call (.ref fa) args) R (up s h t) := by
  obtain ⟨o, ho, hd⟩ := hF.obj
  have ok := hF.ok
  simp only [scopeOk, Bool.and_eq_true, decide_eq_true_eq, Bool.not_eq_true', List.all_eq_true] at ok
  obtain ⟨⟨⟨⟨ok1, ok2⟩, ok3⟩, nd⟩, ok5⟩ := ok
  refine codeAny_call_function hroom (hs _ _ ho) hd ok3 ok2 hbody (hF.code _ hs) ?_
  rw [hbind]
  refine wpAny_pure ?_
  rw [hF.clo]
  simp only [newFunctionEnv, Option.isSome_none, Bool.false_eq_true, if_false]
  refine wpAny_bind (wpAny_alloc ?_)
  refine wpAny_bind (wpAny_layCells _ (fun name kind cells => by cases hkc : kind == NameKind.cell <;> simp) _ _ _ _ ?_)
  have F0 := entry_frame (h := h) hs hF
  rw [hgs] at F0
  have e1 : ({ up s h t with heap := (up s h t).heap.push { cls := .type "frame", data := .dict #[] } } : Shared).heap.objs.size = h.objs.size + 1 := Heap.size_push ..
  rw [e1]
  refine wpAny_bind (storeAll (s := s) (env := callEnvC fd h.objs.size fa) _ (fun _ _ _ => rfl) hput F0 fun h' t' F' => wpAny_pure ⟨hB.lim _ ((F'.base).sub F'.kept), ?_⟩)
  exact codeAny_func (wpAny_mono (k _ h' t' F') (fun _ _ x => x) fun _ _ x => x.elim)
end
end Mine
end
section
open PySem PySem.W PyProof.Rows
set_option Elab.async false
set_option maxRecDepth 100000
namespace Mine

section
variable {prog : Program} {w : World} {M : Model} {A : Around} {E : Value → Shared → Prop} {s : Shared} {t : Nat} {K₀ K : KMap} {env : Env} {gs : List Str} {lk : List Var} {ws : List (Addr × Obj)} {h : Heap}

theorem ldg {x : Str} {v : Value} {pos : Pos} {Q : Value → Shared → Prop} (hB : Base K₀) (F : Fm K₀ K env gs lk ws h) (hx : x ∈ gs) (hv : (x, v) ∈ GT) (q : Q v (up s h t)) :
    wpAny M A (eval (.Name x pos) env) Q E (up s h t) := by
  obtain ⟨mg, mb, hg, _, h1, _⟩ := hB.names h (F.base.sub F.kept)
  exact Calls.Name_function_global F.fk (F.glob x hx).1 (Calls.loadGlobal_global (by rw [F.gl.1]; exact hg) (h1 _ hv) q) (F.glob x hx).2
theorem ite_dec {c : Prop} [Decidable c] {P R : Prop} (h1 : c → P) (h2 : ¬ c → R) : if decide c = true then P else R := by
  by_cases hc : c
  · rw [if_pos (decide_eq_true hc)]; exact h1 hc
  · rw [if_neg (by simp [hc])]; exact h2 hc
theorem m_tt {P R : Prop} (h : P) : if true = true then P else R := by rw [if_pos rfl]; exact h
theorem m_ff {P R : Prop} (h : R) : if false = true then P else R := by rw [if_neg (by decide)]; exact h
theorem ite_b {b : Bool} {P R : Prop} (h1 : b = true → P) (h2 : b = false → R) : if b = true then P else R := by
  cases b
  · exact h2 rfl
  · exact h1 rfl
theorem ldb {x : Str} {v : Value} {pos : Pos} {Q : Value → Shared → Prop} (hB : Base K₀) (F : Fm K₀ K env gs lk ws h) (hx : x ∈ gs) (hv : (x, v) ∈ BT) (q : Q v (up s h t)) :
    wpAny M A (eval (.Name x pos) env) Q E (up s h t) := by
  obtain ⟨mg, mb, hg, hb, _, h2⟩ := hB.names h (F.base.sub F.kept)
  exact Calls.Name_function_global F.fk (F.glob x hx).1 (Calls.loadGlobal_builtin (by rw [F.gl.1]; exact hg) (h2 _ hv).1 (by rw [F.gl.2]; exact hb) (h2 _ hv).2 q) (F.glob x hx).2

theorem Fm.sub (F : Fm K₀ K env gs lk ws h) : Sub K₀ (up s h t).heap := F.base.sub F.kept
theorem Fm.sub0 (F : Fm K₀ K env gs lk ws h) : Sub K₀ h := F.base.sub F.kept
theorem Fm.inter (F : Fm K₀ K env gs lk ws h) : interactive env = false := by unfold interactive; rw [F.fk]; rfl
theorem callf {fa : Addr} {i : Nat} {cd : Addr} {pos : Pos} {e : Expr} {rest : List Expr} {Q : Value → Shared → Prop} (hB : Base K₀) (hm : (fa, i, cd) ∈ FT)
    (k : wpAny M A (spliced (backTo pos (starEach (e :: rest) env))) (fun vs s₁ => Sub K₀ s₁.heap ∧ wpAny M A (call (.ref fa) vs) Q E s₁) E s)
    (he : starEach (e :: rest) env = (false, eval e env) :: starEach rest env := by rfl) :
    wpAny M A (callWith pos (.ref fa) [] (backTo pos (starEach (e :: rest) env)) []) Q E s := by
  obtain ⟨pm, hF⟩ := hB.fn _ hm
  obtain ⟨o, ho, hd⟩ := hF.obj
  exact callWith_def hd (wpAny_mono k (fun vs s₁ x => ⟨x.1 _ _ ho, x.2⟩) fun _ _ x => x) he
/-! the library's rules, in this form -/
theorem c_int {i : Int} {k : Nat} {pos : Pos} {Q : Value → Shared → Prop} (q : ∀ tk t', Q (.int i tk) (up s h t')) : wpAny M A (eval (.Constant (.int i) k pos) env) Q E (up s h t) := wpAny_Constant_int (q _ _)
theorem b_add {a b : Int} {u v : Tok} {Q : Value → Shared → Prop} (q : ∀ tk t', Q (.int (a + b) tk) (up s h t')) : wpAny (model prog w) A (binaryOp .Add (.int a u) (.int b v)) Q E (up s h t) := wpAny_add_int (q _ _)
theorem b_sub {a b : Int} {u v : Tok} {Q : Value → Shared → Prop} (q : ∀ tk t', Q (.int (a - b) tk) (up s h t')) : wpAny (model prog w) A (binaryOp .Sub (.int a u) (.int b v)) Q E (up s h t) := PyProof.Rows.sub_int (q _ _)
theorem b_mul {a b : Int} {u v : Tok} {Q : Value → Shared → Prop} (hm : IntMulOk a b) (q : ∀ tk t', Q (.int (a * b) tk) (up s h t')) : wpAny (model prog w) A (binaryOp .Mult (.int a u) (.int b v)) Q E (up s h t) := PyProof.Rows.mul_int (q _ _) hm
theorem b_div {a b : Int} {u v : Tok} {Q : Value → Shared → Prop} (hb : 0 < b ∧ b < 1073741824) (q : ∀ tk t', Q (.int (a / b) tk) (up s h t')) : wpAny (model prog w) A (binaryOp .FloorDiv (.int a u) (.int b v)) Q E (up s h t) := by
  refine PyProof.Rows.floordiv_int (by omega) ?_ (.inl (PyProof.noPylong_small (by omega)))
  rw [Int.fdiv_eq_ediv_of_nonneg _ (by lia)]; exact q _ _
theorem b_mod {a b : Int} {u v : Tok} {Q : Value → Shared → Prop} (hb : 0 < b) (q : ∀ tk t', Q (.int (a % b) tk) (up s h t')) : wpAny (model prog w) A (binaryOp .Mod (.int a u) (.int b v)) Q E (up s h t) := by
  refine PyProof.Rows.mod_int' (by omega) ?_
  rw [Int.fmod_eq_emod_of_nonneg _ (by lia)]; exact q _ _
theorem b_shr1 {a : Int} {u v : Tok} {Q : Value → Shared → Prop} (h0 : 0 ≤ a) (q : ∀ tk t', Q (.int (a / 2) tk) (up s h t')) : wpAny (model prog w) A (binaryOp .RShift (.int a u) (.int 1 v)) Q E (up s h t) := wpAny_rshift1_int h0 (q _ _)
theorem b_pow {a n : Int} {u v : Tok} {Q : Value → Shared → Prop} (hn : 0 ≤ n) (hsz : (Builtin.Int.intBits a : Int) * n ≤ 2 ^ 27) (q : ∀ tk t', Q (.int (a ^ n.toNat) tk) (up s h t')) : wpAny (model prog w) A (binaryOp .Pow (.int a u) (.int n v)) Q E (up s h t) := PyProof.Rows.pow_int hn hsz (q _ _)
theorem u_neg {a : Int} {u : Tok} {Q : Value → Shared → Prop} (q : ∀ tk t', Q (.int (-a) tk) (up s h t')) : wpAny (model prog w) A (unaryOp .USub (.int a u)) Q E (up s h t) := PyProof.Rows.neg_int (q _ _)
theorem ia_any {op : Operator} {x : Str} {np pos : Pos} {value : Expr} {Q : Flow → Shared → Prop}
    (q : wpAny M A (loadName env x) (fun old s₁ => wpAny M A (eval value env) (fun v s₂ => wpAny M A (inplaceOp op old v) (fun new s₃ => wpAny M A (bindName env x new) (fun _ => Q .next) E s₃) E s₂) E s₁) E s) :
    wpAny M A (exec (.AugAssign (.Name x np) op value pos) env) Q E s := by
  rw [arm_exec_AugAssign]
  refine wpAny_bind (wpAny_standAt (wpAny_bind (wpAny_mono q (fun old s₁ h₁ => wpAny_bind (wpAny_holding (wpAny_mono h₁ (fun v s₂ h₂ => wpAny_bind (wpAny_standAt (wpAny_bind ?_))) fun _ _ x => x))) fun _ _ x => x)))
  exact wpAny_operating (wpAny_mono h₂ (fun new s₃ h₃ => wpAny_bind (wpAny_standAt (wpAny_bind (wpAny_mono h₃ (fun _ _ h₄ => wpAny_pure h₄) fun _ _ x => x)))) fun _ _ x => x)

/-! lists -/
theorem len_l {l : Addr} {vs : List Value} {n : Nat} {Q : Value → Shared → Prop} (hl : h.get? l = some (lst vs n)) (hfit : vs.length < 1000000) (q : ∀ tk t', Q (.int vs.length tk) (up s h t')) : wpAny (model prog w) A (call (.builtin "len") [.ref l]) Q E (up s h t) := by
  refine PyProof.Rows.len_list (s := up s h t) (items := vs.toArray) ⟨_, hl, rfl, _, rfl⟩ (by simp; omega) ?_
  have := q (t + 1) (t + 1 + 1)
  rw [show (vs.toArray.size : Int) = (vs.length : Int) by simp]
  exact this
theorem gi_l {l : Addr} {vs : List Value} {n : Nat} {k : Int} {tk : Tok} (i : Nat) {x : Value} {value slice : Expr} {Q : Value → Shared → Prop} (hl : h.get? l = some (lst vs n)) (hk : k = (i : Int)) (hx : vs[i]? = some x) (hfit : vs.length < 1000000) (q : Q x (up s h t))
    (hs : subscripted slice false (.ref l) (.int k tk) = operate [.ref l, .int k tk] (getItem (.ref l) (.int k tk))) : wpAny (model prog w) A (subscriptTail value slice (.ref l) (.int k tk)) Q E (up s h t) := by
  have hi : i < vs.length := (List.getElem?_eq_some_iff.mp hx).1
  refine tail_any (T := "list") (s := up s h t) ⟨_, hl, rfl⟩ slot_list_getitem.lookup (wpAny_getItem_list (s := up s h t) (items := vs.toArray) ⟨_, hl, rfl, _, rfl⟩ (by (clear hfit hi; lia)) (by omega) ?_ q) hs
  rw [hk]; simpa using hx
theorem gi_neg {l : Addr} {vs : List Value} {n : Nat} {tk : Tok} {x : Value} {value slice : Expr} {Q : Value → Shared → Prop} (hl : h.get? l = some (lst vs n)) (hx : vs.getLast? = some x) (hfit : vs.length < 1000000) (q : Q x (up s h t))
    (hs : subscripted slice false (.ref l) (.int (-1) tk) = operate [.ref l, .int (-1) tk] (getItem (.ref l) (.int (-1) tk))) : wpAny (model prog w) A (subscriptTail value slice (.ref l) (.int (-1) tk)) Q E (up s h t) := by
  have hne : vs ≠ [] := by intro e; subst e; simp at hx
  have hp : 0 < vs.length := List.length_pos_iff.mpr hne
  refine tail_any (T := "list") (s := up s h t) ⟨_, hl, rfl⟩ slot_list_getitem.lookup (wpAny_getItem_list_neg (s := up s h t) (items := vs.toArray) ⟨_, hl, rfl, _, rfl⟩ (by exact Int.natCast_nonneg _) (by simp; exact Int.ofNat_lt.mpr hp) (by exact Int.natCast_nonneg _) ?_ q) hs
  rw [List.getLast?_eq_getElem?] at hx
  have e : ((-1 : Int) + (vs.toArray.size : Int)).toNat = vs.length - 1 := by simp; (clear hfit hne; omega)
  rw [e]; simpa using hx
theorem gi_tup {l : Addr} {vs : List Value} {n : Nat} {k : Int} {tk : Tok} (i : Nat) {x : Value} {value slice : Expr} {Q : Value → Shared → Prop} (hl : h.get? l = some (tup vs n)) (hk : k = (i : Int)) (hx : vs[i]? = some x) (hfit : vs.length < 1000000) (q : Q x (up s h t))
    (hs : subscripted slice false (.ref l) (.int k tk) = operate [.ref l, .int k tk] (getItem (.ref l) (.int k tk))) : wpAny (model prog w) A (subscriptTail value slice (.ref l) (.int k tk)) Q E (up s h t) := by
  have hi : i < vs.length := (List.getElem?_eq_some_iff.mp hx).1
  subst hk
  refine item_tupleT (s := up s h t) (l := vs) (j := i) ⟨_, hl, rfl, _, rfl⟩ (by exact Int.natCast_nonneg _) (by omega) ?_ hx q hs
  have e1 : ¬ ((i : Int) < 0) := by (clear hfit hi; lia)
  simp [seqIndex?, e1, hi]
/-- an own list's item is stored -/
theorem si_l {l : Addr} {vs : List Value} {n : Nat} {k : Int} {tk : Tok} (i : Nat) {v : Value} {ws' : List (Addr × Obj)} {Q : Unit → Shared → Prop} (F : Fm K₀ K env gs lk ws h) (u : Upd1 ws l (lst vs n) (lst (vs.set i v) n) ws') (hk : k = (i : Int)) (hi : i < vs.length) (hfit : vs.length < 1000000)
    (q : ∀ h', Fm K₀ K env gs lk ws' h' → Q () (up s h' t)) : wpAny (model prog w) A (setItem (.ref l) (.int k tk) v) Q E (up s h t) := by
  have hl : (up s h t).heap.get? l = some (lst vs n) := F.isIn u.mem
  have hL : (up s h t).heap.IsList l vs.toArray := ⟨_, hl, rfl, _, rfl⟩
  have h0 : 0 ≤ k := by (clear hi hfit; lia)
  have hf : k < 2 ^ 63 := by omega
  unfold setItem
  try with_reducible refine wpAny_holding ?_
  first | refine wpAny_bind (wpAny_pure ?_) | skip
  refine wpAny_bind (wpAny_sequenceKey hL.typeIs (by decide) ?_)
  refine wpAny_bind (wpAny_callSpecial?_slot (name := Str.ofString "__setitem__") hL.typeIs slot_list_setitem
    (wpAny_call_entry slot_list_setitem hL.typeIs entry_list_setitem ?_ (args_list_setitem _ _ _)))
  show wpAny _ _ (Builtin.List.listSubscript? (.int k tk) >>= _) _ _ _
  refine wpAny_bind (wpAny_listSubscript_int (fitsIndex_of h0 hf) ?_)
  clear hf
  subst hk
  have hx' : vs.toArray[i]? = some (vs[i]) := by simp [hi]
  show wpAny _ _ ((seqItemAt l i >>= fun r => pure (r.map (i, ·))) >>= _) _ _ _
  refine wpAny_bind (wpAny_bind (wpAny_seqItemAt hl rfl (wpAny_pure ?_)))
  rw [hx']
  show wpAny _ _ (setSeqItemAt l i v >>= _) _ _ _
  refine wpAny_bind (wpAny_setSeqItemAt hl rfl ?_)
  have hself : (h.update l (Obj.mapSeq (·.setIfInBounds i v))).get? l = some (lst (vs.set i v) n) := by
    have := Heap.get?_update_self (h := h) (a := l) (Obj.mapSeq (·.setIfInBounds i v)) hl rfl
    rw [this]
    simp [Obj.mapSeq]
  have fin := q _ (F.upd u hself (fun b x hb e => (Heap.get?_update_other h _ (Ne.symm hb)).trans e))
  first
    | exact wpAny_bind (wpAny_pure (wpAny_pure ⟨.none, rfl, wpAny_pure fin⟩))
    | exact wpAny_pure ⟨.none, rfl, wpAny_pure fin⟩
end
end Mine
end
section
open PySem PySem.W PyProof.Rows
set_option Elab.async false
set_option maxRecDepth 100000
set_option maxHeartbeats 8000000
namespace Mine
noncomputable abbrev P : Program := PySem.Challenge.rw_nb0257_01.prog
/-- of the text the law alone -/
noncomputable def qv : Program := { P with main := { P.main with body := [stm 26] } }
noncomputable abbrev qloose : List Str := [Str.ofString "heappop", Str.ofString "heapreplace", Str.ofString "heapify", Str.ofString "_heapreplace_max", Str.ofString "_heapify_max", Str.ofString "_siftdown", Str.ofString "_siftup", Str.ofString "_siftdown_max", Str.ofString "_siftup_max", Str.ofString "nsmallest", Str.ofString "nlargest", Str.ofString "T", Str.ofString "digits", Str.ofString "generate_generalized_integer", Str.ofString "adapt", Str.ofString "generate_integers", Str.ofString "_law_rows", Str.ofString "_law_numeral", Str.ofString "_law_words", Str.ofString "_law_octets", Str.ofString "_law_ahead", Str.ofString "_law_rising", Str.ofString "_law_falling"]
/-- the def that stands at an address, but for its module -/
noncomputable def fdAt (h : Heap) (a : Addr) : Option FuncData := match (h.get? a).map Obj.data with
  | some (.func fd) => some { fd with pyModule := .none }
  | _ => none
noncomputable def cdAt (h : Heap) (a : Addr) : Option Str := match (h.get? a).map Obj.data with
  | some (.fields vs) => match (vs[1]? : Option Value) with
    | some (.str q _) => some q
    | _ => none
  | _ => none
/-- the top's defs with the two that have a default, and the law -/
noncomputable abbrev FT' : List (Addr × Nat × Addr × Value) := FT.map (fun p => (p.1, p.2.1, p.2.2, Value.none)) ++ [(83, 10, 82, .ref 78), (89, 11, 88, .ref 84), (163, 26, 162, .none)]
noncomputable def nameOf : Stmt → Str
  | .FunctionDef n .. => n
  | _ => default
/-- the law's code: its place for the codes of its lambdas is 160 -/
noncomputable def lawCode : Obj := { cls := .type "code", data := .fields #[.str (Str.ofString "law") 405, .str (Str.ofString "law") 406, .str (Str.ofString "/claim/cut.py") 407, .int 268 0, .int 1 0, .int 0 0, .int 0 0, .int 3 0, .ref 159, .bool true, .int 181 0, .ref 160, .none, .none, .none, .ref 161, .int 408 0, .int 268 0, .str (Str.ofString "/claim/cut.py") 409] }
noncomputable def oneNone : Obj := { cls := .type "tuple", data := .seq #[.none] }
noncomputable def goodT := (FT'.map (fun p => some (fdOf (stm p.2.1) p.2.2.2 (.ref p.2.2.1) .none)), FT'.map (fun p => some (nameOf (stm p.2.1))), GT.map (fun p => some p.2), BT.map (fun _ => (none : Option Value)), BT.map (fun p => some p.2), [some oneNone, some oneNone, some (tabObj #[]), some lawCode], some (Value.ref 163))
noncomputable def seenT (s : Shared) := (FT'.map (fun p => fdAt s.heap p.1), FT'.map (fun p => cdAt s.heap p.2.2.1), GT.map (fun p => s.heap.nsMap mainGlobals p.1), BT.map (fun p => s.heap.nsMap mainGlobals p.1), BT.map (fun p => s.heap.nsMap builtinsNs p.1), [s.heap.get? 78, s.heap.get? 84, s.heap.get? 160, s.heap.get? 162], s.heap.nsMap mainGlobals (Str.ofString "law"))
theorem left : LeftO P qv qloose (fun _ => true) seenT (fun _ => goodT) 1618 := fun w => by kernel_rfl
end Mine
end
section
open PySem PySem.W PyProof.Rows
set_option Elab.async false
set_option maxRecDepth 100000
set_option linter.unusedVariables false
namespace Mine
abbrev kNo : Value → Shared → Prop := fun _ _ => False
/-- a loop's body: what it must end in -/
abbrev kLoop (s : Shared) (Q : Flow → Shared → Prop) (I : Nat → Heap → Prop) (n : Nat) : Flow → Shared → Prop := fun f s₃ => match f with
  | .next | .cont => ∃ m h' t', s₃ = up s h' t' ∧ m < n ∧ I m h'
  | .brk => Q .next s₃
  | .ret v => Q (.ret v) s₃
/-! What comes next, under a name: a proof term then holds a short row in place of the whole program behind. -/
section
variable {α : Type} (prog : Program) (w : World) (M : Model) (A : Around) (env : Env)
abbrev kNext (Q : Flow → Shared → Prop) : α → Shared → Prop := fun _ => Q .next
abbrev kRet (Q : Flow → Shared → Prop) : Value → Shared → Prop := fun v => Q (.ret v)
abbrev kSeq (rest : List Stmt) (Q : Flow → Shared → Prop) (E : Value → Shared → Prop) : Flow → Shared → Prop := fun f s' => match f with | .next => wpAny M A (execs rest env) Q E s' | f => Q f s'
abbrev kBin2 (op : Operator) (Q : Value → Shared → Prop) (E : Value → Shared → Prop) (a : Value) : Value → Shared → Prop := fun b s₂ => wpAny M A (binaryOp op a b) Q E s₂
abbrev kBin (op : Operator) (r : Expr) (Q : Value → Shared → Prop) (E : Value → Shared → Prop) : Value → Shared → Prop := fun a s₁ => wpAny M A (eval r env) (kBin2 M A op Q E a) E s₁
abbrev kCall (pos : Pos) (args : List Expr) (Q : Value → Shared → Prop) (E : Value → Shared → Prop) : Value → Shared → Prop := fun f s₁ => wpAny M A (callWith pos f [] (backTo pos (starEach args env)) []) Q E s₁
abbrev kArgs (f : Value) (Q : Value → Shared → Prop) (E : Value → Shared → Prop) : List Value → Shared → Prop := fun vs s₁ => wpAny M A (call f vs) Q E s₁
abbrev kArgsF (K₀ : KMap) (f : Value) (Q : Value → Shared → Prop) (E : Value → Shared → Prop) : List Value → Shared → Prop := fun vs s₁ => Sub K₀ s₁.heap ∧ wpAny M A (call f vs) Q E s₁
abbrev kCons (Q : List Value → Shared → Prop) (v : Value) : List Value → Shared → Prop := fun vs s₂ => Q (v :: vs) s₂
abbrev kMore (pos : Pos) (rest : List Expr) (Q : List Value → Shared → Prop) (E : Value → Shared → Prop) : Value → Shared → Prop := fun v s₁ => wpAny M A (spliced (backTo pos (starEach rest env))) (kCons Q v) E s₁
abbrev kMeth (name : Str) (pos : Pos) (args : List (Bool × Sem Value)) (Q : Value → Shared → Prop) (E : Value → Shared → Prop) : Value → Shared → Prop := fun ov s₁ => MethodOn prog w A name pos ov args Q E s₁
abbrev kTru (Q : Bool → Shared → Prop) (E : Value → Shared → Prop) : Value → Shared → Prop := fun v s₁ => wpAny M A (truthy v) Q E s₁
abbrev kAnd (rest : List Expr) (Q : Bool → Shared → Prop) (E : Value → Shared → Prop) : Bool → Shared → Prop := fun b s₁ => if b = true then wpAny M A (allTrue BoolOp.And rest env) Q E s₁ else Q false s₁
abbrev kNot (Q : Bool → Shared → Prop) : Bool → Shared → Prop := fun b s₁ => Q (!b) s₁
abbrev kStore (x : Str) (Q : Flow → Shared → Prop) (E : Value → Shared → Prop) : Value → Shared → Prop := fun v s₁ => wpAny M A (storeName env x v) (kNext Q) E s₁
abbrev kSet3 (v ov : Value) (Q : Flow → Shared → Prop) (E : Value → Shared → Prop) : Value → Shared → Prop := fun iv s₃ => wpAny M A (setItem ov iv v) (kNext Q) E s₃
abbrev kSet2 (i : Expr) (v : Value) (Q : Flow → Shared → Prop) (E : Value → Shared → Prop) : Value → Shared → Prop := fun ov s₂ => wpAny M A (eval i env) (kSet3 M A v ov Q E) E s₂
abbrev kSet1 (o i : Expr) (Q : Flow → Shared → Prop) (E : Value → Shared → Prop) : Value → Shared → Prop := fun v s₁ => wpAny M A (eval o env) (kSet2 M A env i v Q E) E s₁
abbrev kIf (body orelse : List Stmt) (Q : Flow → Shared → Prop) (E : Value → Shared → Prop) : Bool → Shared → Prop := fun b s₂ => if b = true then wpAny M A (execs body env) Q E s₂ else wpAny M A (execs orelse env) Q E s₂
abbrev kIfE (body orelse : Expr) (Q : Value → Shared → Prop) (E : Value → Shared → Prop) : Bool → Shared → Prop := fun b s₂ => if b = true then wpAny M A (eval body env) Q E s₂ else wpAny M A (eval orelse env) Q E s₂
abbrev kSub2 (value slice : Expr) (Q : Value → Shared → Prop) (E : Value → Shared → Prop) (o : Value) : Value → Shared → Prop := fun i s₂ => wpAny M A (subscriptTail value slice o i) Q E s₂
abbrev kSub1 (value slice : Expr) (Q : Value → Shared → Prop) (E : Value → Shared → Prop) : Value → Shared → Prop := fun o s₁ => wpAny M A (eval slice env) (kSub2 M A value slice Q E o) E s₁
abbrev kCmp2 (op : CmpOp) (Q : Value → Shared → Prop) (E : Value → Shared → Prop) (a : Value) : Value → Shared → Prop := fun b s₂ => wpAny M A (compareOp op a b) Q E s₂
abbrev kCmp (op : CmpOp) (r : Expr) (Q : Value → Shared → Prop) (E : Value → Shared → Prop) : Value → Shared → Prop := fun a s₁ => wpAny M A (eval r env) (kCmp2 M A op Q E a) E s₁
abbrev kUn (op : UnaryOp) (Q : Value → Shared → Prop) (E : Value → Shared → Prop) : Value → Shared → Prop := fun v s₁ => wpAny M A (unaryOp op v) Q E s₁
abbrev kAug3 (x : Str) (Q : Flow → Shared → Prop) (E : Value → Shared → Prop) : Value → Shared → Prop := fun new s₃ => wpAny M A (bindName env x new) (kNext Q) E s₃
abbrev kAug2 (op : Operator) (x : Str) (Q : Flow → Shared → Prop) (E : Value → Shared → Prop) (old : Value) : Value → Shared → Prop := fun v s₂ => wpAny M A (inplaceOp op old v) (kAug3 M A env x Q E) E s₂
abbrev kAug (op : Operator) (x : Str) (value : Expr) (Q : Flow → Shared → Prop) (E : Value → Shared → Prop) : Value → Shared → Prop := fun old s₁ => wpAny M A (eval value env) (kAug2 M A env op x Q E old) E s₁
end
section
variable {prog : Program} {w : World} {M : Model} {A : Around} {E : Value → Shared → Prop} {s : Shared} {K₀ : KMap} {env : Env}
theorem K_seq {st : Stmt} {rest : List Stmt} {Q : Flow → Shared → Prop} (k : wpAny M A (exec st env) (kSeq M A env rest Q E) E s) : wpAny M A (execs (st :: rest) env) Q E s := wpAny_execs_cons k
theorem K_BinOp {l : Expr} {op : Operator} {r : Expr} {pos : Pos} {Q : Value → Shared → Prop} (k : wpAny M A (eval l env) (kBin M A env op r Q E) E s) : wpAny M A (eval (.BinOp l op r pos) env) Q E s := wpAny_BinOp k
theorem K_Call {id : Str} {p pos : Pos} {args : List Expr} {Q : Value → Shared → Prop} (k : wpAny M A (eval (.Name id p) env) (kCall M A env pos args Q E) E s) : wpAny M A (eval (.Call (.Name id p) args [] pos) env) Q E s := wpAny_Call_NameR k
theorem K_callB {pos : Pos} {id : String} {e : Expr} {rest : List Expr} {Q : Value → Shared → Prop} (k : wpAny M A (spliced (backTo pos (starEach (e :: rest) env))) (kArgs M A (.builtin id) Q E) E s)
    (h1 : starEach (e :: rest) env = (false, eval e env) :: starEach rest env := by rfl) (h2 : (backTo pos (starEach rest env)).any (·.1) = false := by rfl) : wpAny M A (callWith pos (.builtin id) [] (backTo pos (starEach (e :: rest) env)) []) Q E s := PyProof.Rows.callWith_builtin1 k h1 h2
theorem K_callT {pos : Pos} {T : String} {e : Expr} {rest : List Expr} {Q : Value → Shared → Prop} (k : wpAny M A (spliced (backTo pos (starEach (e :: rest) env))) (kArgs M A (.type T) Q E) E s)
    (h1 : starEach (e :: rest) env = (false, eval e env) :: starEach rest env := by rfl) (h2 : (backTo pos (starEach rest env)).any (·.1) = false := by rfl) : wpAny M A (callWith pos (.type T) [] (backTo pos (starEach (e :: rest) env)) []) Q E s := PyProof.Rows.callWith_type1 k h1 h2
theorem K_callf {fa : Addr} {i : Nat} {cd : Addr} {pos : Pos} {e : Expr} {rest : List Expr} {Q : Value → Shared → Prop} (hB : Base K₀) (hm : (fa, i, cd) ∈ FT)
    (k : wpAny M A (spliced (backTo pos (starEach (e :: rest) env))) (kArgsF M A K₀ (.ref fa) Q E) E s)
    (he : starEach (e :: rest) env = (false, eval e env) :: starEach rest env := by rfl) : wpAny M A (callWith pos (.ref fa) [] (backTo pos (starEach (e :: rest) env)) []) Q E s := callf hB hm k he
theorem K_more {e : Expr} {rest : List Expr} {pos : Pos} {Q : List Value → Shared → Prop} (k : wpAny M A (eval e env) (kMore M A env pos rest Q E) E s)
    (he : starEach (e :: rest) env = (false, eval e env) :: starEach rest env := by rfl) : wpAny M A (spliced (backTo pos (starEach (e :: rest) env))) Q E s := spliced_more k he
theorem K_meth0 {o : Expr} {name : Str} {apos pos : Pos} {Q : Value → Shared → Prop} (h1 : attributeBase o name env (eval o env) = eval o env) (h2 : (apos.endLine == pos.line) = true)
    (k : wpAny (model prog w) A (eval o env) (kMeth prog w A name pos [] Q E) E s) : wpAny (model prog w) A (eval (.Call (.Attribute o name apos) [] [] pos) env) Q E s := wpAny_Call_method0_late h1 h2 k
theorem K_meth1 {o e : Expr} {name : Str} {apos pos : Pos} {Q : Value → Shared → Prop} (h1 : attributeBase o name env (eval o env) = eval o env) (h2 : (apos.endLine == pos.line) = true)
    (h3 : backTo pos (starEach [e] env) = [(false, eval e env)]) (k : wpAny (model prog w) A (eval o env) (kMeth prog w A name pos [(false, eval e env)] Q E) E s) : wpAny (model prog w) A (eval (.Call (.Attribute o name apos) [e] [] pos) env) Q E s := wpAny_Call_method1_late h1 h2 h3 k
theorem K_value {e : Expr} {whole : Sem Value} {Q : Bool → Shared → Prop} (k : wpAny M A whole (kTru M A Q E) E s)
    (h1 : PySem.isTrue e env whole = (do let v ← whole; standAt e.pos; holding [v] (truthy v)) := by rfl) : wpAny M A (PySem.isTrue e env whole) Q E s := wpAny_isTrue_value k h1
theorem K_and {x : Expr} {rest : List Expr} {Q : Bool → Shared → Prop} (k : wpAny M A (PySem.isTrue x env (eval x env)) (kAnd M A env rest Q E) E s) : wpAny M A (allTrue BoolOp.And (x :: rest) env) Q E s := wpAny_allTrue_And_cons k
theorem K_not {x : Expr} {pos : Pos} {whole : Sem Value} {Q : Bool → Shared → Prop} (k : wpAny M A (PySem.isTrue x env (eval x env)) (kNot Q) E s) : wpAny M A (PySem.isTrue (.UnaryOp .Not x pos) env whole) Q E s := wpAny_isTrue_Not k
theorem K_Expr {e : Expr} {pos : Pos} {Q : Flow → Shared → Prop} (k : wpAny (model prog w) A (eval e env) (kNext Q) E s) (hi : interactive env = false) (hs : swapsWith e none pos.line env = pure false := by rfl) : wpAny (model prog w) A (exec (.Expr e pos) env) Q E s := wpAny_Expr_any k hi hs
theorem K_Assign {x : Str} {pos' : Pos} {value : Expr} {pos : Pos} {Q : Flow → Shared → Prop} (k : wpAny M A (eval value env) (kStore M A env x Q E) E s)
    (hs : swapsWith value (some (.Name x pos')) pos.line env = pure false := by rfl) : wpAny M A (exec (.Assign [.Name x pos'] value pos) env) Q E s := wpAny_Assign_Name k hs
theorem K_AssignS {o i : Expr} {pos' : Pos} {value : Expr} {pos : Pos} {Q : Flow → Shared → Prop} (k : wpAny M A (eval value env) (kSet1 M A env o i Q E) E s)
    (hs : swapsWith value (some (.Subscript o i pos')) pos.line env = pure false := by rfl) : wpAny M A (exec (.Assign [.Subscript o i pos'] value pos) env) Q E s := wpAny_Assign_Subscript k hs
theorem K_Return {e : Expr} {pos : Pos} {Q : Flow → Shared → Prop} (k : wpAny M A (eval e env) (kRet Q) E s) : wpAny M A (exec (.Return (some e) pos) env) Q E s := wpAny_Return_some k
theorem K_If {test : Expr} {body orelse : List Stmt} {pos : Pos} {Q : Flow → Shared → Prop} (k : wpAny M A (PySem.isTrue test env (eval test env)) (kIf M A env body orelse Q E) E s) : wpAny M A (exec (.If test body orelse pos) env) Q E s := wpAny_If k
theorem K_Sub {value slice : Expr} {pos : Pos} {Q : Value → Shared → Prop} (k : wpAny M A (eval value env) (kSub1 M A env value slice Q E) E s) : wpAny M A (eval (.Subscript value slice pos) env) Q E s := Subscript_ k
theorem K_tcmp {l : Expr} {op : CmpOp} {r : Expr} {pos : Pos} {whole : Sem Value} {Q : Bool → Shared → Prop} (k : wpAny M A (eval l env) (kCmp M A env op r (kTru M A Q E) E) E s) (h : behindInMarks op r = false := by rfl) : wpAny M A (PySem.isTrue (.Compare l [op] [r] pos) env whole) Q E s := wpAny_isTrue_Compare1 k h
theorem K_cmp {l : Expr} {op : CmpOp} {r : Expr} {pos : Pos} {Q : Value → Shared → Prop} (k : wpAny M A (eval l env) (kCmp M A env op r Q E) E s) (h : behindInMarks op r = false := by rfl) : wpAny M A (eval (.Compare l [op] [r] pos) env) Q E s := wpAny_Compare1 k h
theorem K_IfExp {test body orelse : Expr} {pos : Pos} {Q : Value → Shared → Prop} (k : wpAny M A (PySem.isTrue test env (eval test env)) (kIfE M A env body orelse Q E) E s) : wpAny M A (eval (.IfExp test body orelse pos) env) Q E s := wpAny_IfExp k
theorem K_UnaryOp {op : UnaryOp} {x : Expr} {pos : Pos} {Q : Value → Shared → Prop} (k : wpAny M A (eval x env) (kUn M A op Q E) E s) : wpAny M A (eval (.UnaryOp op x pos) env) Q E s := wpAny_UnaryOp k
theorem K_aug {op : Operator} {x : Str} {np pos : Pos} {value : Expr} {Q : Flow → Shared → Prop} (k : wpAny M A (loadName env x) (kAug M A env op x value Q E) E s) : wpAny M A (exec (.AugAssign (.Name x np) op value pos) env) Q E s := ia_any k
end
/-! where a thing stands in a list, at once -/
section
variable {α : Type} {a b0 b1 b2 b3 b4 b5 b6 b7 b8 b9 b10 b11 b12 : α} {l : List α}
theorem m1 : a ∈ b0 :: a :: l := List.mem_cons_of_mem _ (List.mem_cons_self)
theorem m2 : a ∈ b0 :: b1 :: a :: l := List.mem_cons_of_mem _ (List.mem_cons_of_mem _ (List.mem_cons_self))
theorem m3 : a ∈ b0 :: b1 :: b2 :: a :: l := List.mem_cons_of_mem _ (List.mem_cons_of_mem _ (List.mem_cons_of_mem _ (List.mem_cons_self)))
theorem m4 : a ∈ b0 :: b1 :: b2 :: b3 :: a :: l := List.mem_cons_of_mem _ (List.mem_cons_of_mem _ (List.mem_cons_of_mem _ (List.mem_cons_of_mem _ (List.mem_cons_self))))
theorem m5 : a ∈ b0 :: b1 :: b2 :: b3 :: b4 :: a :: l := List.mem_cons_of_mem _ (List.mem_cons_of_mem _ (List.mem_cons_of_mem _ (List.mem_cons_of_mem _ (List.mem_cons_of_mem _ (List.mem_cons_self)))))
theorem m6 : a ∈ b0 :: b1 :: b2 :: b3 :: b4 :: b5 :: a :: l := List.mem_cons_of_mem _ (List.mem_cons_of_mem _ (List.mem_cons_of_mem _ (List.mem_cons_of_mem _ (List.mem_cons_of_mem _ (List.mem_cons_of_mem _ (List.mem_cons_self))))))
theorem m7 : a ∈ b0 :: b1 :: b2 :: b3 :: b4 :: b5 :: b6 :: a :: l := List.mem_cons_of_mem _ (List.mem_cons_of_mem _ (List.mem_cons_of_mem _ (List.mem_cons_of_mem _ (List.mem_cons_of_mem _ (List.mem_cons_of_mem _ (List.mem_cons_of_mem _ (List.mem_cons_self)))))))
theorem m8 : a ∈ b0 :: b1 :: b2 :: b3 :: b4 :: b5 :: b6 :: b7 :: a :: l := List.mem_cons_of_mem _ (List.mem_cons_of_mem _ (List.mem_cons_of_mem _ (List.mem_cons_of_mem _ (List.mem_cons_of_mem _ (List.mem_cons_of_mem _ (List.mem_cons_of_mem _ (List.mem_cons_of_mem _ (List.mem_cons_self))))))))
theorem m9 : a ∈ b0 :: b1 :: b2 :: b3 :: b4 :: b5 :: b6 :: b7 :: b8 :: a :: l := List.mem_cons_of_mem _ (List.mem_cons_of_mem _ (List.mem_cons_of_mem _ (List.mem_cons_of_mem _ (List.mem_cons_of_mem _ (List.mem_cons_of_mem _ (List.mem_cons_of_mem _ (List.mem_cons_of_mem _ (List.mem_cons_of_mem _ (List.mem_cons_self)))))))))
theorem m10 : a ∈ b0 :: b1 :: b2 :: b3 :: b4 :: b5 :: b6 :: b7 :: b8 :: b9 :: a :: l := List.mem_cons_of_mem _ (List.mem_cons_of_mem _ (List.mem_cons_of_mem _ (List.mem_cons_of_mem _ (List.mem_cons_of_mem _ (List.mem_cons_of_mem _ (List.mem_cons_of_mem _ (List.mem_cons_of_mem _ (List.mem_cons_of_mem _ (List.mem_cons_of_mem _ (List.mem_cons_self))))))))))
theorem m11 : a ∈ b0 :: b1 :: b2 :: b3 :: b4 :: b5 :: b6 :: b7 :: b8 :: b9 :: b10 :: a :: l := List.mem_cons_of_mem _ (List.mem_cons_of_mem _ (List.mem_cons_of_mem _ (List.mem_cons_of_mem _ (List.mem_cons_of_mem _ (List.mem_cons_of_mem _ (List.mem_cons_of_mem _ (List.mem_cons_of_mem _ (List.mem_cons_of_mem _ (List.mem_cons_of_mem _ (List.mem_cons_of_mem _ (List.mem_cons_self)))))))))))
theorem m12 : a ∈ b0 :: b1 :: b2 :: b3 :: b4 :: b5 :: b6 :: b7 :: b8 :: b9 :: b10 :: b11 :: a :: l := List.mem_cons_of_mem _ (List.mem_cons_of_mem _ (List.mem_cons_of_mem _ (List.mem_cons_of_mem _ (List.mem_cons_of_mem _ (List.mem_cons_of_mem _ (List.mem_cons_of_mem _ (List.mem_cons_of_mem _ (List.mem_cons_of_mem _ (List.mem_cons_of_mem _ (List.mem_cons_of_mem _ (List.mem_cons_of_mem _ (List.mem_cons_self))))))))))))
end
section
variable {b0 b1 b2 b3 b4 b5 b6 b7 b8 b9 b10 b11 b12 : Var} {x : Str} {c : Option Addr} {v' : Option Value} {v : Value} {r : List Var}
theorem p1 : Put (b0 :: (x, c, v') :: r) x v (b0 :: (x, c, some v) :: r) := .tail (.head)
theorem p2 : Put (b0 :: b1 :: (x, c, v') :: r) x v (b0 :: b1 :: (x, c, some v) :: r) := .tail (.tail (.head))
theorem p3 : Put (b0 :: b1 :: b2 :: (x, c, v') :: r) x v (b0 :: b1 :: b2 :: (x, c, some v) :: r) := .tail (.tail (.tail (.head)))
theorem p4 : Put (b0 :: b1 :: b2 :: b3 :: (x, c, v') :: r) x v (b0 :: b1 :: b2 :: b3 :: (x, c, some v) :: r) := .tail (.tail (.tail (.tail (.head))))
theorem p5 : Put (b0 :: b1 :: b2 :: b3 :: b4 :: (x, c, v') :: r) x v (b0 :: b1 :: b2 :: b3 :: b4 :: (x, c, some v) :: r) := .tail (.tail (.tail (.tail (.tail (.head)))))
theorem p6 : Put (b0 :: b1 :: b2 :: b3 :: b4 :: b5 :: (x, c, v') :: r) x v (b0 :: b1 :: b2 :: b3 :: b4 :: b5 :: (x, c, some v) :: r) := .tail (.tail (.tail (.tail (.tail (.tail (.head))))))
theorem p7 : Put (b0 :: b1 :: b2 :: b3 :: b4 :: b5 :: b6 :: (x, c, v') :: r) x v (b0 :: b1 :: b2 :: b3 :: b4 :: b5 :: b6 :: (x, c, some v) :: r) := .tail (.tail (.tail (.tail (.tail (.tail (.tail (.head)))))))
theorem p8 : Put (b0 :: b1 :: b2 :: b3 :: b4 :: b5 :: b6 :: b7 :: (x, c, v') :: r) x v (b0 :: b1 :: b2 :: b3 :: b4 :: b5 :: b6 :: b7 :: (x, c, some v) :: r) := .tail (.tail (.tail (.tail (.tail (.tail (.tail (.tail (.head))))))))
theorem p9 : Put (b0 :: b1 :: b2 :: b3 :: b4 :: b5 :: b6 :: b7 :: b8 :: (x, c, v') :: r) x v (b0 :: b1 :: b2 :: b3 :: b4 :: b5 :: b6 :: b7 :: b8 :: (x, c, some v) :: r) := .tail (.tail (.tail (.tail (.tail (.tail (.tail (.tail (.tail (.head)))))))))
theorem p10 : Put (b0 :: b1 :: b2 :: b3 :: b4 :: b5 :: b6 :: b7 :: b8 :: b9 :: (x, c, v') :: r) x v (b0 :: b1 :: b2 :: b3 :: b4 :: b5 :: b6 :: b7 :: b8 :: b9 :: (x, c, some v) :: r) := .tail (.tail (.tail (.tail (.tail (.tail (.tail (.tail (.tail (.tail (.head))))))))))
theorem p11 : Put (b0 :: b1 :: b2 :: b3 :: b4 :: b5 :: b6 :: b7 :: b8 :: b9 :: b10 :: (x, c, v') :: r) x v (b0 :: b1 :: b2 :: b3 :: b4 :: b5 :: b6 :: b7 :: b8 :: b9 :: b10 :: (x, c, some v) :: r) := .tail (.tail (.tail (.tail (.tail (.tail (.tail (.tail (.tail (.tail (.tail (.head)))))))))))
theorem p12 : Put (b0 :: b1 :: b2 :: b3 :: b4 :: b5 :: b6 :: b7 :: b8 :: b9 :: b10 :: b11 :: (x, c, v') :: r) x v (b0 :: b1 :: b2 :: b3 :: b4 :: b5 :: b6 :: b7 :: b8 :: b9 :: b10 :: b11 :: (x, c, some v) :: r) := .tail (.tail (.tail (.tail (.tail (.tail (.tail (.tail (.tail (.tail (.tail (.tail (.head))))))))))))
end
end Mine
end
section
open PySem PySem.W PyProof.Rows
set_option Elab.async false
set_option maxRecDepth 100000
namespace Mine

noncomputable abbrev vr (x : String) (v : Value) : Var := (Str.ofString x, none, some v)
noncomputable abbrev nv (x : String) : Var := (Str.ofString x, none, none)
noncomputable abbrev vc (x : String) (c : Addr) (v : Value) : Var := (Str.ofString x, some c, some v)

structure Room (A : Around) (n : Nat) : Prop where
  hd : A.handled = none
  dep : A.depth + n < recursionLimit
  un : A.units + 10 * n < cLine
  gd : A.guards = some []
theorem Room.deeper {A : Around} {n m : Nat} {env : Env} (r : Room A n) (hm : m < n) : Room (A.deeper env) m :=
  ⟨r.hd, by have := r.dep; show A.depth + 1 + m < _; lia, by have := r.un; show A.units + 3 + 10 * m < _; lia, r.gd⟩
theorem Room.in1 {A : Around} {n m : Nat} (r : Room A n) (hm : m < n) : Room A.in1 m :=
  ⟨r.hd, by have := r.dep; show A.depth + m < _; omega, by have := r.un; show A.units + 1 + 10 * m < _; lia, r.gd⟩
theorem Room.less {A : Around} {n m : Nat} (r : Room A n) (hm : m ≤ n) : Room A m :=
  ⟨r.hd, by have := r.dep; omega, by have := r.un; lia, r.gd⟩
theorem Room.depth {A : Around} {n : Nat} (r : Room A n) : A.depth < recursionLimit := by have := r.dep; omega
theorem Room.units {A : Around} {n : Nat} (r : Room A n) : A.units < cLine := by have := r.un; lia

section
variable {prog : Program} {w : World} {M : Model} {A : Around} {E : Value → Shared → Prop} {s : Shared} {t : Nat} {env : Env} {h : Heap}

abbrev kWh (M : Model) (A : Around) (env : Env) (body : List Stmt) (B : Flow → Shared → Prop) (D : Shared → Prop) : Bool → Shared → Prop := fun b s₂ => if b = true then wpAny M A (execs body env) B kNo s₂ else D s₂
theorem while_ {test : Expr} {body : List Stmt} {pos : Pos} {Q : Flow → Shared → Prop} (I : Nat → Heap → Prop) (n : Nat) (hI : I n h)
    (turn : ∀ n h t, ∀ B : Flow → Shared → Prop, (∀ f s₃, kLoop s Q I n f s₃ → B f s₃) → ∀ D : Shared → Prop, (∀ s', Q .next s' → D s') → I n h → wpAny (model prog w) A (isTrue test env (eval test env)) (kWh (model prog w) A env body B D) kNo (up s h t)) :
    wpAny (model prog w) A (exec (.While test body [] pos) env) Q E (up s h t) := by
  refine wpAny_While (codeAny_whileLoop (fun n s' => ∃ h t, s' = up s h t ∧ I n h) (fun n s' hs' => ?_) n ⟨h, t, rfl, hI⟩)
  obtain ⟨h1, t1, rfl, hI1⟩ := hs'
  refine wpAny_mono (turn n h1 t1 _ (fun _ _ x => x) _ (fun _ x => x) hI1) (fun b s₂ hb => ?_) fun _ _ x => x.elim
  unfold kWh at hb
  cases b with
  | true =>
    rw [if_pos rfl] at hb ⊢
    refine wpAny_mono hb (fun f s₃ hf => ?_) fun _ _ x => x.elim
    cases f with
    | next => obtain ⟨m, h', t', e, hm, hi⟩ := hf; exact ⟨m, hm, h', t', e, hi⟩
    | cont => obtain ⟨m, h', t', e, hm, hi⟩ := hf; exact ⟨m, hm, h', t', e, hi⟩
    | brk => exact hf
    | ret v => exact hf
  | false =>
    rw [if_neg (by decide)] at hb ⊢
    exact wpAny_execs_nil hb
end

/-- a statement whose ways meet -/
theorem cut {prog : Program} {w : World} {A : Around} {E : Value → Shared → Prop} {s : Shared} {t : Nat} {env : Env} {h : Heap} {st : Stmt} {rest : List Stmt} {Q : Flow → Shared → Prop} (P : Heap → Prop)
    (a : wpAny (model prog w) A (exec st env) (fun f s' => f = .next ∧ ∃ h t, s' = up s h t ∧ P h) (fun _ _ => False) (up s h t))
    (b : ∀ h t, P h → wpAny (model prog w) A (execs rest env) Q E (up s h t)) : wpAny (model prog w) A (execs (st :: rest) env) Q E (up s h t) := by
  refine wpAny_execs_cons (wpAny_mono a (fun f s' hf => ?_) fun _ _ x => x.elim)
  obtain ⟨rfl, h1, t1, rfl, hp⟩ := hf
  exact b h1 t1 hp

/-- a comparison «v < w» comes out as b -/
def CmpOk (prog : Program) (w : World) (K : KMap) (x y : Value) (b : Bool) : Prop :=
  ∀ (A : Around) (Q : Value → Shared → Prop) (E : Value → Shared → Prop) (s : Shared) (h : Heap) (t : Nat), Room A 30 → Sub K h → (∀ h' t', Keeps h h' → Q (.bool b) (up s h' t')) → wpAny (model prog w) A (compareOp .Lt x y) Q E (up s h t)

noncomputable def siftdown {α : Type} [Inhabited α] (lt : α → α → Bool) (new : α) (start : Nat) (xs : List α) (pos : Nat) : List α :=
  if pos > start then
    if lt new (xs.getD ((pos - 1) / 2) default) then siftdown lt new start (xs.set pos (xs.getD ((pos - 1) / 2) default)) ((pos - 1) / 2) else xs.set pos new
  else xs.set pos new
termination_by pos
decreasing_by omega

theorem siftdown_eq {α : Type} [Inhabited α] (lt : α → α → Bool) (new : α) (start : Nat) (xs : List α) (pos : Nat) : siftdown lt new start xs pos =
  if pos > start then
    if lt new (xs.getD ((pos - 1) / 2) default) then siftdown lt new start (xs.set pos (xs.getD ((pos - 1) / 2) default)) ((pos - 1) / 2) else xs.set pos new
  else xs.set pos new := by rw [siftdown]
/-- where a hole sinks to -/
noncomputable def siftupPos {α : Type} [Inhabited α] (lt : α → α → Bool) (xs : List α) (pos : Nat) : List α × Nat :=
  if 2 * pos + 1 < xs.length then
    let c := if 2 * pos + 2 < xs.length ∧ lt (xs.getD (2 * pos + 1) default) (xs.getD (2 * pos + 2) default) = false then 2 * pos + 2 else 2 * pos + 1
    siftupPos lt (xs.set pos (xs.getD c default)) c
  else (xs, pos)
termination_by xs.length - pos
decreasing_by
  simp only [List.length_set]
  split <;> omega
theorem siftupPos_eq {α : Type} [Inhabited α] (lt : α → α → Bool) (xs : List α) (pos : Nat) : siftupPos lt xs pos =
  if 2 * pos + 1 < xs.length then
    siftupPos lt (xs.set pos (xs.getD (if 2 * pos + 2 < xs.length ∧ lt (xs.getD (2 * pos + 1) default) (xs.getD (2 * pos + 2) default) = false then 2 * pos + 2 else 2 * pos + 1) default))
      (if 2 * pos + 2 < xs.length ∧ lt (xs.getD (2 * pos + 1) default) (xs.getD (2 * pos + 2) default) = false then 2 * pos + 2 else 2 * pos + 1)
  else (xs, pos) := by rw [siftupPos]
noncomputable def siftup {α : Type} [Inhabited α] (lt : α → α → Bool) (xs : List α) (pos : Nat) : List α :=
  siftdown lt (xs.getD pos default) pos ((siftupPos lt xs pos).1.set (siftupPos lt xs pos).2 (xs.getD pos default)) (siftupPos lt xs pos).2
end Mine
end
section
open PySem PySem.W PyProof.Rows
set_option Elab.async false
set_option maxRecDepth 100000
set_option linter.unusedVariables false
namespace Mine

noncomputable abbrev rgo (a b c : Int) (t u v : Tok) : Obj := { cls := .type "range", data := .fields #[.int a t, .int b u, .int c v] }
noncomputable abbrev rit (x left step : Int) : Obj := { cls := .type "range_iterator", data := .fields #[rawInt x, rawInt left, rawInt step] }
/-- a list's iterator, at a place -/
def IsLI (o : Obj) (l : Addr) (i : Nat) : Prop := o.cls = .type "list_iterator" ∧ o.data = .fields #[.ref l, .int i 0]

section
variable {K₀ K : KMap} {env : Env} {gs : List Str} {lk : List Var} {ws : List (Addr × Obj)} {h h' : Heap}
theorem Fm.extBut {a : Addr} {o : Obj} (F : Fm K₀ K env gs lk ((a, o) :: ws) h) (hs : Heap.ExtBut a h h') : Fm K₀ K env gs lk ws h' := by
  have hne : ∀ b ∈ env.locals :: (cellsOf lk ++ ws).map (·.1), b ≠ a := by
    have hperm : (env.locals :: (cellsOf lk ++ (a, o) :: ws).map (·.1)).Perm (a :: env.locals :: (cellsOf lk ++ ws).map (·.1)) := by
      simp only [List.map_append, List.map_cons]
      exact ((List.perm_middle (a := a) (l₁ := env.locals :: (cellsOf lk).map (·.1)) (l₂ := ws.map (·.1))))
    have := (List.nodup_cons.mp (hperm.nodup_iff.mp F.apart)).1
    exact fun b hb e => this (e ▸ hb)
  have Ka : K a = none := (F.own (a, o) (List.mem_append_right _ (.head _))).2
  have F1 := F.drop (ws' := ws) (List.sublist_cons_self _ _)
  refine { F1 with nsp := F1.nsp.extBut hs (hne _ (.head _)), kept := fun b x e => hs b x (fun q => by rw [q, Ka] at e; cases e) (F1.kept b x e), own := fun p hp => ⟨hs _ _ (hne _ (.tail _ (List.mem_map_of_mem hp))) (F1.own p hp).1, (F1.own p hp).2⟩ }
theorem Fm.push (F : Fm K₀ K env gs lk ws h) (o : Obj) (hfree : o.isFreed = false := by rfl) : Fm K₀ K env gs lk ((h.objs.size, o) :: ws) (h.push o) :=
  F.newObj (Keeps.push h o) (Heap.get?_push_size h hfree) (by
    cases e : h.get? h.objs.size with
    | none => rfl
    | some o => exact absurd (Heap.lt_size e) (Nat.lt_irrefl _))
end

section
variable {prog : Program} {w : World} {M : Model} {A : Around} {E : Value → Shared → Prop} {s : Shared} {t : Nat} {K₀ K : KMap} {env : Env} {gs : List Str} {lk : List Var} {ws ws' : List (Addr × Obj)} {h : Heap}

/-! methods of lists -/
theorem meth_list {name : Str} {id : String} {pos : Pos} {l : Addr} {vs : List Value} {n : Nat} {trees : List (Bool × Sem Value)} {Q : Value → Shared → Prop} (slot : Slot "list" name id) (hty : typeOf (.builtin id) = pure (.type "method_descriptor"))
    (hl : h.get? l = some (lst vs n)) (k : wpAny (model prog w) A (callWith pos (.builtin id) [.ref l] trees []) Q E (up s h t)) : MethodOn prog w A name pos (.ref l) trees Q E (up s h t) :=
  ⟨"list", id, PySem.F.plainAttrs_list, slot, hty, ⟨_, hl, rfl⟩, fun a e => by cases e; exact ⟨_, hl, rfl⟩, k⟩
theorem pop_l {pos : Pos} {l : Addr} {vs : List Value} {n : Nat} {x : Value} {Q : Value → Shared → Prop} (F : Fm K₀ K env gs lk ws h) (u : Upd1 ws l (lst vs n) (lst vs.dropLast (n + 1)) ws') (hx : vs.getLast? = some x) (hfit : vs.length < 1000000)
    (q : ∀ h', Fm K₀ K env gs lk ws' h' → Q x (up s h' t)) : MethodOn prog w A (Str.ofString "pop") pos (.ref l) [] Q E (up s h t) := by
  have hl : h.get? l = some (lst vs n) := F.isIn u.mem
  have hne : vs ≠ [] := by intro e; subst e; simp at hx
  have hp : 0 < vs.length := List.length_pos_iff.mpr hne
  refine meth_list PySem.F.slot_list_pop PySem.F.type_list_pop hl (P.pop_list (s := up s h t) (items := vs.toArray) (n := n) hl (y := x) (by rw [List.getLast?_eq_getElem?] at hx; simpa using hx) ?_ (by rw [sizeLine_eq]; simp; exact Nat.le_of_lt (Nat.lt_of_lt_of_le hfit (by decide))))
  refine q _ (F.upd u ?_ fun b x hb e => (Heap.get?_update_other h _ (Ne.symm hb)).trans e)
  rw [show (up s h t).heap = h from rfl, Heap.get?_update_self (h := h) (a := l) _ hl rfl]
  have e1 : vs.toArray.eraseIdxIfInBounds (vs.toArray.size - 1) = vs.dropLast.toArray := by
    apply Array.toList_inj.mp
    rw [Array.eraseIdxIfInBounds, dif_pos (by simp; (clear hfit hne; omega))]
    simp [List.dropLast_eq_take, List.eraseIdx_eq_take_drop_succ]
    (clear hfit hne hp; omega)
  show some ({ cls := .type "list", dict := none, data := .seq (vs.toArray.eraseIdxIfInBounds (vs.toArray.size - 1)) (if (vs.toArray.eraseIdxIfInBounds (vs.toArray.size - 1)).size == vs.toArray.size then n else n + 1), slots := #[] } : Obj) = some (lst vs.dropLast (n + 1))
  simp only [e1]
  rw [if_neg (by simp; (clear hfit hne; omega))]
theorem app_l {pos : Pos} {l : Addr} {vs : List Value} {n : Nat} {x : Value} {Q : Value → Shared → Prop} (F : Fm K₀ K env gs lk ws h) (u : Upd1 ws l (lst vs n) (lst (vs ++ [x]) (n + 1)) ws') (hfit : vs.length < 1000000)
    (q : ∀ h', Fm K₀ K env gs lk ws' h' → Q .none (up s h' t)) : wpAny (model prog w) A (call (.builtin "list.append") [.ref l, x]) Q E (up s h t) := by
  have hl : h.get? l = some (lst vs n) := F.isIn u.mem
  refine wpAny_call_entry (s := up s h t) slot_list_append ⟨_, hl, rfl⟩ entry_list_append ?_ (args_list_append _ _)
  show wpAny _ _ (updateSeq l (·.push x) >>= fun _ => ret .none) _ _ _
  refine wpAny_bind ?_
  refine wpAny_updateSeq (s := up s h t) hl rfl (wpAny_pure ⟨.none, rfl, q _ (F.upd u ?_ fun b x hb e => (Heap.get?_update_other h _ (Ne.symm hb)).trans e)⟩) (by rw [sizeLine_eq]; simp; exact Nat.le_of_lt (Nat.lt_of_lt_of_le hfit (by decide))) (by rw [sizeLine_eq]; simp; exact Nat.le_of_lt (Nat.lt_of_lt_of_le hfit (by decide)))
  rw [show (up s h t).heap = h from rfl, Heap.get?_update_self (h := h) (a := l) _ hl (by rw [Obj.mapSeq_push_plain]; rfl), Obj.mapSeq_push_plain]
  simp
theorem m_app_l {pos : Pos} {l : Addr} {vs : List Value} {n : Nat} {x : Sem Value} {Q : Value → Shared → Prop} (hl : h.get? l = some (lst vs n)) (k : wpAny (model prog w) A x (fun v s₁ => wpAny (model prog w) A (call (.builtin "list.append") [.ref l, v]) Q E s₁) E (up s h t)) :
    MethodOn prog w A (Str.ofString "append") pos (.ref l) [(false, x)] Q E (up s h t) := by
  refine meth_list PySem.F.slot_list_append PySem.F.type_list_append hl ?_
  refine Calls.callWith_builtin rfl (Calls.evalArgs_plain (Calls.spliced_cons (wpAny_mono k (fun v s₁ h₁ => Calls.spliced_nil h₁) fun _ _ x => x)))
theorem tru_l {l : Addr} {vs : List Value} {n : Nat} {Q : Bool → Shared → Prop} (hl : h.get? l = some (lst vs n)) (hfit : vs.length < 1000000) (q : ∀ t', Q (!vs.isEmpty) (up s h t')) : wpAny (model prog w) A (truthy (.ref l)) Q E (up s h t) := by
  refine wpAny_truthy_list (s := up s h t) (items := vs.toArray) ⟨_, hl, rfl, _, rfl⟩ (by simp; omega) ?_
  have := q (t + 1 + 1)
  rw [show (!vs.toArray.isEmpty) = !vs.isEmpty by simp]
  exact this

/-! ranges -/
theorem range1 {n : Int} {tn : Tok} {Q : Value → Shared → Prop} (F : Fm K₀ K env gs lk ws h) (q : ∀ r h' t' t1 t2, Fm K₀ K env gs lk ((r, rgo 0 n 1 t1 tn t2) :: ws) h' → Q (.ref r) (up s h' t')) :
    wpAny (model prog w) A (call (.type "range") [.int n tn]) Q E (up s h t) := call_range_1 (s := up s h t) (q _ _ _ _ _ (F.push _))
theorem range3 {a b c : Int} {ta tb tc : Tok} {Q : Value → Shared → Prop} (F : Fm K₀ K env gs lk ws h) (hc : c ≠ 0) (hc2 : c.natAbs < 1073741824) (q : ∀ r h' t', Fm K₀ K env gs lk ((r, rgo a b c ta tb tc) :: ws) h' → Q (.ref r) (up s h' t')) :
    wpAny (model prog w) A (call (.type "range") [.int a ta, .int b tb, .int c tc]) Q E (up s h t) := call_range_3 (s := up s h t) hc (q _ _ _ (F.push _)) (.inl (PyProof.noPylong_small hc2))
theorem small_of {a b c : Int} (ha : -1000000 < a ∧ a < 1000000) (hb : -1000000 < b ∧ b < 1000000) (hc : c = 1 ∨ c = -1) : Builtin.Range.small a b c = true := by
  have hf : ∀ x : Int, -10000000 < x → x < 10000000 → Builtin.Range.rangeFitsLong x = true := fun x h1 h2 => by
    unfold Builtin.Range.rangeFitsLong; simp only [Bool.and_eq_true, decide_eq_true_eq]; omega
  have hs : 0 ≤ Builtin.Range.rangeSize a b c ∧ Builtin.Range.rangeSize a b c < 10000000 := by
    rcases hc with rfl | rfl
    · unfold Builtin.Range.rangeSize; simp; split <;> omega
    · unfold Builtin.Range.rangeSize; simp; split <;> omega
  unfold Builtin.Range.small
  rw [hf a (by omega) (by omega), hf b (by omega) (by omega), hf c (by omega) (by omega), hf _ (by omega) (by omega)]
  rcases hc with rfl | rfl
  · simp [hf b (by omega) (by omega)]
  · simp [hf b (by omega) (by omega)]
theorem iter_range {r : Addr} {a b c : Int} {ta tb tc : Tok} {Q : Value → Shared → Prop} (F : Fm K₀ K env gs lk ((r, rgo a b c ta tb tc) :: ws) h) (hs : Builtin.Range.small a b c = true) (q : ∀ it h', Fm K₀ K env gs lk ((it, rit a (Builtin.Range.rangeSize a b c) c) :: ws) h' → Q (.ref it) (up s h' t)) :
    wpAny (model prog w) A (pyIter (.ref r)) Q E (up s h t) :=
  wpAny_pyIter_range (s := up s h t) (F.isIn (.head _)) hs (q _ _ ((F.push (rit a (Builtin.Range.rangeSize a b c) c)).drop ((List.sublist_cons_self _ _).cons_cons _)))
theorem nx_range {it : Addr} {x left step : Int} {Q : Option Value → Shared → Prop} (F : Fm K₀ K env gs lk ws h) (u : Upd1 ws it (rit x left step) (rit (x + step) (left - 1) step) ws') (hl : 0 < left) (q : ∀ tk h' t', Fm K₀ K env gs lk ws' h' → Q (some (.int x tk)) (up s h' t')) :
    wpAny (model prog w) A (pyNext (.ref it)) Q E (up s h t) :=
  wpAny_pyNext_range_item (s := up s h t) (F.isIn u.mem) hl fun h' hi hs => q _ _ _ (F.upd u hi fun b x hb e => (hs.2 b hb).trans e)
theorem nx_range_end {it : Addr} {x left step : Int} {Q : Option Value → Shared → Prop} (hr : A.handled = none) (F : Fm K₀ K env gs lk ((it, rit x left step) :: ws) h) (hl : left ≤ 0) (q : ∀ h', Fm K₀ K env gs lk ws h' → Q none (up s h' t)) :
    wpAny (model prog w) A (pyNext (.ref it)) Q E (up s h t) :=
  wpAny_pyNext_range_end (s := up s h t) hr (F.isIn (.head _)) hl fun h' hs => q _ (F.extBut hs)
theorem rangeSize_up {b : Int} (hb : 0 ≤ b) : Builtin.Range.rangeSize 0 b 1 = b := by
  unfold Builtin.Range.rangeSize; simp; lia
theorem rangeSize_dn {a b : Int} : Builtin.Range.rangeSize a b (-1) = max 0 (a - b) := by
  unfold Builtin.Range.rangeSize; simp; split <;> omega

/-! lists -/
theorem iter_l {l : Addr} {vs : List Value} {n : Nat} {Q : Value → Shared → Prop} (F : Fm K₀ K env gs lk ws h) (hl : h.get? l = some (lst vs n)) (q : ∀ it o h', IsLI o l 0 → Fm K₀ K env gs lk ((it, o) :: ws) h' → Q (.ref it) (up s h' t)) :
    wpAny (model prog w) A (pyIter (.ref l)) Q E (up s h t) :=
  wpAny_pyIter_list (s := up s h t) (items := vs.toArray) ⟨_, hl, rfl, _, rfl⟩ (q _ _ _ ⟨rfl, rfl⟩ (F.push _))
theorem nx_l {it l : Addr} {o : Obj} {vs : List Value} {n i : Nat} {x : Value} {Q : Option Value → Shared → Prop} (F : Fm K₀ K env gs lk ws h) (ho : IsLI o l i) (hm : (it, o) ∈ ws) (hl : h.get? l = some (lst vs n)) (hx : vs[i]? = some x)
    (q : ∀ o' ws' h', IsLI o' l (i + 1) → Upd1 ws it o o' ws' → Fm K₀ K env gs lk ws' h' → Q (some x) (up s h' t)) (hex : ∀ o', ∃ ws', Upd1 ws it o o' ws') : wpAny (model prog w) A (pyNext (.ref it)) Q E (up s h t) := by
  refine wpAny_pyNext_list_item (s := up s h t) (items := vs.toArray) ⟨o, F.isIn hm, ho.1, ho.2⟩ ⟨_, hl, rfl, _, rfl⟩ (by simpa using hx) fun h' hi hs => ?_
  obtain ⟨o', e1, e2, e3⟩ := hi
  obtain ⟨ws', u⟩ := hex o'
  exact q o' ws' h' ⟨e2, e3⟩ u (F.upd u e1 fun b x hb e => (hs.2 b hb).trans e)
theorem nx_l_end {it l : Addr} {o : Obj} {vs : List Value} {n i : Nat} {Q : Option Value → Shared → Prop} (hr : A.handled = none) (F : Fm K₀ K env gs lk ((it, o) :: ws) h) (ho : IsLI o l i) (hl : h.get? l = some (lst vs n)) (hx : vs.length ≤ i) (q : ∀ h', Fm K₀ K env gs lk ws h' → Q none (up s h' t)) :
    wpAny (model prog w) A (pyNext (.ref it)) Q E (up s h t) :=
  wpAny_pyNext_list_end (s := up s h t) (items := vs.toArray) hr ⟨o, F.isIn (.head _), ho.1, ho.2⟩ ⟨_, hl, rfl, _, rfl⟩ (by simpa using hx) fun h' hs => q _ (F.extBut hs)

/-- a for by what holds at each turn's start -/
abbrev kFor2 (M : Model) (A : Around) (env : Env) (body : List Stmt) (B : Flow → Shared → Prop) : Unit → Shared → Prop := fun _ s₂ => wpAny M A (execs body env) B kNo s₂
abbrev kFor1 (M : Model) (A : Around) (env : Env) (target : Expr) (body : List Stmt) (B : Flow → Shared → Prop) (v : Value) : Unit → Shared → Prop := fun _ s₁' => wpAny M A (assign target env v) (kFor2 M A env body B) kNo s₁'
abbrev kFor (M : Model) (A : Around) (env : Env) (target : Expr) (it : Value) (body : List Stmt) (B : Flow → Shared → Prop) (D : Shared → Prop) : Option Value → Shared → Prop := fun r s₁ => match r with
  | none => D s₁
  | some v => wpAny M A (letOwnedTupleGo target it v) (kFor1 M A env target body B v) kNo s₁
theorem for_ {target : Expr} {it : Value} {body : List Stmt} {Q : Flow → Shared → Prop} (I : Nat → Heap → Prop) (n : Nat) (hI : I n h)
    (turn : ∀ n h t, ∀ B : Flow → Shared → Prop, (∀ f s₃, kLoop s Q I n f s₃ → B f s₃) → ∀ D : Shared → Prop, (∀ s', Q .next s' → D s') → I n h → wpAny (model prog w) A (pyNext it) (kFor (model prog w) A env target it body B D) kNo (up s h t)) :
    codeAny (model prog w) A (.forLoop target it body [] env) (fun r s' => match r with | .ok f => Q f s' | .error e => cameBackBy (model prog w) A env E e s') (up s h t) := by
  refine codeAny_forLoop_any (fun n s' => ∃ h t, s' = up s h t ∧ I n h) (fun n s' hs' => ?_) n ⟨h, t, rfl, hI⟩
  obtain ⟨h1, t1, rfl, hI1⟩ := hs'
  refine wpAny_mono (turn n h1 t1 _ (fun _ _ x => x) _ (fun _ x => x) hI1) (fun r s₂ hb => ?_) fun _ _ x => x.elim
  cases r with
  | none => exact wpAny_execs_nil hb
  | some v =>
    refine wpAny_mono hb (fun _ s₃ hf => wpAny_mono hf (fun _ s₄ hg => wpAny_mono hg (fun f s₅ hh => ?_) fun _ _ x => x.elim) fun _ _ x => x.elim) fun _ _ x => x.elim
    cases f with
    | next => obtain ⟨m, h', t', e, hm, hi⟩ := hh; exact ⟨m, hm, h', t', e, hi⟩
    | cont => obtain ⟨m, h', t', e, hm, hi⟩ := hh; exact ⟨m, hm, h', t', e, hi⟩
    | brk => exact hh
    | ret v => exact hh
end
end Mine
end
section
open PySem PySem.W PyProof.Rows
set_option Elab.async false
set_option maxRecDepth 100000
set_option linter.unusedVariables false
namespace Mine
section
variable {prog : Program} {w : World} {A : Around} {E : Value → Shared → Prop} {s : Shared}
theorem sub_rit_reversed : isSubtype (.type "range_iterator") (.type "reversed") = pure false := by rw [isSubtype_type]; kernel_rfl
theorem call_range_reversed {r : Addr} {a b c : Int} {ta tb tc : Tok} {Q : Value → Shared → Prop} (hr : s.heap.get? r = some (rgo a b c ta tb tc))
    (hsm : (Builtin.Range.rangeFitsLong a && Builtin.Range.rangeFitsLong b && Builtin.Range.rangeFitsLong c && Builtin.Range.rangeFitsLong (-c) && Builtin.Range.rangeFitsLong (a - c) && Builtin.Range.rangeFitsLong (Builtin.Range.rangeSize a b c)) = true)
    (h : Q (.ref s.heap.objs.size) { s with heap := s.heap.push (rit (a + (Builtin.Range.rangeSize a b c - 1) * c) (Builtin.Range.rangeSize a b c) (-c)) }) : wpAny (model prog w) A (call (.builtin "range.__reversed__") [.ref r]) Q E s := by
  refine wpAny_call_entry PySem.F.slot_range_reversed ⟨_, hr, rfl⟩ PySem.F.entry_range_reversed ?_ (PySem.F.args_range_reversed_1 _)
  unfold Builtin.«range.__reversed__»
  refine wpAny_bind (wpAny_of_eq (a := Value.ref r) rfl ?_)
  unfold Builtin.Range.rangeFields
  obtain ⟨hp, g, d, tk, os⟩ := s
  wp_walk
  refine ⟨_, rfl, ?_⟩
  rw [if_pos hsm]
  exact h
theorem code_reversed_range {r : Addr} {a b c : Int} {ta tb tc : Tok} {Q₁ : Value → Shared → Prop} (hr : s.heap.get? r = some (rgo a b c ta tb tc))
    (hsm : (Builtin.Range.rangeFitsLong a && Builtin.Range.rangeFitsLong b && Builtin.Range.rangeFitsLong c && Builtin.Range.rangeFitsLong (-c) && Builtin.Range.rangeFitsLong (a - c) && Builtin.Range.rangeFitsLong (Builtin.Range.rangeSize a b c)) = true)
    (h : Q₁ (.ref s.heap.objs.size) { s with heap := s.heap.push (rit (a + (Builtin.Range.rangeSize a b c - 1) * c) (Builtin.Range.rangeSize a b c) (-c)) }) :
    codeAny (model prog w) A (.call (.builtin "reversed.__new__") ⟨[.type "reversed", .ref r], []⟩) (wants Q₁ E) s := by
  have hT : s.TypeIs (.ref r) "range" := ⟨_, hr, rfl⟩
  refine codeAny_of_tree ?_
  show wpAny _ A.in1 (do checkBuiltinCall "reversed.__new__" ⟨[.type "reversed", .ref r], []⟩; again (.builtin "reversed.__new__" ⟨[.type "reversed", .ref r], []⟩)) _ _ s
  refine wpAny_bind (wpAny_of_eq (PySem.F.newCall_reversed_1 _) (wpAny_pure ⟨plainId_quiet PySem.F.plain_reversed_new _, codeAny_builtin PySem.F.entry_reversed_new ?_⟩))
  rw [Around.under_plainId PySem.F.plain_reversed_new _]
  unfold Builtin.«reversed.__new__»
  refine wpAny_bind (wpAny_of_eq (newClass_reversed _) ?_)
  refine wpAny_bind (wpAny_of_eq (a := ()) (by first | rfl | kernel_rfl) ?_)
  refine wpAny_bind (wpAny_of_eq (a := ()) (by first | rfl | kernel_rfl) ?_)
  refine wpAny_bind (wpAny_specialOf hT PySem.F.slot_range_reversed.lookup ?_)
  refine wpAny_bind (wpAny_of_eq (PySem.F.slot_range_reversed.bind _) ?_)
  try dsimp only
  first
  | rw [if_neg (show ¬ ((Value.builtin "range.__reversed__" == Value.none) = true) from Bool.false_ne_true)]
  | (show wpAny _ _ (if (Value.builtin "range.__reversed__" == Value.none) = true then _ else _) _ _ _; rw [if_neg (show ¬ ((Value.builtin "range.__reversed__" == Value.none) = true) from Bool.false_ne_true)])
  refine wpAny_bind (wpAny_rule ?_)
  refine wpAny_bind (m := runValue (.call (.builtin "range.__reversed__") ⟨[.ref r], []⟩)) (show wpAny _ _ (call (.builtin "range.__reversed__") [.ref r]) _ _ _ from call_range_reversed hr hsm ?_)
  first
  | exact wpAny_pure h
  | exact wpAny_bind (wpAny_pure (wpAny_pure h))
theorem call_reversed_range {r : Addr} {a b c : Int} {ta tb tc : Tok} {Q : Value → Shared → Prop} (hr : s.heap.get? r = some (rgo a b c ta tb tc))
    (hsm : (Builtin.Range.rangeFitsLong a && Builtin.Range.rangeFitsLong b && Builtin.Range.rangeFitsLong c && Builtin.Range.rangeFitsLong (-c) && Builtin.Range.rangeFitsLong (a - c) && Builtin.Range.rangeFitsLong (Builtin.Range.rangeSize a b c)) = true)
    (h : Q (.ref s.heap.objs.size) { s with heap := s.heap.push (rit (a + (Builtin.Range.rangeSize a b c - 1) * c) (Builtin.Range.rangeSize a b c) (-c)) }) : wpAny (model prog w) A (call (.type "reversed") [.ref r]) Q E s := by
  refine callType_other (U := "range_iterator") (Q₁ := fun obj s₁ => obj = .ref s.heap.objs.size ∧ s₁ = { s with heap := s.heap.push (rit (a + (Builtin.Range.rangeSize a b c - 1) * c) (Builtin.Range.rangeSize a b c) (-c)) }) (by decide +kernel) PySem.F.create_reversed ⟨_, _, PySem.F.mro_reversed⟩ PySem.F.made_reversed sub_rit_reversed (PySem.F.typeCall_reversed_1 _) (code_reversed_range hr hsm ⟨rfl, rfl⟩) ?_
  rintro obj s₁ ⟨rfl, rfl⟩
  exact ⟨⟨_, Heap.get?_push_size _ rfl, rfl⟩, h⟩
end
section
variable {prog : Program} {w : World} {M : Model} {A : Around} {E : Value → Shared → Prop} {s : Shared} {t : Nat} {K₀ K : KMap} {env : Env} {gs : List Str} {lk : List Var} {ws ws' : List (Addr × Obj)} {h : Heap}
/-- reversed(range(n)) -/
theorem rev_range {r : Addr} {b : Int} {ta tb tc : Tok} {Q : Value → Shared → Prop} (F : Fm K₀ K env gs lk ((r, rgo 0 b 1 ta tb tc) :: ws) h) (hb : 0 ≤ b ∧ b < 1000000) (q : ∀ it h', Fm K₀ K env gs lk ((it, rit (b - 1) b (-1)) :: ws) h' → Q (.ref it) (up s h' t)) :
    wpAny (model prog w) A (call (.type "reversed") [.ref r]) Q E (up s h t) := by
  have hsz : Builtin.Range.rangeSize 0 b 1 = b := rangeSize_up hb.1
  have hf : ∀ x : Int, -10000000 < x → x < 10000000 → Builtin.Range.rangeFitsLong x = true := fun x h1 h2 => by
    unfold Builtin.Range.rangeFitsLong; simp only [Bool.and_eq_true, decide_eq_true_eq]; omega
  refine call_reversed_range (s := up s h t) (F.isIn (.head _)) ?_ ?_
  · rw [hsz, hf 0 (by exact Int.natCast_nonneg _) (by exact Int.natCast_nonneg _), hf b (by (clear hsz; omega)) (by (clear hsz; omega)), hf 1 (by exact Int.natCast_nonneg _) (by exact Int.natCast_nonneg _), hf (-1) (by exact Int.natCast_nonneg _) (by exact Int.natCast_nonneg _), hf (0 - 1) (by exact Int.natCast_nonneg _) (by exact Int.natCast_nonneg _)]; rfl
  · rw [hsz, show (0 : Int) + (b - 1) * 1 = b - 1 by (clear hb hsz; lia)]
    exact q _ _ ((F.push (rit (b - 1) b (-1))).drop ((List.sublist_cons_self _ _).cons_cons _))
/-- a range's iterator is its own iterator -/
theorem iter_rit {it : Addr} {x left step : Int} {Q : Value → Shared → Prop} (hl : h.get? it = some (rit x left step)) (q : Q (.ref it) (up s h t)) : wpAny (model prog w) A (pyIter (.ref it)) Q E (up s h t) :=
  wpAny_pyIter_rangeiter (s := up s h t) hl q
end
end Mine
end
section
namespace Mine
section
variable {α : Type} [Inhabited α] {lt : α → α → Bool}
theorem siftdown_length (new : α) (start : Nat) (xs : List α) (pos : Nat) : (siftdown lt new start xs pos).length = xs.length := by
  induction pos using Nat.strongRecOn generalizing xs with
  | ind pos ih =>
    rw [siftdown_eq]
    split
    · split
      · rw [ih _ (by omega)]; simp
      · simp
    · simp
theorem siftdown_mem {new : α} {start : Nat} {xs : List α} {pos : Nat} {y : α} (h : y ∈ siftdown lt new start xs pos) (hp : pos < xs.length) : y = new ∨ y ∈ xs := by
  induction pos using Nat.strongRecOn generalizing xs with
  | ind pos ih =>
    rw [siftdown_eq] at h
    split at h
    · split at h
      · rcases ih _ (by omega) h (by simp; omega) with e | e
        · exact .inl e
        · rcases List.mem_or_eq_of_mem_set e with e | e
          · exact .inr e
          · have hl : (pos - 1) / 2 < xs.length := by omega
            exact .inr (by rw [e]; simp [List.getD, hl])
      · rcases List.mem_or_eq_of_mem_set h with e | e
        · exact .inr e
        · exact .inl e
    · rcases List.mem_or_eq_of_mem_set h with e | e
      · exact .inr e
      · exact .inl e
theorem siftupPos_facts : ∀ (m : Nat) (xs : List α) (pos : Nat), xs.length - pos = m → pos < xs.length → (siftupPos lt xs pos).1.length = xs.length ∧ (siftupPos lt xs pos).2 < xs.length ∧ ∀ y ∈ (siftupPos lt xs pos).1, y ∈ xs := by
  intro m
  induction m using Nat.strongRecOn with
  | ind m ih =>
    intro xs pos hm hp
    rw [siftupPos_eq]
    split
    · rename_i hc
      generalize hcc : (if 2 * pos + 2 < xs.length ∧ lt (xs.getD (2 * pos + 1) default) (xs.getD (2 * pos + 2) default) = false then 2 * pos + 2 else 2 * pos + 1) = c
      have hcl : c < xs.length ∧ pos < c := by
        rw [← hcc]; split <;> (clear hm hp hcc; omega)
      obtain ⟨i1, i2, i3⟩ := ih (xs.length - c) (by (clear hp hc hcc; omega)) (xs.set pos (xs.getD c default)) c (by simp) (by simpa using hcl.1)
      refine ⟨by rw [i1]; simp, by simpa using i2, fun y hy => ?_⟩
      rcases List.mem_or_eq_of_mem_set (i3 y hy) with e | e
      · exact e
      · rw [e]; simp [List.getD, hcl.1]
    · exact ⟨rfl, hp, fun _ h => h⟩
theorem siftup_length (xs : List α) (pos : Nat) : (siftup lt xs pos).length = xs.length := by
  unfold siftup
  rw [siftdown_length, List.length_set]
  by_cases hp : pos < xs.length
  · exact (siftupPos_facts _ xs pos rfl hp).1
  · rw [siftupPos_eq, if_neg (by lia)]
theorem siftup_mem {xs : List α} {pos : Nat} {y : α} (h : y ∈ siftup lt xs pos) (hp : pos < xs.length) : y ∈ xs := by
  obtain ⟨i1, i2, i3⟩ := siftupPos_facts (lt := lt) _ xs pos rfl hp
  have hn : xs.getD pos default ∈ xs := by simp [List.getD, hp]
  unfold siftup at h
  rcases siftdown_mem h (by simp [i1, i2]) with e | e
  · exact e ▸ hn
  · rcases List.mem_or_eq_of_mem_set e with e | e
    · exact i3 y e
    · exact e ▸ hn
noncomputable def heapifyTo {α : Type} [Inhabited α] (lt : α → α → Bool) (xs : List α) : Nat → List α
  | 0 => xs
  | k + 1 => heapifyTo lt (siftup lt xs k) k
noncomputable def heapPop {α : Type} [Inhabited α] (lt : α → α → Bool) (xs : List α) : α × List α :=
  if xs.dropLast.isEmpty then (xs.getLastD default, []) else (xs.dropLast.getD 0 default, siftup lt (xs.dropLast.set 0 (xs.getLastD default)) 0)
end
end Mine
end
section
open PySem PySem.W PyProof.Rows
set_option Elab.async false
set_option maxRecDepth 100000
set_option linter.unusedVariables false
namespace Mine

/-- a decoder that may hold a bytearray -/
noncomputable def decoder : Code → Bool
  | .builtin id _ => Builtin.Bytes.decodersThatHold.contains id
  | _ => false
/-- no such code stands on the stack -/
def Clean (Γ : Ctx) : Prop := decoder Γ.code = false ∧ ∀ x ∈ Γ.below, decoder x.1 = false

def wpC {α : Type} (M : Model) (A : Around) (t : Sem α) (Q : α → Shared → Prop) (E : Value → Shared → Prop) (s : Shared) : Prop :=
  ∀ Γ p, Γ.In A → Clean Γ → Sem.wp M Γ t (fun a _ s' => Q a s') (fun e _ s' => E e s') p s
def codeC (M : Model) (A : Around) (c : Code) (R : Result → Shared → Prop) (s : Shared) : Prop :=
  ∀ Γ p, Γ.code = c → Γ.Below A → Clean Γ → wpCode M Γ R p s

section
variable {α β : Type} {M : Model} {A : Around} {E : Value → Shared → Prop} {s : Shared}
theorem wpC_of {t : Sem α} {Q : α → Shared → Prop} (h : wpAny M A t Q E s) : wpC M A t Q E s := fun Γ p hΓ _ => h Γ p hΓ
theorem codeC_of {c : Code} {R : Result → Shared → Prop} (h : codeAny M A c R s) : codeC M A c R s := fun Γ p hc hΓ _ => h Γ p hc hΓ
theorem wpC_pure {a : α} {Q : α → Shared → Prop} (h : Q a s) : wpC M A (pure a) Q E s := fun _ _ _ _ => h
theorem wpC_mono {t : Sem α} {Q Q' : α → Shared → Prop} {E' : Value → Shared → Prop} (h : wpC M A t Q E s) (hQ : ∀ a s, Q a s → Q' a s) (hE : ∀ e s, E e s → E' e s) : wpC M A t Q' E' s :=
  fun Γ p hΓ hc => Sem.wp_mono M Γ t (fun a _ s => hQ a s) (fun e _ s => hE e s) p s (h Γ p hΓ hc)
theorem wpC_bind {m : Sem α} {f : α → Sem β} {Q : β → Shared → Prop} (h : wpC M A m (fun a s' => wpC M A (f a) Q E s') E s) : wpC M A (m >>= f) Q E s := fun Γ p hΓ hc => by
  rw [Sem.wp_bind']
  exact Sem.wp_mono M Γ m (fun a p' s' h' => h' Γ p' hΓ hc) (fun _ _ _ h' => h') p s (h Γ p hΓ hc)
theorem wpC_holding {vs : List Value} {m : Sem α} {Q : α → Shared → Prop} (h : wpC M A m Q E s) : wpC M A (holding vs m) Q E s :=
  fun Γ p hΓ hc => by rw [Sem.wp_holding]; exact h Γ p hΓ hc
theorem wpC_keep {vs : List Value} {m : Sem α} {Q : α → Shared → Prop} (h : wpC M A m Q E s) : wpC M A (m.keep vs) Q E s :=
  fun Γ p hΓ hc => by rw [Sem.wp_keep]; exact h Γ p hΓ hc
theorem wpC_standAt {pos : Pos} {Q : Unit → Shared → Prop} (h : Q () s) : wpC M A (standAt pos) Q E s := fun _ _ _ _ => h
theorem wpC_operate {vs : List Value} {m : Sem Value} {Q : Value → Shared → Prop} (h : wpC M A m Q E s) : wpC M A (operate vs m) Q E s :=
  fun Γ p hΓ hc => by rw [Sem.wp_operate]; exact h Γ p hΓ hc
theorem wpC_onRaise {m : Sem α} {k : Value → Sem Unit} {Q : α → Shared → Prop} (h : wpC M A m Q (fun _ _ => False) s) : wpC M A (m.onRaise k) Q E s := fun Γ p hΓ hc => by
  rw [Sem.wp_onRaise]
  exact Sem.wp_mono M Γ m (fun _ _ _ h' => h') (fun e p' s' h' => h'.elim) p s (h Γ p hΓ hc)
theorem wpC_attempt {m : Sem α} {Q : Except Value α → Shared → Prop} (h : wpC M A m (fun a => Q (.ok a)) (fun e => Q (.error e)) s) : wpC M A m.attempt Q E s :=
  fun Γ p hΓ hc => by rw [Sem.wp_attempt]; exact h Γ p hΓ hc
theorem wpC_of_eq {t : Sem α} {a : α} {Q : α → Shared → Prop} (e : t = pure a) (h : Q a s) : wpC M A t Q E s := e ▸ wpC_pure h
theorem clean_enter {Γ : Ctx} {c : Code} {h : Option Value} {p : Pos} (hc : Clean Γ) (hd : decoder c = false) : Clean (Γ.enter c h p) :=
  ⟨hd, fun x hx => by
    rcases List.mem_cons.mp hx with rfl | hx
    · exact hc.1
    · exact hc.2 x hx⟩
theorem wpC_run {c : Code} {h : Option Value} {Q : Flow → Shared → Prop} (hc : codeC M (A.mark h) c (fun r s' => match r with | .ok f => Q f s' | .error e => E e s') s) (hd : decoder c = false) (hnb : h ≠ some byPass := by intro x; cases x) :
    wpC M A (run c h) Q E s := fun Γ p hΓ hcl => by rw [Sem.wp_run]; exact hc _ p rfl (hΓ.enter c h p hnb) (clean_enter hcl hd)
theorem wpC_runValue {c : Code} {Q : Value → Shared → Prop} (hc : codeC M A c (fun r s' => match r with | .ok (.ret v) => Q v s' | .ok _ => False | .error e => E e s') s) (hd : decoder c = false) :
    wpC M A (runValue c) Q E s := fun Γ p hΓ hcl => by rw [Sem.wp_runValue]; exact hc _ p rfl (hΓ.enter c none p (by intro x; cases x)) (clean_enter hcl hd)
theorem wpC_call {f : Value} {pos : List Value} {kw : List (Str × Value)} {Q : Value → Shared → Prop} (hc : codeC M A (.call f ⟨pos, kw⟩) (fun r s' => match r with | .ok (.ret v) => Q v s' | .ok _ => False | .error e => E e s') s) :
    wpC M A (call f pos kw) Q E s := wpC_runValue hc rfl
theorem codeC_mono {c : Code} {R R' : Result → Shared → Prop} (h : codeC M A c R s) (hR : ∀ r s, R r s → R' r s) : codeC M A c R' s :=
  fun Γ p hc hΓ hcl => wpCode_mono hR (h Γ p hc hΓ hcl)
theorem codeC_of_tree {c : Code} {R : Result → Shared → Prop}
    (h : wpC M (A.under c) (M.den c) (fun fin s' => match fin with | .done f => R (.ok f) s' | .again c' => c'.quiet = true ∧ decoder c' = false ∧ codeC M A c' R s') (fun e s' => R (.error e) s') s) : codeC M A c R s := fun Γ p hc hΓ hcl => by
  rw [wpCode_iff_wp, hc]
  refine Sem.wp_mono M Γ _ (fun fin p' s' h' => ?_) (fun _ _ _ h' => h') p s (h Γ p (hc ▸ hΓ.in) hcl)
  cases fin with
  | done f => exact h'
  | again c' => exact ⟨h'.1, h'.2.2 (Γ.goto c') p' rfl (hΓ.goto c') ⟨h'.2.1, hcl.2⟩⟩
theorem codeC_loop {c : Code} {R : Result → Shared → Prop} (hq : c.quiet = true) (hd : decoder c = false) (I : Nat → Shared → Prop)
    (turn : ∀ n s, I n s → wpC M (A.under c) (M.den c) (fun fin s' => match fin with | .done f => R (.ok f) s' | .again c' => (c' = c ∧ ∃ m, m < n ∧ I m s') ∨ (c'.quiet = true ∧ decoder c' = false ∧ codeC M A c' R s')) (fun e s' => R (.error e) s') s)
    (n : Nat) (h : I n s) : codeC M A c R s := by
  induction n using Nat.strongRecOn generalizing s with
  | ind n ih =>
    refine codeC_of_tree (wpC_mono (turn n s h) (fun fin s' hf => ?_) fun _ _ h' => h')
    cases fin with
    | done f => exact hf
    | again c' =>
      rcases hf with ⟨rfl, m, hm, hI⟩ | hf
      · exact ⟨hq, hd, ih m hm hI⟩
      · exact hf
/-- the look of a bytearray over the stack finds nothing -/
theorem wpC_exported {v : Value} {Q : Bool → Shared → Prop} (hg : A.guards = some []) (h : Q false s) : wpC M A (Builtin.Bytes.exported v) Q E s := fun Γ p hΓ hcl => by
  have hgs : Γ.code.guards ++ guardsOf Γ.below = [] := hΓ.2.2.2.1 [] hg
  have h1 : Γ.code.isGuard = false := by
    cases e : Γ.code.isGuard with
    | false => rfl
    | true => simp [Code.guards, e] at hgs
  have h2 : ∀ x ∈ Γ.below, x.1.isGuard = false := fun x hx => by
    cases e : x.1.isGuard with
    | false => rfl
    | true =>
      have : x.1 ∈ guardsOf Γ.below := List.mem_filter.mpr ⟨List.mem_map_of_mem hx, e⟩
      rw [(List.append_eq_nil_iff.mp hgs).2] at this; cases this
  unfold Builtin.Bytes.exported
  show Q (List.any ((Γ.code, p) :: Γ.below) _) s
  rw [List.any_eq_false.mpr ?_]
  · exact h
  · intro x hx
    obtain ⟨c, p'⟩ := x
    have hh : c.isGuard = false ∧ decoder c = false := by
      rcases List.mem_cons.mp hx with e | hx
      · cases e; exact ⟨h1, hcl.1⟩
      · exact ⟨h2 _ hx, hcl.2 _ hx⟩
    obtain ⟨hg, hd⟩ := hh
    refine Bool.eq_false_iff.mp ?_
    clear hx hgs h1 h2
    cases c with
    | builtin id args =>
      have n : ∀ y : String, Code.isGuard (.builtin y args) = true → id ≠ y := fun y hy e => by rw [e, hy] at hg; cases hg
      have hd2 : Builtin.Bytes.decodersThatHold.contains id = false := hd
      delta Builtin.Bytes.exported.match_1
      refine (dif_neg (n "bytearray.__contains__" rfl)).trans ?_
      refine (dif_neg (n "bytearray.__mod__" rfl)).trans ?_
      refine (dif_neg (n "bytearray.__rmod__" rfl)).trans ?_
      refine (dif_neg (n "_struct.pack_into.held" rfl)).trans ?_
      refine (dif_neg (n "bytearray.find.held" rfl)).trans ?_
      cases args with
      | mk pos kw =>
        cases pos with
        | nil => rfl
        | cons u us =>
          show (_ && Builtin.Bytes.decodersThatHold.contains id) = false
          rw [hd2, Bool.and_false]
    | _ => rfl
end
end Mine
end
section
open PySem PySem.W PyProof.Rows
set_option Elab.async false
set_option maxRecDepth 100000
set_option linter.unusedVariables false
namespace Mine
section
variable {prog : Program} {w : World} {M : Model} {A : Around} {E : Value → Shared → Prop} {s : Shared} {t : Nat} {K₀ K : KMap} {env : Env} {gs : List Str} {lk : List Var} {ws ws' : List (Addr × Obj)} {h : Heap}

theorem C_execs_nil {Q : Flow → Shared → Prop} (k : Q .next s) : wpC M A (execs [] env) Q E s := wpC_of (wpAny_execs_nil k)
abbrev cSeq (M : Model) (A : Around) (env : Env) (rest : List Stmt) (Q : Flow → Shared → Prop) (E : Value → Shared → Prop) : Flow → Shared → Prop := fun f s' => match f with | .next => wpC M A (execs rest env) Q E s' | f => Q f s'
abbrev cStore (M : Model) (A : Around) (env : Env) (x : Str) (Q : Flow → Shared → Prop) (E : Value → Shared → Prop) : Value → Shared → Prop := fun v s₁ => wpC M A (storeName env x v) (kNext Q) E s₁
abbrev cIf (M : Model) (A : Around) (env : Env) (body orelse : List Stmt) (Q : Flow → Shared → Prop) (E : Value → Shared → Prop) : Bool → Shared → Prop := fun b s₂ => if b = true then wpC M A (execs body env) Q E s₂ else wpC M A (execs orelse env) Q E s₂
abbrev cCall (M : Model) (A : Around) (env : Env) (pos : Pos) (args : List Expr) (Q : Value → Shared → Prop) (E : Value → Shared → Prop) : Value → Shared → Prop := fun f s₁ => wpC M A (callWith pos f [] (backTo pos (starEach args env)) []) Q E s₁
abbrev cArgsF (M : Model) (A : Around) (K₀ : KMap) (f : Value) (Q : Value → Shared → Prop) (E : Value → Shared → Prop) : List Value → Shared → Prop := fun vs s₁ => Sub K₀ s₁.heap ∧ wpC M A (call f vs) Q E s₁
theorem C_execs_cons {st : Stmt} {rest : List Stmt} {Q : Flow → Shared → Prop} (k : wpC M A (exec st env) (cSeq M A env rest Q E) E s) : wpC M A (execs (st :: rest) env) Q E s := by
  rw [execs_cons]
  refine wpC_bind (wpC_mono k (fun f s' h' => ?_) fun _ _ x => x)
  cases f <;> first | exact h' | exact wpC_pure h'
theorem C_Assign_Name {x : Str} {pos' pos : Pos} {value : Expr} {Q : Flow → Shared → Prop} (k : wpC M A (eval value env) (cStore M A env x Q E) E s)
    (hs : swapsWith value (some (.Name x pos')) pos.line env = pure false := by rfl) : wpC M A (exec (.Assign [.Name x pos'] value pos) env) Q E s := by
  rw [exec_Assign_Name env x pos' value pos hs]
  refine wpC_bind (wpC_standAt (wpC_bind (wpC_mono k (fun v s₁ h₁ => wpC_bind (wpC_standAt (wpC_bind (wpC_mono (Q := fun _ => Q .next) ?_ (fun _ _ x => wpC_pure x) fun _ _ x => x)))) fun _ _ x => x)))
  exact fun Γ p hΓ hc => by rw [Sem.wp_bindName]; exact h₁ Γ p hΓ hc
theorem C_Expr {e : Expr} {pos : Pos} {Q : Flow → Shared → Prop} (k : wpC (model prog w) A (eval e env) (kNext Q) E s) (hi : interactive env = false) (hs : swapsWith e none pos.line env = pure false := by rfl) : wpC (model prog w) A (exec (.Expr e pos) env) Q E s := by
  rw [exec_Expr env e pos hi hs]
  exact wpC_bind (wpC_standAt (wpC_bind (wpC_mono k (fun v s' h' => wpC_of (wpAny_dropValue h')) fun _ _ x => x)))
theorem C_Return {e : Expr} {pos : Pos} {Q : Flow → Shared → Prop} (k : wpC M A (eval e env) (kRet Q) E s) : wpC M A (exec (.Return (some e) pos) env) Q E s := by
  rw [exec_Return_some]
  exact wpC_bind (wpC_standAt (wpC_bind (wpC_mono k (fun _ _ x => wpC_pure x) fun _ _ x => x)))
theorem C_If {test : Expr} {body orelse : List Stmt} {pos : Pos} {Q : Flow → Shared → Prop} (k : wpAny M A (isTrue test env (eval test env)) (cIf M A env body orelse Q E) E s) :
    wpC M A (exec (.If test body orelse pos) env) Q E s := by
  rw [exec_If]
  refine wpC_bind (wpC_standAt (wpC_bind (wpC_of (wpAny_mono k (fun b s₂ h₂ => ?_) fun _ _ x => x))))
  cases b <;> exact h₂
theorem C_IfExp {test body orelse : Expr} {pos : Pos} {Q : Value → Shared → Prop} (k : wpAny M A (isTrue test env (eval test env)) (fun b s₂ => if b = true then wpC M A (eval body env) Q E s₂ else wpC M A (eval orelse env) Q E s₂) E s) :
    wpC M A (eval (.IfExp test body orelse pos) env) Q E s := by
  rw [arm_eval_IfExp]
  refine wpC_bind (wpC_of (wpAny_mono k (fun b s₂ h₂ => ?_) fun _ _ x => x))
  cases b <;> exact h₂
theorem C_Call_Name {x : Str} {np pos : Pos} {args : List Expr} {Q : Value → Shared → Prop} (k : wpAny M A (eval (.Name x np) env) (cCall M A env pos args Q E) E s) :
    wpC M A (eval (.Call (.Name x np) args [] pos) env) Q E s := by
  show wpC M A (do callWith pos (← eval (.Name x np) env) [] (backTo pos (starEach args env)) (backToKw pos (keywordEach [] env))) Q E s
  exact wpC_bind (wpC_of k)
theorem C_callWith_ref {pos : Pos} {a : Addr} {o : Obj} {fd : FuncData} {args : List (Bool × Sem Value)} {kws : List (Option Str × Sem Value)} {Q : Value → Shared → Prop} (hfew : args.length + 2 * kws.length ≤ 30) (hst : (args.any (·.1) || kws.any (·.1.isNone)) = false)
    (k : wpAny M A (evalArgs (.ref a) true args kws) (fun x s₁ => (s₁.heap.get? a = some o ∧ o.data = .func fd) ∧ wpC M A (call (.ref a) x.pos x.kw) Q E s₁) E s) :
    wpC M A (callWith pos (.ref a) [] args kws) Q E s := by
  unfold callWith
  refine wpC_bind (wpC_holding (wpC_of (wpAny_mono k (fun x s₁ h₁ => wpC_bind (wpC_standAt ?_)) fun _ _ x => x)))
  obtain ⟨⟨h1, h2⟩, h3⟩ := h₁
  rw [hst]
  refine wpC_bind (m := keeperOf (.ref a)) (wpC_of ?_)
  unfold keeperOf
  refine wpAny_bind (wpAny_load h1 ?_)
  rw [h2]
  refine wpAny_pure ?_
  dsimp only
  rw [if_neg (by lia)]
  refine wpC_bind ?_
  unfold callMarked
  exact wpC_keep (wpC_mono h3 (fun r s₂ hr => wpC_bind (wpC_holding (wpC_of (wpAny_point (wpC_pure hr))))) fun _ _ x => x)
theorem C_callf {fa : Addr} {i : Nat} {cd : Addr} {pos : Pos} {e : Expr} {rest : List Expr} {Q : Value → Shared → Prop} (hB : Base K₀) (hm : (fa, i, cd) ∈ FT)
    (k : wpAny M A (spliced (backTo pos (starEach (e :: rest) env))) (cArgsF M A K₀ (.ref fa) Q E) E s)
    (he : starEach (e :: rest) env = (false, eval e env) :: starEach rest env := by rfl) (hst : (backTo pos (starEach rest env)).any (·.1) = false := by rfl) (hfew : (backTo pos (starEach (e :: rest) env)).length ≤ 30 := by exact Nat.le_of_ble_eq_true rfl) :
    wpC M A (callWith pos (.ref fa) [] (backTo pos (starEach (e :: rest) env)) []) Q E s := by
  obtain ⟨pm, hF⟩ := hB.fn _ hm
  obtain ⟨o, ho, hd⟩ := hF.obj
  rw [he] at k hfew ⊢
  refine C_callWith_ref (o := o) (fd := _) (by simpa using hfew) ?_ (Calls.evalArgs_plain (wpAny_mono k (fun vs s₁ x => ⟨⟨x.1 _ _ ho, hd⟩, x.2⟩) fun _ _ x => x))
  show ((false || (backTo pos (starEach rest env)).any (·.1)) || false) = false
  rw [hst]; rfl
theorem C_callWith_type0 {pos : Pos} {T : String} {Q : Value → Shared → Prop} (k : wpC M A (call (.type T) []) Q E s) : wpC M A (callWith pos (.type T) [] (backTo pos (starEach [] env)) []) Q E s := by
  unfold callWith
  refine wpC_bind (wpC_holding (wpC_of (evalArgs_nil3 ?_)))
  refine wpC_bind (wpC_standAt ?_)
  refine wpC_bind (m := keeperOf (.type T)) (wpC_of (wpAny_pure ?_))
  exact wpC_bind (wpC_mono k (fun r s₂ hr => wpC_bind (wpC_holding (wpC_of (wpAny_point (wpC_pure hr))))) fun _ _ x => x)
theorem C_callWith_builtin {pos : Pos} {id : String} {first : List Value} {args : List (Bool × Sem Value)} {kws : List (Option Str × Sem Value)} {Q : Value → Shared → Prop} (hst : (args.any (·.1) || kws.any (·.1.isNone)) = false)
    (k : wpAny M A (evalArgs (.builtin id) true args kws) (fun x s₁ => wpC M A (call (.builtin id) (first ++ x.pos) x.kw) Q E s₁) E s) : wpC M A (callWith pos (.builtin id) first args kws) Q E s := by
  unfold callWith
  refine wpC_bind (wpC_holding (wpC_of (wpAny_mono k (fun x s₁ h₁ => wpC_bind (wpC_standAt ?_)) fun _ _ x => x)))
  rw [hst]
  refine wpC_bind (m := keeperOf (.builtin id)) (wpC_of (wpAny_pure ?_))
  exact wpC_bind (wpC_mono h₁ (fun r s₂ hr => wpC_bind (wpC_holding (wpC_of (wpAny_point (wpC_pure hr))))) fun _ _ x => x)
theorem C_spliced_none {pos : Pos} {Q : List Value → Shared → Prop} (k : Q [] s) : wpC M A (spliced (backTo pos (starEach [] env))) Q E s := wpC_of (spliced_none k)
theorem C_spliced_more {e : Expr} {rest : List Expr} {pos : Pos} {Q : List Value → Shared → Prop} (k : wpC M A (eval e env) (fun v s₁ => wpC M A (spliced (backTo pos (starEach rest env))) (fun vs s₂ => Q (v :: vs) s₂) E s₁) E s)
    (he : starEach (e :: rest) env = (false, eval e env) :: starEach rest env := by rfl) : wpC M A (spliced (backTo pos (starEach (e :: rest) env))) Q E s := by
  rw [he]
  show wpC M A (spliced ((false, eval e env) :: backTo pos (starEach rest env))) Q E s
  rw [spliced]
  refine wpC_bind (wpC_mono k (fun v s₁ h₁ => ?_) fun _ _ x => x)
  simp only [Bool.false_eq_true, if_false]
  exact wpC_bind (wpC_pure (wpC_bind (wpC_holding (wpC_mono h₁ (fun vs s₂ h₂ => wpC_pure h₂) fun _ _ x => x))))
theorem C_Tuple {elts : List Expr} {n : Nat} {pos : Pos} {Q : Value → Shared → Prop} (k : wpC M A (spliced (backTo pos (starEach elts env))) (fun vs s₁ => wpC M A (newTuple vs) Q E s₁) E s) : wpC M A (eval (.Tuple elts n pos) env) Q E s := by
  rw [arm_eval_Tuple]
  exact wpC_bind (wpC_standAt (wpC_bind k))
theorem C_Subscript {value slice : Expr} {pos : Pos} {Q : Value → Shared → Prop} (k : wpC M A (eval value env) (fun o s₁ => wpAny M A (eval slice env) (fun i s₂ => wpAny M A (subscriptTail value slice o i) Q E s₂) E s₁) E s) : wpC M A (eval (.Subscript value slice pos) env) Q E s := by
  rw [arm_eval_Subscript]
  refine wpC_bind (wpC_mono k (fun o s₁ h₁ => wpC_bind (wpC_holding (wpC_of (wpAny_mono h₁ (fun i s₂ h₂ => wpC_bind (wpC_standAt (wpC_of h₂))) fun _ _ x => x)))) fun _ _ x => x)

abbrev cWh (M : Model) (A : Around) (env : Env) (body : List Stmt) (B : Flow → Shared → Prop) (D : Shared → Prop) : Bool → Shared → Prop := fun b s₂ => if b = true then wpC M A (execs body env) B kNo s₂ else D s₂
abbrev cFor2 (M : Model) (A : Around) (env : Env) (body : List Stmt) (B : Flow → Shared → Prop) : Unit → Shared → Prop := fun _ s₂ => wpC M A (execs body env) B kNo s₂
abbrev cFor1 (M : Model) (A : Around) (env : Env) (target : Expr) (body : List Stmt) (B : Flow → Shared → Prop) (v : Value) : Unit → Shared → Prop := fun _ s₁' => wpAny M A (assign target env v) (cFor2 M A env body B) kNo s₁'
abbrev cFor (M : Model) (A : Around) (env : Env) (target : Expr) (it : Value) (body : List Stmt) (B : Flow → Shared → Prop) (D : Shared → Prop) : Option Value → Shared → Prop := fun r s₁ => match r with
  | none => D s₁
  | some v => wpAny M A (letOwnedTupleGo target it v) (cFor1 M A env target body B v) kNo s₁
/-- what an expression must be for its run in the plain logic to do -/
noncomputable def okE : Expr → Bool
  | .List .. | .Subscript .. | .IfExp .. | .Constant .. | .Name .. | .BinOp .. | .Compare .. | .UnaryOp .. => true
  | _ => false
/-- a call of these, too -/
noncomputable def okM (x : Str) : Bool := ["T", "adapt", "bytes", "len", "range", "list", "sum", "enumerate", "_law_rows", "_law_rising", "_law_falling", "iter", "_law_numeral", "min", "max"].any fun y => x == Str.ofString y
noncomputable def okN (x : Str) : Bool := ["generate_generalized_integer", "generate_integers", "bytearray"].any fun y => x == Str.ofString y
theorem C_ofE {e : Expr} {Q : Value → Shared → Prop} (_ : okE e = true) (k : wpAny M A (eval e env) Q E s) : wpC M A (eval e env) Q E s := wpC_of k
theorem C_ofM {x : Str} {np pos : Pos} {args : List Expr} {kws : List Keyword} {Q : Value → Shared → Prop} (_ : okM x = true) (k : wpAny M A (eval (.Call (.Name x np) args kws pos) env) Q E s) : wpC M A (eval (.Call (.Name x np) args kws pos) env) Q E s := wpC_of k
theorem C_CallN {x : Str} {np pos : Pos} {args : List Expr} {Q : Value → Shared → Prop} (_ : okN x = true) (k : wpAny M A (eval (.Name x np) env) (cCall M A env pos args Q E) E s) :
    wpC M A (eval (.Call (.Name x np) args [] pos) env) Q E s := C_Call_Name k
theorem C_while {test : Expr} {body : List Stmt} {pos : Pos} {Q : Flow → Shared → Prop} (I : Nat → Heap → Prop) (n : Nat) (hI : I n h)
    (turn : ∀ n h t, ∀ B : Flow → Shared → Prop, (∀ f s₃, kLoop s Q I n f s₃ → B f s₃) → ∀ D : Shared → Prop, (∀ s', Q .next s' → D s') → I n h → wpAny (model prog w) A (isTrue test env (eval test env)) (cWh (model prog w) A env body B D) kNo (up s h t)) :
    wpC (model prog w) A (exec (.While test body [] pos) env) Q E (up s h t) := by
  rw [exec_While]
  refine wpC_bind (wpC_standAt ?_)
  unfold runOwn
  refine wpC_onRaise (wpC_run (codeC_loop rfl rfl (fun n s' => ∃ h t, s' = up s h t ∧ I n h) (fun n s' hs' => ?_) n ⟨h, t, rfl, hI⟩) rfl)
  obtain ⟨h1, t1, rfl, hI1⟩ := hs'
  show wpC _ A ((whileTurn test body [] env).onRaise (fun x => do noteFrame x env; theTreesLotGoes x)) _ _ _
  refine wpC_onRaise ?_
  simp only [whileTurn]
  refine wpC_bind (wpC_of (wpAny_mono (turn n h1 t1 _ (fun _ _ x => x) _ (fun _ x => x) hI1) (fun b s₂ hb => ?_) fun _ _ x => x))
  unfold cWh at hb
  cases b with
  | false =>
    rw [if_neg (by decide)] at hb ⊢
    exact wpC_bind (C_execs_nil (wpC_pure hb))
  | true =>
    rw [if_pos rfl] at hb ⊢
    refine wpC_bind (wpC_mono hb (fun f s₃ hf => ?_) fun _ _ x => x)
    cases f with
    | next => obtain ⟨m, h', t', e, hm, hi⟩ := hf; exact wpC_pure (.inl ⟨rfl, m, hm, h', t', e, hi⟩)
    | cont => obtain ⟨m, h', t', e, hm, hi⟩ := hf; exact wpC_pure (.inl ⟨rfl, m, hm, h', t', e, hi⟩)
    | brk => exact wpC_pure hf
    | ret v => exact wpC_pure hf

/-- a for whose turn is in the clean logic -/
theorem C_for {target iter : Expr} {body : List Stmt} {pos : Pos} {Q : Flow → Shared → Prop}
    (k : wpAny (model prog w) A (eval iter env) (fun x s₁ => wpAny (model prog w) A (pyIter x) (fun it s₂ => codeC (model prog w) A (.forLoop target it body [] env) (fun r s' => match r with | .ok f => Q f s' | .error e => False) s₂) E s₁) E s)
    (hs : ∀ x, foldedSetIterable iter env x = pure x := by intro _; rfl) : wpC (model prog w) A (exec (.For target iter body [] pos) env) Q E s := by
  rw [exec_For]
  refine wpC_bind (wpC_standAt (wpC_bind (wpC_of (wpAny_mono k (fun x s₁ h₁ => wpC_bind (wpC_of_eq (hs x) (wpC_bind (wpC_standAt (wpC_bind (wpC_holding (wpC_of (wpAny_mono h₁ (fun it s₂ h₂ => ?_) fun _ _ x => x)))))))) fun _ _ x => x))))
  unfold runOwn
  refine wpC_onRaise (wpC_run (codeC_mono h₂ fun r s' hr => ?_) rfl)
  cases r with
  | ok f => exact hr
  | error e => exact hr
theorem C_forLoop {target : Expr} {it : Value} {body : List Stmt} {Q : Flow → Shared → Prop} (I : Nat → Heap → Prop) (n : Nat) (hI : I n h)
    (turn : ∀ n h t, ∀ B : Flow → Shared → Prop, (∀ f s₃, kLoop s Q I n f s₃ → B f s₃) → ∀ D : Shared → Prop, (∀ s', Q .next s' → D s') → I n h → wpAny (model prog w) A (pyNext it) (cFor (model prog w) A env target it body B D) kNo (up s h t)) :
    codeC (model prog w) A (.forLoop target it body [] env) (fun r s' => match r with | .ok f => Q f s' | .error e => False) (up s h t) := by
  refine codeC_loop rfl rfl (fun n s' => ∃ h t, s' = up s h t ∧ I n h) (fun n s' hs' => ?_) n ⟨h, t, rfl, hI⟩
  obtain ⟨h1, t1, rfl, hI1⟩ := hs'
  show wpC _ A ((forTurn target it body [] env).onRaise (fun x => do noteFrame x env; theTreesLotGoes x)) _ _ _
  refine wpC_onRaise ?_
  simp only [forTurn]
  refine wpC_bind (wpC_standAt (wpC_bind (wpC_onRaise (wpC_of (wpAny_mono (turn n h1 t1 _ (fun _ _ x => x) _ (fun _ x => x) hI1) (fun r s₁ h₁ => ?_) fun _ _ x => x)))))
  cases r with
  | none =>
    refine wpC_pure (.inr ⟨rfl, rfl, codeC_of (codeAny_block (wpAny_execs_nil ?_))⟩)
    exact h₁
  | some v =>
    refine wpC_bind (wpC_of (wpAny_mono h₁ (fun _ s₂ h₂ => wpC_bind (wpC_of (wpAny_mono h₂ (fun _ s₃ h₃ => wpC_bind (wpC_mono h₃ (fun f s₄ hf => ?_) fun _ _ x => x)) fun _ _ x => x))) fun _ _ x => x))
    cases f with
    | next => obtain ⟨m, h', t', e, hm, hi⟩ := hf; exact wpC_pure (.inl ⟨rfl, m, hm, h', t', e, hi⟩)
    | cont => obtain ⟨m, h', t', e, hm, hi⟩ := hf; exact wpC_pure (.inl ⟨rfl, m, hm, h', t', e, hi⟩)
    | brk => exact wpC_pure hf
    | ret v => exact wpC_pure hf

/-- a call of a def of the top, its body in the clean logic -/
theorem enterC {R : Result → Shared → Prop} {fa : Addr} {fd : FuncData} {body : List Stmt} {args : Args} {binds : List (Str × Value)} {lk : List Var} {gs : List Str}
    (hB : Base K₀) (hs : Sub K₀ h) (hF : Fn K₀ fa fd) (hroom : A.depth < recursionLimit) (hbody : fd.body = .stmts body)
    (hgs : globsOf fd.scope.names = gs) (hbind : ∀ (Q : List (Str × Value) → Shared → Prop) (E : Value → Shared → Prop), Q binds (up s h t) → wpAny (model prog w) A.in1 (bindArgs fd args) Q E (up s h t)) (hput : PutAll (varsOf (h.objs.size + 1) fd.scope.names) binds lk)
    (k : ∀ env h' t', Fm K₀ (hk h) env gs lk [] h' →
      wpC (model prog w) (A.deeper env) (execs body env) (fun f s' => R (.ok (.ret (match f with | .ret v => v | _ => .none))) s') (fun _ _ => False) (up s h' t')) :
    codeC (model prog w) A (.call (.ref fa) args) R (up s h t) := by
  obtain ⟨o, ho, hd⟩ := hF.obj
  have ok := hF.ok
  simp only [scopeOk, Bool.and_eq_true, decide_eq_true_eq, Bool.not_eq_true', List.all_eq_true] at ok
  obtain ⟨⟨⟨⟨ok1, ok2⟩, ok3⟩, nd⟩, ok5⟩ := ok
  refine codeC_of_tree ?_
  show wpC _ A.in1 (callAny (.ref fa) args) _ _ _
  simp only [callAny]
  refine wpC_bind (wpC_of (wpAny_load (hs _ _ ho) ?_))
  obtain ⟨c, oc, vs, tq, hc, hoc, hdc, hq⟩ := hF.code _ hs
  simp only [hd, callFunction, ok2, ok3, hbody, hc]
  refine wpC_bind (m := field (.ref c) 1) (wpC_of (wpAny_field hoc hdc hq (wpC_bind (wpC_pure ?_))))
  refine wpC_bind (wpC_of (hbind _ _ ?_))
  rw [hF.clo, ← hc]
  simp only [newFunctionEnv, Option.isSome_none, Bool.false_eq_true, if_false]
  refine wpC_bind (wpC_of ?_)
  refine wpAny_bind (wpAny_alloc ?_)
  refine wpAny_bind (wpAny_layCells _ (fun name kind cells => by cases hkc : kind == NameKind.cell <;> simp) _ _ _ _ ?_)
  have F0 := entry_frame (h := h) hs hF
  rw [hgs] at F0
  have e1 : ({ up s h t with heap := (up s h t).heap.push { cls := .type "frame", data := .dict #[] } } : Shared).heap.objs.size = h.objs.size + 1 := Heap.size_push ..
  rw [e1]
  refine wpAny_bind (storeAll (s := s) (env := callEnvC fd h.objs.size fa) _ (fun _ _ _ => rfl) hput F0 fun h' t' F' => wpAny_pure ?_)
  refine wpC_bind (wpC_of (wpAny_enterFrame (hB.lim _ ((F'.base).sub F'.kept)) hroom ?_))
  refine wpC_pure ⟨rfl, rfl, codeC_of_tree ?_⟩
  show wpC _ (A.deeper _) (do point; match ← (execs body _).onRaise (leaving _) with | .ret v => ret v | _ => ret .none) _ _ _
  refine wpC_bind (wpC_of (wpAny_point (wpC_bind (wpC_onRaise (wpC_mono (k _ h' t' F') (fun f s' h' => ?_) fun _ _ x => x)))))
  cases f <;> exact wpC_pure h'
end
end Mine
end
section
open PySem PySem.W PyProof.Rows
set_option Elab.async false
set_option maxRecDepth 100000
set_option linter.unusedVariables false
namespace Mine
noncomputable abbrev bao (b : List UInt8) : Obj := { cls := .type "bytearray", data := .bytearray b.toArray 0 }
theorem ba_mro : mroOf (.type "bytearray") = pure [.type "bytearray", .type "object"] := by rw [mroOf_type]; kernel_rfl
theorem ba_lookup_new : typeLookup (.type "bytearray") "__new__" = pure (some (.builtin "bytearray.__new__")) := by rw [typeLookup_type, builtinLookup_eq_fast]; kernel_rfl
theorem ba_slot_init : Slot "bytearray" "__init__" "bytearray.__init__" :=
  .of (owner := "bytearray") (n := "__init__") (by rw [typeLookup_type, builtinLookup_eq_fast]; kernel_rfl) (by decide +kernel) (by decide +kernel) (by decide +kernel)
    (by first | exact .inl (by decide +kernel) | exact .inr (by decide +kernel)) (by rw [isSubtype_type]; kernel_rfl)
theorem ba_called : TypeCalled "bytearray" "bytearray.__new__" "bytearray.__init__" :=
  ⟨by decide +kernel, by decide +kernel, ⟨_, _, ba_mro⟩, madeBy_type ba_mro ba_lookup_new (by decide +kernel), by decide +kernel, by rw [isSubtype_type]; kernel_rfl, ba_slot_init⟩
theorem ba_typeCall : checkTypeCall "bytearray" ⟨[], []⟩ = pure () := by kernel_rfl
theorem ba_newCall : checkBuiltinCall "bytearray.__new__" ⟨[.type "bytearray"], []⟩ = pure () := by kernel_rfl
theorem ba_sub : isSubtype (.type "bytearray") (.type "bytearray") = pure true := by rw [isSubtype_type]; kernel_rfl
theorem ba_plain_new : plainId "bytearray.__new__" = true := by decide +kernel
theorem ba_entry_new : entryFor table "bytearray.__new__" = some Builtin.«list.__new__» :=
  entryFor_alias (id' := "list.__new__") (by kernel_rfl) (by first | rfl | decide +kernel) (by decide +kernel) (by kernel_rfl)
theorem ba_entry_init : entryFor table "bytearray.__init__" = some Builtin.«bytearray.__init__» := by first | exact entryFor_of_fast (by kernel_rfl) | exact entryFor_of_tree (by kernel_rfl)
theorem ba_initArgs (a : Value) : argsOk "bytearray.__init__" ⟨[a], []⟩ := by unfold argsOk; kernel_rfl
set_option maxHeartbeats 4000000 in
theorem ba_owner : ("bytearray.__new__".splitOn ".__new__").headD "" = "bytearray" := by simp +decide [String.splitOn, String.splitOnAux]
theorem ba_no_release : typeLookup (.type "bytearray") "__release_buffer__" = pure (some (.builtin "bytearray.__release_buffer__")) := by rw [typeLookup_type, builtinLookup_eq_fast]; kernel_rfl
theorem ba_rel_name : ("bytearray.__release_buffer__".endsWith ("." ++ "__release_buffer__")) = true := by decide +kernel
theorem ba_rel_owner : "bytearray.__release_buffer__".dropRight ("__release_buffer__".length + 1) = "bytearray" := by decide +kernel
theorem ba_bind : Builtin.Bytes.bindOptional "bytearray.__init__" "bytearray" ["source", "encoding", "errors"] [] [] = pure [none, none, none] := by kernel_rfl

section
variable {prog : Program} {w : World} {M : Model} {A : Around} {E : Value → Shared → Prop} {s : Shared} {t : Nat} {K₀ K : KMap} {env : Env} {gs : List Str} {lk : List Var} {ws ws' : List (Addr × Obj)} {h : Heap}
theorem ba_new {Q₁ : Value → Shared → Prop} (k : Q₁ (.ref s.heap.objs.size) { s with heap := s.heap.push (bao []) }) :
    wpAny (model prog w) A (call (.builtin "bytearray.__new__") [.type "bytearray"]) Q₁ E s := by
  refine wpAny_call ?_
  refine codeAny_of_tree ?_
  show wpAny _ A.in1 (do checkBuiltinCall "bytearray.__new__" ⟨[.type "bytearray"], []⟩; again (.builtin "bytearray.__new__" ⟨[.type "bytearray"], []⟩)) _ _ s
  refine wpAny_bind (wpAny_of_eq ba_newCall (wpAny_pure ⟨plainId_quiet ba_plain_new _, codeAny_builtin_stack ba_entry_new rfl fun p st => ?_⟩))
  rw [Around.under_plainId ba_plain_new _]
  have hsub := ba_sub
  have hown := ba_owner
  obtain ⟨hp, g, d, tk, os⟩ := s
  simp only [hown]
  wp_walk
  exact k
theorem wpC_if_false {α : Type} {c : Bool} {a b : Sem α} {Q : α → Shared → Prop} (hc : c = false) (k : wpC M A b Q E s) : wpC M A (if c = true then a else b) Q E s := by rw [if_neg (by rw [hc]; decide)]; exact k
theorem wpC_if_true {α : Type} {c : Bool} {a b : Sem α} {Q : α → Shared → Prop} (hc : c = true) (k : wpC M A a Q E s) : wpC M A (if c = true then a else b) Q E s := by rw [if_pos hc]; exact k
theorem wpC_ownRelease {a : Addr} {b : List UInt8} {Q : Bool → Shared → Prop} (hb : s.heap.get? a = some (bao b)) (k : Q false s) : wpAny M A (Builtin.Bytes.ownRelease (.ref a)) Q E s := by
  unfold Builtin.Bytes.ownRelease Builtin.Bytes.slotIsOwn
  refine wpAny_bind (wpAny_bind (wpAny_specialOf ⟨_, hb, rfl⟩ ba_no_release ?_))
  dsimp only
  rw [ba_rel_name, ba_rel_owner]
  exact wpAny_isInstance ⟨_, hb, rfl⟩ ba_sub (wpAny_pure k)
theorem exportsOf_0 {a : Addr} {b : List UInt8} {Q : Nat → Shared → Prop} (hb : s.heap.get? a = some (bao b)) (k : Q 0 s) : wpAny M A (Builtin.Bytes.exportsOf (.ref a)) Q E s := by
  unfold Builtin.Bytes.exportsOf
  exact wpAny_bind (wpAny_load hb (wpAny_pure k))
theorem C_notHeld {a : Addr} {b : List UInt8} {Q : Bool → Shared → Prop} (hg : A.guards = some []) (hb : s.heap.get? a = some (bao b)) (k : Q false s) : wpC M A (Builtin.Bytes.exported (.ref a) <||> (do return (← Builtin.Bytes.exportsOf (.ref a)) > 0)) Q E s := by
  unfold orM
  refine wpC_bind (wpC_exported hg ?_)
  exact wpC_bind (wpC_of (exportsOf_0 hb (wpC_pure k)))
theorem write_ba {a : Addr} {b : List UInt8} {f : Array UInt8 → Array UInt8} {Q : Unit → Shared → Prop} (hb : s.heap.get? a = some (bao b)) (hz : (f b.toArray).size ≤ sizeLine) (k : Q () { s with heap := s.heap.update a (Obj.mapBytearray f) }) : wpAny M A (Builtin.Bytes.write (.ref a) f) Q E s := by
  show wpAny M A (updateBytearray a f) Q E s
  unfold updateBytearray
  refine wpAny_bind (wpAny_load hb ?_)
  refine wpAny_bind (wpAny_update hb ?_)
  refine wpAny_lookBehind (o := Obj.mapBytearray f (bao b)) (Heap.get?_update_self _ hb rfl) ?_ k
  show (if (f b.toArray).size > sizeLine then _ else _) = none
  rw [if_neg (by lia)]
theorem den_builtin {id : String} {args : Args} {b : Builtin} (hb : entryFor table id = some b) : (model prog w).den (.builtin id args) = b args := by
  show (match entryFor table id with | some b => b args | none => unsupported ((withoutEnding? id "#data").getD id)) = _
  rw [hb]
theorem C_entry {T : String} {name : Str} {id : String} {B : Builtin} {self : Value} {args : List Value} {Q : Value → Shared → Prop} (slot : Slot T name id) (hT : s.TypeIs self T) (entry : entryFor table id = some B) (hargs : argsOk id ⟨self :: args, []⟩) (hd : Builtin.Bytes.decodersThatHold.contains id = false)
    (k : wpC (model prog w) A.in1 (B ⟨self :: args, []⟩) (fun fin s' => ∃ v, fin = .done (.ret v) ∧ Q v s') E s) : wpC (model prog w) A (call (.builtin id) (self :: args)) Q E s := by
  refine wpC_call (codeC_of_tree ?_)
  show wpC _ A.in1 (do checkBuiltinCall id ⟨self :: args, []⟩; again (.builtin id ⟨self :: args, []⟩)) _ _ s
  refine wpC_bind (wpC_of (slot.check _ _ _ _ _ _ _ _ hT hargs ?_))
  refine wpC_pure ⟨plainId_quiet slot.plain _, hd, codeC_of_tree ?_⟩
  rw [Around.under_plainId slot.plain _]
  rw [den_builtin entry]
  refine wpC_mono k (fun fin s' h' => ?_) fun _ _ x => x
  obtain ⟨v, rfl, hv⟩ := h'
  exact hv
theorem C_callSpecial {T : String} {name : Str} {id : String} {self : Value} {args : List Value} {kw : List (Str × Value)} {Q : Option Value → Shared → Prop} (hT : s.TypeIs self T) (slot : Slot T name id)
    (k : wpC M A (call (.builtin id) (self :: args) kw) (fun v => Q (some v)) E s) : wpC M A (callSpecial? self name args kw) Q E s := by
  simp only [callSpecial?]
  refine wpC_bind (wpC_of (wpAny_specialOf hT slot.lookup ?_))
  simp only [slot.bind]
  exact wpC_holding (wpC_bind (wpC_pure (wpC_bind (wpC_mono k (fun v s' h' => wpC_pure h') fun _ _ x => x))))
theorem C_ba_init {a : Addr} {Q : Value → Shared → Prop} (hg : A.guards = some []) (hb : s.heap.get? a = some (bao [])) (k : Q .none { s with heap := s.heap.update a (Obj.mapBytearray fun _ => #[]) }) : wpC (model prog w) A (call (.builtin "bytearray.__init__") [.ref a]) Q E s := by
  refine C_entry ba_slot_init ⟨_, hb, rfl⟩ ba_entry_init (ba_initArgs _) (by decide +kernel) ?_
  unfold Builtin.«bytearray.__init__»
  dsimp only
  refine wpC_bind (wpC_of (wpC_ownRelease hb ?_))
  refine wpC_if_false rfl ?_
  refine wpC_bind (wpC_of_eq ba_bind ?_)
  dsimp only
  refine wpC_bind (wpC_of_eq (a := ()) rfl ?_)
  refine wpC_bind (wpC_of_eq (a := ()) rfl ?_)
  refine wpC_bind (C_notHeld (A := A.in1) hg hb ?_)
  refine wpC_if_false rfl ?_
  refine wpC_bind (wpC_of (write_ba hb (Nat.zero_le _) ?_))
  exact wpC_bind (wpC_of_eq (a := ()) rfl (wpC_pure ⟨_, rfl, k⟩))
theorem C_ba_call {Q : Value → Shared → Prop} (hg : A.guards = some []) (k : ∀ h', h'.get? s.heap.objs.size = some (bao []) → Keeps s.heap h' → Q (.ref s.heap.objs.size) { s with heap := h' }) : wpC (model prog w) A (call (.type "bytearray") []) Q E s := by
  obtain ⟨c, tl, hmro⟩ := ba_called.mro
  refine wpC_call (codeC_of_tree ?_)
  show wpC _ _ (callAny (.type "bytearray") ⟨[], []⟩) _ _ _
  refine wpC_pure ⟨Code.quiet_builtin _ (by decide +kernel), rfl, codeC_of_tree ?_⟩
  rw [Around.under_plain (weight_type_call_type "bytearray" [] []) rfl]
  rw [den_builtin PySem.F.entry_type_call]
  unfold Builtin.«type.__call__»
  dsimp only
  refine wpC_if_false ba_called.notType ?_
  refine wpC_if_false ba_called.canCreate ?_
  refine wpC_bind (wpC_of_eq ba_typeCall ?_)
  refine wpC_bind (wpC_of_eq hmro ?_)
  refine wpC_if_false rfl ?_
  refine wpC_bind (wpC_of_eq ba_called.made ?_)
  dsimp only
  refine wpC_bind (wpC_pure ?_)
  refine wpC_bind (wpC_holding (wpC_of (ba_new ?_)))
  have hn : (s.heap.push (bao [])).get? s.heap.objs.size = some (bao []) := Heap.get?_push_size _ rfl
  refine wpC_bind (wpC_of (wpAny_isInstance (T := "bytearray") ⟨_, hn, rfl⟩ ba_sub ?_))
  refine wpC_if_false rfl ?_
  refine wpC_bind (wpC_holding (C_callSpecial (T := "bytearray") ⟨_, hn, rfl⟩ ba_slot_init (C_ba_init (A := A.in1) hg hn ?_)))
  dsimp only
  refine wpC_if_false rfl ?_
  refine wpC_pure ?_
  refine k _ ?_ ?_
  · exact Heap.get?_update_self _ hn rfl
  · intro b o e
    have hne : s.heap.objs.size ≠ b := fun q => by rw [← q] at e; exact absurd (Heap.lt_size e) (Nat.lt_irrefl _)
    exact (Heap.get?_update_other _ _ hne).trans (Heap.get?_push_of_some _ e)
theorem C_bytearray {Q : Value → Shared → Prop} (hg : A.guards = some []) (F : Fm K₀ K env gs lk ws h) (q : ∀ a h', Fm K₀ K env gs lk ((a, bao []) :: ws) h' → Q (.ref a) (up s h' t)) : wpC (model prog w) A (call (.type "bytearray") []) Q E (up s h t) :=
  C_ba_call (s := up s h t) hg fun h' e1 e2 => q _ _ (F.newObj e2 e1 (by
    show h.get? h.objs.size = none
    cases e : h.get? h.objs.size with
    | none => rfl
    | some o => exact absurd (Heap.lt_size e) (Nat.lt_irrefl _)))

theorem ba_plainAttrs : PlainAttrs "bytearray" :=
  ⟨⟨"bytearray.__getattribute__", by rw [typeLookup_type, builtinLookup_eq_fast]; kernel_rfl, by decide +kernel⟩, by rw [typeLookup_type, builtinLookup_eq_fast]; kernel_rfl⟩
theorem ba_slot_append : Slot "bytearray" "append" "bytearray.append" :=
  .of (owner := "bytearray") (n := "append") (by rw [typeLookup_type, builtinLookup_eq_fast]; kernel_rfl) (by decide +kernel) (by decide +kernel) (by decide +kernel)
    (by first | exact .inl (by decide +kernel) | exact .inr (by decide +kernel)) (by rw [isSubtype_type]; kernel_rfl)
theorem ba_slot_extend : Slot "bytearray" "extend" "bytearray.extend" :=
  .of (owner := "bytearray") (n := "extend") (by rw [typeLookup_type, builtinLookup_eq_fast]; kernel_rfl) (by decide +kernel) (by decide +kernel) (by decide +kernel)
    (by first | exact .inl (by decide +kernel) | exact .inr (by decide +kernel)) (by rw [isSubtype_type]; kernel_rfl)
theorem ba_type_append : typeOf (.builtin "bytearray.append") = pure (.type "method_descriptor") := by show builtinType _ = _; rw [builtinType_eq_fast]; kernel_rfl
theorem ba_type_extend : typeOf (.builtin "bytearray.extend") = pure (.type "method_descriptor") := by show builtinType _ = _; rw [builtinType_eq_fast]; kernel_rfl
theorem ba_entry_append : entryFor table "bytearray.append" = some Builtin.«bytearray.append» := entryFor_of_tree (by kernel_rfl)
theorem ba_entry_extend : entryFor table "bytearray.extend" = some Builtin.«bytearray.extend» := entryFor_of_tree (by kernel_rfl)
theorem ba_args_append (a b : Value) : argsOk "bytearray.append" ⟨[a, b], []⟩ := by unfold argsOk; kernel_rfl
theorem ba_args_extend (a b : Value) : argsOk "bytearray.extend" ⟨[a, b], []⟩ := by unfold argsOk; kernel_rfl
theorem C_method1 {o e : Expr} {name : Str} {T id : String} {apos pos : Pos} {Q : Value → Shared → Prop} (pa : PlainAttrs T) (slot : Slot T name id) (hty : typeOf (.builtin id) = pure (.type "method_descriptor"))
    (k : wpAny (model prog w) A (eval o env) (fun ov s₁ => s₁.TypeIs ov T ∧ (∀ a, ov = .ref a → ∃ ob, s₁.heap.get? a = some ob ∧ ob.dict = none) ∧ wpAny (model prog w) A (eval e env) (fun v s₂ => wpC (model prog w) A (call (.builtin id) [ov, v]) Q E s₂) E s₁) E s)
    (hbase : attributeBase o name env (eval o env) = eval o env := by rfl) (hline : (apos.endLine == pos.line) = true := by rfl) (htrees : backTo pos (starEach [e] env) = [(false, eval e env)] := by rfl) :
    wpC (model prog w) A (eval (.Call (.Attribute o name apos) [e] [] pos) env) Q E s := by
  rw [arm_eval_Call, hbase]
  refine wpC_bind (wpC_of (wpAny_mono k (fun ov s₁ h₁ => ?_) fun _ _ e => e))
  obtain ⟨hT, hd, hc⟩ := h₁
  refine wpC_bind (wpC_standAt ?_)
  have hform : methodCallForm ([e].length + ([] : List Keyword).length) (backTo pos (starEach [e] env)) (backToKw pos (keywordEach [] env)) = true := by rw [htrees]; rfl
  have hpos : methodCallPos true o env apos pos = pure pos := by unfold methodCallPos; simp [hline]
  unfold methodCall
  rw [hform]
  refine wpC_bind (wpC_holding (wpC_of (getMethod_builtin hT pa slot hty hd ?_)))
  refine wpC_bind (wpC_of_eq hpos ?_)
  rw [htrees]
  refine C_callWith_builtin rfl (Calls.evalArgs_plain (Calls.spliced_cons (wpAny_mono hc (fun v s₂ h₂ => Calls.spliced_nil h₂) fun _ _ x => x)))
theorem C_checkResize {a : Addr} {b : List UInt8} {Q : Unit → Shared → Prop} (hg : A.guards = some []) (hb : s.heap.get? a = some (bao b)) (k : Q () s) : wpC M A (Builtin.Bytes.checkResize (.ref a)) Q E s := by
  unfold Builtin.Bytes.checkResize
  exact wpC_bind (C_notHeld hg hb (wpC_if_false rfl (wpC_pure k)))
theorem byteValue_int {n : Int} {u : Tok} {Q : UInt8 → Shared → Prop} (h0 : 0 ≤ n ∧ n < 256) (k : Q n.toNat.toUInt8 s) : wpAny M A (Builtin.Bytes.byteValue (.int n u)) Q E s := by
  unfold Builtin.Bytes.byteValue
  refine wpAny_bind (wpAny_of_eq (a := n) rfl ?_)
  rw [if_neg (by simp; exact h0)]
  exact wpAny_pure k
theorem C_append {a : Addr} {b : List UInt8} {n : Int} {u : Tok} {Q : Value → Shared → Prop} (hg : A.guards = some []) (F : Fm K₀ K env gs lk ws h) (up1 : Upd1 ws a (bao b) (bao (b ++ [n.toNat.toUInt8])) ws') (h0 : 0 ≤ n ∧ n < 256) (hz : b.length < 100000)
    (q : ∀ h', Fm K₀ K env gs lk ws' h' → Q .none (up s h' t)) : wpC (model prog w) A (call (.builtin "bytearray.append") [.ref a, .int n u]) Q E (up s h t) := by
  have hb : (up s h t).heap.get? a = some (bao b) := F.isIn up1.mem
  refine C_entry ba_slot_append ⟨_, hb, rfl⟩ ba_entry_append (ba_args_append _ _) (by decide +kernel) ?_
  unfold Builtin.«bytearray.append»
  refine wpC_bind (wpC_of_eq (a := (Value.ref a, Value.int n u)) rfl ?_)
  refine wpC_bind (wpC_of (byteValue_int h0 ?_))
  refine wpC_bind (C_checkResize (A := A.in1) hg hb ?_)
  refine wpC_bind (wpC_of (write_ba hb (by rw [sizeLine_eq]; simp; exact Nat.le_of_lt (Nat.lt_of_lt_of_le hz (by decide))) ?_))
  refine wpC_pure ⟨_, rfl, q _ (F.upd up1 ?_ fun b x hb e => (Heap.get?_update_other h _ (Ne.symm hb)).trans e)⟩
  rw [show (up s h t).heap = h from rfl, Heap.get?_update_self (h := h) (a := a) _ hb rfl]
  simp [Obj.mapBytearray]
theorem by_buffer : typeLookup (.type "bytes") "__buffer__" = pure (some (.builtin "bytes.__buffer__")) := by rw [typeLookup_type, builtinLookup_eq_fast]; kernel_rfl
theorem by_release : typeLookup (.type "bytes") "__release_buffer__" = pure none := by rw [typeLookup_type, builtinLookup_eq_fast]; kernel_rfl
theorem by_buf_name : ("bytes.__buffer__".endsWith ("." ++ "__buffer__")) = true := by decide +kernel
theorem by_buf_owner : "bytes.__buffer__".dropRight ("__buffer__".length + 1) = "bytes" := by decide +kernel
theorem ba_buffer : typeLookup (.type "bytearray") "__buffer__" = pure (some (.builtin "bytearray.__buffer__")) := by rw [typeLookup_type, builtinLookup_eq_fast]; kernel_rfl
theorem ba_buf_name : ("bytearray.__buffer__".endsWith ("." ++ "__buffer__")) = true := by decide +kernel
theorem ba_buf_owner : "bytearray.__buffer__".dropRight ("__buffer__".length + 1) = "bytearray" := by decide +kernel
theorem by_sub : isSubtype (.type "bytes") (.type "bytes") = pure true := by rw [isSubtype_type]; kernel_rfl
theorem by_slotOwn {b : Array UInt8} {u : Tok} {Q : Bool → Shared → Prop} (k : Q true s) : wpAny M A (Builtin.Bytes.slotIsOwn (.bytes b u) "__buffer__") Q E s := by
  unfold Builtin.Bytes.slotIsOwn
  refine wpAny_bind (wpAny_specialOf (T := "bytes") rfl by_buffer ?_)
  dsimp only
  rw [by_buf_name, by_buf_owner]
  exact wpAny_isInstance (T := "bytes") rfl by_sub k
theorem ba_slotOwn {a : Addr} {b : List UInt8} {Q : Bool → Shared → Prop} (hb : s.heap.get? a = some (bao b)) (k : Q true s) : wpAny M A (Builtin.Bytes.slotIsOwn (.ref a) "__buffer__") Q E s := by
  unfold Builtin.Bytes.slotIsOwn
  refine wpAny_bind (wpAny_specialOf (T := "bytearray") ⟨_, hb, rfl⟩ ba_buffer ?_)
  dsimp only
  rw [ba_buf_name, ba_buf_owner]
  exact wpAny_isInstance (T := "bytearray") ⟨_, hb, rfl⟩ ba_sub k
theorem any_if_false {α : Type} {c : Bool} {a b : Sem α} {Q : α → Shared → Prop} (hc : c = false) (k : wpAny M A b Q E s) : wpAny M A (if c = true then a else b) Q E s := by rw [if_neg (by rw [hc]; decide)]; exact k
theorem by_ownRelease {b : Array UInt8} {u : Tok} {Q : Bool → Shared → Prop} (k : Q false s) : wpAny M A (Builtin.Bytes.ownRelease (.bytes b u)) Q E s := by
  unfold Builtin.Bytes.ownRelease Builtin.Bytes.slotIsOwn
  refine wpAny_bind (wpAny_bind (wpAny_specialOf (T := "bytes") rfl by_release ?_))
  exact wpAny_pure (wpAny_pure k)
theorem by_buffer? {id : String} {b : Array UInt8} {u : Tok} {full : Bool} {Q : Option (Array UInt8) → Shared → Prop} (k : Q (some b) s) : wpAny M A (Builtin.Bytes.buffer? id (.bytes b u) full) Q E s := by
  unfold Builtin.Bytes.buffer?
  refine wpAny_bind (wpAny_specialOf (T := "bytes") rfl by_buffer ?_)
  dsimp only
  refine wpAny_bind (by_slotOwn ?_)
  refine any_if_false rfl ?_
  refine wpAny_bind (wpAny_specialOf (T := "bytes") rfl by_buffer ?_)
  refine wpAny_bind (by_ownRelease ?_)
  refine any_if_false rfl ?_
  exact wpAny_bind (wpAny_of_eq (a := b) rfl (wpAny_pure k))
theorem ba_buffer? {id : String} {a : Addr} {b : List UInt8} {full : Bool} {Q : Option (Array UInt8) → Shared → Prop} (hb : s.heap.get? a = some (bao b)) (k : Q (some b.toArray) s) : wpAny M A (Builtin.Bytes.buffer? id (.ref a) full) Q E s := by
  unfold Builtin.Bytes.buffer?
  refine wpAny_bind (wpAny_specialOf (T := "bytearray") ⟨_, hb, rfl⟩ ba_buffer ?_)
  dsimp only
  refine wpAny_bind (ba_slotOwn hb ?_)
  refine any_if_false rfl ?_
  refine wpAny_bind (wpAny_specialOf (T := "bytearray") ⟨_, hb, rfl⟩ ba_buffer ?_)
  refine wpAny_bind (wpC_ownRelease hb ?_)
  refine any_if_false rfl ?_
  unfold Builtin.Bytes.payload Builtin.Bytes.payload?
  exact wpAny_bind (wpAny_bind (wpAny_bind (wpAny_load hb (wpAny_pure (wpAny_pure (wpAny_pure k))))))
theorem ba_payload {a : Addr} {b : List UInt8} {Q : Array UInt8 → Shared → Prop} (hb : s.heap.get? a = some (bao b)) (k : Q b.toArray s) : wpAny M A (Builtin.Bytes.payload (.ref a)) Q E s := by
  unfold Builtin.Bytes.payload Builtin.Bytes.payload?
  exact wpAny_bind (wpAny_bind (wpAny_load hb (wpAny_pure (wpAny_pure k))))
theorem by_take {id : String} {b : Array UInt8} {u : Tok} {fl : Int} {Q : Option (Array UInt8 × Option Value) → Shared → Prop} (k : Q (some (b, none)) s) : wpAny M A (Builtin.Bytes.takeBufferQuiet? id (.bytes b u) fl) Q E s := by
  unfold Builtin.Bytes.takeBufferQuiet? Builtin.Bytes.takeBuffer?
  refine wpAny_bind (wpAny_attempt ?_)
  refine wpAny_bind (wpAny_specialOf (T := "bytes") rfl by_buffer ?_)
  dsimp only
  refine wpAny_bind (by_slotOwn ?_)
  refine any_if_false rfl ?_
  refine wpAny_bind (wpAny_specialOf (T := "bytes") rfl by_buffer ?_)
  exact wpAny_bind (by_buffer? (wpAny_pure (wpAny_pure k)))
theorem C_extend {a : Addr} {b c : List UInt8} {u : Tok} {Q : Value → Shared → Prop} (hg : A.guards = some []) (F : Fm K₀ K env gs lk ws h) (up1 : Upd1 ws a (bao b) (bao (b ++ c)) ws') (hz : b.length < 100000 ∧ c.length < 100000)
    (q : ∀ h', Fm K₀ K env gs lk ws' h' → Q .none (up s h' t)) : wpC (model prog w) A (call (.builtin "bytearray.extend") [.ref a, .bytes c.toArray u]) Q E (up s h t) := by
  have hb : (up s h t).heap.get? a = some (bao b) := F.isIn up1.mem
  refine C_entry ba_slot_extend ⟨_, hb, rfl⟩ ba_entry_extend (ba_args_extend _ _) (by decide +kernel) ?_
  unfold Builtin.«bytearray.extend»
  refine wpC_bind (wpC_of_eq (a := (Value.ref a, Value.bytes c.toArray u)) rfl ?_)
  dsimp only
  refine wpC_bind (wpC_of (wpAny_specialOf (T := "bytes") rfl by_buffer ?_))
  refine wpC_if_true rfl ?_
  refine wpC_bind (wpC_of (wpAny_rule ?_))
  refine wpC_bind (wpC_of (ba_payload hb ?_))
  refine wpC_bind (wpC_of (by_take ?_))
  dsimp only
  refine wpC_if_true rfl ?_
  show wpC _ _ (do
    if !c.toArray.isEmpty then Builtin.Bytes.checkResize (.ref a)
    Builtin.Bytes.write (.ref a) (· ++ c.toArray)
    ret .none) _ _ _
  have fin : wpC (model prog w) A.in1 (do Builtin.Bytes.write (.ref a) (· ++ c.toArray); ret .none) (fun fin s' => ∃ v, fin = PySem.Fin.done (Flow.ret v) ∧ Q v s') E (up s h t) := by
    refine wpC_bind (wpC_of (write_ba hb (by rw [sizeLine_eq]; simp; lia) ?_))
    refine wpC_pure ⟨_, rfl, q _ (F.upd up1 ?_ fun b x hb e => (Heap.get?_update_other h _ (Ne.symm hb)).trans e)⟩
    rw [show (up s h t).heap = h from rfl, Heap.get?_update_self (h := h) (a := a) _ hb rfl]
    simp [Obj.mapBytearray]
  cases hc : !c.toArray.isEmpty with
  | false => exact fin
  | true => exact wpC_bind (C_checkResize (A := A.in1) hg hb fin)
/-- bytes(a bytearray) -/
theorem ba_bytes_no : typeLookup (.type "bytearray") "__bytes__" = pure none := by rw [typeLookup_type, builtinLookup_eq_fast]; kernel_rfl
theorem ba_index_no : typeLookup (.type "bytearray") "__index__" = pure none := by rw [typeLookup_type, builtinLookup_eq_fast]; kernel_rfl
theorem bytes_ba_new {a : Addr} {b : List UInt8} {Q : Value → Shared → Prop} (hb : s.heap.get? a = some (bao b)) (hz : b.length < 1000000) (k : ∀ tk t', Q (.bytes b.toArray tk) { s with toks := t' }) :
    codeAny (model prog w) A (.call (.builtin "bytes.__new__") ⟨[.type "bytes", .ref a], []⟩) (wants Q E) s := by
  have hT : s.TypeIs (.ref a) "bytearray" := ⟨_, hb, rfl⟩
  refine codeAny_of_tree ?_
  show wpAny _ A.in1 (do checkBuiltinCall "bytes.__new__" ⟨[.type "bytes", .ref a], []⟩; again (.builtin "bytes.__new__" ⟨[.type "bytes", .ref a], []⟩)) _ _ s
  refine wpAny_bind (wpAny_of_eq (PySem.F.bm_newCall _) (wpAny_pure ⟨plainId_quiet PySem.F.bm_plain _, codeAny_builtin PySem.F.bm_entry ?_⟩))
  rw [Around.under_plainId PySem.F.bm_plain _]
  unfold Builtin.«bytes.__new__»
  refine wpAny_bind (wpAny_of_eq (a := true) rfl ?_)
  refine any_if_false rfl ?_
  refine wpAny_bind (wpAny_of_eq PySem.F.bm_sub ?_)
  refine any_if_false rfl ?_
  refine wpAny_bind (wpAny_of_eq (PySem.F.bm_bind _) ?_)
  refine wpAny_bind (wpAny_of_eq (a := ()) rfl ?_)
  refine wpAny_bind (wpAny_of_eq (a := ()) rfl ?_)
  refine any_if_false rfl ?_
  refine wpAny_bind (wpAny_specialOf hT ba_bytes_no ?_)
  refine wpAny_bind (wpAny_bind ?_)
  show wpAny _ _ (load a >>= _) _ _ _
  refine wpAny_bind (wpAny_load hb ?_)
  refine wpAny_pure (wpAny_pure ?_)
  refine any_if_false rfl ?_
  refine wpAny_bind (wpAny_specialOf hT ba_index_no ?_)
  refine PySem.bm_if_true rfl ?_
  first
    | show wpAny _ _ (Builtin.Bytes.buffer? "bytes.__new__" (.ref a) true >>= _) _ _ _
    | (refine wpAny_bind ?_; show wpAny _ _ (Builtin.Bytes.buffer? "bytes.__new__" (.ref a) true >>= _) _ _ _)
  refine wpAny_bind (ba_buffer? hb ?_)
  refine wpAny_bind (wpAny_rule ?_)
  refine wpAny_bind ?_
  refine wpAny_mkBytes ?_ (by rw [sizeLine_eq]; simp; exact Nat.le_of_lt (Nat.lt_of_lt_of_le hz (by decide)))
  first
  | exact wpAny_pure (k _ _)
  | exact wpAny_bind (wpAny_pure (wpAny_pure (k _ _)))
theorem bytes_ba {a : Addr} {b : List UInt8} {Q : Value → Shared → Prop} (hb : h.get? a = some (bao b)) (hz : b.length < 1000000) (q : ∀ tk t', Q (.bytes b.toArray tk) (up s h t')) : wpAny (model prog w) A (call (.type "bytes") [.ref a]) Q E (up s h t) := by
  refine callType_codes (s := up s h t) (Q₁ := fun obj s₁ => s₁.TypeIs obj "bytes" ∧ Q obj s₁) PySem.F.bm_called (PySem.F.bm_typeCall _) PySem.F.entry_object_init
    (bytes_ba_new (s := up s h t) hb hz fun tk t' => ⟨PySem.W.typeIs_bytes _ _ _, q tk t'⟩) fun obj s₁ h₁ => ?_
  exact ⟨h₁.1, PySem.F.args_object_init_2 obj _, object_init_meets PySem.F.bm_called.init.lookup PySem.F.bm_called.made (by decide) prog w A.in1 _ s₁ ⟨h₁.1, rfl, h₁.2⟩⟩
end
end Mine
end
section
open PySem PySem.W PyProof.Rows
set_option Elab.async false
set_option maxRecDepth 100000
set_option linter.unusedVariables false
namespace Mine
section
variable {prog : Program} {w : World} {M : Model} {A : Around} {E : Value → Shared → Prop} {s : Shared} {t : Nat} {K₀ K : KMap} {env : Env} {gs : List Str} {lk : List Var} {ws ws' : List (Addr × Obj)} {h : Heap}
theorem i_add {a b : Int} {u v : Tok} {Q : Value → Shared → Prop} (q : ∀ tk t', Q (.int (a + b) tk) (up s h t')) : wpAny (model prog w) A (inplaceOp .Add (.int a u) (.int b v)) Q E (up s h t) := wpAny_iadd_int (q _ _)
theorem i_sub {a b : Int} {u v : Tok} {Q : Value → Shared → Prop} (q : ∀ tk t', Q (.int (a - b) tk) (up s h t')) : wpAny (model prog w) A (inplaceOp .Sub (.int a u) (.int b v)) Q E (up s h t) := AutoIntOps.isub_0 (q _ _)
theorem i_div {a b : Int} {u v : Tok} {Q : Value → Shared → Prop} (hb : 0 < b ∧ b < 1073741824) (q : ∀ tk t', Q (.int (a / b) tk) (up s h t')) : wpAny (model prog w) A (inplaceOp .FloorDiv (.int a u) (.int b v)) Q E (up s h t) := by
  refine AutoIntOps.ifloordiv_1 (by simp; omega) (by rw [PyProof.noPylong_small (by omega)]; decide) ?_
  rw [Int.fdiv_eq_ediv_of_nonneg _ (by lia)]; exact q _ _
theorem i_mod {a b : Int} {u v : Tok} {Q : Value → Shared → Prop} (hb : 0 < b) (q : ∀ tk t', Q (.int (a % b) tk) (up s h t')) : wpAny (model prog w) A (inplaceOp .Mod (.int a u) (.int b v)) Q E (up s h t) := by
  refine AutoIntOps.imod_1 (by simp; omega) ?_
  rw [Int.fmod_eq_emod_of_nonneg _ (by lia)]; exact q _ _
theorem gi_digits {k : Int} {tk : Tok} (i : Nat) {value slice : Expr} {Q : Value → Shared → Prop} (hk : k = (i : Int)) (hi : i < 36) (q : ∀ tk' t', Q (.int ((dig i).toNat : Nat) tk') (up s h t'))
    (hs : subscripted slice false (.bytes digitsB 307) (.int k tk) = operate [.bytes digitsB 307, .int k tk] (getItem (.bytes digitsB 307) (.int k tk))) : wpAny (model prog w) A (subscriptTail value slice (.bytes digitsB 307) (.int k tk)) Q E (up s h t) := by
  subst hk
  refine tail_any (T := "bytes") (s := up s h t) rfl PySem.W.FB.slot_bytes_getitem.lookup (PySem.W.getItem_bytes (l := digitsL) (by decide) (by exact Int.natCast_nonneg _) (by show (i : Int) < 36; exact Int.ofNat_lt.mpr hi) ?_) hs
  rw [Int.toNat_natCast]
  exact q t (t + 1)
end

/-- the numeral's edge -/
noncomputable def tN (j b : Nat) : Nat := if 36 * (j + 1) ≤ b then 1 else if 36 * (j + 1) > b + 26 then 26 else 36 * (j + 1) - b
theorem tN_range (j b : Nat) : 1 ≤ tN j b ∧ tN j b ≤ 26 := by unfold tN; split; decide; split <;> omega
noncomputable def ggiN (N b j : Nat) : List UInt8 :=
  if N < tN j b then [dig N] else dig (tN j b + (N - tN j b) % (36 - tN j b)) :: ggiN ((N - tN j b) / (36 - tN j b)) b (j + 1)
termination_by N
decreasing_by
  have := tN_range j b
  have h2 : (N - tN j b) / (36 - tN j b) ≤ N - tN j b := Nat.div_le_self _ _
  omega
theorem ggiN_eq (N b j : Nat) : ggiN N b j = if N < tN j b then [dig N] else dig (tN j b + (N - tN j b) % (36 - tN j b)) :: ggiN ((N - tN j b) / (36 - tN j b)) b (j + 1) := by rw [ggiN]
noncomputable def adaptLoop (d k : Nat) : Nat := if 455 < d then adaptLoop (d / 35) (k + 36) else k + 36 * d / (d + 38)
termination_by d
decreasing_by lia
theorem adaptLoop_eq (d k : Nat) : adaptLoop d k = if 455 < d then adaptLoop (d / 35) (k + 36) else k + 36 * d / (d + 38) := by rw [adaptLoop]
noncomputable def adaptN (d : Nat) (first : Bool) (n : Nat) : Nat := adaptLoop ((if first then d / 700 else d / 2) + (if first then d / 700 else d / 2) / n) 0
noncomputable def giGo (base : Nat) : List Nat → Nat → Nat → List UInt8
  | [], _, _ => []
  | d :: r, p, b => ggiN d b 0 ++ giGo base r (p + 1) (adaptN d (p == 0) (base + p + 1))
noncomputable def giN (base : Nat) (ds : List Nat) : List UInt8 := giGo base ds 0 72
end Mine
end
section
open PySem PySem.W PyProof.Rows
set_option Elab.async false
set_option maxRecDepth 100000
set_option linter.unusedVariables false
namespace Mine
noncomputable abbrev eno (it : Addr) (i : Int) (old : Value) : Obj := { cls := .type "enumerate", data := .fields #[.none, .bool false, .ref it, rawInt i, .none, old] }
section
variable {K₀ K : KMap} {env : Env} {gs : List Str} {lk : List Var} {ws ws' : List (Addr × Obj)} {h h' : Heap}
/-- own objects have changed, all else stands -/
theorem Fm.reown (F : Fm K₀ K env gs lk ws h) (ha : ws'.map (·.1) = ws.map (·.1)) (hw : ∀ p ∈ ws', h'.get? p.1 = some p.2) (hkp : ∀ b o, b ∉ ws.map (·.1) → h.get? b = some o → h'.get? b = some o) : Fm K₀ K env gs lk ws' h' := by
  have hap := F.apart
  have hn : ∀ b, (b = env.locals ∨ b ∈ (cellsOf lk).map (·.1)) → b ∉ ws.map (·.1) := by
    intro b hb hm
    simp only [List.nodup_cons, List.map_append, List.nodup_append, List.mem_append, not_or] at hap
    rcases hb with rfl | hb
    · exact hap.1.2 hm
    · exact hap.2.2.2 b hb b hm rfl
  have hK : ∀ b o, K b = some o → b ∉ ws.map (·.1) := fun b o e hm => by
    obtain ⟨p, hp, rfl⟩ := List.mem_map.mp hm
    rw [(F.own p (List.mem_append_right _ hp)).2] at e; cases e
  obtain ⟨oL, es, ep, eL, r⟩ := F.nsp
  refine { F with nsp := ⟨oL, es, ep, hkp _ _ (hn _ (.inl rfl)) eL, r⟩, kept := fun b o e => hkp b o (hK b o e) (F.kept b o e), own := fun p hp => ?_, apart := by rw [List.map_append, ha, ← List.map_append]; exact hap }
  rcases List.mem_append.mp hp with hp | hp
  · exact ⟨hkp _ _ (hn _ (.inr (List.mem_map_of_mem hp))) (F.own p (List.mem_append_left _ hp)).1, (F.own p (List.mem_append_left _ hp)).2⟩
  · refine ⟨hw p hp, ?_⟩
    have : p.1 ∈ ws.map (·.1) := by rw [← ha]; exact List.mem_map_of_mem hp
    obtain ⟨p', hp', e⟩ := List.mem_map.mp this
    rw [← e]; exact (F.own p' (List.mem_append_right _ hp')).2
theorem Fm.addOwn (F : Fm K₀ K env gs lk ws h) {a : Addr} {o : Obj} (ha : h.get? a = some o) (hK : K a = none) (hn : a ∉ env.locals :: (cellsOf lk ++ ws).map (·.1)) : Fm K₀ K env gs lk ((a, o) :: ws) h := by
  refine { F with own := fun p hp => ?_, apart := ?_ }
  · rcases List.mem_append.mp hp with hp | hp
    · exact F.own p (List.mem_append_left _ hp)
    · rcases List.mem_cons.mp hp with rfl | hp
      · exact ⟨ha, hK⟩
      · exact F.own p (List.mem_append_right _ hp)
  · have hperm : (env.locals :: (cellsOf lk ++ (a, o) :: ws).map (·.1)).Perm (a :: env.locals :: (cellsOf lk ++ ws).map (·.1)) := by
      simp only [List.map_append, List.map_cons]
      exact ((List.perm_middle (a := a) (l₁ := env.locals :: (cellsOf lk).map (·.1)) (l₂ := ws.map (·.1))))
    exact hperm.nodup_iff.mpr (List.nodup_cons.mpr ⟨hn, F.apart⟩)
theorem Fm.newObjs (F : Fm K₀ K env gs lk ws h) (hkp : Keeps h h') : ∀ {nws : List (Addr × Obj)}, (∀ p ∈ nws, h'.get? p.1 = some p.2 ∧ h.get? p.1 = none) → (nws.map (·.1)).Nodup → Fm K₀ K env gs lk (nws ++ ws) h' := by
  intro nws
  induction nws with
  | nil => intro _ _; exact F.keeps hkp
  | cons p r ih =>
    intro hn nd
    simp only [List.map_cons, List.nodup_cons] at nd
    have F' := ih (fun q hq => hn q (.tail _ hq)) nd.2
    obtain ⟨h1, h2⟩ := hn p (.head _)
    have hne : ∀ b ob, h.get? b = some ob → b ≠ p.1 := fun b ob e q => by rw [q, h2] at e; cases e
    refine F'.addOwn h1 ?_ ?_
    · cases e : K p.1 with
      | none => rfl
      | some o => exact absurd rfl (hne _ _ (F.kept _ _ e))
    · intro hm
      obtain ⟨oL, eL⟩ := F.L_some
      rcases List.mem_cons.mp hm with e | hm
      · exact hne _ _ eL e.symm
      · obtain ⟨q, hq, e⟩ := List.mem_map.mp hm
        rcases List.mem_append.mp hq with hq | hq
        · exact hne _ _ (F.own q (List.mem_append_left _ hq)).1 e
        · rcases List.mem_append.mp hq with hq | hq
          · exact nd.1 (e ▸ List.mem_map_of_mem hq)
          · exact hne _ _ (F.own q (List.mem_append_right _ hq)).1 e
theorem none_above (m : Nat) (hm : h.objs.size ≤ m) : h.get? m = none := by
  cases e : h.get? m with
  | none => rfl
  | some o => exact absurd (Heap.lt_size e) (Nat.not_lt.mpr hm)
end
section
variable {prog : Program} {w : World} {M : Model} {A : Around} {E : Value → Shared → Prop} {s : Shared} {t : Nat} {K₀ K : KMap} {env : Env} {gs : List Str} {lk lk1 lk2 lk3 : List Var} {ws ws' : List (Addr × Obj)} {h : Heap}
theorem keeps_of_extBut {h' : Heap} (hs : Heap.ExtBut h.objs.size h h') : Keeps h h' := fun b o e => hs b o (Nat.ne_of_lt (Heap.lt_size e)) e
theorem asg2 {n1 n2 : Str} {p1 p2 pos : Pos} {k : Nat} {T : Addr} {v1 v2 : Value} {n : Nat} {Q : Unit → Shared → Prop} (hh : A.handled = none) (F : Fm K₀ K env gs lk ws h) (hT : h.get? T = some (tup [v1, v2] n)) (u1 : Put lk n1 v1 lk1) (u2 : Put lk1 n2 v2 lk2)
    (q : ∀ h' t', Fm K₀ K env gs lk2 ws h' → Q () (up s h' t')) : wpAny (model prog w) A (assign (.Tuple [.Name n1 p1, .Name n2 p2] k pos) env (.ref T)) Q E (up s h t) := by
  refine wpAny_assign_Tuple (s := up s h t) hh (items := #[v1, v2]) ⟨_, hT, rfl, n, rfl⟩ rfl rfl fun h' hs => ?_
  have F' := F.keeps (keeps_of_extBut hs)
  refine wpAny_assignInOrder_more (asg (s := s) (h := h') (t := t) F' u1 fun h2 t2 F2 => ?_)
  exact wpAny_assignInOrder_more (asg F2 u2 fun h3 t3 F3 => wpAny_assignInOrder_none (q _ _ F3))
theorem asg3 {n1 n2 n3 : Str} {p1 p2 p3 pos : Pos} {k : Nat} {T : Addr} {v1 v2 v3 : Value} {n : Nat} {Q : Unit → Shared → Prop} (hh : A.handled = none) (F : Fm K₀ K env gs lk ws h) (hT : h.get? T = some (tup [v1, v2, v3] n)) (u1 : Put lk n1 v1 lk1) (u2 : Put lk1 n2 v2 lk2) (u3 : Put lk2 n3 v3 lk3)
    (q : ∀ h' t', Fm K₀ K env gs lk3 ws h' → Q () (up s h' t')) : wpAny (model prog w) A (assign (.Tuple [.Name n1 p1, .Name n2 p2, .Name n3 p3] k pos) env (.ref T)) Q E (up s h t) := by
  refine wpAny_assign_Tuple (s := up s h t) hh (items := #[v1, v2, v3]) ⟨_, hT, rfl, n, rfl⟩ rfl rfl fun h' hs => ?_
  have F' := F.keeps (keeps_of_extBut hs)
  refine wpAny_assignInOrder_more (asg (s := s) (h := h') (t := t) F' u1 fun h2 t2 F2 => ?_)
  exact wpAny_assignInOrder_more (asg F2 u2 fun h3 t3 F3 => wpAny_assignInOrder_more (asg F3 u3 fun h4 t4 F4 => wpAny_assignInOrder_none (q _ _ F4)))
theorem enum_l {l : Addr} {vs : List Value} {n : Nat} {Q : Value → Shared → Prop} (F : Fm K₀ K env gs lk ws h) (hl : h.get? l = some (lst vs n)) (q : ∀ e it io h', IsLI io l 0 → Fm K₀ K env gs lk ((e, eno it 0 .none) :: (it, io) :: ws) h' → Q (.ref e) (up s h' t)) :
    wpAny (model prog w) A (call (.type "enumerate") [.ref l]) Q E (up s h t) := by
  refine call_enumerate_list (s := up s h t) (items := vs.toArray) ⟨_, hl, rfl, _, rfl⟩ fun h' he hi hsz hkp => ?_
  obtain ⟨io, e1, e2, e3⟩ := hi
  refine q (h.objs.size + 1) h.objs.size io h' ⟨e2, e3⟩ (F.newObjs (nws := [(h.objs.size + 1, eno h.objs.size 0 .none), (h.objs.size, io)]) hkp (fun p hp => ?_) ?_)
  · rcases List.mem_cons.mp hp with rfl | hp
    · exact ⟨he, none_above _ (Nat.le_succ _)⟩
    · rcases List.mem_cons.mp hp with rfl | hp
      · exact ⟨e1, none_above _ (Nat.le_refl _)⟩
      · cases hp
  · simp
theorem iter_enum {e it : Addr} {i : Int} {old : Value} {Q : Value → Shared → Prop} (hl : h.get? e = some (eno it i old)) (q : Q (.ref e) (up s h t)) : wpAny (model prog w) A (pyIter (.ref e)) Q E (up s h t) := wpAny_pyIter_enum (s := up s h t) hl q
/-- a turn's start of «for a, b in enumerate(list)» -/
theorem nx_enum {e it l : Addr} {io : Obj} {i : Nat} {old x : Value} {vs : List Value} {n : Nat} {n1 n2 : Str} {p1 p2 pos : Pos} {k : Nat} {N : Shared → Prop} {Q : Unit → Shared → Prop} {lk1 lk2 : Tok → List Var} (hh : A.handled = none)
    (F : Fm K₀ K env gs lk ((e, eno it i old) :: (it, io) :: ws) h) (hio : IsLI io l i) (hl : h.get? l = some (lst vs n)) (hx : vs[i]? = some x) (u1 : ∀ tk, Put lk n1 (.int i tk) (lk1 tk)) (u2 : ∀ tk, Put (lk1 tk) n2 x (lk2 tk))
    (q : ∀ tk io' h' t', IsLI io' l (i + 1) → Fm K₀ K env gs (lk2 tk) ((e, eno it ((i : Int) + 1) x) :: (it, io') :: ws) h' → Q () (up s h' t')) :
    wpAny (model prog w) A (pyNext (.ref e)) (fun r s₁ => match r with
      | none => N s₁
      | some v => wpAny (model prog w) A (letOwnedTupleGo (.Tuple [.Name n1 p1, .Name n2 p2] k pos) (.ref e) v) (fun _ s₁' => wpAny (model prog w) A (assign (.Tuple [.Name n1 p1, .Name n2 p2] k pos) env v) Q E s₁') E s₁) E (up s h t) := by
  have hei : e ≠ it := by
    intro q
    have := F.apart
    simp only [List.map_append, List.map_cons, List.nodup_cons, List.nodup_append, List.mem_cons, not_or] at this
    exact this.2.2.1.1.1 q
  refine wpAny_pyNext_enum_item (s := up s h t) (items := vs.toArray) (F.isIn (.head _)) ⟨io, F.isIn (.tail _ (.head _)), hio.1, hio.2⟩ ⟨_, hl, rfl, _, rfl⟩ (by simpa using hx) hei fun h' he hit hT hsz hkp => ?_
  have hTe : (up s h t).heap.objs.size ≠ e := fun q => by
    have := F.isIn (a := e) (.head _); rw [← q] at this; exact absurd (Heap.lt_size this) (Nat.lt_irrefl _)
  refine wpAny_letOwnedTupleGo_enum he fun h2 he2 hs2 => ?_
  obtain ⟨io', i1, i2, i3⟩ := hit
  have F2 : Fm K₀ K env gs lk ((e, eno it ((i : Int) + 1) x) :: (it, io') :: ws) h2 := by
    refine F.reown rfl (fun p hp => ?_) (fun b o hb eb => ?_)
    · rcases List.mem_cons.mp hp with rfl | hp
      · exact he2
      · have hpe : p.1 ≠ e := by
          intro q
          have := F.apart
          simp only [List.map_append, List.map_cons, List.nodup_cons, List.nodup_append, List.mem_cons, not_or] at this
          rcases List.mem_cons.mp hp with rfl | hp
          · exact this.2.2.1.1.1 q.symm
          · exact this.2.2.1.1.2 (q ▸ List.mem_map_of_mem hp)
        rw [hs2.2 _ hpe]
        rcases List.mem_cons.mp hp with rfl | hp
        · exact i1
        · have hpi : p.1 ≠ it := by
            intro q
            have := F.apart
            simp only [List.map_append, List.map_cons, List.nodup_cons, List.nodup_append, List.mem_cons, not_or] at this
            exact this.2.2.1.2.1 (q ▸ List.mem_map_of_mem hp)
          exact hkp _ _ hpe hpi (F.isIn (.tail _ (.tail _ hp)))
    · simp only [List.map_cons, List.mem_cons, not_or] at hb
      exact (hs2.2 b hb.1).trans (hkp b o hb.1 hb.2.1 eb)
  have hT2 : h2.get? (up s h t).heap.objs.size = some (tup [.int i (up s h t).toks, x] 0) := by rw [hs2.2 _ hTe]; exact hT
  exact asg2 (s := s) (h := h2) hh F2 hT2 (u1 _) (u2 _) fun h3 t3 F3 => q _ _ _ _ ⟨i2, i3⟩ F3
theorem nx_enum_end {e it l : Addr} {io : Obj} {i : Nat} {old : Value} {vs : List Value} {n : Nat} {Q : Option Value → Shared → Prop} (hh : A.handled = none)
    (F : Fm K₀ K env gs lk ((e, eno it i old) :: (it, io) :: ws) h) (hio : IsLI io l i) (hl : h.get? l = some (lst vs n)) (hx : vs.length ≤ i) (q : ∀ h', Fm K₀ K env gs lk ws h' → Q none (up s h' t)) : wpAny (model prog w) A (pyNext (.ref e)) Q E (up s h t) :=
  wpAny_pyNext_enum_end (s := up s h t) (items := vs.toArray) hh (F.isIn (.head _)) ⟨io, F.isIn (.tail _ (.head _)), hio.1, hio.2⟩ ⟨_, hl, rfl, _, rfl⟩ (by simpa using hx) fun h' hs => q _ ((F.drop (ws' := (it, io) :: ws) (List.sublist_cons_self _ _)).extBut hs)
end
end Mine
end
section
namespace Mine
open PySem
/-- a list's ints -/
def NatsAre : List Value → List Nat → Prop
  | [], [] => True
  | v :: vs, d :: ds => (∃ tk, v = .int (d : Nat) tk) ∧ NatsAre vs ds
  | _, _ => False
theorem NatsAre.length : ∀ {vs : List Value} {ds : List Nat}, NatsAre vs ds → vs.length = ds.length
  | [], [], _ => rfl
  | _ :: _, _ :: _, h => by simp [NatsAre.length h.2]
  | [], _ :: _, h => h.elim
  | _ :: _, [], h => h.elim
theorem NatsAre.get : ∀ {vs : List Value} {ds : List Nat}, NatsAre vs ds → ∀ {i : Nat} {d : Nat}, ds[i]? = some d → ∃ tk, vs[i]? = some (.int (d : Nat) tk)
  | [], [], _, i, d, e => by simp at e
  | _ :: _, _ :: _, h, 0, d, e => by
    simp only [List.getElem?_cons_zero, Option.some.injEq] at e
    subst e
    obtain ⟨⟨tk, e'⟩, _⟩ := h
    exact ⟨tk, by simp [e']⟩
  | _ :: _, _ :: _, h, i + 1, d, e => by
    simp only [List.getElem?_cons_succ] at e ⊢
    exact NatsAre.get h.2 e
  | [], _ :: _, h, _, _, _ => h.elim
  | _ :: _, [], h, _, _, _ => h.elim
theorem NatsAre.snoc : ∀ {vs : List Value} {ds : List Nat} {d : Nat} {tk : Tok}, NatsAre vs ds → NatsAre (vs ++ [.int (d : Nat) tk]) (ds ++ [d])
  | [], [], d, tk, _ => ⟨⟨tk, rfl⟩, trivial⟩
  | _ :: _, _ :: _, d, tk, h => ⟨h.1, NatsAre.snoc h.2⟩
  | [], _ :: _, _, _, h => h.elim
  | _ :: _, [], _, _, h => h.elim
theorem ggiN_len : ∀ (k N b j : Nat), N < 10 ^ k → (ggiN N b j).length ≤ k + 1 := by
  intro k
  induction k with
  | zero =>
    intro N b j h
    have hT := tN_range j b
    rw [ggiN_eq, if_pos (by omega)]; simp
  | succ k ih =>
    intro N b j h
    have hT := tN_range j b
    rw [ggiN_eq]
    split
    · simp
    · have : (N - tN j b) / (36 - tN j b) < 10 ^ k := by
        have h1 : (N - tN j b) / (36 - tN j b) ≤ (N - tN j b) / 10 := Nat.div_le_div_left (by omega) (by exact Nat.succ_pos _)
        have h2 : (N - tN j b) / 10 < 10 ^ k := by
          rw [Nat.pow_succ] at h
          (clear hT h1; omega)
        exact Nat.lt_of_le_of_lt h1 h2
      have := ih _ b (j + 1) this
      simp only [List.length_cons]
      (clear h; lia)
end Mine
end
section
open PySem PySem.W PyProof.Rows
set_option Elab.async false
set_option maxRecDepth 100000
set_option maxHeartbeats 4000000
namespace Mine
theorem endsC {w : World} {t : Sem Fin} {s : Shared} {R : Flow → Shared → Prop} (hreg : s.asleep)
    (h : wpC (model P w) callerA t (fun fin s' => ∃ f, fin = .done f ∧ R f s' ∧ leftWithCleanup s'.gens = false) (fun _ _ => False) s) :
    ∃ n f s' s'', runN (denote table) P w n s ⟨t, .builtin "claim.caller" {}, default, []⟩ = .halted (outcomeOf (.ok f)) s' ∧
      schedN (denote table) P w n (.single s ⟨t, .builtin "claim.caller" {}, default, []⟩) = .halted (outcomeOf (.ok f)) s' ∧ s'.forget = s''.forget ∧ R f s'' := by
  have hc : Clean ⟨.builtin "claim.caller" {}, none, none, [], none⟩ := ⟨by decide +kernel, fun x hx => by cases hx⟩
  obtain ⟨n, r, s₁, s₂, hs, hn, hfo, f, rfl, hR⟩ := wp_halts_full (M := model P w) (R := fun r s' => ∃ f, r = .ok f ∧ R f s') hreg
    (Sem.wp_mono (model P w) _ t (fun fin p' s' h' => by
      obtain ⟨f, rfl, a, b⟩ := h'
      exact ⟨⟨f, rfl, a⟩, b⟩) (fun _ _ _ h' => h'.elim) default s (h _ default caller_in hc))
  exact ⟨n, f, s₂, s₁, hn, hs, hfo, hR⟩

/-- what the top holds, but for the law's place of codes -/
noncomputable def K0 (h : Heap) : KMap := fun b => if b = 160 then none else h.get? b
theorem K0_sub (h : Heap) : Sub (K0 h) h := fun b o e => by
  unfold K0 at e; split at e
  · cases e
  · exact e
theorem K0_of {h : Heap} {b : Addr} {o : Obj} (hb : b ≠ 160) (e : h.get? b = some o) : K0 h b = some o := by unfold K0; rw [if_neg hb]; exact e
/-- the top as the law's walk wants it -/
structure BaseL (K₀ : KMap) : Prop where
  base : Base K₀
  fn : ∀ p ∈ FT', ∃ pm, Fn K₀ p.1 (fdOf (stm p.2.1) p.2.2.2 (.ref p.2.2.1) pm)
  t78 : K₀ 78 = some oneNone
  t84 : K₀ 84 = some oneNone
  code : K₀ 162 = some lawCode
theorem Ns_sub {h h' : Heap} {a : Addr} {m : Str → Option Value} (x : h.Ns a m) (ha : a ≠ 160) (hs : Sub (K0 h) h') : h'.Ns a m := by
  obtain ⟨o, es, ep, e, r⟩ := x
  exact ⟨o, es, ep, hs _ _ (K0_of ha e), r⟩
theorem fdAt_spec {h : Heap} {a : Addr} {st : Stmt} {d c : Value} (hst : ∃ n a' b x y z sc u v p, st = .FunctionDef n a' b x y z sc u v p) (e : fdAt h a = some (fdOf st d c .none)) : ∃ pm o, h.get? a = some o ∧ o.data = .func (fdOf st d c pm) := by
  obtain ⟨n, a', b, x, y, z, sc, u, v, p, rfl⟩ := hst
  unfold fdAt at e
  split at e
  · rename_i fd he
    obtain ⟨o, ho, hd⟩ := Option.map_eq_some_iff.mp he
    refine ⟨fd.pyModule, o, ho, hd.trans (congrArg Data.func ?_)⟩
    have e := Option.some.inj e
    cases fd
    simp only [fdOf, FuncData.mk.injEq] at e ⊢
    simp_all
  · cases e
theorem cdAt_spec {h : Heap} {a : Addr} {q : Str} (e : cdAt h a = some q) : ∃ o vs t, h.get? a = some o ∧ o.data = .fields vs ∧ vs[1]? = some (.str q t) := by
  unfold cdAt at e
  split at e
  · rename_i vs he
    obtain ⟨o, ho, hd⟩ := Option.map_eq_some_iff.mp he
    split at e
    · rename_i q' t hv
      cases e
      exact ⟨o, vs, t, ho, hd, hv⟩
    · cases e
  · cases e
theorem ft_far : ∀ p ∈ FT', p.1 ≠ 160 ∧ p.2.2.1 ≠ 160 := by decide
theorem ft_def : ∀ p ∈ FT', (match stm p.2.1 with | .FunctionDef .. => true | _ => false) = true := by decide +kernel
theorem ft_scope : ∀ p ∈ FT', scopeOk (fdOf (stm p.2.1) p.2.2.2 (.ref p.2.2.1) .none).scope = true := by decide +kernel
theorem baseL_of {w : World} {s : Shared} (G : Ground qv qloose [] (fun _ _ => True) w s (s.heap.nsMap mainGlobals) (s.heap.nsMap builtinsNs) s.heap) (y : seenT s = goodT) : BaseL (K0 s.heap) := by
  unfold seenT goodT at y
  obtain ⟨y1, y⟩ := Prod.mk.inj y
  obtain ⟨y2, y⟩ := Prod.mk.inj y
  obtain ⟨y3, y⟩ := Prod.mk.inj y
  obtain ⟨y4, y⟩ := Prod.mk.inj y
  obtain ⟨y5, y⟩ := Prod.mk.inj y
  obtain ⟨y6, y7⟩ := Prod.mk.inj y
  have y1 := List.map_inj_left.mp y1
  have y2 := List.map_inj_left.mp y2
  have y3 := List.map_inj_left.mp y3
  have y4 := List.map_inj_left.mp y4
  have y5 := List.map_inj_left.mp y5
  simp only [List.cons.injEq, and_true] at y6
  have fn : ∀ p ∈ FT', ∃ pm, Fn (K0 s.heap) p.1 (fdOf (stm p.2.1) p.2.2.2 (.ref p.2.2.1) pm) := fun p hp => by
    have hd := ft_def p hp
    have hsc := ft_scope p hp
    have hst : ∃ n a' b x y z sc u v q, stm p.2.1 = .FunctionDef n a' b x y z sc u v q := by
      split at hd
      · rename_i e; exact ⟨_, _, _, _, _, _, _, _, _, _, e⟩
      · cases hd
    obtain ⟨pm, o, ho, hdt⟩ := fdAt_spec hst (y1 p hp)
    obtain ⟨oc, vs, t, hc, hcd, hv⟩ := cdAt_spec (y2 p hp)
    obtain ⟨n, a', b, x, y, z, sc, u, v, q, est⟩ := hst
    rw [est] at hsc hdt hv ⊢
    exact ⟨pm, ⟨o, K0_of (ft_far p hp).1 ho, hdt⟩, fun h' hs => ⟨_, oc, vs, t, rfl, hs _ _ (K0_of (ft_far p hp).2 hc), hcd, hv⟩, ⟨rfl, rfl⟩, rfl, hsc⟩
  refine ⟨⟨fun h' hs => ?_, fun h' hs => ?_, fun p hp => ?_⟩, fn, K0_of (by decide) y6.1, K0_of (by decide) y6.2.1, K0_of (by decide) y6.2.2.2⟩
  · exact ⟨_, _, Ns_sub G.T.g (by decide) hs, Ns_sub G.T.b (by decide) hs, fun p hp => y3 p hp, fun p hp => ⟨y4 p hp, y5 p hp⟩⟩
  · obtain ⟨mc, a, b⟩ := G.T.nolimit
    exact ⟨mc, Ns_sub a (by decide) hs, b⟩
  · exact fn (p.1, p.2.1, p.2.2, .none) (List.mem_append_left _ (List.mem_map.mpr ⟨p, hp, rfl⟩))

end Mine
end
section
open PySem PySem.W PyProof.Rows
set_option Elab.async false
set_option maxRecDepth 100000
set_option maxHeartbeats 4000000
namespace Mine
/-- the top as the law's walk wants it, with what a lambda wants -/
structure BaseM (K₀ : KMap) : Prop where
  l : BaseL K₀
  n160 : K₀ 160 = none
  bm : ∀ h, Sub K₀ h → ∃ mg, h.Ns mainGlobals mg ∧ h.BuiltinsAt mg 160
theorem codeHd_law {K₀ : KMap} (hB : BaseL K₀) {h : Heap} (hs : Sub K₀ h) : CodeHd h 162 160 :=
  ⟨lawCode, _, _, _, _, _, _, _, _, hs _ _ hB.code, rfl, rfl, rfl, rfl, rfl, rfl, rfl, rfl, by decide⟩
theorem baseM_of {w : World} {s : Shared} (G : Ground qv qloose [] (fun _ _ => True) w s (s.heap.nsMap mainGlobals) (s.heap.nsMap builtinsNs) s.heap) (y : seenT s = goodT) : BaseM (K0 s.heap) := by
  have h160 : s.heap.get? 160 = some (tabObj #[]) := by
    unfold seenT goodT at y
    simp only [Prod.mk.injEq, List.cons.injEq] at y
    exact y.2.2.2.2.2.1.2.2.1
  refine ⟨baseL_of G y, by unfold K0; rw [if_pos rfl], fun h hs => ?_⟩
  obtain ⟨bm, ob, b1, b2, b3, b4, b5, b6⟩ := G.T.bmain
  have n160 : bm ≠ 160 := fun e => by rw [e, h160] at b3; cases b3; cases b6
  have nmg : bm ≠ mainGlobals := fun e => by
    obtain ⟨o, es, ep, e1, e2, _⟩ := G.T.g
    rw [e, e1] at b3; cases b3; rw [e2] at b6; cases b6
  exact ⟨_, Ns_sub G.T.g (by decide) hs, bm, ob, b1, b2, nmg, n160, hs _ _ (K0_of n160 b3), b4, b5, b6⟩
/-- the law's walk: what it must say -/
def Walk2 : Prop := ∀ (w : World) (s : Shared) (K₀ : KMap) (l : Addr) (vs : List Value) (xs : List Int), BaseM K₀ → Sub K₀ s.heap → s.heap.get? 160 = some (tabObj #[]) →
  s.heap.IsList l vs.toArray → IntsAre vs xs → xs.length ≤ 63 →
  wpC (model P w) callerA (call (.ref 163) [.ref l]) (fun v s' => v = .bool true ∧ (∀ b o, b ≠ 160 → s.heap.get? b = some o → s'.heap.get? b = some o) ∧ (∃ ps, s'.heap.get? 160 = some (tabObj ps)) ∧ s'.os = s.os ∧ s'.gens = s.gens) (fun _ _ => False) s
/-- the goal under a short name -/
theorem by_goal {G : Prop} (h : ∀ C : Prop, (G → C) → C) : G := h G id
theorem said_well : PySem.Challenge.rw_nb0257_01.wellSaid = true := by
  unfold OpenLaw.wellSaid OpenRow.wellSaid OpenRow.partSaid looksOpen
  repeat' (with_reducible refine look_both ?_ ?_)
  all_goals decide +kernel
theorem head2 (walk : Walk2) : PySem.Challenge.rw_nb0257_01.Holds := by
  refine holds_law said_well fun said => ?_
  refine ⟨said, ?_, ⟨⟨⟨rfl, rfl, rfl, rfl, rfl, by decide +kernel⟩, by decide +kernel, rfl⟩, ?_, fun w => ⟨(left.behind (XP := fun _ _ => True) (fun _ _ => trivial) (by decide +kernel) w).1, fun s' hs' => ?_⟩⟩⟩
  · w_witness2
  · refine RowW.promised.witness ?_
    w_witness2
  refine by_goal fun C hC => ?_
  obtain ⟨s₀, hf, hg0, s, hT, hz, hgens, hg, G, y⟩ := (left.behind (XP := fun _ _ => True) (fun _ _ => trivial) (by decide +kernel) w).2 s' hs'
  refine hC ⟨s₀, hf, hg0, s, hT, ?_, fun x hx => (nomatch hx), fun x hx => (nomatch hx), ?_⟩
  all_goals clear hC C
  · intro n hn
    have hn : n ∈ [Str.ofString "law"] := hn
    obtain rfl : n = Str.ofString "law" := List.mem_singleton.mp hn
    exact pinned_of_view (q := qv) hg G (by rfl) (by rfl) (by rfl)
  intro args hpre hlay ord hord
  refine by_goal fun C hC => ?_
  obtain ⟨⟨vs, s₁⟩, hlaid⟩ := Option.isSome_iff_exists.mp (layAllW_isSome (P := w.params) (ord := ord) G.has args _ s (pre_splitW hpre).1)
  have keeps := layAllW_keeps _ _ _ hlaid
  have hal := layAllW_rest _ _ _ hlaid
  obtain ⟨as, hrd, hin, hold⟩ := reads_layAllW hord _ _ _ hlaid hlay s₁.heap (fun _ _ e => e)
  have hwl := well_layAllW hord args s _ hlaid _ fun _ _ e => e
  have hlo : ∀ a ∈ as, (a == sysModules) = false := fun a ha => beq_eq_false_iff_ne.mpr fun e => by have := (hin.2.2 a ha).1; subst e; exact absurd G.low (Nat.not_lt.mpr this)
  have hrd0 := hrd
  wrow_args hpre hlay hrd hwl hlo
  rename_i xs _ _ _ _ _ _ _ l vs _ hl _ _ hi _ _ hn _
  have hM := baseM_of G y
  have hB := hM.l
  have h160 : s.heap.get? 160 = some (tabObj #[]) := by
    unfold seenT goodT at y
    simp only [Prod.mk.injEq, List.cons.injEq] at y
    exact y.2.2.2.2.2.1.2.2.1
  have hlaw : s.heap.nsMap mainGlobals (Str.ofString "law") = some (.ref 163) := by
    unfold seenT goodT at y
    simp only [Prod.mk.injEq] at y
    exact y.2.2.2.2.2.2
  have hs1 : Sub (K0 s.heap) s₁.heap := fun b o e => keeps _ _ (K0_sub _ _ _ e)
  have hwk := walk w s₁ _ l vs xs hM hs1 (keeps _ _ h160) hl hi (by omega)
  have hgens : s.gens = #[] := Array.eq_empty_of_size_eq_zero (beq_iff_eq.mp hgens)
  refine hC ⟨_, s₁, hlaid, ?_⟩
  clear hC C
  refine by_goal fun C hC => ?_
  obtain ⟨n, f, s2, s3, hrun, hsched, hfo, rfl, k1, ⟨ps, k2⟩, k3, k4⟩ := endsC (w := w) (s := s₁) (t := (callStub PySem.Challenge.rw_nb0257_01.row.name [.ref l]).cur) (R := fun f s' => f = .ret (.bool true) ∧ (∀ b o, b ≠ 160 → s₁.heap.get? b = some o → s'.heap.get? b = some o) ∧ (∃ ps, s'.heap.get? 160 = some (tabObj ps)) ∧ s'.os = s₁.os ∧ s'.gens = s₁.gens)
    (Shared.asleep_of_life hal.2.2.2 hz) (by
      refine wpC_bind (wpC_of (wpAny_nsGet (G.T.g.keeps keeps) ?_))
      rw [show s.heap.nsMap mainGlobals PySem.Challenge.rw_nb0257_01.row.name = some (.ref 163) from hlaw]
      refine wpC_bind (wpC_mono hwk (fun v s' x => wpC_pure ?_) fun _ _ x => x)
      obtain ⟨rfl, x2, x3, x4, x5⟩ := x
      refine ⟨_, rfl, ⟨rfl, x2, x3, x4, x5⟩, ?_⟩
      rw [x5, show s₁.gens = s.gens from hal.1, hgens]
      exact leftWithCleanup_false_of_bare (AllBare.of_eq rfl))
  obtain ⟨eh, _, _, eo, _⟩ := Shared.forget_eq hfo
  have hlife : s2.heap.life = s.heap.life := (runN_life _ _ _ hrun).trans hal.2.2.2
  have hK : OldK s₁.heap s2.heap := by
    have q160 := keeps _ _ h160
    refine ⟨fun b o e => ?_, fun b o e => ?_⟩
    · by_cases hb : b = 160
      · subst hb
        cases e.symm.trans q160
        refine .inr (.inl ⟨⟨162, lawCode, _, hs1 _ _ hB.code, rfl, rfl, rfl⟩, rfl, #[], ps, rfl, ?_⟩)
        rw [eh, k2]
        simp
      · exact .inl (eh ▸ k1 b o hb e)
    · by_cases hb : b = 160
      · subst hb; exact ⟨_, eh ▸ k2⟩
      · exact ⟨o, eh ▸ k1 b o hb e⟩
  refine hC ⟨n, _, s2, hsched, .inl ⟨.bool true, rfl, fun cls => rfl, ⟨.bool true, _, [], _, .bool true, hrd0.keepsK (fun b o e hc => hK.get_of_cls e hc), (by wrow_post), fun _ => ⟨.nil, fun _ ha => (nomatch ha), fun _ ha => (nomatch ha)⟩, fun as₀ _ => (let ⟨_, hu, ha, hap, _⟩ := frees_parts (r := PySem.Challenge.rw_nb0257_01.row.toRowW) (by decide +kernel); ident_freeW hu ha hap _ _)⟩, fun i hi => (nomatch hi), fun b o e _ _ _ => hK.old b o e, fun i hi => (nomatch hi)⟩, fun _ i x hx => by rw [hgens] at hx; simp at hx, fun h => (nomatch h), by rw [hlife], Shared.rest_eq (eo.trans (k3.trans hal.2.2.1))⟩
end Mine
end
section
open PySem PySem.W PyProof.Rows
set_option Elab.async false
set_option maxRecDepth 100000
set_option linter.unusedVariables false
namespace Mine
noncomputable abbrev slo (vl vu : Value) : Obj := { cls := .type "slice", data := .fields #[vl, vu, .none] }
section
variable {prog : Program} {w : World} {M : Model} {A : Around} {E : Value → Shared → Prop} {s : Shared} {t : Nat} {K₀ K : KMap} {env : Env} {gs : List Str} {lk : List Var} {ws ws' : List (Addr × Obj)} {h : Heap}
/-- a new object is made: what holds behind it -/
def kMk (s : Shared) (env : Env) (Q : Value → Shared → Prop) (o : Obj) (s₁ : Shared) : Prop := ∀ P : Prop, (∀ h t K₀ K gs lk ws, s₁ = up s h t → Fm K₀ K env gs lk ws h → (∀ a h', Fm K₀ K env gs lk ((a, o) :: ws) h' → Q (.ref a) (up s h' t)) → P) → P
theorem mk_in {o : Obj} {Q : Value → Shared → Prop} (F : Fm K₀ K env gs lk ws h) (q : ∀ a h', Fm K₀ K env gs lk ((a, o) :: ws) h' → Q (.ref a) (up s h' t)) : kMk s env Q o (up s h t) := fun _ k => k _ _ _ _ _ _ _ rfl F q
def kMkL (s : Shared) (env : Env) (Q : Value → Shared → Prop) (vs : List Value) (s₁ : Shared) : Prop := vs.length < 1000000 ∧ kMk s env Q (lst vs 0) s₁
theorem mk_inL {vs : List Value} {Q : Value → Shared → Prop} (F : Fm K₀ K env gs lk ws h) (hz : vs.length < 1000000) (q : ∀ a h', Fm K₀ K env gs lk ((a, lst vs 0) :: ws) h' → Q (.ref a) (up s h' t)) : kMkL s env Q vs (up s h t) := ⟨hz, mk_in F q⟩
abbrev kSl2 (s : Shared) (env : Env) (Q : Value → Shared → Prop) (vl vu : Value) (s₂ : Shared) : Prop := kMk s env Q (slo vl vu) s₂
abbrev kSl (s : Shared) (M : Model) (A : Around) (env : Env) (upper : Option Expr) (Q : Value → Shared → Prop) (E : Value → Shared → Prop) (vl : Value) (s₁ : Shared) : Prop := wpAny M A (evalPart upper env) (kSl2 s env Q vl) E s₁
/-- a list display -/
theorem mk_list {elts : List Expr} {pos : Pos} {Q : Value → Shared → Prop}
    (k : wpAny M A (spliced (backTo pos (starEach elts env))) (kMkL s env Q) E (up s h t)) :
    wpAny M A (eval (.List elts pos) env) Q E (up s h t) := by
  refine wpAny_List (wpAny_mono k (fun vs s₁ x => ?_) fun _ _ e => e)
  obtain ⟨hz, x⟩ := x
  refine x _ ?_
  rintro h t K₀ K gs lk ws rfl F q
  exact ⟨by unfold sizeLine; exact Nat.le_of_lt (Nat.lt_of_lt_of_le hz (by decide)), q _ _ (F.push (lst vs 0))⟩
/-- a slice -/
theorem mk_slice {lower upper : Option Expr} {p : Pos} {Q : Value → Shared → Prop}
    (k : wpAny M A (evalPart lower env) (kSl s M A env upper Q E) E (up s h t)) :
    wpAny M A (eval (.Slice lower upper none p) env) Q E (up s h t) := by
  refine wpAny_Slice (wpAny_mono k (fun vl s₁ x => wpAny_mono x (fun vu s₂ y => ?_) fun _ _ e => e) fun _ _ e => e)
  refine y _ ?_
  rintro h t K₀ K gs lk ws rfl F q
  exact wpAny_evalPart_none (q _ _ (F.push (slo vl vu)))
theorem gi_upto {l sl : Addr} {vs : List Value} {b : Nat} {tk : Tok} {value : Expr} {e1 e2 : Option Expr} {p : Pos} {Q : Value → Shared → Prop} (hl : h.IsList l vs.toArray) (F : Fm K₀ K env gs lk ((sl, slo .none (.int (b : Nat) tk)) :: ws) h) (hfit : vs.length < 1000000)
    (q : ∀ a h', Fm K₀ K env gs lk ((a, lst (vs.take b) 0) :: ws) h' → Q (.ref a) (up s h' t)) : wpAny (model prog w) A (subscriptTail value (.Slice e1 e2 none p) (.ref l) (.ref sl)) Q E (up s h t) := by
  refine tail_any (T := "list") (s := up s h t) (Heap.IsList.typeIs (s := up s h t) hl) slot_list_getitem.lookup (ops := [.ref sl, .ref l]) (wpAny_getItem_list_slice (s := up s h t) hl ⟨_, F.isIn (.head _), rfl, rfl⟩ .none (.int _ _) .none (by simp) ?_ (by simp; unfold sizeLine; exact Nat.le_of_lt (Nat.lt_of_lt_of_le hfit (by decide)))) rfl
  rw [slicePick_upto']
  exact q _ _ ((F.drop (List.sublist_cons_self _ _)).push (lst (vs.take b) 0))
theorem gi_from {l sl : Addr} {vs : List Value} {b : Nat} {tk : Tok} {value : Expr} {e1 e2 : Option Expr} {p : Pos} {Q : Value → Shared → Prop} (hl : h.IsList l vs.toArray) (F : Fm K₀ K env gs lk ((sl, slo (.int (b : Nat) tk) .none) :: ws) h) (hfit : vs.length < 1000000)
    (q : ∀ a h', Fm K₀ K env gs lk ((a, lst (vs.drop b) 0) :: ws) h' → Q (.ref a) (up s h' t)) : wpAny (model prog w) A (subscriptTail value (.Slice e1 e2 none p) (.ref l) (.ref sl)) Q E (up s h t) := by
  refine tail_any (T := "list") (s := up s h t) (Heap.IsList.typeIs (s := up s h t) hl) slot_list_getitem.lookup (ops := [.ref sl, .ref l]) (wpAny_getItem_list_slice (s := up s h t) hl ⟨_, F.isIn (.head _), rfl, rfl⟩ (.int _ _) .none .none (by simp) ?_ (by simp; unfold sizeLine; exact Nat.le_of_lt (Nat.lt_of_lt_of_le hfit (by decide)))) rfl
  rw [slicePick_from']
  exact q _ _ ((F.drop (List.sublist_cons_self _ _)).push (lst (vs.drop b) 0))
/-- two lists, one behind the other -/
theorem add_l {l b : Addr} {xs ys : List Value} {n m : Nat} {Q : Value → Shared → Prop} (F : Fm K₀ K env gs lk ws h) (hl : h.get? l = some (lst xs n)) (hb : h.get? b = some (lst ys m)) (hfit : xs.length + ys.length < 1000000)
    (q : ∀ a h', Fm K₀ K env gs lk ((a, lst (xs ++ ys) 0) :: ws) h' → Q (.ref a) (up s h' t)) : wpAny (model prog w) A (binaryOp .Add (.ref l) (.ref b)) Q E (up s h t) := by
  refine P.add_list (s := up s h t) hl hb ?_ (by simp; unfold sizeLine; exact Nat.le_of_lt (Nat.lt_of_lt_of_le hfit (by decide)))
  rw [show xs.toArray ++ ys.toArray = (xs ++ ys).toArray by simp]
  exact q _ _ (F.push (lst (xs ++ ys) 0))
/-- a copy of a list -/
theorem copy_l {l : Addr} {vs : List Value} {n : Nat} {Q : Value → Shared → Prop} (F : Fm K₀ K env gs lk ws h) (hl : h.get? l = some (lst vs n)) (hfit : vs.length < 1000000)
    (q : ∀ a c h', Fm K₀ K env gs lk ((a, lst vs c) :: ws) h' → Q (.ref a) (up s h' t)) : wpAny (model prog w) A (call (.type "list") [.ref l]) Q E (up s h t) := by
  refine call_list_seq (s := up s h t) l (.inl rfl) hl rfl rfl (fun h' c hk ha => ?_) (by simp; unfold sizeLine; exact Nat.le_of_lt (Nat.lt_of_lt_of_le hfit (by decide)))
  exact q _ c _ (F.newObj hk ha (Heap.get?_none_of_le (Nat.le_refl _)))
theorem max2 {a b : Int} {u v : Tok} {Q : Value → Shared → Prop} (hh : A.handled = none) (F : Fm K₀ K env gs lk ws h) (q : ∀ tk h' t', Fm K₀ K env gs lk ws h' → Q (.int (max a b) tk) (up s h' t')) :
    wpAny (model prog w) A (call (.builtin "max") [.int a u, .int b v]) Q E (up s h t) := by
  refine max_two_ints (s := up s h t) hh fun h' tk hk => ?_
  have F' := F.keeps hk
  split
  · rename_i hb
    have := q v h' tk F'
    rw [show max a b = b by lia] at this; exact this
  · rename_i hb
    have := q u h' tk F'
    rw [show max a b = a by lia] at this; exact this
theorem min2 {a b : Int} {u v : Tok} {Q : Value → Shared → Prop} (hh : A.handled = none) (F : Fm K₀ K env gs lk ws h) (q : ∀ tk h' t', Fm K₀ K env gs lk ws h' → Q (.int (min a b) tk) (up s h' t')) :
    wpAny (model prog w) A (call (.builtin "min") [.int a u, .int b v]) Q E (up s h t) := by
  refine min_two_ints (s := up s h t) hh fun h' tk hk => ?_
  have F' := F.keeps hk
  split
  · rename_i hb
    have := q v h' tk F'
    rw [show min a b = b by lia] at this; exact this
  · rename_i hb
    have := q u h' tk F'
    rw [show min a b = a by lia] at this; exact this
/-- the sum of ints -/
theorem sum_l {l : Addr} {vs : List Value} {ns : List Int} {Q : Value → Shared → Prop} (hh : A.handled = none) (F : Fm K₀ K env gs lk ws h) (hl : h.IsList l vs.toArray) (hi : IntsAre vs ns)
    (q : ∀ tk h' t', Fm K₀ K env gs lk ws h' → Q (.int ns.sum tk) (up s h' t')) : wpAny (model prog w) A (call (.builtin "sum") [.ref l]) Q E (up s h t) := by
  obtain ⟨xs, e⟩ := hi.allInts.items
  have hn : numsOf vs.toArray.toList = ns := hi.numsOf
  rw [e, nums_intItems] at hn
  rw [e] at hl
  refine sum_intListG (s := up s h t) hh hl fun h' tk t' hk => ?_
  have := q t' h' tk (F.keeps hk)
  rw [preSum_eq, List.take_of_length_le (by simp)]
  rw [← hn] at this
  exact this
/-- octets of a list of ints -/
theorem bytes_l {l : Addr} {vs : List Value} {ns : List Int} {n : Nat} {Q : Value → Shared → Prop} (hh : A.handled = none) (F : Fm K₀ K env gs lk ws h) (hl : h.get? l = some (lst vs n)) (hi : IntsAre vs ns) (hr : ∀ n ∈ ns, 0 ≤ n ∧ n < 256) (hfit : vs.length < 1000000)
    (q : ∀ tk h' t', Fm K₀ K env gs lk ws h' → Q (.bytes (byteArr ns) tk) (up s h' t')) : wpAny (model prog w) A (call (.type "bytes") [.ref l]) Q E (up s h t) :=
  call_bytes_ints (s := up s h t) ⟨_, hl, rfl, _, rfl⟩ hi hr (by unfold sizeLine; exact Nat.le_of_lt (Nat.lt_of_lt_of_le hfit (by decide))) hh fun h' t k hk => q t h' k (F.keeps hk)
end
end Mine
end
section
open PySem PySem.W PyProof.Rows
set_option Elab.async false
set_option linter.unusedVariables false
namespace Mine
/-- own objects in another order -/
theorem Fm.perm {K₀ K : KMap} {env : Env} {gs : List Str} {lk : List Var} {ws ws' : List (Addr × Obj)} {h : Heap} (F : Fm K₀ K env gs lk ws h) (p : ws.Perm ws') : Fm K₀ K env gs lk ws' h :=
  { F with
    own := fun q hq => F.own q (by simp only [List.mem_append] at hq ⊢; exact hq.imp id fun x => p.mem_iff.mpr x)
    apart := (((p.append_left (cellsOf lk)).map (·.1)).cons env.locals).nodup_iff.mp F.apart }
theorem Fm.freezeAt {K₀ K : KMap} {env : Env} {gs : List Str} {lk : List Var} {h : Heap} (pre : List (Addr × Obj)) {a : Addr} {o : Obj} {ws : List (Addr × Obj)} (F : Fm K₀ K env gs lk (pre ++ (a, o) :: ws) h) : Fm K₀ (add K a o) env gs lk (pre ++ ws) h :=
  (F.perm List.perm_middle).freeze
theorem Fm.nokey {K₀ K : KMap} {env : Env} {gs : List Str} {lk : List Var} {ws : List (Addr × Obj)} {h : Heap} (F : Fm K₀ K env gs lk ws h) {a : Addr} {o : Obj} (hm : (a, o) ∈ ws) : K a = none := (F.own _ (List.mem_append_right _ hm)).2
section
variable {prog : Program} {w : World} {A : Around} {E : Value → Shared → Prop} {s : Shared} {t : Nat} {K₀ K : KMap} {env : Env} {gs : List Str} {lk : List Var} {ws : List (Addr × Obj)} {h : Heap}
theorem nx_lh {it l : Addr} {o : Obj} {vs : List Value} {n i : Nat} {x : Value} {Q : Option Value → Shared → Prop} (F : Fm K₀ K env gs lk ((it, o) :: ws) h) (ho : IsLI o l i) (hl : h.get? l = some (lst vs n)) (hx : vs[i]? = some x)
    (q : ∀ o' h', IsLI o' l (i + 1) → Fm K₀ K env gs lk ((it, o') :: ws) h' → Q (some x) (up s h' t)) : wpAny (model prog w) A (pyNext (.ref it)) Q E (up s h t) := by
  refine nx_l F ho (.head _) hl hx (fun o' ws' h' a u F' => ?_) (fun o' => ⟨_, .head⟩)
  obtain rfl : ws' = (it, o') :: ws := by
    cases u with
    | head => rfl
    | tail u =>
      have nd := (List.nodup_append.mp ((List.map_append (f := Prod.fst) ▸ (List.nodup_cons.mp F.apart).2))).2.1
      simp only [List.map_cons, List.nodup_cons] at nd
      exact absurd (List.mem_map_of_mem (f := Prod.fst) u.mem) nd.1
  exact q o' h' a F'
end

/-! the rows -/
/-- the next row, or the next number -/
noncomputable def rowStep (rows : List (List Nat)) (x : Int) : List (List Nat) :=
  if x % 6 = 0 then rows ++ [[]] else if x % 6 = 1 then rows ++ [rows.getLastD []] else rows.dropLast ++ [rows.getLastD [] ++ [(x / 6 % 100000).toNat]]
noncomputable def rowItems (script : List Int) : List Int := (script.take 9 ++ [20, 1, 2404, 6, 5]).take 9
noncomputable def rowsN (script : List Int) : List (List Nat) := (rowItems script).foldl rowStep [[]]
/-- lists of numbers, kept -/
inductive RowsAt (K : KMap) : List Value → List (List Nat) → Prop
  | nil : RowsAt K [] []
  | cons {a : Addr} {ws : List Value} {n : Nat} {r : List Nat} {vs : List Value} {rs : List (List Nat)} : K a = some (lst ws n) → NatsAre ws r → RowsAt K vs rs → RowsAt K (.ref a :: vs) (r :: rs)
theorem RowsAt.length {K : KMap} {vs : List Value} {rs : List (List Nat)} (x : RowsAt K vs rs) : vs.length = rs.length := by
  induction x with
  | nil => rfl
  | cons _ _ _ ih => simp [ih]
theorem RowsAt.mono {K K' : KMap} (hk : KLe K K') {vs : List Value} {rs : List (List Nat)} (x : RowsAt K vs rs) : RowsAt K' vs rs := by
  induction x with
  | nil => exact .nil
  | cons a b _ ih => exact .cons (hk _ _ a) b ih
theorem RowsAt.snoc {K : KMap} {vs : List Value} {rs : List (List Nat)} {a : Addr} {ws : List Value} {n : Nat} {r : List Nat} (x : RowsAt K vs rs) (e : K a = some (lst ws n)) (hn : NatsAre ws r) : RowsAt K (vs ++ [.ref a]) (rs ++ [r]) := by
  induction x with
  | nil => exact .cons e hn .nil
  | cons a b _ ih => exact .cons a b ih
theorem RowsAt.get {K : KMap} {vs : List Value} {rs : List (List Nat)} (x : RowsAt K vs rs) {i : Nat} {r : List Nat} (e : rs[i]? = some r) : ∃ a ws n, vs[i]? = some (.ref a) ∧ K a = some (lst ws n) ∧ NatsAre ws r := by
  induction x generalizing i with
  | nil => cases i <;> cases e
  | cons a b _ ih =>
    cases i with
    | zero => cases e; exact ⟨_, _, _, rfl, a, b⟩
    | succ i => exact ih e
/-- what is new since a heap -/
noncomputable def newK (h : Heap) (K : KMap) : KMap := fun b => if h.get? b = none then K b else none
theorem newK_le (h : Heap) (K : KMap) : KLe (newK h K) K := fun b o e => by
  unfold newK at e; split at e
  · exact e
  · cases e
theorem newK_mono {h : Heap} {K K' : KMap} (hk : KLe K K') : KLe (newK h K) (newK h K') := fun b o e => by
  unfold newK at *; split at e
  · rename_i hb; rw [if_pos hb]; exact hk _ _ e
  · cases e
theorem newK_at {h : Heap} {K : KMap} {b : Addr} {o : Obj} (hb : h.get? b = none) (e : K b = some o) : newK h K b = some o := by unfold newK; rw [if_pos hb]; exact e
theorem foldl_take_succ {α β : Type} (f : β → α → β) (z : β) (l : List α) (i : Nat) {x : α} (e : l[i]? = some x) : (l.take (i + 1)).foldl f z = f ((l.take i).foldl f z) x := by
  rw [List.take_add_one, e]; simp
theorem rowStep_len (rows : List (List Nat)) (x : Int) : (rowStep rows x).length ≤ rows.length + 1 := by
  unfold rowStep
  split
  · simp
  · split
    · simp
    · simp
end Mine
end
section
open PySem PySem.W PyProof.Rows
set_option Elab.async false
set_option maxRecDepth 100000
set_option linter.unusedVariables false
namespace Mine
/-! a comprehension has a frame of its own -/
/-- the cells that a frame's variables stand in -/
noncomputable def cloOf (lk : List Var) : List (Str × Addr) := lk.filterMap fun p => p.2.1.map fun c => (p.1, c)
noncomputable def freeNames (l : List (Str × NameKind)) : List Str := l.filterMap fun p => if p.2 == .free then some p.1 else none
/-- the inner variables fit the scope -/
noncomputable def innerB (names : List (Str × NameKind)) (lkN : List (Str × Bool)) (gsI : List Str) : Bool :=
  decide ((lkN.map (·.1)).Nodup) && lkN.all (fun p => !(p.1 == ("__debug__" : Str)) && !(p.1 == ("__classdict__" : Str)) && (if p.2 then names.lookup p.1 == some .free else names.lookup p.1 == some .local)) &&
  gsI.all (fun x => names.lookup x == some .globalImplicit && !(x == ("__debug__" : Str))) && decide ((freeNames names).reverse = (lkN.filter (·.2)).map (·.1)) && names.all (fun p => p.2 != .cell && (p.2 != .local || names.lookup p.1 == some .local))

theorem lookup_map_kind {names : List (Str × NameKind)} {f : Str → NameKind → NameKind} (x : Str) : (names.map fun p => (p.1, f p.1 p.2)).lookup x = (names.lookup x).map (f x) := by
  induction names with
  | nil => rfl
  | cons p r ih =>
    obtain ⟨n, k⟩ := p
    simp only [List.map_cons, List.lookup_cons]
    cases hx : x == n with
    | true => have : x = n := by simpa using hx
              subst this; rfl
    | false => exact ih
theorem relabel_names (scope : Scope) (env : Env) : (relabel scope env).names = scope.names.map fun p => (p.1, if (p.2 == .free && env.scope.kind == .function && env.kindOf p.1 == some .cell) then .cell else p.2) := by
  unfold relabel
  refine List.map_congr_left fun p _ => ?_
  obtain ⟨n, k⟩ := p
  show (if (k == .free && env.scope.kind == .function && env.kindOf n == some .cell) = true then (n, NameKind.cell) else (n, k)) = (n, if (k == .free && env.scope.kind == .function && env.kindOf n == some .cell) = true then .cell else k)
  split <;> rfl
theorem kind_inner {scope : Scope} {cl : List (Str × Addr)} {L : Addr} {env : Env} (x : Str) : (compEnvC scope cl L env).kindOf x = (scope.names.lookup x).map fun k => if (k == .free && env.scope.kind == .function && env.kindOf x == some .cell) then .cell else k := by
  show (relabel scope env).names.lookup x = _
  rw [relabel_names]
  exact lookup_map_kind (f := fun n k => if (k == .free && env.scope.kind == .function && env.kindOf n == some .cell) then .cell else k) x
theorem lookup_cloOf {lk : List Var} (nd : (lk.map (·.1)).Nodup) {x : Str} {c : Addr} {v : Option Value} (hm : (x, some c, v) ∈ lk) : (cloOf lk).lookup x = some c := by
  induction lk with
  | nil => cases hm
  | cons p r ih =>
    obtain ⟨y, d, u⟩ := p
    simp only [List.map_cons, List.nodup_cons] at nd
    rcases List.mem_cons.mp hm with e | hm
    · cases e; simp [cloOf]
    · have hne : x ≠ y := fun e => nd.1 (e ▸ List.mem_map_of_mem (f := (·.1)) hm)
      have := ih nd.2 hm
      cases d with
      | none => exact this
      | some d =>
        show List.lookup x ((y, d) :: cloOf r) = some c
        rw [List.lookup_cons, beq_eq_false_iff_ne.mpr hne]; exact this

theorem closure_go {env : Env} (names : List (Str × NameKind)) (acc : List (Str × Addr)) (hc : ∀ n ∈ freeNames names, ∃ c, env.cells.lookup n = some c) :
    (forIn names acc fun x cs => if (x.2 == NameKind.free) = true then (do let c ← cellOf env x.1; pure (ForInStep.yield ((x.1, c) :: cs))) else pure (ForInStep.yield cs) : Sem (List (Str × Addr))) =
    pure (((freeNames names).map (fun n => (n, (env.cells.lookup n).getD 0))).reverse ++ acc) := by
  induction names generalizing acc with
  | nil => rfl
  | cons p r ih =>
    obtain ⟨n, k⟩ := p
    rw [List.forIn_cons]
    by_cases hk : (k == NameKind.free) = true
    · have hf : freeNames ((n, k) :: r) = n :: freeNames r := by simp only [freeNames, List.filterMap_cons, hk, if_true]
      obtain ⟨c, hcn⟩ := hc n (by rw [hf]; exact .head _)
      rw [hf]
      have hco : cellOf env n = pure c := by simp only [cellOf, hcn]
      simp only [hk, if_true, hco]
      have := ih ((n, c) :: acc) fun m hm => hc m (by rw [hf]; exact .tail _ hm)
      show (forIn r ((n, c) :: acc) _ : Sem (List (Str × Addr))) = _
      rw [this]
      simp [hcn]
    · have hf : freeNames ((n, k) :: r) = freeNames r := by simp only [freeNames, List.filterMap_cons, hk, if_false, Bool.false_eq_true]
      rw [hf] at hc ⊢
      simp only [hk, if_false, Bool.false_eq_true]
      exact ih acc hc
theorem closure_of {scope : Scope} {env : Env} {cl : List (Str × Addr)} (hn : (freeNames scope.names).reverse = cl.map (·.1)) (hc : ∀ p ∈ cl, env.cells.lookup p.1 = some p.2) : closureFor scope env = pure cl := by
  have h1 : ∀ n ∈ freeNames scope.names, ∃ c, env.cells.lookup n = some c := fun n hm => by
    have : n ∈ cl.map (·.1) := hn ▸ List.mem_reverse.mpr hm
    obtain ⟨p, hp, rfl⟩ := List.mem_map.mp this
    exact ⟨_, hc p hp⟩
  have := closure_go (env := env) scope.names [] h1
  have e : ((freeNames scope.names).map (fun n => (n, (env.cells.lookup n).getD 0))).reverse ++ [] = cl := by
    rw [List.append_nil, ← List.map_reverse, hn, List.map_map]
    exact map_eq_self fun p hp => by simp [hc p hp]
  rw [e] at this
  show (forIn scope.names ([] : List (Str × Addr)) _ >>= fun cs => pure cs : Sem (List (Str × Addr))) = pure cl
  rw [show (forIn scope.names ([] : List (Str × Addr)) _ : Sem (List (Str × Addr))) = pure cl from this]
  rfl

theorem look_unset : ∀ {lkI : List Var}, (∀ p ∈ lkI, p.2.1 = none → p.2.2 = none) → look lkI = fun _ => none
  | [], _ => rfl
  | (x, c, v) :: r, hloc => by
    have ih := look_unset fun p hp => hloc p (.tail _ hp)
    funext y
    cases c with
    | none =>
      have : v = none := hloc _ (.head _) rfl
      subst this
      show (if y = x then none else look r y) = none
      rw [ih]; split <;> rfl
    | some c => show look r y = none; rw [ih]
/-- into the comprehension's frame -/
theorem Fm.inner {K₀ K : KMap} {env : Env} {gs : List Str} {lk : List Var} {ws : List (Addr × Obj)} {h h' : Heap} {scope : Scope} {lkI : List Var} {wsI : List (Addr × Obj)} {gsI : List Str} {L : Addr} {o : Obj}
    (F : Fm K₀ K env gs lk ws h) (ok : innerB scope.names (lkI.map fun p => (p.1, p.2.1.isSome)) gsI = true) (hkd : scope.kind = .function) (hloc : ∀ p ∈ lkI, p.2.1 = none → p.2.2 = none)
    (hp : (cellsOf lk ++ ws).Perm (cellsOf lkI ++ wsI)) (ho : h.get? env.locals = some o) (hL : h.get? L = none) (hn : h'.Ns L fun _ => none) (hk : Keeps h h') :
    Fm K₀ (add K env.locals o) (compEnvC scope (cloOf lkI) L env) gsI lkI wsI h' := by
  simp only [innerB, Bool.and_eq_true, List.all_eq_true, decide_eq_true_eq, List.map_map] at ok
  obtain ⟨⟨⟨⟨nd, o2⟩, o3⟩, o4⟩, o5⟩ := ok
  have nd : (lkI.map (·.1)).Nodup := nd
  have hne : L ≠ env.locals := fun e => by rw [e, ho] at hL; cases hL
  have hlk := look_unset hloc
  refine { fk := hkd, gl := F.gl, nd := nd, kind := fun p hp => ?_, glob := fun x hx => ?_, nsp := hlk ▸ hn, base := fun b o' e => ?_, kept := fun b o' e => ?_, kL := ?_, own := fun p hp' => ?_, apart := ?_ }
  · have q := o2 _ (List.mem_map_of_mem hp)
    simp only [Bool.and_eq_true, Bool.not_eq_true'] at q
    refine ⟨q.1.1, ?_⟩
    obtain ⟨x, c, v⟩ := p
    cases c with
    | none =>
      have q2 : scope.names.lookup x = some .local := by simpa using q.2
      show (compEnvC scope (cloOf lkI) L env).kindOf x = some .local
      rw [kind_inner, q2]; rfl
    | some c =>
      have q2 : scope.names.lookup x = some .free := by simpa using q.2
      refine ⟨lookup_cloOf nd hp, ?_⟩
      show (compEnvC scope (cloOf lkI) L env).kindOf x = some .cell ∨ (compEnvC scope (cloOf lkI) L env).kindOf x = some .free ∧ _
      rw [kind_inner, q2]
      simp only [Option.map_some]
      split
      · exact .inl rfl
      · exact .inr ⟨rfl, q.1.2⟩
  · have q := o3 x hx
    simp only [Bool.and_eq_true, Bool.not_eq_true', beq_iff_eq] at q
    refine ⟨?_, q.2⟩
    rw [kind_inner, q.1]; rfl
  · have e' := F.base b o' e
    have : b ≠ env.locals := fun x => by rw [x, F.kL] at e'; cases e'
    simp only [add, if_neg this]; exact e'
  · simp only [add] at e
    split at e
    · rename_i hb; cases e; rw [hb]; exact hk _ _ ho
    · exact hk _ _ (F.kept b o' e)
  · show add K env.locals o L = none
    simp only [add, if_neg hne]
    cases e : K L with
    | none => rfl
    | some x => rw [F.kept _ _ e] at hL; cases hL
  · have hm := hp.mem_iff.mpr hp'
    obtain ⟨a1, a2⟩ := F.own p hm
    refine ⟨hk _ _ a1, ?_⟩
    have : p.1 ≠ env.locals := fun x => (List.nodup_cons.mp F.apart).1 (x ▸ List.mem_map_of_mem (f := (·.1)) hm)
    simp only [add, if_neg this]; exact a2
  · refine List.nodup_cons.mpr ⟨fun hm => ?_, (hp.map (·.1)).nodup_iff.mp (List.nodup_cons.mp F.apart).2⟩
    obtain ⟨p, hp', e⟩ := List.mem_map.mp hm
    have a1 := (F.own p (hp.mem_iff.mpr hp')).1
    rw [e] at a1
    exact absurd (a1.symm.trans hL) (by simp)
/-- and back -/
theorem Fm.outer {K₀ K K2 : KMap} {env env' : Env} {gs gsI : List Str} {lk lk2 : List Var} {ws ws2 wsO : List (Addr × Obj)} {h h2 h3 : Heap} {o : Obj}
    (F : Fm K₀ K env gs lk ws h) (ho : h.get? env.locals = some o) (F2 : Fm K₀ K2 env' gsI lk2 ws2 h2) (hK : K2 env.locals = some o) (hp : (cellsOf lk2 ++ ws2).Perm (cellsOf lk ++ wsO)) (hs : Heap.SameBut env'.locals h2 h3) :
    Fm K₀ (drp K2 env.locals) env gs lk wsO h3 := by
  have hne : env.locals ≠ env'.locals := fun e => by rw [e, F2.kL] at hK; cases hK
  have hkeep : ∀ b o', b ≠ env'.locals → h2.get? b = some o' → h3.get? b = some o' := fun b o' hb e => hs.extBut b o' hb e
  refine { fk := F.fk, gl := F.gl, nd := F.nd, kind := F.kind, glob := F.glob, nsp := ?_, base := ?_, kept := fun b o' e => ?_, kL := drp_self _ _, own := fun p hp' => ?_, apart := ?_ }
  · obtain ⟨o1, es, ep, a, b⟩ := F.nsp
    cases a.symm.trans ho
    exact ⟨_, es, ep, hkeep _ _ hne (F2.kept _ _ hK), b⟩
  · refine le_drp F2.base ?_
    cases e : K₀ env.locals with
    | none => rfl
    | some x => have := F.base _ _ e; rw [F.kL] at this; cases this
  · have e' := drp_le _ _ _ _ e
    have : b ≠ env'.locals := fun x => by rw [x, F2.kL] at e'; cases e'
    exact hkeep _ _ this (F2.kept _ _ e')
  · have hm := hp.mem_iff.mpr hp'
    obtain ⟨a1, a2⟩ := F2.own p hm
    have : p.1 ≠ env'.locals := fun x => (List.nodup_cons.mp F2.apart).1 (x ▸ List.mem_map_of_mem (f := (·.1)) hm)
    refine ⟨hkeep _ _ this a1, ?_⟩
    unfold drp
    split
    · rfl
    · exact a2
  · refine List.nodup_cons.mpr ⟨fun hm => ?_, (hp.map (·.1)).nodup_iff.mp (List.nodup_cons.mp F2.apart).2⟩
    obtain ⟨p, hp', e⟩ := List.mem_map.mp hm
    have a2 := (F2.own p (hp.mem_iff.mpr hp')).2
    rw [e, hK] at a2; cases a2
end Mine
end
section
open PySem PySem.W PyProof.Rows
set_option Elab.async false
set_option maxRecDepth 100000
set_option linter.unusedVariables false
namespace Mine
section
variable {prog : Program} {w : World} {A : Around} {E : Value → Shared → Prop} {s : Shared} {env : Env}
/-- behind the comprehension's turns -/
def compC (M : Model) (A : Around) (E : Value → Shared → Prop) (use : Option (Value → Sem Unit)) (Q : Value → Shared → Prop) (acc : Value) (C : Addr) (r : Result) (s' : Shared) : Prop :=
  match r, use with
  | .ok _, none => ∃ m, s'.heap.Ns C m ∧ ∀ h', Heap.SameBut C s'.heap h' → Q acc { s' with heap := h' }
  | .ok _, some u => wpC M A (u acc) (fun _ s'' => ∃ m, s''.heap.Ns C m ∧ ∀ h', Heap.SameBut C s''.heap h' → Q .none { s'' with heap := h' }) E s'
  | .error _, _ => False
theorem C_comprehension {e : Expr} {scope : Scope} {pos : Pos} {newAcc first : Sem Value} {g : Comprehension} {gs : List Comprehension} {cl : List (Str × Addr)} {use : Option (Value → Sem Unit)} {Q : Value → Shared → Prop}
    (hcl : clausesOf e = g :: gs) (hs : ∀ x, foldedSetIterable g.iter env x = pure x) (hclos : closureFor scope env = pure cl) (hkind : scope.kind = .function) (hnames : ∀ x ∈ scope.names, x.2 = .local → scope.names.lookup x.1 = some .local)
    (h : wpC (model prog w) A first (fun x s₁ => wpC (model prog w) A (pyIter x) (fun it s₂ => wpC (model prog w) A newAcc (fun acc s₃ =>
      wpC (model prog w) A (newFunctionEnv scope env.globals cl [] env.qual none .none (some env)) (fun cenv s₄ =>
        codeC (model prog w) A (.compStart e 0 it acc { cenv with scope := relabel scope env }) (compC (model prog w) A E use Q acc cenv.locals) s₄) E s₃) E s₂) E s₁) E s) :
    wpC (model prog w) A (comprehension e scope env pos newAcc false first use) Q E s := by
  have hif : ∀ {β : Type} {c : Bool} {p : Pos} {k : Unit → Sem β} {Q : β → Shared → Prop} {s : Shared}, wpC (model prog w) A (k ()) Q E s → wpC (model prog w) A (if c then (standAt p >>= k) else k ()) Q E s := fun h => by
    split
    · exact wpC_bind (wpC_standAt h)
    · exact h
  unfold comprehension
  rw [hclos, hcl]
  refine wpC_bind (wpC_mono h (fun x s₁ h₁ => wpC_bind (wpC_standAt (wpC_bind (wpC_of_eq (hs x) (wpC_bind (wpC_holding (wpC_mono h₁ (fun it s₂ h₂ =>
    hif (wpC_bind (wpC_mono h₂ (fun acc s₃ h₃ => wpC_bind (wpC_pure (wpC_bind (wpC_mono h₃ (fun cenv s₄ h₄ => ?_) fun _ _ h' => h')))) fun _ _ h' => h')))
      fun _ _ h' => h'))))))) fun _ _ h' => h')
  dsimp only
  have hv : ∀ x ∈ (scope.names.filter fun x => (x.2 == .local || x.2 == .cell) && x.1 != (".0" : Str)).reverse, x.2 = .local →
      Env.kindOf { cenv with scope := relabel scope env } x.1 = some .local := fun x hx hl => lookup_relabel_local (hnames x (List.mem_filter.mp (List.mem_reverse.mp hx)).1 hl)
  have hv' : ∀ x ∈ (scope.names.filter fun x => (x.2 == .local || x.2 == .cell) && x.1 != (".0" : Str)).reverse.drop 1 ++ (scope.names.filter fun x => (x.2 == .local || x.2 == .cell) && x.1 != (".0" : Str)).reverse.take 1,
      x.2 = .local → Env.kindOf { cenv with scope := relabel scope env } x.1 = some .local := fun x hx hl => by
    rcases List.mem_append.mp hx with h1 | h1
    · exact hv x (List.mem_of_mem_drop h1) hl
    · exact hv x (List.mem_of_mem_take h1) hl
  refine wpC_holding (wpC_bind (wpC_attempt (wpC_holding (wpC_run (codeC_mono h₄ fun r s' hr => ?_) rfl))))
  cases r with
  | ok f =>
    cases use with
    | none =>
      obtain ⟨m, hn, hr⟩ := hr
      exact wpC_bind (wpC_holding (wpC_of (wpAny_comp_letGo (cenv := { cenv with scope := relabel scope env }) hkind _ s' m hv hn fun h' m' _ hs' => wpC_pure (hr h' hs'))))
    | some u =>
      refine wpC_bind (wpC_of (wpAny_rule (wpC_bind (wpC_holding (wpC_mono hr (fun _ s'' hr' => ?_) fun _ _ h' => h')))))
      obtain ⟨m, hn, hr'⟩ := hr'
      exact wpC_bind (wpC_of (wpAny_comp_letGo (cenv := { cenv with scope := relabel scope env }) hkind _ s'' m hv' hn fun h' m' _ hs' => wpC_pure (hr' h' hs')))
  | error x => cases use <;> exact hr.elim
theorem C_compStart {elt : Expr} {gens : List Comprehension} {scope : Scope} {pos : Pos} {depth : Nat} {it acc : Value} {R : Result → Shared → Prop} (hg : ((clausesOf (.ListComp elt gens scope pos))[depth]?).elim false (·.is_async != 0) = false)
    (h : wpC (model prog w) A (pyIter it) (fun it' s' => it' = it ∧ codeC (model prog w) A (.compLoop (.ListComp elt gens scope pos) depth it acc env) R s') (fun _ _ => False) s)
    (h0 : codeC (model prog w) A (.compLoop (.ListComp elt gens scope pos) depth it acc env) R s) :
    codeC (model prog w) A (.compStart (.ListComp elt gens scope pos) depth it acc env) R s := by
  refine codeC_of_tree ?_
  show wpC _ _ ((compStart (.ListComp elt gens scope pos) depth it acc env).onRaise (fun x => do noteFrame x env; standAt theWindowsPlace)) _ _ s
  refine wpC_onRaise ?_
  unfold compStart
  rw [hg]
  show wpC _ _ (ask >>= fun w' => _) _ _ s
  refine wpC_bind (wpC_of (wpAny_askSetting ?_))
  split
  · exact wpC_pure ⟨rfl, rfl, h0⟩
  · refine wpC_bind (wpC_of (wpAny_rule ?_))
    cases (clausesOf (.ListComp elt gens scope pos))[depth]? with
    | none => exact wpC_bind (wpC_mono h (fun it' s' h' => by obtain ⟨rfl, h'⟩ := h'; exact wpC_pure ⟨rfl, rfl, h'⟩) fun _ _ x => x)
    | some g => exact wpC_bind (wpC_standAt (wpC_bind (wpC_mono h (fun it' s' h' => by obtain ⟨rfl, h'⟩ := h'; exact wpC_pure ⟨rfl, rfl, h'⟩) fun _ _ x => x)))
theorem compTurn_l1if (elt target iter c : Expr) (scope : Scope) (pos : Pos) (it acc : Value) (env : Env) :
    compTurn (.ListComp elt [⟨target, iter, [c], 0⟩] scope pos) 0 it acc env = (standAt iter.pos >>= fun _ => pyNext it >>= fun r => match r with
      | none => pure (.done .next)
      | some v => letOwnedTupleGo target it v >>= fun _ => assign target env v >>= fun _ =>
        (forIn [c] true fun c r => if r = true then do let ok ← isTrue c env (eval c env); pure (ForInStep.yield ok) else pure (ForInStep.yield r)) >>= fun ok =>
          if ok = true then (eval elt env >>= fun x => call (.builtin "list.append") [acc, x] >>= fun _ => pure ()) >>= fun _ =>
          again (.compLoop (.ListComp elt [⟨target, iter, [c], 0⟩] scope pos) 0 it acc env) else again (.compLoop (.ListComp elt [⟨target, iter, [c], 0⟩] scope pos) 0 it acc env)) := by rfl
theorem compTurn_l2 (elt target iter target2 iter2 : Expr) (scope : Scope) (pos : Pos) (it acc : Value) (env : Env) :
    compTurn (.ListComp elt [⟨target, iter, [], 0⟩, ⟨target2, iter2, [], 0⟩] scope pos) 0 it acc env = (standAt iter.pos >>= fun _ => pyNext it >>= fun r => match r with
      | none => pure (.done .next)
      | some v => letOwnedTupleGo target it v >>= fun _ => assign target env v >>= fun _ =>
        eval iter2 env >>= fun x => standAt iter2.pos >>= fun _ => foldedSetIterable iter2 env x >>= fun x => holding [x] (pyIter x) >>= fun it2 =>
          runOwn (.compStart (.ListComp elt [⟨target, iter, [], 0⟩, ⟨target2, iter2, [], 0⟩] scope pos) 1 it2 acc env) env >>= fun _ =>
          again (.compLoop (.ListComp elt [⟨target, iter, [], 0⟩, ⟨target2, iter2, [], 0⟩] scope pos) 0 it acc env)) := by rfl
theorem compTurn_l2b (elt target iter target2 iter2 : Expr) (scope : Scope) (pos : Pos) (it acc : Value) (env : Env) :
    compTurn (.ListComp elt [⟨target, iter, [], 0⟩, ⟨target2, iter2, [], 0⟩] scope pos) 1 it acc env = (standAt iter2.pos >>= fun _ => pyNext it >>= fun r => match r with
      | none => pure (.done .next)
      | some v => letOwnedTupleGo target2 it v >>= fun _ => assign target2 env v >>= fun _ =>
        (eval elt env >>= fun x => call (.builtin "list.append") [acc, x] >>= fun _ => pure ()) >>= fun _ =>
          again (.compLoop (.ListComp elt [⟨target, iter, [], 0⟩, ⟨target2, iter2, [], 0⟩] scope pos) 1 it acc env)) := by rfl

variable {h : Heap} {t : Nat} {R : Result → Shared → Prop}
abbrev fno : Value → Shared → Prop := fun _ _ => False
/-- a comprehension's turn ends so -/
abbrev kBack (s : Shared) (I : Nat → Heap → Prop) (n : Nat) : Shared → Prop := fun s₄ => ∃ m h' t', s₄ = up s h' t' ∧ m < n ∧ I m h'
section
variable (M : Model) (A : Around) (env : Env)
abbrev zApp (acc : Value) (Z : Shared → Prop) : Value → Shared → Prop := fun x s₃ => wpAny M A (call (.builtin "list.append") [acc, x]) (fun _ => Z) fno s₃
abbrev zElt (elt : Expr) (acc : Value) (Z : Shared → Prop) : Unit → Shared → Prop := fun _ s₂ => wpC M A (eval elt env) (zApp M A acc Z) fno s₂
abbrev zIf (elt : Expr) (acc : Value) (Z : Shared → Prop) : Bool → Shared → Prop := fun b s₃ => if b = true then wpC M A (eval elt env) (zApp M A acc Z) fno s₃ else Z s₃
abbrev zTest (c elt : Expr) (acc : Value) (Z : Shared → Prop) : Unit → Shared → Prop := fun _ s₂ => wpC M A (isTrue c env (eval c env)) (zIf M A env elt acc Z) fno s₂
abbrev zAsg (target : Expr) (v : Value) (P : Unit → Shared → Prop) : Unit → Shared → Prop := fun _ s₁' => wpAny M A (assign target env v) P fno s₁'
abbrev zOne (target : Expr) (it : Value) (P : Unit → Shared → Prop) (D : Shared → Prop) : Option Value → Shared → Prop := fun r s₁ => match r with
  | none => D s₁
  | some v => wpAny M A (letOwnedTupleGo target it v) (zAsg M A env target v P) fno s₁
abbrev zGo (Z : Shared → Prop) : Result → Shared → Prop := fun r s₅ => match r with
  | .ok _ => Z s₅
  | .error _ => False
abbrev zCode (e : Expr) (acc : Value) (Z : Shared → Prop) : Value → Shared → Prop := fun it2 s₄ => codeC M A (.compStart e 1 it2 acc env) (zGo Z) s₄
abbrev zItr (e : Expr) (acc : Value) (Z : Shared → Prop) : Value → Shared → Prop := fun x s₃ => wpC M A (pyIter x) (zCode M A env e acc Z) fno s₃
abbrev zIn (e iter2 : Expr) (acc : Value) (Z : Shared → Prop) : Unit → Shared → Prop := fun _ s₂ => wpC M A (eval iter2 env) (zItr M A env e acc Z) fno s₂
end
theorem C_compLoop1 {elt target iter : Expr} {scope : Scope} {pos : Pos} {it acc : Value} (I : Nat → Heap → Prop) (n : Nat) (hI : I n h)
    (turn : ∀ n h t, ∀ Z : Shared → Prop, (∀ s₄, kBack s I n s₄ → Z s₄) → ∀ D : Shared → Prop, (∀ s', R (.ok .next) s' → D s') → I n h → wpAny (model prog w) A (pyNext it) (zOne (model prog w) A env target it (zElt (model prog w) A env elt acc Z) D) fno (up s h t)) :
    codeC (model prog w) A (.compLoop (.ListComp elt [⟨target, iter, [], 0⟩] scope pos) 0 it acc env) R (up s h t) := by
  refine codeC_loop rfl rfl (fun n s' => ∃ h t, s' = up s h t ∧ I n h) (fun n s' hs' => ?_) n ⟨h, t, rfl, hI⟩
  obtain ⟨h1, t1, rfl, hI1⟩ := hs'
  show wpC _ _ ((compTurn (.ListComp elt [⟨target, iter, [], 0⟩] scope pos) 0 it acc env).onRaise (fun x => do noteFrame x env; theTreesLotGoes x)) _ _ _
  refine wpC_onRaise ?_
  rw [compTurn_list1]
  refine wpC_bind (wpC_standAt (wpC_bind (wpC_of (wpAny_mono (turn n h1 t1 _ (fun _ x => x) _ (fun _ x => x) hI1) (fun r s₁ h₁ => ?_) fun _ _ x => x))))
  cases r with
  | none => exact wpC_pure h₁
  | some v =>
    refine wpC_bind (wpC_of (wpAny_mono h₁ (fun _ s₂ h₂ => wpC_bind (wpC_of (wpAny_mono h₂ (fun _ s₃ h₃ => wpC_bind (wpC_bind (wpC_mono h₃ (fun x s₄ h₄ => wpC_bind (wpC_of (wpAny_mono h₄ (fun _ s₅ h₅ => wpC_pure (wpC_pure ?_)) fun _ _ x => x))) fun _ _ x => x))) fun _ _ x => x))) fun _ _ x => x))
    obtain ⟨m, h', t', e, hm, hi⟩ := h₅
    exact .inl ⟨rfl, m, hm, h', t', e, hi⟩
theorem C_compLoopIf {elt target iter c : Expr} {scope : Scope} {pos : Pos} {it acc : Value} (I : Nat → Heap → Prop) (n : Nat) (hI : I n h)
    (turn : ∀ n h t, ∀ Z : Shared → Prop, (∀ s₄, kBack s I n s₄ → Z s₄) → ∀ D : Shared → Prop, (∀ s', R (.ok .next) s' → D s') → I n h → wpAny (model prog w) A (pyNext it) (zOne (model prog w) A env target it (zTest (model prog w) A env c elt acc Z) D) fno (up s h t)) :
    codeC (model prog w) A (.compLoop (.ListComp elt [⟨target, iter, [c], 0⟩] scope pos) 0 it acc env) R (up s h t) := by
  refine codeC_loop rfl rfl (fun n s' => ∃ h t, s' = up s h t ∧ I n h) (fun n s' hs' => ?_) n ⟨h, t, rfl, hI⟩
  obtain ⟨h1, t1, rfl, hI1⟩ := hs'
  show wpC _ _ ((compTurn (.ListComp elt [⟨target, iter, [c], 0⟩] scope pos) 0 it acc env).onRaise (fun x => do noteFrame x env; theTreesLotGoes x)) _ _ _
  refine wpC_onRaise ?_
  rw [compTurn_l1if]
  refine wpC_bind (wpC_standAt (wpC_bind (wpC_of (wpAny_mono (turn n h1 t1 _ (fun _ x => x) _ (fun _ x => x) hI1) (fun r s₁ h₁ => ?_) fun _ _ x => x))))
  cases r with
  | none => exact wpC_pure h₁
  | some v =>
    refine wpC_bind (wpC_of (wpAny_mono h₁ (fun _ s₂ h₂ => wpC_bind (wpC_of (wpAny_mono h₂ (fun _ s₃ h₃ => wpC_bind ?_) fun _ _ x => x))) fun _ _ x => x))
    rw [List.forIn_cons]
    refine wpC_bind ?_
    simp only [if_true]
    refine wpC_bind (wpC_mono h₃ (fun b s₄ h₄ => wpC_pure ?_) fun _ _ x => x)
    show wpC _ _ (pure b) _ _ _
    refine wpC_pure ?_
    cases b with
    | true =>
      simp only [zIf, if_true] at h₄ ⊢
      refine wpC_bind (wpC_bind (wpC_mono h₄ (fun x s₄ h₄ => wpC_bind (wpC_of (wpAny_mono h₄ (fun _ s₅ h₅ => wpC_pure (wpC_pure ?_)) fun _ _ x => x))) fun _ _ x => x))
      obtain ⟨m, h', t', e, hm, hi⟩ := h₅
      exact .inl ⟨rfl, m, hm, h', t', e, hi⟩
    | false =>
      simp only [zIf, Bool.false_eq_true, if_false] at h₄ ⊢
      obtain ⟨m, h', t', e, hm, hi⟩ := h₄
      exact wpC_pure (.inl ⟨rfl, m, hm, h', t', e, hi⟩)
/-- two clauses: the outer one -/
theorem C_compLoop2 {elt target iter target2 iter2 : Expr} {scope : Scope} {pos : Pos} {it acc : Value} (hfs : ∀ x, foldedSetIterable iter2 env x = pure x) (I : Nat → Heap → Prop) (n : Nat) (hI : I n h)
    (turn : ∀ n h t, ∀ Z : Shared → Prop, (∀ s₄, kBack s I n s₄ → Z s₄) → ∀ D : Shared → Prop, (∀ s', R (.ok .next) s' → D s') → I n h → wpAny (model prog w) A (pyNext it) (zOne (model prog w) A env target it (zIn (model prog w) A env (.ListComp elt [⟨target, iter, [], 0⟩, ⟨target2, iter2, [], 0⟩] scope pos) iter2 acc Z) D) fno (up s h t)) :
    codeC (model prog w) A (.compLoop (.ListComp elt [⟨target, iter, [], 0⟩, ⟨target2, iter2, [], 0⟩] scope pos) 0 it acc env) R (up s h t) := by
  refine codeC_loop rfl rfl (fun n s' => ∃ h t, s' = up s h t ∧ I n h) (fun n s' hs' => ?_) n ⟨h, t, rfl, hI⟩
  obtain ⟨h1, t1, rfl, hI1⟩ := hs'
  show wpC _ _ ((compTurn (.ListComp elt [⟨target, iter, [], 0⟩, ⟨target2, iter2, [], 0⟩] scope pos) 0 it acc env).onRaise (fun x => do noteFrame x env; theTreesLotGoes x)) _ _ _
  refine wpC_onRaise ?_
  rw [compTurn_l2]
  refine wpC_bind (wpC_standAt (wpC_bind (wpC_of (wpAny_mono (turn n h1 t1 _ (fun _ x => x) _ (fun _ x => x) hI1) (fun r s₁ h₁ => ?_) fun _ _ x => x))))
  cases r with
  | none => exact wpC_pure h₁
  | some v =>
    refine wpC_bind (wpC_of (wpAny_mono h₁ (fun _ s₂ h₂ => wpC_bind (wpC_of (wpAny_mono h₂ (fun _ s₃ h₃ => wpC_bind (wpC_mono h₃ (fun x s₄ h₄ => wpC_bind (wpC_standAt (wpC_bind (wpC_of_eq (hfs x) (wpC_bind (wpC_holding (wpC_mono h₄ (fun it2 s₅ h₅ => wpC_bind ?_) fun _ _ x => x))))))) fun _ _ x => x)) fun _ _ x => x))) fun _ _ x => x))
    unfold runOwn
    refine wpC_onRaise (wpC_run (codeC_mono h₅ fun r s' hr => ?_) rfl)
    cases r with
    | ok f =>
      obtain ⟨m, h', t', e, hm, hi⟩ := hr
      exact wpC_pure (.inl ⟨rfl, m, hm, h', t', e, hi⟩)
    | error e => exact hr.elim
/-- two clauses: the inner one -/
theorem C_compLoop2b {elt target iter target2 iter2 : Expr} {scope : Scope} {pos : Pos} {it acc : Value} (I : Nat → Heap → Prop) (n : Nat) (hI : I n h)
    (turn : ∀ n h t, ∀ Z : Shared → Prop, (∀ s₄, kBack s I n s₄ → Z s₄) → ∀ D : Shared → Prop, (∀ s', R (.ok .next) s' → D s') → I n h → wpAny (model prog w) A (pyNext it) (zOne (model prog w) A env target2 it (zElt (model prog w) A env elt acc Z) D) fno (up s h t)) :
    codeC (model prog w) A (.compLoop (.ListComp elt [⟨target, iter, [], 0⟩, ⟨target2, iter2, [], 0⟩] scope pos) 1 it acc env) R (up s h t) := by
  refine codeC_loop rfl rfl (fun n s' => ∃ h t, s' = up s h t ∧ I n h) (fun n s' hs' => ?_) n ⟨h, t, rfl, hI⟩
  obtain ⟨h1, t1, rfl, hI1⟩ := hs'
  show wpC _ _ ((compTurn (.ListComp elt [⟨target, iter, [], 0⟩, ⟨target2, iter2, [], 0⟩] scope pos) 1 it acc env).onRaise (fun x => do noteFrame x env; theTreesLotGoes x)) _ _ _
  refine wpC_onRaise ?_
  rw [compTurn_l2b]
  refine wpC_bind (wpC_standAt (wpC_bind (wpC_of (wpAny_mono (turn n h1 t1 _ (fun _ x => x) _ (fun _ x => x) hI1) (fun r s₁ h₁ => ?_) fun _ _ x => x))))
  cases r with
  | none => exact wpC_pure h₁
  | some v =>
    refine wpC_bind (wpC_of (wpAny_mono h₁ (fun _ s₂ h₂ => wpC_bind (wpC_of (wpAny_mono h₂ (fun _ s₃ h₃ => wpC_bind (wpC_bind (wpC_mono h₃ (fun x s₄ h₄ => wpC_bind (wpC_of (wpAny_mono h₄ (fun _ s₅ h₅ => wpC_pure (wpC_pure ?_)) fun _ _ x => x))) fun _ _ x => x))) fun _ _ x => x))) fun _ _ x => x))
    obtain ⟨m, h', t', e, hm, hi⟩ := h₅
    exact .inl ⟨rfl, m, hm, h', t', e, hi⟩
end
end Mine
end
section
open PySem PySem.W PyProof.Rows
set_option Elab.async false
set_option maxRecDepth 100000
set_option linter.unusedVariables false
namespace Mine
theorem drp_add {K : KMap} {a : Addr} {o : Obj} (h : K a = none) : drp (add K a o) a = K := by
  funext b
  unfold drp add
  split
  · rename_i e; rw [e, h]
  · rfl
theorem names_of_inner {names : List (Str × NameKind)} {lkN : List (Str × Bool)} {gsI : List Str} (ok : innerB names lkN gsI = true) : (∀ x ∈ names, x.2 ≠ .cell) ∧ (∀ x ∈ names, x.2 = .local → names.lookup x.1 = some .local) ∧ (freeNames names).reverse = (lkN.filter (·.2)).map (·.1) := by
  simp only [innerB, Bool.and_eq_true, List.all_eq_true, decide_eq_true_eq] at ok
  obtain ⟨⟨_, o4⟩, o5⟩ := ok
  refine ⟨fun x hx => ?_, fun x hx hl => ?_, o4⟩
  · have := (o5 x hx).1; simpa using this
  · have := (o5 x hx).2; rw [hl] at this; simpa using this
theorem clo_names : ∀ (lkI : List Var), (((lkI.map fun p => (p.1, p.2.1.isSome)).filter (·.2)).map (·.1)) = (cloOf lkI).map (·.1)
  | [] => rfl
  | (x, none, v) :: r => clo_names r
  | (x, some c, v) :: r => congrArg (x :: ·) (clo_names r)
theorem mem_clo {lkI : List Var} {p : Str × Addr} (h : p ∈ cloOf lkI) : ∃ v, (p.1, some p.2, v) ∈ lkI := by
  obtain ⟨q, hq, e⟩ := List.mem_filterMap.mp h
  obtain ⟨x, c, v⟩ := q
  cases c with
  | none => cases e
  | some c => cases e; exact ⟨v, hq⟩
section
variable {prog : Program} {w : World} {A : Around} {E : Value → Shared → Prop} {s : Shared} {t : Nat} {env : Env}
/-- what a comprehension must show from its turns on -/
def CompOut (s : Shared) (K₀ : KMap) (cenv : Env) (gsI : List Str) (L : Addr) (o : Obj) (cs : List (Addr × Obj)) (Post : KMap → List (Addr × Obj) → Nat → Prop) : Result → Shared → Prop := fun r s' => match r with
  | .ok _ => ∀ P : Prop, (∀ h2 t2 K2 lk2 ws2 wsO, s' = up s h2 t2 → Fm K₀ K2 cenv gsI lk2 ws2 h2 → K2 L = some o → (cellsOf lk2 ++ ws2).Perm (cs ++ wsO) → Post (drp K2 L) wsO t2 → P) → P
  | .error _ => False
theorem CompOut.mk {K₀ K2 : KMap} {cenv : Env} {gsI : List Str} {L : Addr} {o : Obj} {cs : List (Addr × Obj)} {Post : KMap → List (Addr × Obj) → Nat → Prop} {f : Flow} {h2 : Heap} {t2 : Nat} {lk2 : List Var} {ws2 : List (Addr × Obj)}
    (F : Fm K₀ K2 cenv gsI lk2 ws2 h2) (hK : K2 L = some o) (wsO : List (Addr × Obj)) (hp : (cellsOf lk2 ++ ws2).Perm (cs ++ wsO)) (q : Post (drp K2 L) wsO t2) : CompOut s K₀ cenv gsI L o cs Post (.ok f) (up s h2 t2) := fun _ k => k _ _ _ _ _ _ rfl F hK hp q
def CompIn (prog : Program) (w : World) (A : Around) (s : Shared) (env : Env) (elt : Expr) (gens : List Comprehension) (scope : Scope) (pos : Pos) (lkI : List Var) (gsI : List Str) (it : Value) (Post : Addr → KMap → KMap → List Str → List Var → List (Addr × Obj) → Nat → Prop) (s₂ : Shared) : Prop :=
  ∀ P : Prop, (∀ h t K₀ K gs lk ws wsI, s₂ = up s h t → Fm K₀ K env gs lk ws h → (∀ p ∈ lkI, p.2.1 = none → p.2.2 = none) →
    (cellsOf lk ++ ws).Perm (cellsOf lkI ++ wsI) → (∀ h' t', Keeps h h' → wpAny (model prog w) A (pyIter it) (fun v s' => v = it ∧ s' = up s h' t') fno (up s h' t')) →
    (∀ acc L o h', h.get? env.locals = some o → Fm K₀ (add K env.locals o) (compEnvC scope (cloOf lkI) L env) gsI lkI ((acc, lst [] 0) :: wsI) h' →
      codeC (model prog w) A (.compLoop (.ListComp elt gens scope pos) 0 it (.ref acc) (compEnvC scope (cloOf lkI) L env)) (CompOut s K₀ (compEnvC scope (cloOf lkI) L env) gsI env.locals o (cellsOf lk) (fun K' wsO t2 => Post acc K₀ K' gs lk wsO t2)) (up s h' t)) → P) → P
theorem CompIn.mk {elt : Expr} {gens : List Comprehension} {scope : Scope} {pos : Pos} {lkI : List Var} {gsI : List Str} {it : Value} {Post : Addr → KMap → KMap → List Str → List Var → List (Addr × Obj) → Nat → Prop} {h : Heap} {K₀ K : KMap} {gs : List Str} {lk : List Var} {ws : List (Addr × Obj)} (wsI : List (Addr × Obj))
    (F : Fm K₀ K env gs lk ws h) (hl : ∀ p ∈ lkI, p.2.1 = none → p.2.2 = none) (hp : (cellsOf lk ++ ws).Perm (cellsOf lkI ++ wsI)) (hi : ∀ h' t', Keeps h h' → wpAny (model prog w) A (pyIter it) (fun v s' => v = it ∧ s' = up s h' t') fno (up s h' t'))
    (q : ∀ acc L o h', h.get? env.locals = some o → Fm K₀ (add K env.locals o) (compEnvC scope (cloOf lkI) L env) gsI lkI ((acc, lst [] 0) :: wsI) h' →
      codeC (model prog w) A (.compLoop (.ListComp elt gens scope pos) 0 it (.ref acc) (compEnvC scope (cloOf lkI) L env)) (CompOut s K₀ (compEnvC scope (cloOf lkI) L env) gsI env.locals o (cellsOf lk) (fun K' wsO t2 => Post acc K₀ K' gs lk wsO t2)) (up s h' t)) :
    CompIn prog w A s env elt gens scope pos lkI gsI it Post (up s h t) := fun _ k => k _ _ _ _ _ _ _ _ rfl F hl hp hi q
abbrev cCo2 (s : Shared) (prog : Program) (w : World) (A : Around) (env : Env) (elt : Expr) (gens : List Comprehension) (scope : Scope) (pos : Pos) (lkI : List Var) (gsI : List Str) (Q : Value → Shared → Prop) : Value → Shared → Prop := fun it s₂ =>
  CompIn prog w A s env elt gens scope pos lkI gsI it (fun acc K₀ K' gs lk wsO t2 => ∀ h3, Fm K₀ K' env gs lk wsO h3 → Q (.ref acc) (up s h3 t2)) s₂
abbrev cCo1 (s : Shared) (prog : Program) (w : World) (A : Around) (env : Env) (elt : Expr) (gens : List Comprehension) (scope : Scope) (pos : Pos) (lkI : List Var) (gsI : List Str) (Q : Value → Shared → Prop) (E : Value → Shared → Prop) : Value → Shared → Prop := fun x s₁ =>
  wpC (model prog w) A (pyIter x) (cCo2 s prog w A env elt gens scope pos lkI gsI Q) E s₁
theorem C_ListComp {elt target iter : Expr} {ifs : List Expr} {rest : List Comprehension} {scope : Scope} {pos : Pos} {Q : Value → Shared → Prop} (lkI : List Var) (gsI : List Str) {K₀ K : KMap} {gs : List Str} {lk : List Var} {ws : List (Addr × Obj)} {h0 : Heap}
    (F0 : Fm K₀ K env gs lk ws h0) (ok : innerB scope.names (lkI.map fun p => (p.1, p.2.1.isSome)) gsI = true) (hcell : ∀ p ∈ lkI, ∀ c, p.2.1 = some c → ∃ v, (p.1, some c, v) ∈ lk)
    (k : wpC (model prog w) A (eval iter env) (cCo1 s prog w A env elt (⟨target, iter, ifs, 0⟩ :: rest) scope pos lkI gsI Q E) E (up s h0 t))
    (hkind : scope.kind = .function := by rfl) (hfs : ∀ x, foldedSetIterable iter env x = pure x := by intro _; rfl) :
    wpC (model prog w) A (eval (.ListComp elt (⟨target, iter, ifs, 0⟩ :: rest) scope pos) env) Q E (up s h0 t) := by
  obtain ⟨n1, n2, n3⟩ := names_of_inner ok
  rw [clo_names] at n3
  have hclos : closureFor scope env = pure (cloOf lkI) := closure_of n3 fun p hp => by
    obtain ⟨v, hv⟩ := mem_clo hp
    obtain ⟨v', hv'⟩ := hcell _ hv _ rfl
    exact (F0.kind _ hv').2.1
  rw [eval_ListComp]
  refine C_comprehension (use := none) rfl hfs hclos hkind n2 (wpC_mono k (fun x s₁ h₁ => wpC_mono h₁ (fun it s₂ h₂ => ?_) fun _ _ e => e) fun _ _ e => e)
  refine h₂ _ ?_
  clear h₂
  rintro h t K₀ K gs lk ws wsI rfl F hloc hp hit go
  obtain ⟨o, ho⟩ := F.L_some
  refine wpC_of (wpAny_newList ?_ (by simp))
  refine wpC_of (wpAny_newFunctionEnv n1 (fun x hx => by cases hx) ?_ hkind)
  intro h' hn hs
  have F1 := F.push (lst [] 0)
  have hkp : Keeps (h.push (lst [] 0)) h' := fun b ob e => hs.extBut b ob (Nat.ne_of_lt (Heap.lt_size e)) (Heap.get?_push_of_some _ e)
  have hLn : (h.push (lst [] 0)).get? (h.push (lst [] 0)).objs.size = none := Heap.get?_none_of_le (Nat.le_refl _)
  have FI := F1.inner (lkI := lkI) (wsI := (h.objs.size, lst [] 0) :: wsI) ok hkind hloc (List.perm_middle.trans ((hp.cons _).trans List.perm_middle.symm)) (Heap.get?_push_of_some _ ho) hLn hn hkp
  have go := go h.objs.size _ o h' ho FI
  have hcode : codeC (model prog w) A (.compStart (.ListComp elt (⟨target, iter, ifs, 0⟩ :: rest) scope pos) 0 it (.ref h.objs.size) (compEnvC scope (cloOf lkI) (h.push (lst [] 0)).objs.size env)) (compC (model prog w) A E none Q (.ref h.objs.size) (h.push (lst [] 0)).objs.size) (up s h' t) := by
    have hfin : ∀ r s', CompOut s K₀ (compEnvC scope (cloOf lkI) (h.push (lst [] 0)).objs.size env) gsI env.locals o (cellsOf lk) (fun K' wsO t2 => ∀ h3, Fm K₀ K' env gs lk wsO h3 → Q (.ref h.objs.size) (up s h3 t2)) r s' → compC (model prog w) A E none Q (.ref h.objs.size) (h.push (lst [] 0)).objs.size r s' := fun r s' x => by
      cases r with
      | error e => exact x.elim
      | ok f =>
        refine x _ ?_
        rintro h2 t2 K2 lk2 ws2 wsO rfl F2 hK2 hp2 q
        exact ⟨_, F2.nsp, fun h3 hs3 => q h3 (F.outer ho F2 hK2 hp2 hs3)⟩
    refine C_compStart rfl (wpC_of (wpAny_mono (hit h' t fun b ob e => hkp _ _ (Heap.get?_push_of_some _ e)) (fun v s' x => ?_) fun _ _ x => x)) (codeC_mono go hfin)
    obtain ⟨rfl, rfl⟩ := x
    exact ⟨rfl, codeC_mono go hfin⟩
  exact hcode
end
end Mine
end
section
open PySem PySem.W PyProof.Rows
set_option Elab.async false
set_option linter.unusedVariables false
namespace Mine
/-! the sort, plainly -/
/-- the way through a tree of questions: they are about the first n, and P holds at the end -/
def Path {α : Type} (lt : Nat → Nat → Bool) (n : Nat) (P : α → Prop) : KasT α → Prop
  | .ret a => P a
  | .ask i j k => i < n ∧ j < n ∧ Path lt n P (k (lt i j))
theorem Path.bind {α β : Type} {lt : Nat → Nat → Bool} {n : Nat} {P : β → Prop} {f : α → KasT β} : ∀ {t : KasT α}, Path lt n (fun a => Path lt n P (f a)) t → Path lt n P (t.bind f)
  | .ret _, h => h
  | .ask _ _ _, h => ⟨h.1, h.2.1, Path.bind h.2.2⟩
theorem Path.mono {α : Type} {lt : Nat → Nat → Bool} {n : Nat} {P Q : α → Prop} (hq : ∀ a, P a → Q a) : ∀ {t : KasT α}, Path lt n P t → Path lt n Q t
  | .ret _, h => hq _ h
  | .ask _ _ _, h => ⟨h.1, h.2.1, Path.mono hq h.2.2⟩
noncomputable def ga (p : Array Nat) (i : Nat) : Nat := p.getD i 0
theorem ga_eq_of {p q : Array Nat} {i j : Nat} (h : p[i]? = q[j]?) : ga p i = ga q j := by
  simp only [ga, Array.getD_eq_getD_getElem?, h]
theorem rev_at {p : Array Nat} {i j : Nat} (hj : j ≤ p.size) (k : Nat) : ga (kas_rev p i j) k = if i ≤ k ∧ k < j then ga p (i + j - 1 - k) else ga p k := by
  have := getElem?_mirror_all (xs := p) (i := i) hj k
  unfold kas_rev
  split
  · rename_i h; rw [if_pos h] at this; exact ga_eq_of this
  · rename_i h; rw [if_neg h] at this; exact ga_eq_of this
theorem bub_at {p : Array Nat} {src d : Nat} (hs : src < p.size) (hd : d ≤ src) (k : Nat) : ga (bubble p src d) k = if k = src - d then ga p src else if src - d < k ∧ k ≤ src then ga p (k - 1) else ga p k := by
  have := getElem?_bubble hs d hd k
  split
  · rename_i h; rw [if_pos h] at this; exact ga_eq_of this
  · rename_i h
    rw [if_neg h] at this
    split
    · rename_i h2; rw [if_pos h2] at this; exact ga_eq_of this
    · rename_i h2; rw [if_neg h2] at this; exact ga_eq_of this
/-- a strict weak order -/
structure Swo {α : Type} (lt : α → α → Bool) : Prop where
  asym : ∀ a b, lt a b = true → lt b a = false
  trans : ∀ a b c, lt b a = false → lt c b = false → lt c a = false
section
variable {α : Type} {lt : α → α → Bool}
theorem Swo.lt_le (w : Swo lt) {a b c : α} (h1 : lt a b = true) (h2 : lt c b = false) : lt a c = true := by
  cases h : lt a c with
  | true => rfl
  | false => exact absurd (w.trans b c a h2 h) (by rw [h1]; decide)
theorem Swo.le_lt (w : Swo lt) {a b c : α} (h1 : lt b a = false) (h2 : lt b c = true) : lt a c = true := by
  cases h : lt a c with
  | true => rfl
  | false => exact absurd (w.trans c a b h h1) (by rw [h2]; decide)
theorem Swo.lt_lt (w : Swo lt) {a b c : α} (h1 : lt a b = true) (h2 : lt b c = true) : lt a c = true := w.lt_le h1 (w.asym _ _ h2)
theorem Swo.irr (w : Swo lt) (a : α) : lt a a = false := by
  cases h : lt a a with
  | false => rfl
  | true => exact absurd (w.asym _ _ h) (by rw [h]; decide)
end
/-- ahead, like ones by their places -/
def Sb (lt : Nat → Nat → Bool) (i j : Nat) : Prop := lt i j = true ∨ (lt j i = false ∧ i < j)
theorem Sb.le {lt : Nat → Nat → Bool} (w : Swo lt) {i j : Nat} (h : Sb lt i j) : lt j i = false := h.elim (w.asym _ _) (·.1)
theorem Sb.trans {lt : Nat → Nat → Bool} (w : Swo lt) {i j k : Nat} (h1 : Sb lt i j) (h2 : Sb lt j k) : Sb lt i k := by
  rcases h1 with h1 | ⟨h1, l1⟩ <;> rcases h2 with h2 | ⟨h2, l2⟩
  · exact .inl (w.lt_lt h1 h2)
  · exact .inl (w.lt_le h1 h2)
  · exact .inl (w.le_lt h1 h2)
  · exact .inr ⟨w.trans _ _ _ h1 h2, Nat.lt_trans l1 l2⟩
theorem Sb.asym {lt : Nat → Nat → Bool} (w : Swo lt) {i j : Nat} (h1 : Sb lt i j) (h2 : Sb lt j i) : False := by
  have := Sb.trans w h1 h2
  rcases this with h | ⟨_, h⟩
  · rw [w.irr] at h; cases h
  · exact Nat.lt_irrefl _ h
/-- the first m stand in order -/
def Up (lt : Nat → Nat → Bool) (p : Array Nat) (m : Nat) : Prop := ∀ i j, i < j → j < m → Sb lt (ga p i) (ga p j)
/-- the first m stand in the order turned round -/
def Dn (lt : Nat → Nat → Bool) (p : Array Nat) (m : Nat) : Prop := ∀ i j, i < j → j < m → Sb lt (ga p j) (ga p i)
/-- the entries: the first m are below m, the others stand at their places -/
structure Own (n : Nat) (p : Array Nat) (m : Nat) : Prop where
  pm : p.toList.Perm (List.range n)
  low : ∀ i, i < m → ga p i < m
  id : ∀ i, m ≤ i → i < n → ga p i = i
theorem Own.sz {n m : Nat} {p : Array Nat} (o : Own n p m) : p.size = n := by simpa using o.pm.length_eq
theorem Own.bd {n m : Nat} {p : Array Nat} (o : Own n p m) (hm : m ≤ n) (hn : 0 < n) (i : Nat) : ga p i < n := by
  rcases Nat.lt_or_ge i m with h | h
  · have := o.low i h; omega
  · rcases Nat.lt_or_ge i n with h2 | h2
    · rw [o.id i h h2]; exact h2
    · have : ga p i = 0 := by simp only [ga, Array.getD_eq_getD_getElem?]; rw [Array.getElem?_eq_none (by have := o.sz; (clear hm hn h; lia))]; rfl
      exact Nat.lt_of_le_of_lt (Nat.le_of_eq this) hn
theorem Own.more {n m m' : Nat} {p : Array Nat} (o : Own n p m) (h : m ≤ m') (hn : m' ≤ n) : Own n p m' := by
  refine ⟨o.pm, fun i hi => ?_, fun i h1 h2 => o.id i (by exact Nat.le_trans h h1) h2⟩
  rcases Nat.lt_or_ge i m with h1 | h1
  · have := o.low i h1; omega
  · rw [o.id i h1 (by exact Nat.lt_of_lt_of_le hi hn)]; exact hi
theorem Own.rev {n m i j : Nat} {p : Array Nat} (o : Own n p m) (hm : m ≤ n) (hj : j ≤ m) : Own n (kas_rev p i j) m := by
  have hz := o.sz
  refine ⟨(Array.perm_iff_toList_perm.mp (mirror_perm _ _ _ _)).trans o.pm, fun k hk => ?_, fun k h1 h2 => ?_⟩
  · rw [rev_at (by (clear hk; lia))]
    split
    · exact o.low _ (by omega)
    · exact o.low _ hk
  · rw [rev_at (by (clear h1 h2; lia)), if_neg (by (clear hm hz h2; lia))]; exact o.id k h1 h2
section
variable {lt : Nat → Nat → Bool} {n : Nat} {p : Array Nat}
theorem asc_path (hb : ∀ i, ga p i < n) : ∀ f a, Path lt n (fun m => a ≤ m ∧ m ≤ a + f ∧ (∀ i, a ≤ i → i < m → lt (ga p i) (ga p (i - 1)) = false) ∧ (m < a + f → lt (ga p m) (ga p (m - 1)) = true)) (kas_asc p f a)
  | 0, a => ⟨Nat.le_refl _, Nat.le_refl _, fun i h1 h2 => absurd h1 (by (clear h1; lia)), fun h => absurd h (by (clear h; lia))⟩
  | f + 1, a => by
    refine ⟨hb a, hb (a - 1), ?_⟩
    cases h : lt (p.getD a 0) (p.getD (a - 1) 0) with
    | true => exact ⟨Nat.le_refl _, by exact Nat.le_add_right _ _, fun i h1 h2 => absurd h1 (by (clear h1; lia)), fun _ => h⟩
    | false =>
      refine Path.mono (fun m hm => ?_) (asc_path hb f (a + 1))
      obtain ⟨h1, h2, h3, h4⟩ := hm
      refine ⟨by exact Nat.le_of_lt h1, by (clear h1 h4; lia), fun i i1 i2 => ?_, fun hh => h4 (by (clear h1 h2 h4; lia))⟩
      by_cases e : i = a
      · subst e; exact h
      · exact h3 i (by (clear h1 h2 h4 i2; lia)) i2
/-- a run of ascents behind an ordered beginning -/
theorem up_asc (w : Swo lt) {a m : Nat} (o : Own n p a) (hm : m ≤ n) (h1 : 1 ≤ a) (ham : a ≤ m) (hu : Up lt p a) (h : ∀ i, a ≤ i → i < m → lt (ga p i) (ga p (i - 1)) = false) : Up lt p m := by
  induction m with
  | zero => intro i j _ hj; exact absurd h1 (Nat.not_lt.mpr ham)
  | succ m ih =>
    by_cases hma : a ≤ m
    · have ih := ih (by exact Nat.le_of_lt hm) hma fun i i1 i2 => h i i1 (by exact Nat.lt_succ_of_lt i2)
      have hlast : Sb lt (ga p (m - 1)) (ga p m) := by
        refine .inr ⟨h m hma (by exact Nat.le_refl _), ?_⟩
        rw [o.id m hma (by exact hm)]
        have := (o.more hma (by exact Nat.le_of_lt hm)).low (m - 1) (by omega)
        exact this
      intro i j hij hj
      rcases Nat.lt_or_ge j m with h2 | h2
      · exact ih i j hij h2
      · obtain rfl : j = m := by (clear h1 hm ham hma hij; lia)
        by_cases e : i = j - 1
        · rw [e]; exact hlast
        · exact Sb.trans w (ih i (j - 1) (by omega) (by omega)) hlast
    · have : a = m + 1 := by (clear h1 hm; lia)
      rw [← this]; exact hu
end
end Mine
end
section
open PySem PySem.W PyProof.Rows
set_option Elab.async false
set_option linter.unusedVariables false
namespace Mine
/-- a descent, its last stretch of like ones not yet turned -/
structure Dsc (lt : Nat → Nat → Bool) (n : Nat) (p : Array Nat) (m q : Nat) : Prop where
  own : Own n p m
  hm : m ≤ n
  hq : q + 1 ≤ m
  pre : ∀ i j, i < j → j < m - (q + 1) → Sb lt (ga p j) (ga p i)
  low : ∀ i j, i < m - (q + 1) → m - (q + 1) ≤ j → j < m → lt (ga p j) (ga p i) = true
  eq : ∀ i j, m - (q + 1) ≤ i → i < j → j < m → lt (ga p j) (ga p i) = false ∧ lt (ga p i) (ga p j) = false ∧ ga p i < ga p j
section
variable {lt : Nat → Nat → Bool} {n : Nat}
theorem Dsc.turned {p : Array Nat} {m q : Nat} (d : Dsc lt n p m q) : Dn lt (kas_rev p (m - (q + 1)) m) m := by
  have hz := d.own.sz
  have h1 := d.hm
  have h2 := d.hq
  intro i j hij hj
  rw [rev_at (by exact Nat.le_trans h1 (Nat.le_of_eq hz.symm)), rev_at (by exact Nat.le_trans h1 (Nat.le_of_eq hz.symm))]
  by_cases c1 : m - (q + 1) ≤ j ∧ j < m
  · rw [if_pos c1]
    by_cases c2 : m - (q + 1) ≤ i ∧ i < m
    · rw [if_pos c2]
      have := d.eq (m - (q + 1) + m - 1 - j) (m - (q + 1) + m - 1 - i) (by (clear hz h1 h2 hij c1 c2; omega)) (by (clear hz h1 h2 hj c2; omega)) (by (clear hz h1 h2 hij hj c1; omega))
      exact .inr ⟨this.1, this.2.2⟩
    · rw [if_neg c2]
      exact .inl (d.low i _ (by omega) (by (clear hz h1 h2 hij c1 c2; omega)) (by (clear hz h1 h2 hij hj c2; omega)))
  · rw [if_neg c1, if_neg (by (clear hz h1 h2; omega))]
    exact d.pre i j hij (by (clear hz h1 h2 hij; omega))
theorem Dsc.flat {p : Array Nat} {m : Nat} (d : Dsc lt n p m 0) : Dn lt p m := by
  intro i j hij hj
  by_cases c : j < m - 1
  · exact d.pre i j hij c
  · exact .inl (d.low i j (by omega) (by exact Nat.not_lt.mp c) hj)
theorem Dsc.least (w : Swo lt) {p : Array Nat} {m q : Nat} (d : Dsc lt n p m q) {x : Nat} (h : lt x (ga p (m - 1)) = true) : ∀ i, i < m → lt x (ga p i) = true := by
  intro i hi
  have h2 := d.hq
  by_cases c : i < m - (q + 1)
  · exact w.lt_lt h (d.low i (m - 1) c (by omega) (by omega))
  · by_cases e : i = m - 1
    · rw [e]; exact h
    · exact w.lt_le h (d.eq i (m - 1) (by exact Nat.not_lt.mp c) (by (clear h2 c; omega)) (by omega)).2.1
theorem Dsc.start (w : Swo lt) {p : Array Nat} {m : Nat} (o : Own n p m) (hm : m < n) (hd : Dn lt p m) (h : ∀ i, i < m → lt (ga p m) (ga p i) = true) : Dsc lt n p (m + 1) 0 := by
  refine ⟨o.more (by exact Nat.le_succ _) (by exact hm), by exact hm, by exact Nat.succ_pos _, fun i j hij hj => hd i j hij (by exact hj), fun i j hi h1 h2 => ?_, fun i j h1 h2 h3 => by (clear hm; lia)⟩
  obtain rfl : j = m := by (clear hm hi; lia)
  exact h i (by exact hi)
theorem Dsc.more (w : Swo lt) {p : Array Nat} {m q : Nat} (d : Dsc lt n p m q) (hm : m < n) (h1 : lt (ga p m) (ga p (m - 1)) = false) (h2 : lt (ga p (m - 1)) (ga p m) = false) : Dsc lt n p (m + 1) (q + 1) := by
  have hq := d.hq
  have er : m + 1 - (q + 1 + 1) = m - (q + 1) := by (clear hm; lia)
  refine ⟨d.own.more (by exact Nat.le_succ _) (by exact hm), by exact hm, by exact Nat.lt_succ_of_le hq, fun i j hij hj => d.pre i j hij (by exact Nat.lt_of_lt_of_eq hj er), fun i j hi hj1 hj2 => ?_, fun i j hi hij hj => ?_⟩
  · rw [er] at hi hj1
    rcases Nat.lt_or_ge j m with h | h
    · exact d.low i j hi hj1 h
    · obtain rfl : j = m := by (clear hm hq er hi hj1; lia)
      exact w.le_lt h2 (d.low i (j - 1) hi (by (clear hm hq er hi hj1 hj2 h; omega)) (by omega))
  · rw [er] at hi
    rcases Nat.lt_or_ge j m with h | h
    · exact d.eq i j hi hij h
    · obtain rfl : j = m := by (clear hm hq er hi hij; lia)
      refine ⟨?_, ?_, ?_⟩
      · by_cases e : i = j - 1
        · rw [e]; exact h1
        · exact w.trans _ _ _ (d.eq i (j - 1) hi (by (clear hm hq er hi hj h; omega)) (by omega)).1 h1
      · by_cases e : i = j - 1
        · rw [e]; exact h2
        · exact w.trans _ _ _ h2 (d.eq i (j - 1) hi (by (clear hm hq er hi hj h; omega)) (by omega)).2.1
      · rw [d.own.id j (by exact Nat.le_refl _) hm]; exact d.own.low i hij
theorem desc_path (w : Swo lt) (hn : 0 < n) : ∀ (f : Nat) (p : Array Nat) (m q : Nat), Dsc lt n p m q → m + f ≤ n → Path lt n (fun r => Dsc lt n r.1 r.2.1 r.2.2) (kas_desc f p m q)
  | 0, p, m, q, d, _ => d
  | f + 1, p, m, q, d, hf => by
    have hb := d.own.bd d.hm hn
    refine ⟨hb m, hb (m - 1), ?_⟩
    cases h : lt (p.getD m 0) (p.getD (m - 1) 0) with
    | true =>
      simp only [if_true]
      have hl := d.least w h
      by_cases hq : q > 0
      · rw [if_pos hq]
        refine desc_path w hn f _ _ _ (Dsc.start w (d.own.rev d.hm (Nat.le_refl _)) (by (clear hn hq; lia)) d.turned fun i hi => ?_) (by (clear hn hq; lia))
        have hz := d.own.sz
        rw [rev_at (by (clear hn hq hi; lia)), rev_at (by (clear hn hq hi; lia)), if_neg (by (clear hn hf hq hi hz; lia))]
        split
        · exact hl _ (by (clear hn hf hq hi hz; omega))
        · exact hl _ hi
      · rw [if_neg hq]
        obtain rfl : q = 0 := by (clear hn hf; lia)
        exact desc_path w hn f _ _ _ (Dsc.start w d.own (by (clear hn hq; lia)) d.flat hl) (by (clear hn hq; lia))
    | false =>
      simp only [Bool.false_eq_true, if_false]
      refine ⟨hb (m - 1), hb m, ?_⟩
      cases h2 : lt (p.getD (m - 1) 0) (p.getD m 0) with
      | true => simp only [if_true]; exact d
      | false =>
        simp only [Bool.false_eq_true, if_false]
        exact desc_path w hn f _ _ _ (d.more w (by (clear hn; lia)) h h2) (by (clear hn; lia))
theorem tail3_path (w : Swo lt) (hn : 0 < n) {p : Array Nat} {m : Nat} (o : Own n p m) (h1 : 1 ≤ m) (hm : m ≤ n) (hd : Dn lt p m) : Path lt n (fun r => Own n r.2 r.1 ∧ Up lt r.2 r.1 ∧ 1 ≤ r.1 ∧ r.1 ≤ n) (kas_tail3 m n p) := by
  have hz := o.sz
  have o' := o.rev (i := 0) hm (Nat.le_refl _)
  have hu : Up lt (kas_rev p 0 m) m := by
    intro i j hij hj
    rw [rev_at (by exact Nat.le_trans hm (Nat.le_of_eq hz.symm)), rev_at (by exact Nat.le_trans hm (Nat.le_of_eq hz.symm)), if_pos (by (clear hn h1 hm hz; lia)), if_pos (by (clear hn h1 hm hz hij; lia))]
    exact hd _ _ (by (clear hn h1 hm hz; omega)) (by (clear hn hm hz hij hj; omega))
  unfold kas_tail3
  refine Path.bind (Path.mono (fun m' hm' => ?_) (asc_path (o'.bd hm hn) (n - m) m))
  obtain ⟨a1, a2, a3, a4⟩ := hm'
  exact ⟨o'.more a1 (by (clear hn h1 hz a1 a4; omega)), up_asc w o' (by (clear hn h1 hz a1 a4; omega)) h1 a1 hu a3, by exact Nat.lt_of_lt_of_le h1 a1, by (clear hn h1 hz a1 a4; omega)⟩
theorem descPart_path (w : Swo lt) (hn : 0 < n) {p : Array Nat} {m : Nat} (o : Own n p m) (hm : m < n) (hd : Dn lt p m) (h : ∀ i, i < m → lt (ga p m) (ga p i) = true) :
    Path lt n (fun r => Own n r.2 r.1 ∧ Up lt r.2 r.1 ∧ 1 ≤ r.1 ∧ r.1 ≤ n) (kas_descPart m n p) := by
  unfold kas_descPart
  refine Path.bind (Path.mono (fun r d => ?_) (desc_path w hn (n - (m + 1)) p (m + 1) 0 (Dsc.start w o hm hd h) (by omega)))
  obtain ⟨p', m', q'⟩ := r
  have d : Dsc lt n p' m' q' := d
  show Path lt n _ (if q' > 0 then kas_tail3 m' n (kas_rev p' (m' - (q' + 1)) m') else kas_tail3 m' n p')
  have h1 : 1 ≤ m' := by have := d.hq; (clear hn hm; lia)
  by_cases hq : q' > 0
  · rw [if_pos hq]
    exact tail3_path w hn (d.own.rev d.hm (Nat.le_refl _)) h1 d.hm d.turned
  · rw [if_neg hq]
    obtain rfl : q' = 0 := by (clear hn hm h1; lia)
    exact tail3_path w hn d.own h1 d.hm d.flat
theorem range_at {i : Nat} (hi : i < n) : ga (List.toArray (List.range n)) i = i := by
  simp only [ga, Array.getD_eq_getD_getElem?]
  simp [hi]
theorem count_path (w : Swo lt) (hn : 0 < n) : Path lt n (fun r => Own n r.2 r.1 ∧ Up lt r.2 r.1 ∧ 1 ≤ r.1 ∧ r.1 ≤ n) (kas_count n (List.toArray (List.range n))) := by
  have o : Own n (List.toArray (List.range n)) 1 := ⟨List.Perm.refl _, fun i hi => by rw [range_at (by exact Nat.lt_of_lt_of_le hi hn)]; exact hi, fun i _ h2 => range_at h2⟩
  generalize hp : List.toArray (List.range n) = p at o
  have hg : ∀ i, i < n → ga p i = i := fun i hi => by rw [← hp]; exact range_at hi
  unfold kas_count
  refine Path.bind (Path.mono (fun m hm => ?_) (asc_path (o.bd (by exact hn) hn) (n - 1) 1))
  obtain ⟨a1, a2, a3, a4⟩ := hm
  have hu : Up lt p m := up_asc w o (by (clear a1 a4; omega)) (Nat.le_refl _) a1 (fun i j h1 h2 => by (clear hn a1 a2 a4; lia)) a3
  have om := o.more a1 (show m ≤ n by (clear a1 a4; omega))
  by_cases e : (m == n) = true
  · rw [if_pos e]; exact ⟨om, hu, a1, by (clear a1 a4; lia)⟩
  · rw [if_neg e]
    have hlt : m < n := by
      have : m ≠ n := fun x => e (by rw [x]; simp)
      (clear a1 a4; omega)
    have hl := a4 (by (clear hn a1 a2 a4 e; omega))
    by_cases e2 : m > 1
    · rw [if_pos e2]
      have hb := om.bd (by exact Nat.le_of_lt hlt) hn
      refine ⟨hb 0, hb (m - 1), ?_⟩
      cases hc : lt (p.getD 0 0) (p.getD (m - 1) 0) with
      | true => simp only [if_true]; exact ⟨om, hu, a1, by exact Nat.le_of_lt hlt⟩
      | false =>
        simp only [Bool.false_eq_true, if_false]
        have hz := om.sz
        refine descPart_path w hn (om.rev (i := 0) (by exact Nat.le_of_lt hlt) (Nat.le_refl _)) hlt ?_ ?_
        · intro i j hij hj
          rw [rev_at (by (clear hn a1 a2 a4 e e2 hij hj; lia)), rev_at (by (clear hn a1 a2 a4 e e2 hij hj; lia)), if_pos (by (clear hn a1 a2 a4 e hlt e2 hz hij; lia)), if_pos (by (clear hn a1 a2 a4 e hlt e2 hz; lia))]
          exact hu _ _ (by (clear hn a1 a2 a4 e hlt e2 hz; omega)) (by (clear hn a2 a4 e hlt e2 hz hij hj; omega))
        · intro i hi
          rw [rev_at (by (clear hn a1 a2 a4 e e2 hi; lia)), rev_at (by (clear hn a1 a2 a4 e e2 hi; lia)), if_neg (by (clear hn a1 a2 a4 e hlt e2 hz hi; lia)), if_pos (by (clear hn a1 a2 a4 e hlt e2 hz; lia))]
          have h0 : ∀ x, x < m → lt (ga p x) (ga p (m - 1)) = false := fun x hx => by
            by_cases e : x = 0
            · rw [e]; exact hc
            · -- x ≥ 0: key 0 ≤ key x, key (m-1) ≤ key 0
              by_cases e3 : x = m - 1
              · rw [e3]; exact w.irr _
              · have h5 : lt (ga p x) (ga p (m - 1)) = false ∨ True := .inr trivial
                have h6 := (hu 0 x (by exact Nat.pos_of_ne_zero e) hx).le w
                cases h7 : lt (ga p x) (ga p (m - 1)) with
                | false => rfl
                | true =>
                  have h8 : lt (ga p 0) (ga p (m - 1)) = true := w.le_lt h6 h7
                  have : lt (ga p 0) (ga p (m - 1)) = false := hc
                  rw [h8] at this; cases this
          exact w.lt_le hl (h0 _ (by (clear hn a2 a4 e hlt e2 hz hi; omega)))
    · rw [if_neg e2]
      obtain rfl : m = 1 := by (clear hn a2 a4 e hlt; lia)
      refine descPart_path w hn om hlt (fun i j h1 h2 => by (clear hn a1 a2 a4 e hlt e2; lia)) fun i hi => ?_
      obtain rfl : i = 0 := by (clear hn a1 a2 a4 e hlt e2; lia)
      exact hl
theorem place_path (w : Swo lt) {p : Array Nat} {k : Nat} (hb : ∀ i, ga p i < n) (hu : Up lt p k) : ∀ (f l r : Nat), l ≤ r → r ≤ k → r - l ≤ f → (∀ i, i < l → lt (ga p k) (ga p i) = false) → (∀ i, r ≤ i → i < k → lt (ga p k) (ga p i) = true) →
    Path lt n (fun l => l ≤ k ∧ (∀ i, i < l → lt (ga p k) (ga p i) = false) ∧ (∀ i, l ≤ i → i < k → lt (ga p k) (ga p i) = true)) (kas_place p k f l r)
  | 0, l, r, h1, h2, h3, h4, h5 => ⟨by exact Nat.le_trans h1 h2, h4, fun i i1 i2 => h5 i (by omega) i2⟩
  | f + 1, l, r, h1, h2, h3, h4, h5 => by
    unfold kas_place
    by_cases e : l ≥ r
    · rw [if_pos e]; exact ⟨by exact Nat.le_trans h1 h2, h4, fun i i1 i2 => h5 i (by exact Nat.le_trans e i1) i2⟩
    · rw [if_neg e]
      refine ⟨hb k, hb _, ?_⟩
      cases hc : lt (p.getD k 0) (p.getD ((l + r) / 2) 0) with
      | true =>
        simp only [if_true]
        refine place_path w hb hu f l ((l + r) / 2) (by (clear h2 h3 e; lia)) (by (clear h3 e; lia)) (by omega) h4 fun i i1 i2 => ?_
        by_cases ei : i = (l + r) / 2
        · rw [ei]; exact hc
        · exact w.lt_le hc ((hu _ i (by (clear h1 h2 h3 e i2; lia)) i2).le w)
      | false =>
        simp only [Bool.false_eq_true, if_false]
        refine place_path w hb hu f ((l + r) / 2 + 1) r (by (clear h1 h2 h3; lia)) h2 (by (clear h1 h2 e; omega)) (fun i hi => ?_) h5
        by_cases ei : i = (l + r) / 2
        · rw [ei]; exact hc
        · exact w.trans _ _ _ ((hu i ((l + r) / 2) (by (clear h1 h2 h3 e; lia)) (by (clear h1 h3 hi ei; lia))).le w) hc
theorem bin_path (w : Swo lt) (hn : 0 < n) : ∀ (f : Nat) (p : Array Nat) (k : Nat), Own n p k → Up lt p k → k + f = n → Path lt n (fun p' => Own n p' n ∧ Up lt p' n) (kas_bin f p k)
  | 0, p, k, o, hu, hk => by
    obtain rfl : k = n := by exact hk
    exact ⟨o, hu⟩
  | f + 1, p, k, o, hu, hk => by
    show Path lt n _ ((kas_place p k k 0 k).bind fun l => kas_bin f (bubble p k (k - l)) (k + 1))
    have hz := o.sz
    refine Path.bind (Path.mono (fun l hl => ?_) (place_path w (o.bd (by (clear hn hz; lia)) hn) hu k 0 k (Nat.zero_le _) (Nat.le_refl _) (by exact Nat.sub_le _ _) (fun i hi => by (clear hn hk hz; lia)) fun i i1 i2 => by exact absurd i1 (Nat.not_le.mpr i2)))
    obtain ⟨l1, l2, l3⟩ := hl
    have hg : ∀ x, ga (bubble p k (k - l)) x = if x = l then ga p k else if l < x ∧ x ≤ k then ga p (x - 1) else ga p x := fun x => by
      rw [bub_at (by (clear hn l1; lia)) (by exact Nat.sub_le _ _), show k - (k - l) = l by (clear hn hk hz; omega)]
    have hid : ga p k = k := o.id k (Nat.le_refl _) (by omega)
    refine bin_path w hn f _ (k + 1) ⟨(Array.perm_iff_toList_perm.mp (bubble_perm _ _ _)).trans o.pm, fun i hi => ?_, fun i i1 i2 => ?_⟩ (fun i j hij hj => ?_) (by (clear hn hz l1 hid; lia))
    · rw [hg]
      split
      · rw [hid]; exact Nat.le_refl _
      · split
        · have := o.low (i - 1) (by (clear hn hk hz l1 hid hi; omega)); (clear hn hk l1 hid; lia)
        · rcases Nat.lt_or_ge i k with h | h
          · have := o.low i h; (clear hn hk l1 hid h; lia)
          · rw [o.id i h (by (clear hn hz l1 hid h; lia))]; exact hi
    · rw [hg, if_neg (by (clear hn hk hz hid i2; lia)), if_neg (by (clear hn hk hz l1 hid i2; lia))]; exact o.id i (by exact Nat.le_of_lt i1) i2
    · rw [hg, hg]
      by_cases c1 : i < l
      · rw [if_neg (show ¬ i = l by (clear hn hk hz l1 hid hij hj; lia)), if_neg (show ¬ (l < i ∧ i ≤ k) by omega)]
        by_cases c2 : j = l
        · rw [if_pos c2]
          exact .inr ⟨l2 i c1, by rw [hid]; exact o.low i (by exact Nat.lt_of_lt_of_le c1 l1)⟩
        · rw [if_neg c2]
          split
          · exact hu _ _ (by (clear hn hk hz l1 hid hij hj c2; omega)) (by (clear hn hk hz l1 hid hij hj c1 c2; omega))
          · exact hu _ _ hij (by (clear hn hk hz hid hij c1; omega))
      · by_cases c2 : i = l
        · rw [if_pos c2, if_neg (show ¬ j = l by omega), if_pos (show l < j ∧ j ≤ k by (clear hn hk hz l1 hid c2; omega))]
          exact .inl (l3 _ (by (clear hn hk hz l1 hid hj c2; omega)) (by (clear hn hk hz l1 hid c1 c2; omega)))
        · rw [if_neg c2, if_pos (show l < i ∧ i ≤ k by (clear hn hk hz l1 hid; lia)), if_neg (show ¬ j = l by (clear hn hk hz l1 hid hj c2; omega)), if_pos (show l < j ∧ j ≤ k by (clear hn hk hz l1 hid c2; omega))]
          exact hu _ _ (by (clear hn hk hz l1 hid hj; omega)) (by (clear hn hk hz l1 hid c1 c2; omega))
/-- the sort's end: all stand in order, like ones by their places -/
theorem sort_path (w : Swo lt) (hn : 0 < n) : Path lt n (fun p => Own n p n ∧ Up lt p n) (kas_sort n) := by
  unfold kas_sort
  refine Path.bind (Path.mono (fun r hr => ?_) (count_path w hn))
  obtain ⟨o, hu, h1, h2⟩ := hr
  by_cases e : r.1 < n
  · rw [if_pos e, show max r.1 1 = r.1 by (clear hn h2 e; lia)]
    exact bin_path w hn _ _ _ o hu (by (clear hn h1 e; omega))
  · rw [if_neg e]
    have : r.1 = n := by (clear hn h1; lia)
    rw [this] at o hu
    exact ⟨o, hu⟩
end
/-- turned round, or not -/
noncomputable def rvI (b : Bool) (n i : Nat) : Nat := if b then n - 1 - i else i
noncomputable def flipB {α : Type} (b : Bool) (lt : α → α → Bool) : α → α → Bool := fun x y => if b then lt y x else lt x y
theorem Swo.comap {α β : Type} {lt : α → α → Bool} (w : Swo lt) (f : β → α) : Swo (fun i j => lt (f i) (f j)) := ⟨fun a b => w.asym _ _, fun a b c => w.trans _ _ _⟩
theorem Swo.flip {α : Type} {lt : α → α → Bool} (w : Swo lt) (b : Bool) : Swo (flipB b lt) := by
  cases b with
  | false => exact w
  | true => exact ⟨fun x y h => w.asym _ _ h, fun x y z h1 h2 => w.trans _ _ _ h2 h1⟩
theorem getElem_ga {p : Array Nat} {i : Nat} (h : i < p.size) : p.toList[i]'(by simpa using h) = ga p i := by
  simp only [ga, Array.getD_eq_getD_getElem?]
  simp [h]
/-- the order of the places that the sort leaves -/
theorem sort_out {lt : Nat → Nat → Bool} {n : Nat} {b : Bool} {p : Array Nat} (w : Swo lt) (o : Own n p n) (hu : Up (fun i j => lt (rvI b n i) (rvI b n j)) p n) :
    (katRev b (p.toList.map (rvI b n))).Perm (List.range n) ∧ (katRev b (p.toList.map (rvI b n))).Pairwise (Sb (flipB b lt)) := by
  have hz := o.sz
  have hpw : p.toList.Pairwise (Sb fun i j => lt (rvI b n i) (rvI b n j)) := by
    rw [List.pairwise_iff_getElem]
    intro i j hi hj hij
    simp only [Array.length_toList] at hi hj
    rw [getElem_ga hi, getElem_ga hj]
    exact hu i j hij (by exact Nat.lt_of_lt_of_eq hj hz)
  cases b with
  | false =>
    have e : p.toList.map (rvI false n) = p.toList := by
      conv => rhs; rw [← List.map_id p.toList]
      exact List.map_congr_left fun i _ => rfl
    show (p.toList.map (rvI false n)).Perm _ ∧ List.Pairwise _ (p.toList.map (rvI false n))
    rw [e]
    exact ⟨o.pm, hpw⟩
  | true =>
    have hlt : ∀ x ∈ p.toList, x < n := fun x hx => List.mem_range.mp (o.pm.mem_iff.mp hx)
    show ((p.toList.map (rvI true n)).reverse).Perm _ ∧ List.Pairwise _ (p.toList.map (rvI true n)).reverse
    constructor
    · refine (List.reverse_perm _).trans ((o.pm.map _).trans ?_)
      have : (List.range n).map (rvI true n) = (List.range n).reverse := by
        apply List.ext_getElem
        · simp
        · intro i h1 h2
          simp [rvI]
      rw [this]
      exact List.reverse_perm _
    · rw [List.pairwise_reverse, List.pairwise_map]
      refine hpw.imp_of_mem fun {a b} ha hb h => ?_
      have h1 := hlt a ha
      have h2 := hlt b hb
      rcases h with h | ⟨h, hl⟩
      · exact .inl h
      · exact .inr ⟨h, by simp only [rvI, if_true]; omega⟩
end Mine
end
section
namespace Mine
/-! heaps, plainly -/
section
variable {α : Type} [Inhabited α] {lt : α → α → Bool}
/-- the item at a place -/
noncomputable def at' (xs : List α) (i : Nat) : α := xs.getD i default
theorem at_set {xs : List α} {i j : Nat} {v : α} (hj : j < xs.length) : at' (xs.set i v) j = if i = j then v else at' xs j := by
  unfold at'
  simp only [List.getD_eq_getElem?_getD, List.getElem?_set]
  split
  · rename_i h; subst h; simp [hj]
  · rfl
/-- no item is ahead of the one above it -/
def IsHeap (lt : α → α → Bool) (xs : List α) : Prop := ∀ i, 0 < i → i < xs.length → lt (at' xs i) (at' xs ((i - 1) / 2)) = false
/-- the same, from a place on -/
def HeapFrom (lt : α → α → Bool) (s : Nat) (xs : List α) : Prop := ∀ i, 0 < i → i < xs.length → s ≤ (i - 1) / 2 → lt (at' xs i) (at' xs ((i - 1) / 2)) = false
/-- a place under another one -/
inductive Under (s : Nat) : Nat → Prop
  | refl : Under s s
  | left {p : Nat} : Under s p → Under s (2 * p + 1)
  | right {p : Nat} : Under s p → Under s (2 * p + 2)
theorem Under.le {s p : Nat} (u : Under s p) : s ≤ p := by
  induction u with
  | refl => exact Nat.le_refl _
  | left _ ih => lia
  | right _ ih => lia
theorem Under.up {s p : Nat} (u : Under s p) (h : p ≠ s) : Under s ((p - 1) / 2) ∧ 0 < p := by
  cases u with
  | refl => exact absurd rfl h
  | @left q uq => rw [show (2 * q + 1 - 1) / 2 = q by (clear h; lia)]; exact ⟨uq, by exact Nat.succ_pos _⟩
  | @right q uq => rw [show (2 * q + 2 - 1) / 2 = q by (clear h; lia)]; exact ⟨uq, by exact Nat.succ_pos _⟩
/-- a heap but for the place p -/
structure Hole (lt : α → α → Bool) (s p : Nat) (xs : List α) : Prop where
  un : Under s p
  inn : p < xs.length
  ok : ∀ i, 0 < i → i < xs.length → s ≤ (i - 1) / 2 → i ≠ p → (i - 1) / 2 ≠ p → lt (at' xs i) (at' xs ((i - 1) / 2)) = false
  gr : ∀ i, 0 < i → i < xs.length → (i - 1) / 2 = p → p ≠ s → lt (at' xs i) (at' xs ((p - 1) / 2)) = false
theorem set_perm {xs : List α} {p c : Nat} {v : α} (hp : p < xs.length) (hc : c < xs.length) (hne : p ≠ c) : ((xs.set p (at' xs c)).set c v).Perm (xs.set p v) := by
  have e1 : at' xs c = xs[c] := by simp [at', List.getD, hc]
  rw [e1]
  have := List.set_set_perm (as := xs.set p v) (i := p) (j := c) (by simpa using hp) (by simpa using hc)
  have e2 : (xs.set p v)[p]'(by simpa using hp) = v := by simp
  have e3 : (xs.set p v)[c]'(by simpa using hc) = xs[c] := by rw [List.getElem_set]; rw [if_neg hne]
  rw [e2, e3, List.set_set] at this
  exact this
/-- the hole sinks -/
theorem sink (w : Swo lt) : ∀ (m : Nat) (xs : List α) (s p : Nat), xs.length - p = m → Hole lt s p xs → ∃ ys q, siftupPos lt xs p = (ys, q) ∧ ys.length = xs.length ∧ Hole lt s q ys ∧ xs.length ≤ 2 * q + 1 ∧ ∀ v, (ys.set q v).Perm (xs.set p v) := by
  intro m
  induction m using Nat.strongRecOn with
  | ind m ih =>
    intro xs s p hm H
    have hp := H.inn
    rw [siftupPos_eq]
    split
    · rename_i hc
      have ep : ∀ i, xs.getD i default = at' xs i := fun i => rfl
      simp only [ep]
      generalize hcc : (if 2 * p + 2 < xs.length ∧ lt (at' xs (2 * p + 1)) (at' xs (2 * p + 2)) = false then 2 * p + 2 else 2 * p + 1) = c
      have hcl : c < xs.length ∧ (c = 2 * p + 1 ∨ c = 2 * p + 2) := by
        rw [← hcc]; split <;> (clear hm hcc; omega)
      have hcp : (c - 1) / 2 = p ∧ p < c := by (clear hm hc hcc; omega)
      -- the child that goes up is not behind its sister
      have hmin : ∀ i, i < xs.length → 0 < i → (i - 1) / 2 = p → lt (at' xs i) (at' xs c) = false := by
        intro i hi h0 hip
        have hi2 : i = 2 * p + 1 ∨ i = 2 * p + 2 := by (clear hm hc hcc hcl hcp hi; lia)
        rw [← hcc]
        split
        · rename_i h2
          rcases hi2 with rfl | rfl
          · exact h2.2
          · exact w.irr _
        · rename_i h2
          rcases hi2 with rfl | rfl
          · exact w.irr _
          · have : lt (at' xs (2 * p + 1)) (at' xs (2 * p + 2)) = true := by
              cases h3 : lt (at' xs (2 * p + 1)) (at' xs (2 * p + 2)) with
              | true => rfl
              | false => exact absurd ⟨hi, h3⟩ h2
            exact w.asym _ _ this
      have hlen : (xs.set p (at' xs c)).length = xs.length := List.length_set
      have H2 : Hole lt s c (xs.set p (at' xs c)) := by
        refine ⟨?_, by rw [hlen]; exact hcl.1, fun i h0 hi hs hic hpc => ?_, fun i h0 hi hpc hcs => ?_⟩
        · rcases hcl.2 with e | e
          · rw [e]; exact .left H.un
          · rw [e]; exact .right H.un
        · rw [hlen] at hi
          rw [at_set hi, at_set (by (clear hm hp hc hcc hcl hcp hlen hs hic hpc; omega))]
          by_cases e1 : p = i
          · subst e1
            rw [if_pos rfl, if_neg (by (clear hm hp hc hcc hcl hcp hlen hi hs hic hpc; omega))]
            have hps : p ≠ s := fun e => by (clear hm hp hc hcc hcl hcp hlen hi hic hpc; omega)
            exact H.gr c (by (clear hm hp hc hcl hlen h0 hi hs hic hpc hps; omega)) hcl.1 hcp.1 hps
          · rw [if_neg e1]
            by_cases e2 : p = (i - 1) / 2
            · rw [if_pos e2]
              exact hmin i hi h0 e2.symm
            · rw [if_neg e2]
              exact H.ok i h0 hi hs (fun e => e1 e.symm) (fun e => e2 e.symm)
        · rw [hlen] at hi
          rw [at_set hi, at_set (by (clear hm hc hcc hcl hlen h0 hi hpc hcs; omega)), if_neg (by (clear hm hp hc hcc hcl hlen hi hcs; omega)), if_pos hcp.1.symm]
          have := H.ok i h0 hi (by have := H.un.le; (clear hm hp hc hcc hcl hlen h0 hi hcs; lia)) (by (clear hm hp hc hcc hcl hlen hi hcs; omega)) (by (clear hm hp hc hcc hcl hlen h0 hi hcs; omega))
          rw [hpc] at this
          exact this
      obtain ⟨ys, q, e1, e2, e3, e4, e5⟩ := ih (xs.length - c) (by (clear hc hcc hcp hlen; omega)) (xs.set p (at' xs c)) s c (by rw [hlen]) H2
      refine ⟨ys, q, e1, by rw [e2, hlen], e3, by rw [hlen] at e4; exact e4, fun v => (e5 v).trans (set_perm hp hcl.1 (by (clear hm hp hc hcc hcl hlen e2 e4; omega)))⟩
    · rename_i hc
      exact ⟨xs, p, rfl, rfl, H, by exact Nat.not_lt.mp hc, fun v => List.Perm.refl _⟩
/-- an item rises to its place -/
theorem rise (w : Swo lt) (new : α) : ∀ (p : Nat) (xs : List α) (s : Nat), Hole lt s p xs → (∀ i, 0 < i → i < xs.length → (i - 1) / 2 = p → lt (at' xs i) new = false) →
    HeapFrom lt s (siftdown lt new s xs p) ∧ (siftdown lt new s xs p).Perm (xs.set p new) := by
  intro p
  induction p using Nat.strongRecOn with
  | ind p ih =>
    intro xs s H hn
    have hp := H.inn
    have fin : (p = s ∨ (p ≠ s ∧ lt new (at' xs ((p - 1) / 2)) = false)) → HeapFrom lt s (xs.set p new) := by
      intro hh i h0 hi hs
      rw [List.length_set] at hi
      rw [at_set hi, at_set (by omega)]
      by_cases e1 : p = i
      · subst e1
        rw [if_pos rfl, if_neg (by omega)]
        rcases hh with e | ⟨_, h⟩
        · omega
        · exact h
      · rw [if_neg e1]
        by_cases e2 : p = (i - 1) / 2
        · rw [if_pos e2]; exact hn i h0 hi e2.symm
        · rw [if_neg e2]; exact H.ok i h0 hi hs (fun e => e1 e.symm) (fun e => e2 e.symm)
    rw [siftdown_eq]
    by_cases hgt : p > s
    · rw [if_pos hgt]
      have hps : p ≠ s := by (clear fin; lia)
      obtain ⟨uq, h0p⟩ := H.un.up hps
      have hqs := uq.le
      generalize hq : (p - 1) / 2 = q at *
      show HeapFrom lt s (if lt new (at' xs q) = true then _ else _) ∧ (if lt new (at' xs q) = true then _ else _ : List α).Perm _
      cases hc : lt new (at' xs q) with
      | false =>
        simp only [Bool.false_eq_true, if_false]
        exact ⟨fin (.inr ⟨hps, hc⟩), List.Perm.refl _⟩
      | true =>
        simp only [if_true]
        have hql : q < p := by (clear hps fin hqs; omega)
        have hlen : (xs.set p (at' xs q)).length = xs.length := List.length_set
        have H2 : Hole lt s q (xs.set p (at' xs q)) := by
          refine ⟨uq, by rw [hlen]; exact Nat.lt_trans hql hp, fun i i0 hi hs hiq hpq => ?_, fun i i0 hi hpq hqs' => ?_⟩
          · rw [hlen] at hi
            rw [at_set hi, at_set (by (clear hp hgt hps h0p hq fin hqs hql hlen hs hiq hpq; omega))]
            by_cases e1 : p = i
            · (clear hps h0p fin hqs hql hlen hi hs hiq; lia)
            · rw [if_neg e1]
              by_cases e2 : p = (i - 1) / 2
              · rw [if_pos e2]
                exact H.gr i i0 hi e2.symm hps |> fun z => by rw [hq] at z; exact z
              · rw [if_neg e2]
                exact H.ok i i0 hi hs (fun e => e1 e.symm) (fun e => e2 e.symm)
          · rw [hlen] at hi
            obtain ⟨ur, h0q⟩ := uq.up hqs'
            have hr := ur.le
            have hqr : lt (at' xs q) (at' xs ((q - 1) / 2)) = false := H.ok q h0q (by exact Nat.lt_trans hql hp) hr (by (clear hp hgt hps h0p hq fin hqs hlen i0 hi hpq hqs' h0q hr; lia)) (by (clear hp hgt hps h0p hq fin hqs hlen i0 hi hpq hqs' h0q hr; omega))
            rw [at_set hi, at_set (by (clear hgt hps h0p hq fin hqs hlen i0 hi hpq hqs' hr; omega)), if_neg (show ¬ p = (q - 1) / 2 by (clear hp hgt hps h0p hq fin hqs hlen i0 hi hpq hqs' h0q hr; omega))]
            by_cases e1 : p = i
            · rw [if_pos e1]; exact hqr
            · rw [if_neg e1]
              have := H.ok i i0 hi (by exact Nat.le_trans hqs (Nat.le_of_eq hpq.symm)) (fun e => e1 e.symm) (by (clear hp hgt hps h0p hq fin hqs hlen i0 hi hqs' h0q hr e1; lia))
              rw [hpq] at this
              exact w.trans _ _ _ hqr this
        obtain ⟨i1, i2⟩ := ih q hql (xs.set p (at' xs q)) s H2 (fun i i0 hi hpq => by
          rw [hlen] at hi
          rw [at_set hi]
          by_cases e1 : p = i
          · rw [if_pos e1]; exact w.asym _ _ hc
          · rw [if_neg e1]
            have := H.ok i i0 hi (by exact Nat.le_trans hqs (Nat.le_of_eq hpq.symm)) (fun e => e1 e.symm) (by (clear hp hgt hps h0p hq fin hqs hlen i0 hi e1; lia))
            rw [hpq] at this
            exact w.trans _ _ _ (w.asym _ _ hc) this)
        refine ⟨i1, i2.trans (set_perm hp (by exact Nat.lt_trans hql hp) (by (clear hp hgt hps h0p hq fin hqs hlen; lia)))⟩
    · rw [if_neg hgt]
      have := H.un.le
      exact ⟨fin (.inl (by (clear hp fin; lia))), List.Perm.refl _⟩
theorem siftup_heap (w : Swo lt) {xs : List α} {p : Nat} (hp : p < xs.length) (h : HeapFrom lt (p + 1) xs) : HeapFrom lt p (siftup lt xs p) ∧ (siftup lt xs p).Perm xs := by
  have H : Hole lt p p xs := ⟨.refl, hp, fun i i0 hi hs hip hpp => h i i0 hi (by (clear hp i0 hi hip; lia)), fun i _ _ _ hps => absurd rfl hps⟩
  obtain ⟨ys, q, e1, e2, e3, e4, e5⟩ := sink w _ xs p p rfl H
  unfold siftup
  rw [e1]
  have hq := e3.inn
  have H2 : Hole lt p q (ys.set q (at' xs p)) := by
    refine ⟨e3.un, by simpa using hq, fun i i0 hi hs hiq hpq => ?_, fun i i0 hi hpq _ => ?_⟩
    · rw [List.length_set] at hi
      rw [at_set hi, at_set (by (clear hp e2 e4 hq hs hiq; omega)), if_neg (fun e => hiq e.symm), if_neg (fun e => hpq e.symm)]
      exact e3.ok i i0 hi hs hiq hpq
    · rw [List.length_set] at hi
      omega
  obtain ⟨r1, r2⟩ := rise w (at' xs p) q (ys.set q (at' xs p)) p H2 (fun i i0 hi hpq => by rw [List.length_set] at hi; omega)
  refine ⟨r1, r2.trans ?_⟩
  rw [List.set_set]
  refine (e5 (at' xs p)).trans ?_
  have : xs.set p (at' xs p) = xs := by
    unfold at'
    rw [List.getD_eq_getElem?_getD, List.getElem?_eq_getElem hp]
    simp
  rw [this]
theorem heapify_heap (w : Swo lt) : ∀ (k : Nat) (xs : List α), k ≤ xs.length → HeapFrom lt k xs → IsHeap lt (heapifyTo lt xs k) ∧ (heapifyTo lt xs k).Perm xs
  | 0, xs, _, h => ⟨fun i i0 hi => h i i0 hi (Nat.zero_le _), List.Perm.refl _⟩
  | k + 1, xs, hk, h => by
    obtain ⟨a, b⟩ := siftup_heap w (show k < xs.length by exact hk) h
    obtain ⟨c, d⟩ := heapify_heap w k (siftup lt xs k) (by rw [b.length_eq]; exact Nat.le_of_lt hk) a
    exact ⟨c, d.trans b⟩
theorem heapify_ok (w : Swo lt) (xs : List α) : IsHeap lt (heapifyTo lt xs (xs.length / 2)) ∧ (heapifyTo lt xs (xs.length / 2)).Perm xs :=
  heapify_heap w _ xs (by exact Nat.div_le_self _ _) fun i i0 hi hs => by omega
theorem replace_ok (w : Swo lt) {xs : List α} {v : α} (h : IsHeap lt xs) (hp : 0 < xs.length) : IsHeap lt (siftup lt (xs.set 0 v) 0) ∧ (siftup lt (xs.set 0 v) 0).Perm (v :: xs.tail) := by
  obtain ⟨a, b⟩ := siftup_heap w (xs := xs.set 0 v) (p := 0) (by simpa using hp) (fun i i0 hi hs => by
    rw [List.length_set] at hi
    rw [at_set hi, at_set (by omega), if_neg (by (clear hp hi hs; lia)), if_neg (by (clear hp i0 hi; lia))]
    exact h i i0 hi)
  refine ⟨fun i i0 hi => a i i0 hi (Nat.zero_le _), b.trans ?_⟩
  cases xs with
  | nil => simp at hp
  | cons x r => exact List.Perm.refl _
theorem root_ok (w : Swo lt) {xs : List α} (h : IsHeap lt xs) : ∀ i, i < xs.length → lt (at' xs i) (at' xs 0) = false := by
  intro i
  induction i using Nat.strongRecOn with
  | ind i ih =>
    intro hi
    by_cases h0 : i = 0
    · rw [h0]; exact w.irr _
    · exact w.trans _ _ _ (ih ((i - 1) / 2) (by omega) (by omega)) (h i (by exact Nat.pos_of_ne_zero h0) hi)
end
end Mine
end
section
open PySem
set_option linter.unusedVariables false
namespace Mine
/-! the numerals -/
/-- the figures of a numeral, from the least place up -/
noncomputable def figN (N b j : Nat) : List Nat :=
  if N < tN j b then [N] else (tN j b + (N - tN j b) % (36 - tN j b)) :: figN ((N - tN j b) / (36 - tN j b)) b (j + 1)
termination_by N
decreasing_by
  have := tN_range j b
  have h2 : (N - tN j b) / (36 - tN j b) ≤ N - tN j b := Nat.div_le_self _ _
  omega
theorem figN_eq (N b j : Nat) : figN N b j = if N < tN j b then [N] else (tN j b + (N - tN j b) % (36 - tN j b)) :: figN ((N - tN j b) / (36 - tN j b)) b (j + 1) := by rw [figN]
theorem ggiN_fig (N : Nat) : ∀ b j, ggiN N b j = (figN N b j).map dig := by
  induction N using Nat.strongRecOn with
  | ind N ih =>
    intro b j
    rw [ggiN_eq, figN_eq]
    have ht := tN_range j b
    split
    · rfl
    · rename_i hlt
      have h2 : (N - tN j b) / (36 - tN j b) ≤ N - tN j b := Nat.div_le_self _ _
      rw [List.map_cons, ih _ (by omega)]
/-- the worth of a place -/
noncomputable def wf (b : Nat) : Nat → Nat
  | 0 => 1
  | j + 1 => wf b j * (36 - tN j b)
/-- what is left behind j figures -/
noncomputable def nf (N b : Nat) : Nat → Nat
  | 0 => N
  | j + 1 => (nf N b j - tN j b) / (36 - tN j b)
noncomputable def rf (N b : Nat) : Nat → Nat
  | 0 => 0
  | j + 1 => ((nf N b j - tN j b) % (36 - tN j b)) * wf b j + rf N b j
noncomputable def lf (b : Nat) : Nat → Nat
  | 0 => 0
  | j + 1 => lf b j + tN j b * wf b j
theorem wf_pos (b j : Nat) : 0 < wf b j := by
  induction j with
  | zero => exact Nat.one_pos
  | succ j ih => have := tN_range j b; exact Nat.mul_pos ih (by omega)
theorem rf_lt (N b j : Nat) : rf N b j < wf b j := by
  induction j with
  | zero => exact Nat.one_pos
  | succ j ih =>
    have ht := tN_range j b
    have hm : (nf N b j - tN j b) % (36 - tN j b) < 36 - tN j b := Nat.mod_lt _ (by omega)
    show ((nf N b j - tN j b) % (36 - tN j b)) * wf b j + rf N b j < wf b j * (36 - tN j b)
    have : ((nf N b j - tN j b) % (36 - tN j b) + 1) * wf b j ≤ (36 - tN j b) * wf b j := Nat.mul_le_mul_right _ hm
    rw [Nat.add_mul, Nat.one_mul] at this
    rw [Nat.mul_comm (wf b j)]
    omega
/-- the first j places are full -/
def Full (N b j : Nat) : Prop := ∀ i, i < j → tN i b ≤ nf N b i
theorem num_split {N b : Nat} : ∀ j, Full N b j → N = lf b j + nf N b j * wf b j + rf N b j
  | 0, _ => by simp [lf, nf, wf, rf]
  | j + 1, h => by
    have ih := num_split j fun i hi => h i (by exact Nat.lt_succ_of_lt hi)
    have ht := h j (by exact Nat.le_refl _)
    have hd := Nat.div_add_mod (nf N b j - tN j b) (36 - tN j b)
    generalize hq : (nf N b j - tN j b) / (36 - tN j b) = q at hd
    generalize hr : (nf N b j - tN j b) % (36 - tN j b) = r at hd
    have e : nf N b j = tN j b + (36 - tN j b) * q + r := by omega
    show N = lf b j + tN j b * wf b j + (nf N b j - tN j b) / (36 - tN j b) * (wf b j * (36 - tN j b)) + (((nf N b j - tN j b) % (36 - tN j b)) * wf b j + rf N b j)
    rw [hq, hr]
    rw [e, Nat.add_mul, Nat.add_mul] at ih
    have : q * (wf b j * (36 - tN j b)) = (36 - tN j b) * q * wf b j := by rw [Nat.mul_comm (wf b j), ← Nat.mul_assoc, Nat.mul_comm q]
    rw [this]
    (clear hq hr hd e this; lia)
theorem lf_le {N b j : Nat} (h : Full N b j) : lf b j ≤ N := by have := num_split j h; omega
theorem stop_iff {N b j : Nat} (h : Full N b j) : N < lf b j + tN j b * wf b j ↔ nf N b j < tN j b := by
  have e := num_split j h
  have r := rf_lt N b j
  constructor
  · intro hl
    apply Nat.lt_of_mul_lt_mul_right (a := wf b j)
    omega
  · intro hl
    have : (nf N b j + 1) * wf b j ≤ tN j b * wf b j := Nat.mul_le_mul_right _ hl
    rw [Nat.add_mul, Nat.one_mul] at this
    omega
theorem wf_le {N b j : Nat} (h : Full N b j) : wf b j ≤ 35 * N + 1 := by
  cases j with
  | zero => show 1 ≤ _; exact Nat.succ_pos _
  | succ j =>
    have ht := tN_range j b
    have hl := lf_le h
    have h1 : wf b j ≤ N := by
      have : 1 * wf b j ≤ tN j b * wf b j := Nat.mul_le_mul_right _ ht.1
      have e : lf b (j + 1) = lf b j + tN j b * wf b j := rfl
      lia
    show wf b j * (36 - tN j b) ≤ _
    have : wf b j * (36 - tN j b) ≤ wf b j * 35 := Nat.mul_le_mul_left _ (by omega)
    lia
theorem lf_lt (b j : Nat) : j ≤ lf b j := by
  induction j with
  | zero => exact Nat.zero_le _
  | succ j ih =>
    have ht := tN_range j b
    have : 1 * 1 ≤ tN j b * wf b j := Nat.mul_le_mul ht.1 (wf_pos b j)
    show j + 1 ≤ lf b j + tN j b * wf b j
    lia
/-- the figure at a place, j the greatest -/
noncomputable def figAt (N b j i : Nat) : Nat := if i = j then nf N b j else tN i b + (nf N b i - tN i b) % (36 - tN i b)
noncomputable def edgeAt (b j i : Nat) : Nat := if i = j then 0 else tN i b
noncomputable def restAt (N b j k : Nat) : Nat := if k = j + 1 then nf N b j * wf b j + rf N b j else rf N b k
theorem rest_div {N b j i : Nat} (hi : i ≤ j) : edgeAt b j i + restAt N b j (i + 1) / wf b i = figAt N b j i := by
  have hp := wf_pos b i
  have hr := rf_lt N b i
  unfold edgeAt restAt figAt
  by_cases e : i = j
  · subst e
    simp only [if_true]
    rw [Nat.mul_comm, Nat.mul_add_div hp, Nat.div_eq_of_lt hr]; (clear hi; lia)
  · have : ¬ (i + 1 = j + 1) := by (clear hi; lia)
    simp only [if_neg e, if_neg this]
    show tN i b + (((nf N b i - tN i b) % (36 - tN i b)) * wf b i + rf N b i) / wf b i = _
    rw [Nat.mul_comm, Nat.mul_add_div hp, Nat.div_eq_of_lt hr]; exact rfl
theorem rest_mod {N b j i : Nat} (hi : i ≤ j) : restAt N b j (i + 1) % wf b i = restAt N b j i := by
  have hr := rf_lt N b i
  have h2 : ¬ (i = j + 1) := by lia
  unfold restAt
  rw [if_neg h2]
  by_cases e : i = j
  · subst e
    simp only [if_true]
    rw [Nat.mul_comm, Nat.mul_add_mod]; exact Nat.mod_eq_of_lt hr
  · rw [if_neg (by (clear hi hr h2; lia))]
    show (((nf N b i - tN i b) % (36 - tN i b)) * wf b i + rf N b i) % wf b i = _
    rw [Nat.mul_comm, Nat.mul_add_mod]; exact Nat.mod_eq_of_lt hr
theorem figN_full {N b : Nat} : ∀ j, Full N b j → figN N b 0 = ((List.range j).map fun i => tN i b + (nf N b i - tN i b) % (36 - tN i b)) ++ figN (nf N b j) b j
  | 0, _ => by simp [nf]
  | j + 1, h => by
    rw [figN_full j fun i hi => h i (by exact Nat.lt_succ_of_lt hi), List.range_succ, List.map_append, List.append_assoc, figN_eq (nf N b j), if_neg (by have := h j (by exact Nat.le_refl _); lia)]
    rfl
theorem figN_done {N b j : Nat} (h : Full N b j) (hs : nf N b j < tN j b) : figN N b 0 = (List.range (j + 1)).map (figAt N b j) := by
  rw [figN_full j h, figN_eq, if_pos hs, List.range_succ, List.map_append]
  congr 1
  · refine List.map_congr_left fun i hi => ?_
    have : i < j := List.mem_range.mp hi
    unfold figAt; rw [if_neg (by (clear hs; lia))]
  · simp [figAt]
theorem edge_eq (j b : Nat) : min 26 (max 1 (36 * ((j + 1 : Nat) : Int) - (b : Int))) = ((tN j b : Nat) : Int) := by
  unfold tN
  split
  · lia
  · split <;> omega
theorem NatsAre.last : ∀ {vs : List Value} {ds : List Nat} {d : Nat}, NatsAre vs (ds ++ [d]) → ∃ tk, vs.getLast? = some (.int (d : Nat) tk)
  | [], [], _, h => by cases h
  | [], _ :: _, _, h => by cases h
  | v :: vs, [], d, h => by
    obtain ⟨⟨tk, rfl⟩, h2⟩ := h
    cases vs with
    | nil => exact ⟨tk, rfl⟩
    | cons => exact h2.elim
  | v :: vs, e :: ds, d, h => by
    obtain ⟨tk, ht⟩ := NatsAre.last (ds := ds) h.2
    refine ⟨tk, ?_⟩
    cases vs with
    | nil => cases ht
    | cons x r => exact ht
end Mine
end
section
open PySem PySem.W PyProof.Rows
set_option Elab.async false
set_option maxRecDepth 100000
set_option linter.unusedVariables false
namespace Mine
noncomputable abbrev slo3 (vl vu vk : Value) : Obj := { cls := .type "slice", data := .fields #[vl, vu, vk] }
section
variable {prog : Program} {w : World} {M : Model} {A : Around} {E : Value → Shared → Prop} {s : Shared} {t : Nat} {K₀ K : KMap} {env : Env} {gs : List Str} {lk : List Var} {ws ws' : List (Addr × Obj)} {h : Heap}
theorem c_bool {b : Bool} {k : Nat} {pos : Pos} {Q : Value → Shared → Prop} (q : Q (.bool b) s) : wpAny M A (eval (.Constant (.bool b) k pos) env) Q E s := by
  cases b <;> exact wpAny_pure q
abbrev kSl3 (s : Shared) (env : Env) (Q : Value → Shared → Prop) (vk : Value) (s₂ : Shared) : Prop := kMk s env Q (slo3 .none .none vk) s₂
theorem mk_slice3 {st : Expr} {p : Pos} {Q : Value → Shared → Prop}
    (k : wpAny M A (eval st env) (kSl3 s env Q) E (up s h t)) :
    wpAny M A (eval (.Slice none none (some st) p) env) Q E (up s h t) := by
  refine wpAny_Slice (wpAny_evalPart_none (wpAny_evalPart_none (wpAny_evalPart_some (wpAny_mono k (fun vk s₂ y => ?_) fun _ _ e => e))))
  refine y _ ?_
  rintro h t K₀ K gs lk ws rfl F q
  exact q _ _ (F.push (slo3 .none .none vk))
theorem gi_rev {l sl : Addr} {vs : List Value} {n : Nat} {tk : Tok} {value : Expr} {st : Expr} {p : Pos} {Q : Value → Shared → Prop} (hl : h.get? l = some (lst vs n)) (F : Fm K₀ K env gs lk ((sl, slo3 .none .none (.int (-1) tk)) :: ws) h) (hfit : vs.length < 1000000)
    (q : ∀ a h', Fm K₀ K env gs lk ((a, lst vs.reverse 0) :: ws) h' → Q (.ref a) (up s h' t)) : wpAny (model prog w) A (subscriptTail value (.Slice none none (some st) p) (.ref l) (.ref sl)) Q E (up s h t) := by
  have hl' : h.IsList l vs.toArray := ⟨_, hl, rfl, _, rfl⟩
  refine tail_any (T := "list") (s := up s h t) (Heap.IsList.typeIs (s := up s h t) hl') slot_list_getitem.lookup (ops := [.ref l, .ref sl]) (wpAny_getItem_list_slice (s := up s h t) hl' ⟨_, F.isIn (.head _), rfl, rfl⟩ .none .none (.int _ _) (by simp) ?_ (by simp; unfold sizeLine; exact Nat.le_of_lt (Nat.lt_of_lt_of_le hfit (by decide)))) rfl
  rw [krv_pick]
  exact q _ _ ((F.drop (List.sublist_cons_self _ _)).push (lst vs.reverse 0))
end
theorem NatsAre.rev {vs : List Value} {ds : List Nat} (h : NatsAre vs ds) : NatsAre vs.reverse ds.reverse := by
  induction vs generalizing ds with
  | nil => cases ds with
    | nil => trivial
    | cons => exact h.elim
  | cons v vs ih =>
    cases ds with
    | nil => exact h.elim
    | cons d ds =>
      obtain ⟨⟨tk, rfl⟩, h2⟩ := h
      rw [List.reverse_cons, List.reverse_cons]
      exact (ih h2).snoc
end Mine
end
section
open PySem PySem.W PyProof.Rows
set_option Elab.async false
set_option maxRecDepth 100000
set_option linter.unusedVariables false
namespace Mine
section
variable {prog : Program} {w : World} {M : Model} {A : Around} {E : Value → Shared → Prop} {s : Shared} {t : Nat} {env : Env} {h : Heap}
theorem C_evalArgs {f : Value} {x : Sem Value} {rest : List (Bool × Sem Value)} {Q : Args → Shared → Prop} (k : wpC M A (spliced ((false, x) :: rest)) (fun vs s' => Q ⟨vs, []⟩ s') E s) : wpC M A (evalArgs f true ((false, x) :: rest) []) Q E s := by
  unfold evalArgs
  show wpC M A (spliced ((false, x) :: rest) >>= _) Q E s
  refine wpC_bind (wpC_mono k (fun vs s' h' => ?_) fun _ _ x => x)
  refine wpC_holding ?_
  exact wpC_bind (wpC_pure (wpC_bind (wpC_pure (wpC_pure h'))))
theorem C_spliced1 {x : Sem Value} {Q : List Value → Shared → Prop} (k : wpC M A x (fun v s₁ => Q [v] s₁) E s) : wpC M A (spliced [(false, x)]) Q E s := by
  rw [spliced]
  refine wpC_bind (wpC_mono k (fun v s₁ h₁ => ?_) fun _ _ x => x)
  simp only [Bool.false_eq_true, if_false]
  exact wpC_bind (wpC_pure (wpC_bind (wpC_holding (wpC_of (Calls.spliced_nil (wpC_pure h₁))))))
theorem C_callWithB {pos : Pos} {id : String} {first : List Value} {args : List (Bool × Sem Value)} {kws : List (Option Str × Sem Value)} {Q : Value → Shared → Prop} (hst : (args.any (·.1) || kws.any (·.1.isNone)) = false)
    (k : wpC M A (evalArgs (.builtin id) true args kws) (fun x s₁ => wpC M A (call (.builtin id) (first ++ x.pos) x.kw) Q E s₁) E s) : wpC M A (callWith pos (.builtin id) first args kws) Q E s := by
  unfold callWith
  refine wpC_bind (wpC_holding (wpC_mono k (fun x s₁ h₁ => wpC_bind (wpC_standAt ?_)) fun _ _ x => x))
  rw [hst]
  refine wpC_bind (m := keeperOf (.builtin id)) (wpC_of (wpAny_pure ?_))
  exact wpC_bind (wpC_mono h₁ (fun r s₂ hr => wpC_bind (wpC_holding (wpC_of (wpAny_point (wpC_pure hr))))) fun _ _ x => x)
theorem C_callWithT {pos : Pos} {T : String} {args : List (Bool × Sem Value)} {Q : Value → Shared → Prop} (hst : (args.any (·.1)) = false)
    (k : wpC M A (evalArgs (.type T) true args []) (fun x s₁ => wpC M A (call (.type T) x.pos x.kw) Q E s₁) E s) : wpC M A (callWith pos (.type T) [] args []) Q E s := by
  unfold callWith
  refine wpC_bind (wpC_holding (wpC_mono k (fun x s₁ h₁ => wpC_bind (wpC_standAt ?_)) fun _ _ x => x))
  simp only [hst, List.any_nil, Bool.or_false]
  refine wpC_bind (m := keeperOf (.type T)) (wpC_of (wpAny_pure ?_))
  exact wpC_bind (wpC_mono h₁ (fun r s₂ hr => wpC_bind (wpC_holding (wpC_of (wpAny_point (wpC_pure hr))))) fun _ _ x => x)
abbrev cArg1 (g : Value) (M : Model) (A : Around) (Q : Value → Shared → Prop) (E : Value → Shared → Prop) : Value → Shared → Prop := fun v s₂ => wpC M A (call g [v]) Q E s₂
abbrev cArg (g : Value) (M : Model) (A : Around) (env : Env) (e : Expr) (Q : Value → Shared → Prop) (E : Value → Shared → Prop) : Value → Shared → Prop := fun f s₁ => f = g ∧ wpC M A (eval e env) (cArg1 g M A Q E) E s₁
/-- a call of a built-in whose one argument is in the clean logic -/
theorem C_builtin1 {x : Str} {np pos : Pos} {e : Expr} {id : String} {Q : Value → Shared → Prop} (k : wpAny M A (eval (.Name x np) env) (cArg (.builtin id) M A env e Q E) E s)
    (he : backTo pos (starEach [e] env) = [(false, eval e env)] := by rfl) : wpC M A (eval (.Call (.Name x np) [e] [] pos) env) Q E s := by
  refine C_Call_Name (wpAny_mono k (fun f s₁ h₁ => ?_) fun _ _ x => x)
  obtain ⟨rfl, h₁⟩ := h₁
  unfold cCall
  rw [he]
  exact C_callWithB rfl (C_evalArgs (C_spliced1 h₁))
theorem C_type1 {x : Str} {np pos : Pos} {e : Expr} {T : String} {Q : Value → Shared → Prop} (k : wpAny M A (eval (.Name x np) env) (cArg (.type T) M A env e Q E) E s)
    (he : backTo pos (starEach [e] env) = [(false, eval e env)] := by rfl) : wpC M A (eval (.Call (.Name x np) [e] [] pos) env) Q E s := by
  refine C_Call_Name (wpAny_mono k (fun f s₁ h₁ => ?_) fun _ _ x => x)
  obtain ⟨rfl, h₁⟩ := h₁
  unfold cCall
  rw [he]
  exact C_callWithT rfl (C_evalArgs (C_spliced1 h₁))
/-- an own list's append, its argument in the clean logic -/
theorem C_listAppend {o e : Expr} {apos pos : Pos} {Q : Value → Shared → Prop}
    (k : wpAny (model prog w) A (eval o env) (fun ov s₁ => ∃ l vs n, ov = .ref l ∧ s₁.heap.get? l = some (lst vs n) ∧ wpC (model prog w) A (eval e env) (fun v s₂ => wpC (model prog w) A (call (.builtin "list.append") [.ref l, v]) Q E s₂) E s₁) E s)
    (hbase : attributeBase o (Str.ofString "append") env (eval o env) = eval o env := by rfl) (hline : (apos.endLine == pos.line) = true := by rfl) (htrees : backTo pos (starEach [e] env) = [(false, eval e env)] := by rfl) :
    wpC (model prog w) A (eval (.Call (.Attribute o (Str.ofString "append") apos) [e] [] pos) env) Q E s := by
  rw [arm_eval_Call, hbase]
  refine wpC_bind (wpC_of (wpAny_mono k (fun ov s₁ h₁ => ?_) fun _ _ e => e))
  obtain ⟨l, vs, n, rfl, hl, hc⟩ := h₁
  refine wpC_bind (wpC_standAt ?_)
  have hform : methodCallForm ([e].length + ([] : List Keyword).length) (backTo pos (starEach [e] env)) (backToKw pos (keywordEach [] env)) = true := by rw [htrees]; rfl
  have hpos : methodCallPos true o env apos pos = pure pos := by unfold methodCallPos; simp [hline]
  unfold methodCall
  rw [hform]
  refine wpC_bind (wpC_holding (wpC_of (getMethod_builtin (T := "list") ⟨_, hl, rfl⟩ PySem.F.plainAttrs_list PySem.F.slot_list_append PySem.F.type_list_append (fun a e => by cases e; exact ⟨_, hl, rfl⟩) ?_)))
  refine wpC_bind (wpC_of_eq hpos ?_)
  rw [htrees]
  exact C_callWithB rfl (C_evalArgs (C_spliced1 hc))
theorem tru_i {n : Int} {tk : Tok} {Q : Bool → Shared → Prop} (q : Q (n != 0) s) : wpAny (model prog w) A (truthy (.int n tk)) Q E s := PyProof.Rows.truthy_int q
end
/-! the words -/
noncomputable def rk (f : Nat) : Nat := if f < 26 then f + 10 else f - 26
noncomputable def wordsGo (base : Nat) : List Nat → Nat → Nat → List (List Nat)
  | [], _, _ => []
  | d :: r, p, b => (figN d b 0).map rk :: wordsGo base r (p + 1) (adaptN d (p == 0) (base + p + 1))
noncomputable def wordsN (base : Nat) (ds : List Nat) : List (List Nat) := wordsGo base ds 0 72
end Mine
end
section
set_option linter.unusedVariables false
namespace Mine
noncomputable def shN (d : Nat) (first : Bool) (n : Nat) : Nat := (if first then d / 700 else d / 2) + (if first then d / 700 else d / 2) / n
theorem adaptN_sh (d : Nat) (first : Bool) (n : Nat) : adaptN d first n = adaptLoop (shN d first n) 0 := rfl
theorem shN_le (d : Nat) (first : Bool) (n : Nat) (hd : d < 100000) (hn : 0 < n) : shN d first n ≤ 100000 := by
  have h1 : (if first then d / 700 else d / 2) ≤ 50000 := by split <;> (clear hn; lia)
  have h2 : (if first then d / 700 else d / 2) / n ≤ (if first then d / 700 else d / 2) := Nat.div_le_self _ _
  unfold shN; (clear hd hn; lia)
theorem adaptLoop_up {sh p : Nat} (h : 455 < sh / 35 ^ p) : adaptLoop (sh / 35 ^ p) (36 * p) = adaptLoop (sh / 35 ^ (p + 1)) (36 * (p + 1)) := by
  rw [adaptLoop_eq, if_pos h, Nat.div_div_eq_div_mul, ← Nat.pow_succ]; rfl
theorem adaptLoop_end {x k : Nat} (h : ¬ 455 < x) : (((k : Nat) : Int) + 36 + (-1368) / (((x : Nat) : Int) + 38)) = ((adaptLoop x k : Nat) : Int) := by
  rw [adaptLoop_eq, if_neg h]
  have e : (36 * (x : Int)) / ((x : Int) + 38) = 36 + (-1368) / ((x : Int) + 38) := by
    rw [show (36 * (x : Int)) = -1368 + 36 * ((x : Int) + 38) by (clear h; lia), Int.add_mul_ediv_right _ _ (by (clear h; lia))]; exact rfl
  have e2 : (((36 * x / (x + 38) : Nat)) : Int) = (36 * (x : Int)) / ((x : Int) + 38) := by simp
  rw [Int.natCast_add, e2, e]; (clear h e e2; lia)
theorem adaptLoop_le (d k : Nat) : adaptLoop d k ≤ k + d + 36 := by
  induction d using Nat.strongRecOn generalizing k with
  | ind d ih =>
    rw [adaptLoop_eq]
    split
    · rename_i h
      have := ih (d / 35) (by lia) (k + 36)
      lia
    · have : 36 * d / (d + 38) ≤ 36 := by
        apply Nat.div_le_of_le_mul; rw [Nat.mul_comm]; lia
      lia
end Mine
end
section
open PySem PySem.W PyProof.Rows PySem.SeqAt PySem.MeetsSeq PySem.MeetsSeq3
set_option Elab.async false
set_option maxRecDepth 100000
set_option linter.unusedVariables false
namespace Mine
/-- one value ahead of another, nothing changed -/
def LtAt (A : Around) (s : Shared) (x y : Value) (b : Bool) : Prop := ∀ (prog : Program) (w : World) (E : Value → Shared → Prop) (Q : Value → Shared → Prop), Q (.bool b) s → wpAny (model prog w) A (richCompare .Lt x y) Q E s
/-- by the first pair that differs -/
noncomputable def ltGo (e lt : Nat → Bool) (m n : Nat) : Nat → Nat → Bool
  | 0, _ => decide (m < n)
  | k + 1, i => if e i then ltGo e lt m n k (i + 1) else lt i
theorem lt_loopAt (l b : Addr) (items items2 : Array Value) (n n2 : Nat) (dd dd2 : Option Addr) (sl sl2 : Array (Option Value)) (e lt : Nat → Bool) (k : Nat) :
    ∀ i : Nat, min items.size items2.size - i = k → i ≤ min items.size items2.size → Meets (Builtin.«list.__eq__.loop» ⟨[.ref l, .ref b, rawInt i, rawInt 0], []⟩)
      (fun A R s => s.heap.get? l = some { cls := .type "list", dict := dd, data := .seq items n, slots := sl } ∧ s.heap.get? b = some { cls := .type "list", dict := dd2, data := .seq items2 n2, slots := sl2 } ∧
        (∀ j (h1 : j < items.size) (h2 : j < items2.size), EqAt A.in1 s items[j] items2[j] (e j)) ∧ (∀ j (h1 : j < items.size) (h2 : j < items2.size), e j = false → LtAt A.in1 s items[j] items2[j] (lt j)) ∧
        R (.ok (.ret (.bool (ltGo e lt items.size items2.size k i)))) s) := by
  induction k with
  | zero =>
    intro i hk hik prog w A R s h
    obtain ⟨hp, g, d, tk, os⟩ := s; obtain ⟨hl, hb, he, hlt, h⟩ := h
    wp_walk using wpAny_loadPart' hl, wpAny_loadPart' hb
    have hor : items[((i : Nat) : Int).toNat]? = none ∨ items2[((i : Nat) : Int).toNat]? = none := by
      rcases Nat.le_total items.size items2.size with h1 | h1
      · left; simp; omega
      · right; simp; omega
    rcases hor with h1 | h1
    · rw [h1]
      wp_walk using wpAny_loadPart' hl, wpAny_loadPart' hb
      show R (.ok (.ret (.bool (decide (items.size < items2.size))))) _
      exact h
    · rw [h1]
      cases items[((i : Nat) : Int).toNat]? with
      | none =>
        wp_walk using wpAny_loadPart' hl, wpAny_loadPart' hb
        show R (.ok (.ret (.bool (decide (items.size < items2.size))))) _
        exact h
      | some x =>
        wp_walk using wpAny_loadPart' hl, wpAny_loadPart' hb
        show R (.ok (.ret (.bool (decide (items.size < items2.size))))) _
        exact h
  | succ k ih =>
    intro i hk hik prog w A R s h
    obtain ⟨hp, g, d, tk, os⟩ := s; obtain ⟨hl, hb, he, hlt, h⟩ := h
    wp_walk using wpAny_loadPart' hl, wpAny_loadPart' hb
    have hlt1 : i < items.size := by omega
    have hlt2 : i < items2.size := by (clear hik hlt1; omega)
    have hi1 : items[((i : Nat) : Int).toNat]? = some items[i] := by simp [hlt1]
    have hi2 : items2[((i : Nat) : Int).toNat]? = some items2[i] := by simp [hlt2]
    have hc : ((i : Int) + 1) = ((i + 1 : Nat) : Int) := by push_cast; rfl
    rw [hi1, hi2]
    refine wpAny_bind (he i hlt1 hlt2 prog w _ _ ?_)
    cases hb' : e i with
    | true =>
      simp only [ltGo, hb', if_true] at h
      wp_walk
      rw [hc]
      exact ⟨plainId_quiet plain_eq_loop _, codeAny_builtin entry_eq_loop (by
        rw [Around.under_plainId plain_eq_loop _]
        exact ih (i + 1) (by omega) (by (clear hk hik hc; lia)) prog w A R _ ⟨hl, hb, he, hlt, h⟩)⟩
    | false =>
      simp only [ltGo, hb', Bool.false_eq_true, if_false] at h
      wp_walk using wpAny_loadPart' hl, wpAny_loadPart' hb
      rw [hi1, hi2]
      refine wpAny_bind (hlt i hlt1 hlt2 hb' prog w _ _ ?_)
      wp_walk
      exact h
theorem list_ltAt (l b : Addr) (items items2 : Array Value) (n n2 : Nat) (dd dd2 : Option Addr) (sl sl2 : Array (Option Value)) (e lt : Nat → Bool) :
    Meets (Builtin.«list.__lt__» ⟨[.ref l, .ref b], []⟩)
      (fun A R s => s.heap.get? l = some { cls := .type "list", dict := dd, data := .seq items n, slots := sl } ∧ s.heap.get? b = some { cls := .type "list", dict := dd2, data := .seq items2 n2, slots := sl2 } ∧
        (∀ j (h1 : j < items.size) (h2 : j < items2.size), EqAt A.in1 s items[j] items2[j] (e j)) ∧ (∀ j (h1 : j < items.size) (h2 : j < items2.size), e j = false → LtAt A.in1 s items[j] items2[j] (lt j)) ∧
        R (.ok (.ret (.bool (ltGo e lt items.size items2.size (min items.size items2.size) 0)))) s) := by
  intro prog w A R s h
  obtain ⟨hp, g, d, tk, os⟩ := s; obtain ⟨hl, hb, he, hlt, h⟩ := h
  have f3 := AutoSeq1.sub_list_list
  wp_walk using wpAny_loadPart' hl, wpAny_loadPart' hb
  exact ⟨plainId_quiet plain_eq_loop _, codeAny_builtin entry_eq_loop (by
    rw [Around.under_plainId plain_eq_loop _]
    exact lt_loopAt l b items items2 n n2 dd dd2 sl sl2 e lt _ 0 rfl (Nat.zero_le _) prog w A R _ ⟨hl, hb, he, hlt, h⟩)⟩
/-- lists of numbers, by the first pair that differs -/
noncomputable def ltL : List Nat → List Nat → Bool
  | [], [] => false
  | [], _ :: _ => true
  | _ :: _, [] => false
  | a :: r, b :: q => if a = b then ltL r q else decide (a < b)
end Mine
namespace Mine
section
variable {prog : Program} {w : World} {A : Around} {E : Value → Shared → Prop} {s : Shared} {t : Nat} {h : Heap}
theorem ltGo_L : ∀ (xs ys : List Nat) (k i : Nat), k = min xs.length ys.length - i → i ≤ min xs.length ys.length → ltGo (fun j => xs.getD j 0 == ys.getD j 0) (fun j => decide (xs.getD j 0 < ys.getD j 0)) xs.length ys.length k i = ltL (xs.drop i) (ys.drop i) := by
  intro xs ys k
  induction k with
  | zero =>
    intro i hk hi
    rcases Nat.lt_or_ge i xs.length with h1 | h1
    · have h2 : ys.length = i := by lia
      rw [List.drop_eq_getElem_cons h1, List.drop_eq_nil_of_le (as := ys) (by exact Nat.le_of_eq h2)]
      show decide (xs.length < ys.length) = false
      simp; (clear hk hi; lia)
    · rw [List.drop_eq_nil_of_le h1]
      rcases Nat.lt_or_ge i ys.length with h2 | h2
      · rw [List.drop_eq_getElem_cons h2]
        show decide (xs.length < ys.length) = true
        simp; exact Nat.lt_of_le_of_lt h1 h2
      · rw [List.drop_eq_nil_of_le h2]
        show decide (xs.length < ys.length) = false
        simp; omega
  | succ k ih =>
    intro i hk hi
    have h1 : i < xs.length := by omega
    have h2 : i < ys.length := by omega
    rw [List.drop_eq_getElem_cons h1, List.drop_eq_getElem_cons h2]
    simp only [ltGo, ltL]
    have e1 : xs.getD i 0 = xs[i] := by simp [List.getD, List.getElem?_eq_getElem h1]
    have e2 : ys.getD i 0 = ys[i] := by simp [List.getD, List.getElem?_eq_getElem h2]
    rw [e1, e2, ih (i + 1) (by omega) (by (clear hk hi e1 e2; lia))]
    by_cases hh : xs[i] = ys[i] <;> simp [hh]
theorem NatsAre.at {vs : List Value} {ds : List Nat} (hv : NatsAre vs ds) (j : Nat) (hj : j < vs.toArray.size) : ∃ tk, vs.toArray[j] = .int ((ds.getD j 0 : Nat) : Int) tk := by
  have hl := hv.length
  have hj' : j < ds.length := by simp at hj; omega
  obtain ⟨tk, e⟩ := hv.get (List.getElem?_eq_getElem hj')
  refine ⟨tk, ?_⟩
  have e2 : ds.getD j 0 = ds[j] := by simp [List.getD, List.getElem?_eq_getElem hj']
  rw [e2]
  have := List.getElem?_eq_some_iff.mp e
  obtain ⟨_, e3⟩ := this
  simpa using e3
/-- two lists of numbers -/
theorem lt_nats {l b : Addr} {xs ys : List Nat} {vs us : List Value} {n m : Nat} {Q : Value → Shared → Prop} (hu : A.units < cLine) (hl : h.get? l = some (lst vs n)) (hb : h.get? b = some (lst us m)) (hx : NatsAre vs xs) (hy : NatsAre us ys)
    (q : Q (.bool (ltL xs ys)) (up s h t)) : wpAny (model prog w) A (compareOp .Lt (.ref l) (.ref b)) Q E (up s h t) := by
  have h1 := hx.length
  have h2 := hy.length
  refine richCompare_meets_room (s := up s h t) (op := .Lt) ⟨_, hl, rfl⟩ ⟨_, hb, rfl⟩ PySem.F.slot_list_lt PySem.F.entry_list_lt (PySem.F.args_list_lt_2 _ _) (list_ltAt l b vs.toArray us.toArray n m none none #[] #[] (fun j => xs.getD j 0 == ys.getD j 0) (fun j => decide (xs.getD j 0 < ys.getD j 0))) ?_ hu
  refine ⟨hl, hb, fun j j1 j2 => ?_, fun j j1 j2 _ => ?_, ?_⟩
  · obtain ⟨t1, e1⟩ := hx.at j j1
    obtain ⟨t2, e2⟩ := hy.at j j2
    rw [e1, e2]
    have := EqAt.int_int (A := A.in1) (s := up s h t) ((xs.getD j 0 : Nat) : Int) t1 ((ys.getD j 0 : Nat) : Int) t2
    rw [show (((xs.getD j 0 : Nat) : Int) == ((ys.getD j 0 : Nat) : Int)) = (xs.getD j 0 == ys.getD j 0) by rw [Bool.eq_iff_iff]; simp; (clear hu h1 h2; lia)] at this
    exact this
  · obtain ⟨t1, e1⟩ := hx.at j j1
    obtain ⟨t2, e2⟩ := hy.at j j2
    rw [e1, e2]
    intro prog w E Q q
    refine PyProof.Rows.lt_int ?_
    rw [show decide (((xs.getD j 0 : Nat) : Int) < ((ys.getD j 0 : Nat) : Int)) = decide (xs.getD j 0 < ys.getD j 0) by simp]
    exact q
  · have e0 := ltGo_L xs ys (min xs.length ys.length) 0 rfl (Nat.zero_le _)
    rw [List.drop_zero, List.drop_zero] at e0
    have e3 : vs.toArray.size = xs.length := by simpa using h1
    have e4 : us.toArray.size = ys.length := by simpa using h2
    rw [e3, e4, e0]
    exact ⟨(fun x => nomatch x), q⟩
end
end Mine
end
section
open PySem PySem.W PyProof.Rows
set_option linter.unusedVariables false
namespace Mine
inductive WordsAt (K : KMap) : List Value → List (List (List Nat)) → Prop
  | nil : WordsAt K [] []
  | cons {a : Addr} {ws : List Value} {n : Nat} {r : List (List Nat)} {vs : List Value} {rs : List (List (List Nat))} : K a = some (lst ws n) → RowsAt K ws r → WordsAt K vs rs → WordsAt K (.ref a :: vs) (r :: rs)
theorem WordsAt.length {K : KMap} {vs : List Value} {rs : List (List (List Nat))} (x : WordsAt K vs rs) : vs.length = rs.length := by
  induction x with
  | nil => rfl
  | cons _ _ _ ih => simp [ih]
theorem WordsAt.mono {K K' : KMap} (hk : KLe K K') {vs : List Value} {rs : List (List (List Nat))} (x : WordsAt K vs rs) : WordsAt K' vs rs := by
  induction x with
  | nil => exact .nil
  | cons a b _ ih => exact .cons (hk _ _ a) (b.mono hk) ih
theorem WordsAt.snoc {K : KMap} {vs : List Value} {rs : List (List (List Nat))} {a : Addr} {ws : List Value} {n : Nat} {r : List (List Nat)} (x : WordsAt K vs rs) (e : K a = some (lst ws n)) (hn : RowsAt K ws r) : WordsAt K (vs ++ [.ref a]) (rs ++ [r]) := by
  induction x with
  | nil => exact .cons e hn .nil
  | cons a b _ ih => exact .cons a b ih
theorem WordsAt.get {K : KMap} {vs : List Value} {rs : List (List (List Nat))} (x : WordsAt K vs rs) {i : Nat} {r : List (List Nat)} (e : rs[i]? = some r) : ∃ a ws n, vs[i]? = some (.ref a) ∧ K a = some (lst ws n) ∧ RowsAt K ws r := by
  induction x generalizing i with
  | nil => cases i <;> cases e
  | cons a b _ ih =>
    cases i with
    | zero => cases e; exact ⟨_, _, _, rfl, a, b⟩
    | succ i => exact ih e
/-- one row ahead of another: by the numerals of the first numbers that differ -/
noncomputable def aheadGo : List Nat → List Nat → List (List Nat) → List (List Nat) → Bool
  | a :: r1, b :: r2, u :: w1, v :: w2 => if a = b then aheadGo r1 r2 w1 w2 else ltL u v
  | [], _ :: _, _, _ => true
  | _, _, _, _ => false
theorem aheadGo_end {r1 r2 : List Nat} {w1 w2 : List (List Nat)} {i : Nat} (hi : min r1.length r2.length ≤ i) (hi2 : i ≤ min r1.length r2.length) : aheadGo (r1.drop i) (r2.drop i) (w1.drop i) (w2.drop i) = decide (r1.length < r2.length) := by
  rcases Nat.lt_or_ge i r1.length with h1 | h1
  · rw [List.drop_eq_nil_of_le (as := r2) (by (clear hi2; lia)), List.drop_eq_getElem_cons h1]
    simp only [aheadGo]
    symm; simp; omega
  · rw [List.drop_eq_nil_of_le h1]
    rcases Nat.lt_or_ge i r2.length with h2 | h2
    · rw [List.drop_eq_getElem_cons h2]
      simp only [aheadGo]
      symm; simp; exact Nat.lt_of_le_of_lt h1 h2
    · rw [List.drop_eq_nil_of_le h2]
      simp only [aheadGo]
      symm; simp; omega
theorem aheadGo_step {r1 r2 : List Nat} {w1 w2 : List (List Nat)} {i a b : Nat} {u v : List Nat} (h1 : r1[i]? = some a) (h2 : r2[i]? = some b) (h3 : w1[i]? = some u) (h4 : w2[i]? = some v) :
    aheadGo (r1.drop i) (r2.drop i) (w1.drop i) (w2.drop i) = if a = b then aheadGo (r1.drop (i + 1)) (r2.drop (i + 1)) (w1.drop (i + 1)) (w2.drop (i + 1)) else ltL u v := by
  obtain ⟨l1, rfl⟩ := List.getElem?_eq_some_iff.mp h1
  obtain ⟨l2, rfl⟩ := List.getElem?_eq_some_iff.mp h2
  obtain ⟨l3, rfl⟩ := List.getElem?_eq_some_iff.mp h3
  obtain ⟨l4, rfl⟩ := List.getElem?_eq_some_iff.mp h4
  rw [List.drop_eq_getElem_cons l1, List.drop_eq_getElem_cons l2, List.drop_eq_getElem_cons l3, List.drop_eq_getElem_cons l4]
  simp only [aheadGo]
end Mine
end
section
open PySem PySem.W PyProof.Rows PySem.SeqAt PySem.MeetsSeq PySem.MeetsSeq3 PySem.Builtin
set_option Elab.async false
set_option maxRecDepth 100000
set_option linter.unusedVariables false
namespace Mine
/-- octets, by the first pair that differs -/
noncomputable def ltB (a b : List UInt8) : Bool := Bytes.order a b == .lt
theorem by_slot_lt : Slot "bytes" (cmpInfo .Lt).2.1 "bytes.__lt__" :=
  .of (owner := "bytes") (n := "__lt__") (by rw [typeLookup_type, builtinLookup_eq_fast]; kernel_rfl) (by decide +kernel) (by decide +kernel) (by decide +kernel)
    (by first | exact .inl (by decide +kernel) | exact .inr (by decide +kernel)) (by rw [isSubtype_type]; kernel_rfl)
theorem by_entry_lt : entryFor table "bytes.__lt__" = some Builtin.«bytes.__lt__» := entryFor_of_tree (by kernel_rfl)
theorem by_args_lt (a b : Value) : argsOk "bytes.__lt__" ⟨[a, b], []⟩ := by unfold argsOk; kernel_rfl
theorem gives_bytes_lt (b c : Array UInt8) (t u : Tok) : Gives («bytes.__lt__» ⟨[.bytes b t, .bytes c u], []⟩) (.val (.bool (ltB b.toList c.toList))) := by
  refine .of_wp fun M A E s Q hq => ?_
  show wpAny M A (isInstance (.bytes c u) (.type "bytes") >>= fun r => _) _ E s
  refine wpAny_bind (wpAny_isInstance (PySem.W.typeIs_bytes s c u) PySem.F.sub_bytes_bytes ?_)
  exact wpAny_pure ⟨_, rfl, hq⟩
section
variable {prog : Program} {w : World} {A : Around} {E : Value → Shared → Prop} {s : Shared} {b c : Array UInt8} {t u : Tok}
theorem lt_bytes {Q : Value → Shared → Prop} (h : Q (.bool (ltB b.toList c.toList)) s) : wpAny (model prog w) A (compareOp .Lt (.bytes b t) (.bytes c u)) Q E s :=
  compareOp_gives (op := .Lt) (PySem.W.typeIs_bytes s b t) (PySem.W.typeIs_bytes s c u) by_slot_lt by_entry_lt (by_args_lt _ _) (gives_bytes_lt b c t u) (fun e => nomatch e) h
end
theorem eqAt_bytes (A : Around) (s : Shared) (b c : Array UInt8) (t u : Tok) : EqAt A s (.bytes b t) (.bytes c u) (b.toList == c.toList) := fun prog w E Q hq => by
  unfold eqBool
  refine wpAny_holding ?_
  refine wpAny_ite_split (fun hab => ?_) (fun _ => ?_)
  · have e : (Value.bytes b t) = .bytes c u := eq_of_beq hab
    injection e with e1 e2
    subst e1
    refine wpAny_bind (wpAny_rule (wpAny_pure ?_))
    simpa using hq
  · exact wpAny_bind (PySem.W.eq_bytes (wpAny_truthy_bool hq))
theorem ltAt_bytes (A : Around) (s : Shared) (b c : Array UInt8) (t u : Tok) : LtAt A s (.bytes b t) (.bytes c u) (ltB b.toList c.toList) := fun prog w E Q hq => lt_bytes hq
theorem ltAt_int (A : Around) (s : Shared) (a b : Int) (t u : Tok) : LtAt A s (.int a t) (.int b u) (decide (a < b)) := fun prog w E Q hq => PyProof.Rows.lt_int hq
theorem tuple_ltAt (l b : Addr) (items items2 : Array Value) (n n2 : Nat) (dd dd2 : Option Addr) (sl sl2 : Array (Option Value)) (e lt : Nat → Bool) :
    Meets (Builtin.«tuple.__lt__» ⟨[.ref l, .ref b], []⟩)
      (fun A R s => s.heap.get? l = some { cls := .type "tuple", dict := dd, data := .seq items n, slots := sl } ∧ s.heap.get? b = some { cls := .type "tuple", dict := dd2, data := .seq items2 n2, slots := sl2 } ∧
        (∀ j (h1 : j < items.size) (h2 : j < items2.size), (∀ k, k < j → e k = true) → EqAt A.in1 s items[j] items2[j] (e j)) ∧ (∀ j (h1 : j < items.size) (h2 : j < items2.size), (∀ k, k < j → e k = true) → e j = false → LtAt A.in1 s items[j] items2[j] (lt j)) ∧
        R (.ok (.ret (.bool (ltGo e lt items.size items2.size (min items.size items2.size) 0)))) s) :=
  .of_wp fun prog w A R s h => by
    obtain ⟨hp, g, d, tk, os⟩ := s; obtain ⟨hl, hb, he, hlt, h⟩ := h
    have f2 := AutoSeq1.sub_tuple_tuple
    have hZ : (items.toList.zip items2.toList).length = min items.size items2.size := by simp
    wp_walk using wpAny_loadPart' hl, wpAny_loadPart' hb, wpAny_forIn_list _ (fun rest b s' => b.1 = none ∧ s' = ⟨hp, g, d, tk, os⟩ ∧ ∃ i, rest = (items.toList.zip items2.toList).drop i ∧ (∀ k, k < i → e k = true) ∧ i ≤ min items.size items2.size ∧
      R (.ok (.ret (.bool (ltGo e lt items.size items2.size (min items.size items2.size - i) i)))) ⟨hp, g, d, tk, os⟩) _
    case turn =>
      rintro ⟨y, x⟩ rest b s' ⟨hb', rfl, i, hz, hall, hile, hR⟩
      have hlt' : i < (items.toList.zip items2.toList).length := by
        rcases Nat.lt_or_ge i (items.toList.zip items2.toList).length with h' | h'
        · exact h'
        · rw [List.drop_of_length_le h'] at hz; cases hz
      have hm : i < min items.size items2.size := hZ ▸ hlt'
      have h1 : i < items.size := Nat.lt_of_lt_of_le hm (Nat.min_le_left _ _)
      have h2 : i < items2.size := Nat.lt_of_lt_of_le hm (Nat.min_le_right _ _)
      rw [List.drop_eq_getElem_cons hlt'] at hz
      injection hz with hyx hrest
      have hy : y = items[i] := by have := congrArg Prod.fst hyx; simpa using this
      have hx : x = items2[i] := by have := congrArg Prod.snd hyx; simpa using this
      subst hy hx
      rw [show min items.size items2.size - i = (min items.size items2.size - (i + 1)) + 1 by omega] at hR
      refine wpAny_bind (he i h1 h2 hall prog w _ _ ?_)
      cases hy : e i with
      | true =>
        simp only [ltGo, hy, if_true] at hR
        wp_walk
        exact ⟨rfl, rfl, i + 1, hrest, fun k hk => by rcases Nat.lt_or_ge k i with h | h; exact hall k h; obtain rfl : k = i := by (clear hZ hile hm; lia)
                                                      exact hy, by exact Nat.lt_of_lt_of_eq hlt' hZ, hR⟩
      | false =>
        simp only [ltGo, hy, Bool.false_eq_true, if_false] at hR
        simp only [Bool.not_false, if_true]
        refine wpAny_bind (wpAny_rule ?_)
        refine wpAny_bind (hlt i h1 h2 hall hy prog w _ _ ?_)
        wp_walk
        exact ⟨_, rfl, hR⟩
    case fin =>
      rintro ⟨b1, b2⟩ s' ⟨hb', rfl, i, hz, hall, hile, hR⟩
      simp only at hb'
      subst hb'
      have hge : min items.size items2.size ≤ i := by
        rcases Nat.lt_or_ge i (items.toList.zip items2.toList).length with h' | h'
        · rw [List.drop_eq_getElem_cons h'] at hz; cases hz
        · exact hZ ▸ h'
      rw [show min items.size items2.size - i = 0 by (clear hZ hile; omega)] at hR
      wp_walk
      exact ⟨_, rfl, by simpa [Builtin.Tuple.tupleCompareSizes, ltGo] using hR⟩
    case h =>
      exact ⟨rfl, rfl, 0, rfl, (fun k hk => by (clear hZ; lia)), Nat.zero_le _, h⟩
end Mine
end
section
open PySem PySem.W PyProof.Rows PySem.SeqAt PySem.MeetsSeq PySem.MeetsSeq3
set_option Elab.async false
set_option maxRecDepth 100000
set_option linter.unusedVariables false
namespace Mine
/-- a heap's entry: octets, a place, the item -/
structure Ent where
  key : List UInt8
  ord : Int
  item : Value
deriving Inhabited
/-- the order of entries -/
noncomputable def ltE (x y : Ent) : Bool := if x.key == y.key then decide (x.ord < y.ord) else ltB x.key y.key
/-- the entry that stands at a value -/
def EntAt (K : KMap) (v : Value) (e : Ent) : Prop := ∃ a t u n, v = .ref a ∧ K a = some (tup [.bytes e.key.toArray t, .int e.ord u, e.item] n)
theorem EntAt.mono {K K' : KMap} (hk : KLe K K') {v : Value} {e : Ent} (h : EntAt K v e) : EntAt K' v e := by
  obtain ⟨a, t, u, n, h1, h2⟩ := h
  exact ⟨a, t, u, n, h1, hk _ _ h2⟩
theorem EntAt.unique {K : KMap} {v : Value} {e e' : Ent} (h : EntAt K v e) (h' : EntAt K v e') : e = e' := by
  obtain ⟨a, t, u, n, rfl, h2⟩ := h
  obtain ⟨a', t', u', n', e1, h3⟩ := h'
  cases e1
  rw [h2] at h3
  have h4 := Option.some.inj h3
  simp only [tup, Obj.mk.injEq, Data.seq.injEq] at h4
  have h5 := h4.2.2.1.1
  have h6 := congrArg Array.toList h5
  simp only [List.cons.injEq, Value.bytes.injEq, Value.int.injEq] at h6
  obtain ⟨⟨k1, _⟩, ⟨k2, _⟩, k3, _⟩ := h6
  have k1 : e.key = e'.key := by simpa using k1
  cases e; cases e'; simp_all
theorem cmp_ents {prog : Program} {w : World} {K : KMap} {x y : Value} {e f : Ent} (hx : EntAt K x e) (hy : EntAt K y f) (hd : e.key = f.key → e.ord ≠ f.ord ∨ e.item = f.item) : CmpOk prog w K x y (ltE e f) := by
  obtain ⟨a, t, u, n, rfl, h1⟩ := hx
  obtain ⟨b, t', u', n', rfl, h2⟩ := hy
  intro A Q E s h tk hr hs q
  have h1 := hs _ _ h1
  have h2 := hs _ _ h2
  let ee : Nat → Bool := fun j => match j with | 0 => e.key == f.key | 1 => e.ord == f.ord | _ => true
  let ll : Nat → Bool := fun j => match j with | 0 => ltB e.key f.key | _ => decide (e.ord < f.ord)
  refine richCompare_meets_room (s := up s h tk) (op := .Lt) ⟨_, h1, rfl⟩ ⟨_, h2, rfl⟩ PySem.F.slot_tuple_lt PySem.F.entry_tuple_lt (PySem.F.args_tuple_lt_2 _ _) (tuple_ltAt a b #[.bytes e.key.toArray t, .int e.ord u, e.item] #[.bytes f.key.toArray t', .int f.ord u', f.item] n n' none none #[] #[] ee ll) ?_ hr.units
  refine ⟨h1, h2, ?_, ?_, ?_⟩
  · intro j j1 j2 hall
    match j, j1, j2, hall with
    | 0, _, _, _ =>
      exact eqAt_bytes A.in1 (up s h tk) e.key.toArray f.key.toArray t t'
    | 1, _, _, _ => exact EqAt.int_int _ _ _ _
    | 2, _, _, hall =>
      have k0 : e.key = f.key := by simpa [ee] using hall 0 (by exact Nat.le_succ _)
      have k1 : e.ord = f.ord := by simpa [ee] using hall 1 (by exact Nat.le_refl _)
      have : e.item = f.item := (hd k0).resolve_left (fun x => x k1)
      show EqAt A.in1 (up s h tk) e.item f.item true
      rw [this]; exact EqAt.same _
  · intro j j1 j2 hall hj
    match j, j1, j2, hj with
    | 0, _, _, _ =>
      exact ltAt_bytes A.in1 (up s h tk) e.key.toArray f.key.toArray t t'
    | 1, _, _, _ => exact ltAt_int _ _ _ _ _ _
    | 2, _, _, hj => cases hj
  · refine ⟨(fun x => nomatch x), ?_⟩
    have e1 : ltGo ee ll 3 3 3 0 = ltE e f := by
      simp only [ltGo, ee, ll, ltE]
      cases hk : (e.key == f.key) with
      | false => simp
      | true =>
        cases ho : (e.ord == f.ord) with
        | false => simp
        | true =>
          have : e.ord = f.ord := by simpa using ho
          simp [this]
    have := q h tk (Keeps.refl _)
    rw [← e1] at this
    exact this
end Mine
end
section
open PySem PySem.W PyProof.Rows
set_option Elab.async false
set_option maxRecDepth 100000
set_option linter.unusedVariables false
namespace Mine
section
variable {prog : Program} {w : World} {M : Model} {A : Around} {E : Value → Shared → Prop} {s : Shared} {t : Nat} {K₀ K : KMap} {env : Env} {gs : List Str} {lk : List Var} {ws ws' : List (Addr × Obj)} {h : Heap}

def kTup (s : Shared) (env : Env) (Q : Value → Shared → Prop) (vs : List Value) (s₁ : Shared) : Prop := ∀ P : Prop, (∀ h t K₀ K gs lk ws, s₁ = up s h t → Fm K₀ K env gs lk ws h → vs.length < 1000000 → (∀ a h', h.get? a = none → Keeps h h' → Fm K₀ K env gs lk ((a, tup vs 0) :: ws) h' → Q (.ref a) (up s h' t)) → P) → P
theorem mk_inT {vs : List Value} {Q : Value → Shared → Prop} (F : Fm K₀ K env gs lk ws h) (hz : vs.length < 1000000) (q : ∀ a h', h.get? a = none → Keeps h h' → Fm K₀ K env gs lk ((a, tup vs 0) :: ws) h' → Q (.ref a) (up s h' t)) : kTup s env Q vs (up s h t) := fun _ k => k _ _ _ _ _ _ _ rfl F hz q
/-- a tuple display -/
theorem mk_tup {elts : List Expr} {n : Nat} {pos : Pos} {Q : Value → Shared → Prop}
    (k : wpAny M A (spliced (backTo pos (starEach elts env))) (kTup s env Q) E (up s h t)) :
    wpAny M A (eval (.Tuple elts n pos) env) Q E (up s h t) := by
  rw [arm_eval_Tuple]
  refine wpAny_bind (wpAny_standAt (wpAny_bind (wpAny_mono k (fun vs s₁ x => ?_) fun _ _ e => e)))
  refine x _ ?_
  rintro h t K₀ K gs lk ws rfl F hz q
  exact wpAny_newTuple (q _ _ (none_above _ (Nat.le_refl _)) (Keeps.push _ _) (F.push (tup vs 0))) (by rw [sizeLine_eq]; exact Nat.le_of_lt (Nat.lt_of_lt_of_le hz (by decide)))

/-- the first look at a raised exception: the frames are made ready -/
theorem note_first {el : Env} {L Lc e : Addr} {oL oc oe : Obj} {vs : Array Value} {Q : Unit → Shared → Prop} (hfr : A.frames = some [env, el]) (hk1 : env.scope.kind ≠ .module) (hk2 : el.scope.kind ≠ .module)
    (hf1 : env.frame = some L) (hf2 : el.frame = some Lc) (hL : s.heap.get? L = some oL) (dL : ∀ vs, oL.data ≠ .fields vs) (hc : s.heap.get? Lc = some oc) (dc : ∀ vs, oc.data ≠ .fields vs)
    (he : s.heap.get? e = some oe) (hd : oe.data = .fields vs) (h1 : vs[1]? = some .none)
    (q : ∀ h' tb, (∀ b o, b ≠ L → b ≠ Lc → b ≠ e → s.heap.get? b = some o → h'.get? b = some o) → (∃ o', h'.get? L = some o' ∧ o'.data = oL.data) → (∃ o', h'.get? Lc = some o' ∧ o'.data = oc.data) → s.heap.get? tb = none →
      h'.get? e = some (oe.mapFields (·.setIfInBounds 1 (.ref tb))) → (∃ ot ts, h'.get? tb = some ot ∧ ot.data = .fields ts ∧ 3 < ts.size) → Q () { s with heap := h' }) :
    wpAny M A (noteFrame (.ref e) env) Q E s := by
  have hsz : 1 < vs.size := (Array.getElem?_eq_some_iff.mp h1).1
  have hLe : L ≠ e := fun x => by rw [x, he] at hL; cases hL; exact dL _ hd
  have hce : Lc ≠ e := fun x => by rw [x, he] at hc; cases hc; exact dc _ hd
  have hl : s.heap.FunFrames (⟨#[], {}⟩ : Heap) [env, el] := ⟨hk1, ⟨L, oL, hf1, rfl, hL, dL⟩, hk2, ⟨Lc, oc, hf2, rfl, hc, dc⟩, trivial⟩
  unfold noteFrame
  simp only [hf1]
  refine wpAny_bind (wpAny_field he hd h1 ?_)
  rw [if_neg (by decide)]
  refine wpAny_bind (wpAny_frameOf_fun hfr hl hf1 fun h₁ hs₁ => ?_)
  refine wpAny_bind (wpAny_entryPlaceOf fun pl hpl => ?_)
  unfold EntryCells.newEntry newFields
  refine wpAny_bind (wpAny_newObj_type ?_ (hpl.sizeOk5 _ _ _ _ _))
  have hS : ∀ b, b ≠ L → b ≠ Lc → b ∉ [env, el].filterMap (·.frame) := fun b b1 b2 hm => by
    simp only [List.filterMap_cons, hf1, hf2, List.filterMap_nil, List.mem_cons, List.not_mem_nil, or_false] at hm
    rcases hm with x | x
    · exact b1 x
    · exact b2 x
  have he₁ : h₁.get? e = some oe := (hs₁.2.1 e (hS e hLe.symm hce.symm)).trans he
  have hup : ∀ b o, b ≠ e → h₁.get? b = some o → ∀ x f, ((h₁.push x).update e f).get? b = some o := fun b o hb e1 x f => (Heap.get?_update_other _ _ (Ne.symm hb)).trans (Heap.get?_push_of_some _ e1)
  have hTe : h₁.objs.size ≠ e := fun x => by rw [← x] at he₁; exact absurd (Heap.lt_size he₁) (Nat.lt_irrefl _)
  refine wpAny_setField (Heap.get?_push_of_some _ he₁) hd hsz (q _ h₁.objs.size (fun b o b1 b2 b3 e1 => hup b o b3 ((hs₁.2.1 b (hS b b1 b2)).trans e1) _ _) ?_ ?_ ?_ ?_ ?_)
  · obtain ⟨sl, e1⟩ := hs₁.2.2 _ _ hL; exact ⟨_, hup _ _ hLe e1 _ _, rfl⟩
  · obtain ⟨sl, e1⟩ := hs₁.2.2 _ _ hc; exact ⟨_, hup _ _ hce e1 _ _, rfl⟩
  · rw [hs₁.1]; exact none_above _ (Nat.le_refl _)
  · exact Heap.get?_update_self _ (Heap.get?_push_of_some _ he₁) (Obj.isFreed_of_fields (Obj.data_mapFields hd _))
  · refine ⟨_, _, (Heap.get?_update_other _ _ (Ne.symm hTe)).trans (Heap.get?_push_size h₁ rfl), rfl, ?_⟩
    simp only [List.size_toArray, List.length_append, List.length_cons, List.length_nil]
    (clear hk1 hk2 hsz hLe hce hTe; lia)

/-- the frame behind such a look -/
theorem Fm.noted {h' : Heap} {Lc : Addr} {oc oc' : Obj} (F : Fm K₀ K env gs lk ((Lc, oc) :: ws) h) (k : ∀ b o, b ≠ env.locals → b ≠ Lc → h.get? b = some o → h'.get? b = some o)
    (hL : ∀ o, h.get? env.locals = some o → ∃ o', h'.get? env.locals = some o' ∧ o'.data = o.data) (hc : h'.get? Lc = some oc') : Fm K₀ K env gs lk ((Lc, oc') :: ws) h' := by
  have hap := F.apart
  have KL := F.kL
  have Kc : K Lc = none := F.nokey (.head _)
  have hn : ∀ p ∈ cellsOf lk ++ ws, p.1 ≠ env.locals ∧ p.1 ≠ Lc := by
    intro p hp
    have h2 : (env.locals :: (cellsOf lk ++ (Lc, oc) :: ws).map (·.1)).Perm (Lc :: env.locals :: (cellsOf lk ++ ws).map (·.1)) := by
      simp only [List.map_append, List.map_cons]
      exact ((List.perm_middle (a := Lc) (l₁ := env.locals :: (cellsOf lk).map (·.1)) (l₂ := ws.map (·.1))))
    have h3 := h2.nodup_iff.mp hap
    simp only [List.nodup_cons] at h3
    refine ⟨fun x => h3.2.1 (x ▸ List.mem_map_of_mem (f := (·.1)) hp), fun x => h3.1 (x ▸ .tail _ (List.mem_map_of_mem (f := (·.1)) hp))⟩
  obtain ⟨oL, es, ep, eL, r⟩ := F.nsp
  obtain ⟨oL', eL', dL⟩ := hL _ eL
  refine { F with nsp := ⟨oL', es, ep, eL', dL.trans r.1, r.2⟩, kept := fun b o e => k b o (fun x => by rw [x, KL] at e; cases e) (fun x => by rw [x, Kc] at e; cases e) (F.kept b o e), own := fun p hp => ?_, apart := by simpa using hap }
  rcases List.mem_append.mp hp with hp | hp
  · have := hn p (List.mem_append_left _ hp)
    exact ⟨k _ _ this.1 this.2 (F.own p (List.mem_append_left _ hp)).1, (F.own p (List.mem_append_left _ hp)).2⟩
  · rcases List.mem_cons.mp hp with rfl | hp
    · exact ⟨hc, Kc⟩
    · have := hn p (List.mem_append_right _ hp)
      exact ⟨k _ _ this.1 this.2 (F.own p (List.mem_append_right _ (.tail _ hp))).1, (F.own p (List.mem_append_right _ (.tail _ hp))).2⟩

theorem li_no_len : typeLookup (.type "list_iterator") "__len__" = pure none := by rw [typeLookup_type, builtinLookup_eq_fast]; kernel_rfl
theorem li_shown : shownName "list_iterator" = "list_iterator" := by decide +kernel
theorem li_msg : (Str.ofString (toString "object of type '" ++ toString (shownName "list_iterator") ++ toString "' has no len()")).length ≤ sizeLine := by
  rw [li_shown]; decide +kernel
/-- a list's iterator has no length -/
theorem len_li {it l : Addr} {o : Obj} {i : Nat} {Q : Value → Shared → Prop} (hh : A.handled = none) (hl : h.get? it = some o) (ho : IsLI o l i)
    (q : ∀ h' t' e, Heap.NewExc h h' e "TypeError" → E (.ref e) (up s h' t')) : wpAny (model prog w) A (call (.builtin "len") [.ref it]) Q E (up s h t) := by
  have hT : (up s h t).TypeIs (.ref it) "list_iterator" := ⟨_, hl, ho.1⟩
  refine Calls.call_function_entry kind_len plain_len entry_len (args_len1 _) ?_
  unfold Builtin.«len»
  refine wpAny_bind (wpAny_of_eq (a := Value.ref it) rfl ?_)
  refine wpAny_bind (m := callSpecial? _ _) ?_
  unfold callSpecial?
  refine wpAny_bind (wpAny_specialOf hT li_no_len ?_)
  refine wpAny_pure ?_
  dsimp only
  refine wpAny_bind (wpAny_rule ?_)
  refine wpAny_bind (wpAny_typeNameOf' hT (h := ?_))
  exact wpAny_raiseErrorMade plainExc_TypeError hh (fun h' tk e hx => q h' tk e hx) li_msg
end
end Mine
end
section
open PySem PySem.W PyProof.Rows
set_option Elab.async false
set_option maxRecDepth 100000
set_option linter.unusedVariables false
namespace Mine
/-- a list's iterator that has come to its end -/
def IsDead (o : Obj) : Prop := o.cls = .type "list_iterator" ∧ ∃ k : Int, o.data = .fields #[.none, .int k 0]
/-- an iterator that gives nothing more -/
def IsEnd (o : Obj) (l : Addr) (n : Nat) : Prop := (∃ i, IsLI o l i ∧ n ≤ i) ∨ IsDead o
section
variable {prog : Program} {w : World} {M : Model} {A : Around} {E : Value → Shared → Prop} {s : Shared} {t : Nat} {K₀ K : KMap} {env : Env} {gs : List Str} {lk lk1 lk2 : List Var} {ws ws' : List (Addr × Obj)} {h : Heap}
theorem stop_ {α : Type} {Q : α → Shared → Prop} (hh : A.handled = none) (q : ∀ h' e oe, Keeps s.heap h' → s.heap.get? e = none → h'.get? e = some oe → oe.cls = .type "StopIteration" → E (.ref e) { s with heap := h' }) :
    wpAny M A (Builtin.SmallTypes.stopIteration : Sem α) Q E s := by
  unfold Builtin.SmallTypes.stopIteration
  refine wpAny_bind ?_
  simp only [newExc, newTuple]
  refine wpAny_bind (wpAny_newObj_type ?_ (by size_fits))
  refine wpAny_bind (m := firstArgMember _ _) (wpAny_of_eq (a := Value.none) (by first | rfl | (simp only [firstArgMember]; rfl)) ?_)
  refine wpAny_newObj_type ?_ (by size_fits)
  refine wpAny_raiseNew_none hh (q _ _ _ (fun b o e => Heap.get?_push_of_some _ (Heap.get?_push_of_some _ e)) ?_ (Heap.get?_push_size _ rfl) rfl)
  exact none_above _ (by rw [Heap.size_push]; exact Nat.le_succ _)
theorem sp_rit {it : Addr} {x left step : Int} {Q : Option Value → Shared → Prop} (F : Fm K₀ K env gs lk ws h) (u : Upd1 ws it (rit x left step) (rit (x + step) (left - 1) step) ws') (hl : 0 < left)
    (q : ∀ tk h' t', Fm K₀ K env gs lk ws' h' → Q (some (.int x tk)) (up s h' t')) : wpAny (model prog w) A (callSpecial? (.ref it) (Str.ofString "__next__")) Q E (up s h t) := by
  have hit : (up s h t).heap.get? it = some (rit x left step) := F.isIn u.mem
  have hT : (up s h t).TypeIs (.ref it) "range_iterator" := ⟨_, hit, rfl⟩
  refine wpAny_callSpecial?_slot (name := Str.ofString "__next__") hT PySem.F.slot_range_iterator_next
    (call_meets PySem.F.slot_range_iterator_next hT PySem.F.entry_range_iterator_next (PySem.F.args_range_iterator_next_1 _) (AutoRange.range_iterator___next___range_iterator_1 it x left step (by lia)) ⟨hit, ?_⟩)
  refine q _ _ _ (F.upd u (Heap.get?_update_self _ (Heap.get?_update_self _ hit rfl) rfl) fun b o hb e => ?_)
  exact (Heap.get?_update_other _ _ (Ne.symm hb)).trans ((Heap.get?_update_other _ _ (Ne.symm hb)).trans e)
theorem sp_rit_end {it : Addr} {x left step : Int} {Q : Option Value → Shared → Prop} (hh : A.handled = none) (F : Fm K₀ K env gs lk ws h) (hm : (it, rit x left step) ∈ ws) (hl : left ≤ 0)
    (q : ∀ h' e oe, h.get? e = none → h'.get? e = some oe → oe.cls = .type "StopIteration" → Fm K₀ K env gs lk ws h' → E (.ref e) (up s h' t)) : wpAny (model prog w) A (callSpecial? (.ref it) (Str.ofString "__next__")) Q E (up s h t) := by
  have hit : (up s h t).heap.get? it = some (rit x left step) := F.isIn hm
  have hT : (up s h t).TypeIs (.ref it) "range_iterator" := ⟨_, hit, rfl⟩
  refine wpAny_callSpecial?_slot (name := Str.ofString "__next__") hT PySem.F.slot_range_iterator_next
    (wpAny_call_entry PySem.F.slot_range_iterator_next hT PySem.F.entry_range_iterator_next ?_ (PySem.F.args_range_iterator_next_1 _))
  show wpAny _ _ (field (.ref it) 0 >>= _) _ _ _
  refine wpAny_bind (wpAny_field hit rfl (x := rawInt x) rfl ?_)
  show wpAny _ _ (field (.ref it) 1 >>= _) _ _ _
  refine wpAny_bind (wpAny_field hit rfl (x := rawInt left) rfl ?_)
  show wpAny _ _ (field (.ref it) 2 >>= _) _ _ _
  refine wpAny_bind (wpAny_field hit rfl (x := rawInt step) rfl ?_)
  show wpAny _ _ (if left ≤ 0 then _ else _) _ _ _
  rw [if_pos hl]
  exact wpAny_bind (wpAny_rule (wpAny_bind (stop_ (A := A.in1) (s := up s h t) hh fun h' e oe hk hn he hc => q h' e oe hn he hc (F.keeps hk))))
theorem sp_li {it l : Addr} {o : Obj} {vs : List Value} {n i : Nat} {x : Value} {Q : Option Value → Shared → Prop} (wf : Obj → List (Addr × Obj)) (F : Fm K₀ K env gs lk ws h) (ho : IsLI o l i) (hu : ∀ o', Upd1 ws it o o' (wf o')) (hl : h.get? l = some (lst vs n)) (hx : vs[i]? = some x)
    (q : ∀ o' h', IsLI o' l (i + 1) → Fm K₀ K env gs lk (wf o') h' → Q (some x) (up s h' t)) : wpAny (model prog w) A (callSpecial? (.ref it) (Str.ofString "__next__")) Q E (up s h t) := by
  have hit : (up s h t).heap.get? it = some o := F.isIn (hu o).mem
  have hT : (up s h t).TypeIs (.ref it) "list_iterator" := ⟨_, hit, ho.1⟩
  refine wpAny_callSpecial?_slot (name := Str.ofString "__next__") hT slot_listiter_next (wpAny_call_entry slot_listiter_next hT entry_listiter_next ?_ (args_listiter_next _))
  show wpAny _ _ (field (.ref it) 0 >>= _) _ _ _
  refine wpAny_bind (wpAny_field hit ho.2 (x := .ref l) rfl ?_)
  show wpAny _ _ (if (Value.ref l == Value.none) = true then _ else _) _ _ _
  rw [if_neg (show ¬ ((Value.ref l == Value.none) = true) from Bool.false_ne_true)]
  show wpAny _ _ (field (.ref it) 1 >>= _) _ _ _
  refine wpAny_bind (wpAny_field hit ho.2 (x := .int i 0) rfl ?_)
  show wpAny _ _ (seqItems? (.ref l) >>= _) _ _ _
  refine wpAny_bind (wpAny_seqItems (s := up s h t) hl rfl ?_)
  have hx' : vs.toArray[((i : Nat) : Int).toNat]? = some x := by simpa using hx
  simp only [hx']
  refine wpAny_bind (wpAny_setField hit ho.2 (by simp) (wpAny_pure ⟨x, rfl, ?_⟩))
  refine q _ _ ⟨(Obj.cls_mapFields _ _).trans ho.1, ?_⟩ (F.upd (hu _) (Heap.get?_update_self _ hit (Obj.isFreed_of_fields (Obj.data_mapFields ho.2 _))) fun b y hb e => (Heap.get?_update_other _ _ (Ne.symm hb)).trans e)
  rw [Obj.data_mapFields ho.2]; simp [rawInt]
theorem sp_li_end {it l : Addr} {o : Obj} {vs : List Value} {n : Nat} {Q : Option Value → Shared → Prop} (wf : Obj → List (Addr × Obj)) (hh : A.handled = none) (F : Fm K₀ K env gs lk ws h) (ho : IsEnd o l vs.length) (hu : ∀ o', Upd1 ws it o o' (wf o')) (hl : h.get? l = some (lst vs n))
    (q : ∀ o' h' e oe, IsDead o' → h.get? e = none → h'.get? e = some oe → oe.cls = .type "StopIteration" → Fm K₀ K env gs lk (wf o') h' → E (.ref e) (up s h' t)) : wpAny (model prog w) A (callSpecial? (.ref it) (Str.ofString "__next__")) Q E (up s h t) := by
  have hit : (up s h t).heap.get? it = some o := F.isIn (hu o).mem
  have hT : (up s h t).TypeIs (.ref it) "list_iterator" := ⟨_, hit, by rcases ho with ⟨i, x, _⟩ | x <;> exact x.1⟩
  refine wpAny_callSpecial?_slot (name := Str.ofString "__next__") hT slot_listiter_next (wpAny_call_entry slot_listiter_next hT entry_listiter_next ?_ (args_listiter_next _))
  show wpAny _ _ (field (.ref it) 0 >>= _) _ _ _
  rcases ho with ⟨i, ho, hi⟩ | ⟨hc, k, hd⟩
  · refine wpAny_bind (wpAny_field hit ho.2 (x := .ref l) rfl ?_)
    show wpAny _ _ (if (Value.ref l == Value.none) = true then _ else _) _ _ _
    rw [if_neg (show ¬ ((Value.ref l == Value.none) = true) from Bool.false_ne_true)]
    show wpAny _ _ (field (.ref it) 1 >>= _) _ _ _
    refine wpAny_bind (wpAny_field hit ho.2 (x := .int i 0) rfl ?_)
    show wpAny _ _ (seqItems? (.ref l) >>= _) _ _ _
    refine wpAny_bind (wpAny_seqItems (s := up s h t) hl rfl ?_)
    have hx' : vs.toArray[((i : Nat) : Int).toNat]? = none := by simp; exact hi
    simp only [hx']
    refine wpAny_bind (wpAny_rule (wpAny_bind (wpAny_setField hit ho.2 (by simp) ?_)))
    have F' := F.upd (hu (o.mapFields (·.setIfInBounds 0 .none))) (h' := h.update it (Obj.mapFields (·.setIfInBounds 0 .none))) (Heap.get?_update_self _ hit (Obj.isFreed_of_fields (Obj.data_mapFields ho.2 _))) fun b y hb e => (Heap.get?_update_other _ _ (Ne.symm hb)).trans e
    refine stop_ (A := A.in1) (s := up s (h.update it (Obj.mapFields (·.setIfInBounds 0 .none))) t) hh fun h' e oe hk hn he hc => q _ h' e oe ⟨(Obj.cls_mapFields _ _).trans ho.1, i, ?_⟩ ?_ he hc (F'.keeps hk)
    · rw [Obj.data_mapFields ho.2]; simp
    · by_cases hei : e = it
      · subst hei
        exact absurd ((Heap.get?_update_self _ hit (Obj.isFreed_of_fields (Obj.data_mapFields ho.2 _))).symm.trans hn) (by simp)
      · exact (Heap.get?_update_other _ _ (Ne.symm hei)).symm.trans hn
  · refine wpAny_bind (wpAny_field hit hd (x := .none) rfl ?_)
    show wpAny _ _ (if (Value.none == Value.none) = true then _ else _) _ _ _
    rw [if_pos (show (Value.none == Value.none) = true from rfl)]
    exact wpAny_bind (wpAny_rule (wpAny_bind (stop_ (A := A.in1) (s := up s h t) hh fun h' e oe hk hn he hc' => q o h' e oe ⟨hc, k, hd⟩ hn he hc' ((F.upd (hu o) hit fun b y hb e => e).keeps hk))))
/-- the iterator of a list at its end, in a loop -/
theorem nx_li_end {it l : Addr} {o : Obj} {vs : List Value} {n : Nat} {Q : Option Value → Shared → Prop} (wf : Obj → List (Addr × Obj)) (hh : A.handled = none) (F : Fm K₀ K env gs lk ws h) (ho : IsEnd o l vs.length) (hu : ∀ o', Upd1 ws it o o' (wf o')) (hl : h.get? l = some (lst vs n))
    (q : ∀ o' h', IsDead o' → Fm K₀ K env gs lk (wf o') h' → Q none (up s h' t)) : wpAny (model prog w) A (pyNext (.ref it)) Q E (up s h t) := by
  unfold pyNext
  refine wpAny_bind (wpAny_attempt (sp_li_end wf hh F ho hu hl fun o' h' e oe hd hn he hc F' => ?_))
  refine wpAny_bind (wpAny_isInstance (T := "StopIteration") (b := true) ⟨oe, he, hc⟩ isSubtype_stop ?_)
  exact wpAny_pure (q o' h' hd F')
theorem nextOf_ {it : Addr} {Q : Value → Shared → Prop} (k : wpAny M A (callSpecial? (.ref it) (Str.ofString "__next__")) (fun r s' => ∃ v, r = some v ∧ Q v s') E s) : wpAny M A (Builtin.SmallTypes.nextOf (.ref it)) Q E s := by
  unfold Builtin.SmallTypes.nextOf
  refine wpAny_bind (wpAny_mono k (fun r s' x => ?_) fun _ _ x => x)
  obtain ⟨v, rfl, hv⟩ := x
  exact wpAny_pure hv
end
end Mine
end
section
open PySem PySem.W PyProof.Rows
set_option Elab.async false
set_option maxRecDepth 100000
set_option linter.unusedVariables false
namespace Mine
noncomputable abbrev zpo (f0 : Value) (TI TO : Addr) : Obj := { cls := .type "zip", data := .fields #[f0, .bool false, .bool false, .ref TI, .ref TO] }
noncomputable abbrev zH1 (h : Heap) (a b c : Int) : Heap := h.push (rit a (Builtin.Range.rangeSize a b c) c)
noncomputable abbrev zH2 (h : Heap) (a b c : Int) (it : Addr) : Heap := (zH1 h a b c).push (tup [.ref h.objs.size, .ref it] 0)
noncomputable abbrev zH3 (h : Heap) (a b c : Int) (it : Addr) : Heap := (zH2 h a b c it).push (tup [.none, .none] 0)
noncomputable abbrev zH4 (h : Heap) (a b c : Int) (it : Addr) : Heap := (zH3 h a b c it).push (zpo .none (zH1 h a b c).objs.size (zH2 h a b c it).objs.size)
theorem meets_zip (r it l : Addr) (a b c : Int) (ta tb tc : Tok) (i : Nat) (hs : Builtin.Range.small a b c = true) :
    Meets (Builtin.«zip.__new__» ⟨[.type "zip", .ref r, .ref it], []⟩) (fun _ R s => s.heap.get? r = some (rgo a b c ta tb tc) ∧ s.heap.IsListIter it l i ∧
      R (.ok (.ret (.ref (zH3 s.heap a b c it).objs.size))) { s with heap := zH4 s.heap a b c it }) :=
  .of_wp fun prog w A R s h => by
    obtain ⟨hp, g, d, tk, os⟩ := s; obtain ⟨hl1, hl2, h⟩ := h
    have hsub := sub_zip
    have hL2 : Heap.IsListIter (Shared.heap ⟨hp.push (rit a (Builtin.Range.rangeSize a b c) c), g, d, tk, os⟩) it l i := by
      obtain ⟨o, e, r⟩ := hl2
      exact ⟨o, Heap.get?_push_of_some _ e, r⟩
    wp_walk using wpAny_pyIter_range hl1 hs, wpAny_pyIter_listiter hL2
    exact ⟨_, rfl, h⟩
section
variable {prog : Program} {w : World} {M : Model} {A : Around} {E : Value → Shared → Prop} {s : Shared} {t : Nat} {K₀ K : KMap} {env : Env} {gs : List Str} {lk lk1 lk2 : List Var} {ws ws' : List (Addr × Obj)} {h : Heap}
theorem zip_new {r it l : Addr} {a b c : Int} {ta tb tc : Tok} {io : Obj} {i : Nat} {Q : Value → Shared → Prop} (F : Fm K₀ K env gs lk ((r, rgo a b c ta tb tc) :: ws) h) (hs : Builtin.Range.small a b c = true) (hm : (it, io) ∈ ws) (hio : IsLI io l i)
    (q : ∀ z TI TO ri h', Fm K₀ K env gs lk ((z, zpo .none TI TO) :: (TI, tup [.ref ri, .ref it] 0) :: (TO, tup [.none, .none] 0) :: (ri, rit a (Builtin.Range.rangeSize a b c) c) :: ws) h' → Q (.ref z) (up s h' t)) :
    wpAny (model prog w) A (call (.type "zip") [.ref r, .ref it]) Q E (up s h t) := by
  refine callType_new (s := up s h t) PySem.F.called_zip (by decide) (PySem.F.typeCall_zip_2 _ _) (PySem.F.newCall_zip_2 _ _) (fun obj => PySem.F.args_object_init_3 obj _ _) PySem.F.entry_zip_new
    (meets_zip r it l a b c ta tb tc i hs) ⟨F.isIn (.head _), ⟨io, F.isIn (.tail _ hm), hio.1, hio.2⟩, ?_⟩
  have F1 := (F.drop (List.sublist_cons_self _ _)).push (rit a (Builtin.Range.rangeSize a b c) c)
  have F2 := F1.push (tup [.ref h.objs.size, .ref it] 0)
  have F3 := F2.push (tup [.none, .none] 0)
  have F4 := F3.push (zpo .none (zH1 h a b c).objs.size (zH2 h a b c it).objs.size)
  refine ⟨⟨_, F4.isIn (.head _), rfl⟩, q _ (zH1 h a b c).objs.size (zH2 h a b c it).objs.size h.objs.size _ ?_⟩
  exact F4.perm (List.Perm.cons _ (List.Perm.swap _ _ _))
theorem iter_zip {z TI TO : Addr} {f0 : Value} {Q : Value → Shared → Prop} (hz : h.get? z = some (zpo f0 TI TO)) (q : Q (.ref z) (up s h t)) : wpAny (model prog w) A (pyIter (.ref z)) Q E (up s h t) := wpAny_pyIter_zip (s := up s h t) hz q

theorem setF {a : Addr} {o : Obj} {vs : Array Value} {i : Nat} {x : Value} {Q : Unit → Shared → Prop} (F : Fm K₀ K env gs lk ws h) (hd : o.data = .fields vs) (u : Upd1 ws a o (o.mapFields (·.setIfInBounds i x)) ws') (hi : i < vs.size)
    (q : ∀ h', Fm K₀ K env gs lk ws' h' → Q () (up s h' t)) : wpAny M A (setField (.ref a) i x) Q E (up s h t) :=
  wpAny_setField (s := up s h t) (F.isIn u.mem) hd hi (q _ (F.upd u (Heap.get?_update_self _ (F.isIn u.mem) (Obj.isFreed_of_fields (Obj.data_mapFields hd _))) fun b y hb e => (Heap.get?_update_other _ _ (Ne.symm hb)).trans e))
theorem setF' {a : Addr} {o : Obj} {vs : Array Value} {i : Nat} {x : Value} {Q : Unit → Shared → Prop} (F : Fm K₀ K env gs lk ws h) (hd : o.data = .fields vs) (u : Upd1 ws a o (o.mapFields (·.setIfInBounds i x)) ws') (hi : i < vs.size)
    (q : ∀ h', (∀ b y, b ≠ a → h.get? b = some y → h'.get? b = some y) → Fm K₀ K env gs lk ws' h' → Q () (up s h' t)) : wpAny M A (setField (.ref a) i x) Q E (up s h t) :=
  wpAny_setField (s := up s h t) (F.isIn u.mem) hd hi (q _ (fun b y hb e => (Heap.get?_update_other _ _ (Ne.symm hb)).trans e) (F.upd u (Heap.get?_update_self _ (F.isIn u.mem) (Obj.isFreed_of_fields (Obj.data_mapFields hd _))) fun b y hb e => (Heap.get?_update_other _ _ (Ne.symm hb)).trans e))
theorem setS {a : Addr} {vs : List Value} {i : Nat} {x : Value} {Q : Unit → Shared → Prop} (F : Fm K₀ K env gs lk ws h) (u : Upd1 ws a (tup vs 0) (tup (vs.set i x) 0) ws') (hz : vs.length < 1000000)
    (q : ∀ h', Fm K₀ K env gs lk ws' h' → Q () (up s h' t)) : wpAny (model prog w) A (updateSeq a (·.setIfInBounds i x)) Q E (up s h t) := by
  have hT : (up s h t).heap.get? a = some (tup vs 0) := F.isIn u.mem
  refine wpAny_updateSeq hT rfl (q _ (F.upd u ?_ fun b y hb e => (Heap.get?_update_other _ _ (Ne.symm hb)).trans e)) (by rw [sizeLine_eq]; simp; exact Nat.le_of_lt (Nat.lt_of_lt_of_le hz (by decide))) (by rw [sizeLine_eq]; simp; exact Nat.le_of_lt (Nat.lt_of_lt_of_le hz (by decide)))
  rw [show (up s h t).heap = h from rfl, Heap.get?_update_self (h := h) (a := a) _ hT (by simp [Obj.mapSeq, Obj.isFreed])]
  simp [Obj.mapSeq]
end
end Mine
end
section
open PySem PySem.W PyProof.Rows
set_option Elab.async false
set_option maxRecDepth 100000
set_option linter.unusedVariables false
namespace Mine
section
variable {prog : Program} {w : World} {M : Model} {A : Around} {E : Value → Shared → Prop} {s : Shared} {t : Nat} {K₀ K : KMap} {env : Env} {gs : List Str} {lk : List Var} {ws ws' : List (Addr × Obj)} {h : Heap}
theorem zip_turn {z TI TO ri it l : Addr} {x left step : Int} {a b y : Value} {io : Obj} {i n : Nat} {vs : List Value} {Q : Value → Shared → Prop}
    (F : Fm K₀ K env gs lk ((z, zpo .none TI TO) :: (TI, tup [.ref ri, .ref it] 0) :: (TO, tup [a, b] 0) :: (ri, rit x left step) :: (it, io) :: ws) h) (hio : IsLI io l i) (hl : K l = some (lst vs n)) (hx : vs[i]? = some y) (hleft : 0 < left)
    (q : ∀ T tk io' h' t', IsLI io' l (i + 1) → Fm K₀ K env gs lk ((T, tup [.int x tk, y] 0) :: (z, zpo (rawInt T) TI TO) :: (TI, tup [.ref ri, .ref it] 0) :: (TO, tup [.int x tk, y] 0) :: (ri, rit (x + step) (left - 1) step) :: (it, io') :: ws) h' → Q (.ref T) (up s h' t')) :
    wpAny (model prog w) A (Builtin.«zip.__next__» ⟨[.ref z], []⟩) (fun fin s' => ∃ v, fin = .done (.ret v) ∧ Q v s') E (up s h t) := by
  have hz := F.isIn (a := z) (.head _)
  show wpAny _ _ (field (.ref z) 2 >>= _) _ _ _
  refine wpAny_bind (wpAny_field (s := up s h t) hz rfl (x := .bool false) rfl ?_)
  show wpAny _ _ (field (.ref z) 3 >>= _) _ _ _
  refine wpAny_bind (wpAny_field (s := up s h t) hz rfl (x := .ref TI) rfl ?_)
  refine wpAny_bind (wpAny_seqItems (s := up s h t) (F.isIn (a := TI) (.tail _ (.head _))) rfl ?_)
  show wpAny _ _ (Builtin.SmallTypes.ownedTupleIsFree (.ref z) >>= _) _ _ _
  refine wpAny_bind ?_
  unfold Builtin.SmallTypes.ownedTupleIsFree
  refine wpAny_bind (wpAny_field (s := up s h t) hz rfl (x := .none) rfl (wpAny_pure ?_))
  simp only [if_true]
  refine wpAny_bind (wpAny_rule ?_)
  refine wpAny_bind (wpAny_field (s := up s h t) hz rfl (x := .ref TO) rfl ?_)
  refine wpAny_bind (setF F rfl .head (by simp) fun h1 F1 => ?_)
  change Fm K₀ K env gs lk ((z, zpo .ellipsis TI TO) :: _) h1 at F1
  refine wpAny_bind ?_
  simp only [List.zipIdx_cons, List.zipIdx_nil, List.forIn_cons, List.forIn_nil]
  refine wpAny_bind (wpAny_bind (wpAny_onRaise ?_))
  show wpAny _ _ (Builtin.SmallTypes.nextOf (.ref ri) >>= _) _ _ _
  refine wpAny_bind (nextOf_ (sp_rit F1 (.tail (.tail (.tail .head))) hleft fun tk h2 t2 F2 => ⟨_, rfl, wpAny_pure ?_⟩))
  refine wpAny_bind (wpAny_seqItems (s := up s h2 t2) (F2.isIn (a := TO) (.tail _ (.tail _ (.head _)))) rfl ?_)
  refine wpAny_bind (setS (i := 0) (x := .int x tk) F2 (.tail (.tail .head)) (by simp) fun h3 F3 => ?_)
  change Fm K₀ K env gs lk (_ :: _ :: (TO, tup [.int x tk, b] 0) :: _) h3 at F3
  refine wpAny_bind (wpAny_letGo (wpAny_pure ?_))
  refine wpAny_bind (wpAny_bind (wpAny_onRaise ?_))
  show wpAny _ _ (Builtin.SmallTypes.nextOf (.ref it) >>= _) _ _ _
  refine wpAny_bind (nextOf_ (sp_li (fun o' => _ :: _ :: _ :: _ :: (it, o') :: ws) F3 hio (fun o' => .tail (.tail (.tail (.tail .head)))) (F3.kept _ _ hl) hx fun io' h4 hio4 F4 => ⟨_, rfl, wpAny_pure ?_⟩))
  refine wpAny_bind (wpAny_seqItems (s := up s h4 t2) (F4.isIn (a := TO) (.tail _ (.tail _ (.head _)))) rfl ?_)
  refine wpAny_bind (setS (i := 1) (x := y) F4 (.tail (.tail .head)) (by simp) fun h5 F5 => ?_)
  change Fm K₀ K env gs lk (_ :: _ :: (TO, tup [.int x tk, y] 0) :: _) h5 at F5
  refine wpAny_bind (wpAny_letGo (wpAny_pure (wpAny_pure ?_)))
  refine wpAny_bind (wpAny_seqItems (s := up s h5 t2) (F5.isIn (a := TO) (.tail _ (.tail _ (.head _)))) rfl ?_)
  refine wpAny_bind (wpAny_newTuple ?_)
  have F6 := F5.push (tup [.int x tk, y] 0)
  show wpAny _ _ (Builtin.SmallTypes.ownedTupleHandOut (.ref z) (.ref h5.objs.size) >>= _) _ _ (up s (h5.push (tup [.int x tk, y] 0)) t2)
  refine wpAny_bind ?_
  unfold Builtin.SmallTypes.ownedTupleHandOut
  refine wpAny_bind (setF F6 rfl (.tail .head) (by simp) fun h7 F7 => ?_)
  change Fm K₀ K env gs lk (_ :: (z, zpo (rawInt h5.objs.size) TI TO) :: _) h7 at F7
  refine setF F7 rfl (.tail .head) (by simp) fun h8 F8 => ?_
  change Fm K₀ K env gs lk (_ :: (z, zpo (rawInt h5.objs.size) TI TO) :: _) h8 at F8
  exact wpAny_pure ⟨_, rfl, q _ _ _ _ _ hio4 F8⟩
theorem nx_zip {z TI TO ri it l : Addr} {x left step : Int} {a b y : Value} {io : Obj} {i n : Nat} {vs : List Value} {n1 n2 : Str} {p1 p2 pos : Pos} {k : Nat} {N : Shared → Prop} {Q : Unit → Shared → Prop} {lk1 lk2 : Tok → List Var} (hh : A.handled = none)
    (F : Fm K₀ K env gs lk ((z, zpo .none TI TO) :: (TI, tup [.ref ri, .ref it] 0) :: (TO, tup [a, b] 0) :: (ri, rit x left step) :: (it, io) :: ws) h) (hio : IsLI io l i) (hl : K l = some (lst vs n)) (hx : vs[i]? = some y) (hleft : 0 < left)
    (u1 : ∀ tk, Put lk n1 (.int x tk) (lk1 tk)) (u2 : ∀ tk, Put (lk1 tk) n2 y (lk2 tk))
    (q : ∀ tk io' h' t', IsLI io' l (i + 1) → Fm K₀ K env gs (lk2 tk) ((z, zpo .none TI TO) :: (TI, tup [.ref ri, .ref it] 0) :: (TO, tup [.int x tk, y] 0) :: (ri, rit (x + step) (left - 1) step) :: (it, io') :: ws) h' → Q () (up s h' t')) :
    wpAny (model prog w) A (pyNext (.ref z)) (fun r s₁ => match r with
      | none => N s₁
      | some v => wpAny (model prog w) A (letOwnedTupleGo (.Tuple [.Name n1 p1, .Name n2 p2] k pos) (.ref z) v) (fun _ s₁' => wpAny (model prog w) A (assign (.Tuple [.Name n1 p1, .Name n2 p2] k pos) env v) Q E s₁') E s₁) E (up s h t) := by
  have hT : (up s h t).TypeIs (.ref z) "zip" := ⟨_, F.isIn (.head _), rfl⟩
  unfold pyNext
  refine wpAny_bind (wpAny_attempt (wpAny_callSpecial?_slot (name := Str.ofString "__next__") hT PySem.F.slot_zip_next
    (wpAny_call_entry PySem.F.slot_zip_next hT PySem.F.entry_zip_next (zip_turn F hio hl hx hleft fun T tk io' h' t' hio' F' => ?_) (PySem.F.args_zip_next_1 _))))
  refine wpAny_pure ?_
  refine wpAny_letOwnedTupleGo_zip (s := up s h' t') (F'.isIn (a := z) (.tail _ (.head _))) fun h2 hz2 hs2 => ?_
  have F2 := F'.upd (.tail .head) hz2 fun b x hb e => (hs2.2 b hb).trans e
  exact asg2 (s := s) (h := h2) hh (F2.drop (List.sublist_cons_self _ _)) (F2.isIn (.head _)) (u1 tk) (u2 tk) fun h3 t3 F3 => q _ _ _ _ hio' F3
/-- the range comes to its end -/
theorem nx_zip_end1 {z TI TO ri it : Addr} {x left step : Int} {a b : Value} {io : Obj} {Q : Option Value → Shared → Prop} (hh : A.handled = none)
    (F : Fm K₀ K env gs lk ((z, zpo .none TI TO) :: (TI, tup [.ref ri, .ref it] 0) :: (TO, tup [a, b] 0) :: (ri, rit x left step) :: (it, io) :: ws) h) (hleft : left ≤ 0)
    (q : ∀ h', Fm K₀ K env gs lk ((it, io) :: ws) h' → Q none (up s h' t)) : wpAny (model prog w) A (pyNext (.ref z)) Q E (up s h t) := by
  have hz := F.isIn (a := z) (.head _)
  have hT : (up s h t).TypeIs (.ref z) "zip" := ⟨_, hz, rfl⟩
  unfold pyNext
  refine wpAny_bind (wpAny_attempt (wpAny_callSpecial?_slot (name := Str.ofString "__next__") hT PySem.F.slot_zip_next
    (wpAny_call_entry PySem.F.slot_zip_next hT PySem.F.entry_zip_next ?_ (PySem.F.args_zip_next_1 _))))
  show wpAny _ _ (field (.ref z) 2 >>= _) _ _ _
  refine wpAny_bind (wpAny_field (s := up s h t) hz rfl (x := .bool false) rfl ?_)
  show wpAny _ _ (field (.ref z) 3 >>= _) _ _ _
  refine wpAny_bind (wpAny_field (s := up s h t) hz rfl (x := .ref TI) rfl ?_)
  refine wpAny_bind (wpAny_seqItems (s := up s h t) (F.isIn (a := TI) (.tail _ (.head _))) rfl ?_)
  show wpAny _ _ (Builtin.SmallTypes.ownedTupleIsFree (.ref z) >>= _) _ _ _
  refine wpAny_bind ?_
  unfold Builtin.SmallTypes.ownedTupleIsFree
  refine wpAny_bind (wpAny_field (s := up s h t) hz rfl (x := .none) rfl (wpAny_pure ?_))
  simp only [if_true]
  refine wpAny_bind (wpAny_rule ?_)
  refine wpAny_bind (wpAny_field (s := up s h t) hz rfl (x := .ref TO) rfl ?_)
  refine wpAny_bind (setF F rfl .head (by simp) fun h1 F1 => ?_)
  change Fm K₀ K env gs lk ((z, zpo .ellipsis TI TO) :: _) h1 at F1
  refine wpAny_bind ?_
  simp only [List.zipIdx_cons, List.zipIdx_nil, List.forIn_cons, List.forIn_nil]
  refine wpAny_bind (wpAny_bind (wpAny_onRaise ?_))
  show wpAny _ _ (Builtin.SmallTypes.nextOf (.ref ri) >>= _) _ _ _
  refine wpAny_bind (nextOf_ (sp_rit_end hh F1 (.tail _ (.tail _ (.tail _ (.head _)))) hleft fun h2 e oe hn he hc F2 => ?_))
  refine setF' F2 rfl .head (by simp) fun h3 k3 F3 => ?_
  have hez : e ≠ z := fun x => by rw [x, F1.isIn (.head _)] at hn; cases hn
  refine wpAny_bind (wpAny_isInstance (T := "StopIteration") (b := true) ⟨oe, k3 _ _ hez he, hc⟩ isSubtype_stop ?_)
  exact wpAny_pure (q h3 (F3.drop (by repeat (first | exact List.Sublist.refl _ | apply List.Sublist.cons))))
/-- the list comes to its end -/
theorem nx_zip_end2 {z TI TO ri it l : Addr} {x left step : Int} {a b : Value} {io : Obj} {n : Nat} {vs : List Value} {Q : Option Value → Shared → Prop} (hh : A.handled = none)
    (F : Fm K₀ K env gs lk ((z, zpo .none TI TO) :: (TI, tup [.ref ri, .ref it] 0) :: (TO, tup [a, b] 0) :: (ri, rit x left step) :: (it, io) :: ws) h) (hio : IsEnd io l vs.length) (hl : K l = some (lst vs n)) (hleft : 0 < left)
    (q : ∀ io' h' t', IsDead io' → Fm K₀ K env gs lk ((it, io') :: ws) h' → Q none (up s h' t')) : wpAny (model prog w) A (pyNext (.ref z)) Q E (up s h t) := by
  have hz := F.isIn (a := z) (.head _)
  have hT : (up s h t).TypeIs (.ref z) "zip" := ⟨_, hz, rfl⟩
  unfold pyNext
  refine wpAny_bind (wpAny_attempt (wpAny_callSpecial?_slot (name := Str.ofString "__next__") hT PySem.F.slot_zip_next
    (wpAny_call_entry PySem.F.slot_zip_next hT PySem.F.entry_zip_next ?_ (PySem.F.args_zip_next_1 _))))
  show wpAny _ _ (field (.ref z) 2 >>= _) _ _ _
  refine wpAny_bind (wpAny_field (s := up s h t) hz rfl (x := .bool false) rfl ?_)
  show wpAny _ _ (field (.ref z) 3 >>= _) _ _ _
  refine wpAny_bind (wpAny_field (s := up s h t) hz rfl (x := .ref TI) rfl ?_)
  refine wpAny_bind (wpAny_seqItems (s := up s h t) (F.isIn (a := TI) (.tail _ (.head _))) rfl ?_)
  show wpAny _ _ (Builtin.SmallTypes.ownedTupleIsFree (.ref z) >>= _) _ _ _
  refine wpAny_bind ?_
  unfold Builtin.SmallTypes.ownedTupleIsFree
  refine wpAny_bind (wpAny_field (s := up s h t) hz rfl (x := .none) rfl (wpAny_pure ?_))
  simp only [if_true]
  refine wpAny_bind (wpAny_rule ?_)
  refine wpAny_bind (wpAny_field (s := up s h t) hz rfl (x := .ref TO) rfl ?_)
  refine wpAny_bind (setF F rfl .head (by simp) fun h1 F1 => ?_)
  change Fm K₀ K env gs lk ((z, zpo .ellipsis TI TO) :: _) h1 at F1
  refine wpAny_bind ?_
  simp only [List.zipIdx_cons, List.zipIdx_nil, List.forIn_cons, List.forIn_nil]
  refine wpAny_bind (wpAny_bind (wpAny_onRaise ?_))
  show wpAny _ _ (Builtin.SmallTypes.nextOf (.ref ri) >>= _) _ _ _
  refine wpAny_bind (nextOf_ (sp_rit F1 (.tail (.tail (.tail .head))) hleft fun tk h2 t2 F2 => ⟨_, rfl, wpAny_pure ?_⟩))
  refine wpAny_bind (wpAny_seqItems (s := up s h2 t2) (F2.isIn (a := TO) (.tail _ (.tail _ (.head _)))) rfl ?_)
  refine wpAny_bind (setS (i := 0) (x := .int x tk) F2 (.tail (.tail .head)) (by simp) fun h3 F3 => ?_)
  change Fm K₀ K env gs lk (_ :: _ :: (TO, tup [.int x tk, b] 0) :: _) h3 at F3
  refine wpAny_bind (wpAny_letGo (wpAny_pure ?_))
  refine wpAny_bind (wpAny_bind (wpAny_onRaise ?_))
  show wpAny _ _ (Builtin.SmallTypes.nextOf (.ref it) >>= _) _ _ _
  refine wpAny_bind (nextOf_ (sp_li_end (fun o' => _ :: _ :: _ :: _ :: (it, o') :: ws) hh F3 hio (fun o' => .tail (.tail (.tail (.tail .head)))) (F3.kept _ _ hl) fun io' h4 e oe hd hn he hc F4 => ?_))
  refine setF' F4 rfl .head (by simp) fun h5 k5 F5 => ?_
  have hez : e ≠ z := fun x => by rw [x, F3.isIn (.head _)] at hn; cases hn
  refine wpAny_bind (wpAny_isInstance (T := "StopIteration") (b := true) ⟨oe, k5 _ _ hez he, hc⟩ isSubtype_stop ?_)
  exact wpAny_pure (q io' h5 _ hd (F5.drop (by repeat (first | exact List.Sublist.refl _ | apply List.Sublist.cons))))
/-- a list's iterator at a place, or at its end -/
def LiSt (io : Obj) (l : Addr) (len i : Nat) : Prop := IsLI io l i ∨ (IsDead io ∧ len ≤ i)
theorem LiSt.cls {io : Obj} {l : Addr} {len i : Nat} (h : LiSt io l len i) : io.cls = .type "list_iterator" := h.elim (·.1) (·.1.1)
theorem LiSt.isEnd {io : Obj} {l : Addr} {len i : Nat} (h : LiSt io l len i) (hi : len ≤ i) : IsEnd io l len := h.elim (fun x => .inl ⟨i, x, hi⟩) (fun x => .inr x.1)
theorem LiSt.live {io : Obj} {l : Addr} {len i : Nat} (h : LiSt io l len i) (hi : i < len) : IsLI io l i := h.elim id (fun x => by lia)
/-- zip comes to its end -/
theorem nx_zip_end {z TI TO ri it l : Addr} {x left step : Int} {a b : Value} {io : Obj} {i n : Nat} {vs : List Value} {Q : Option Value → Shared → Prop} (hh : A.handled = none)
    (F : Fm K₀ K env gs lk ((z, zpo .none TI TO) :: (TI, tup [.ref ri, .ref it] 0) :: (TO, tup [a, b] 0) :: (ri, rit x left step) :: (it, io) :: ws) h) (hio : IsLI io l i) (hl : K l = some (lst vs n)) (he : left ≤ 0 ∨ vs.length ≤ i)
    (q : ∀ io' h' t', LiSt io' l vs.length i → Fm K₀ K env gs lk ((it, io') :: ws) h' → Q none (up s h' t')) : wpAny (model prog w) A (pyNext (.ref z)) Q E (up s h t) := by
  by_cases hl0 : left ≤ 0
  · exact nx_zip_end1 hh F hl0 fun h' F' => q io h' t (.inl hio) F'
  · have hi := he.resolve_left hl0
    exact nx_zip_end2 hh F (.inl ⟨i, hio, hi⟩) hl (by omega) fun io' h' t' hd F' => q io' h' t' (.inr ⟨hd, hi⟩) F'
end
end Mine
end
section
open PySem PySem.W PyProof.Rows PySem.Builtin
set_option Elab.async false
set_option maxRecDepth 100000
set_option maxHeartbeats 1000000
set_option linter.unusedVariables false
namespace Mine
/-- the key function gives a value's octets -/
def KeyOk (prog : Program) (w : World) (K : KMap) (f : Addr) (x : Value) (k : List UInt8) : Prop :=
  ∀ (A : Around) (Q : Value → Shared → Prop) (E : Value → Shared → Prop) (s : Shared) (h : Heap) (t : Nat), Room A 45 → Sub K h → (∀ tk h' t', Keeps h h' → Q (.bytes k.toArray tk) (up s h' t')) → wpC (model prog w) A (call (.ref f) [x]) Q E (up s h t)
theorem KeyOk.mono {prog : Program} {w : World} {K K' : KMap} {f : Addr} {x : Value} {k : List UInt8} (h : KeyOk prog w K f x k) (hk : KLe K K') : KeyOk prog w K' f x k :=
  fun A Q E s h' t hr hs q => h A Q E s h' t hr (hk.sub hs) q
/-- the first best place among the first ones -/
noncomputable def pick (bt : List UInt8 → List UInt8 → Bool) (ks : List (List UInt8)) : Nat → Nat
  | 0 => 0
  | m + 1 => if bt (ks.getD (m + 1) []) (ks.getD (pick bt ks m) []) then m + 1 else pick bt ks m
noncomputable def gtB (a b : List UInt8) : Bool := Bytes.order a b == .gt
theorem by_slot_gt : Slot "bytes" (cmpInfo .Gt).2.1 "bytes.__gt__" :=
  .of (owner := "bytes") (n := "__gt__") (by rw [typeLookup_type, builtinLookup_eq_fast]; kernel_rfl) (by decide +kernel) (by decide +kernel) (by decide +kernel)
    (by first | exact .inl (by decide +kernel) | exact .inr (by decide +kernel)) (by rw [isSubtype_type]; kernel_rfl)
theorem by_entry_gt : entryFor table "bytes.__gt__" = some Builtin.«bytes.__gt__» := entryFor_of_tree (by kernel_rfl)
theorem by_args_gt (a b : Value) : argsOk "bytes.__gt__" ⟨[a, b], []⟩ := by unfold argsOk; kernel_rfl
theorem gives_bytes_gt (b c : Array UInt8) (t u : Tok) : Gives («bytes.__gt__» ⟨[.bytes b t, .bytes c u], []⟩) (.val (.bool (gtB b.toList c.toList))) := by
  refine .of_wp fun M A E s Q hq => ?_
  show wpAny M A (isInstance (.bytes c u) (.type "bytes") >>= fun r => _) _ E s
  refine wpAny_bind (wpAny_isInstance (PySem.W.typeIs_bytes s c u) PySem.F.sub_bytes_bytes ?_)
  exact wpAny_pure ⟨_, rfl, hq⟩
section
variable {prog : Program} {w : World} {A : Around} {E : Value → Shared → Prop} {s : Shared} {b c : Array UInt8} {t u : Tok}
theorem gt_bytes {Q : Value → Shared → Prop} (h : Q (.bool (gtB b.toList c.toList)) s) : wpAny (model prog w) A (compareOp .Gt (.bytes b t) (.bytes c u)) Q E s :=
  compareOp_gives (op := .Gt) (PySem.W.typeIs_bytes s b t) (PySem.W.typeIs_bytes s c u) by_slot_gt by_entry_gt (by_args_gt _ _) (gives_bytes_gt b c t u) (fun e => nomatch e) h
end
section
variable {prog : Program} {w : World} {M : Model} {A : Around} {E : Value → Shared → Prop} {s : Shared} {t : Nat} {K₀ K : KMap} {env : Env} {gs : List Str} {lk : List Var} {ws ws' : List (Addr × Obj)} {h : Heap}
theorem wpC_tryCatch {α : Type} {m : Sem α} {k : Value → Sem α} {Q : α → Shared → Prop} (hm : wpC M A m Q (fun _ _ => False) s) : wpC M A (tryCatch m k) Q E s := fun Γ p hΓ hc => by
  rw [Sem.wp_tryCatch']
  exact Sem.wp_mono M Γ m (fun _ _ _ h' => h') (fun e p' s' h' => h'.elim) p s (hm Γ p hΓ hc)
/-- a call of a built-in function, in the clean logic -/
theorem C_function {id : String} {b : Builtin} {args : List Value} {kw : List (Str × Value)} {Q : Value → Shared → Prop} (hk : builtinKind id = none) (hp : plainId id = true) (hb : entryFor table id = some b) (ha : argsOk id ⟨args, kw⟩) (hd : Builtin.Bytes.decodersThatHold.contains id = false)
    (hc : wpC (model prog w) A.in1 (b ⟨args, kw⟩) (fun fin s' => match fin with
      | .done f => (match (Except.ok f : Result) with | .ok (.ret v) => Q v s' | .ok _ => False | .error e => E e s')
      | .again c' => c'.quiet = true ∧ decoder c' = false ∧ codeC (model prog w) A c' (fun r s' => match r with | .ok (.ret v) => Q v s' | .ok _ => False | .error e => E e s') s') E s) :
    wpC (model prog w) A (call (.builtin id) args kw) Q E s := by
  refine wpC_call (codeC_of_tree ?_)
  show wpC _ A.in1 (do checkBuiltinCall id ⟨args, kw⟩; again (.builtin id ⟨args, kw⟩)) _ _ s
  have hch : checkBuiltinCall id ⟨args, kw⟩ = pure () := by
    simp only [checkBuiltinCall, hk]
    cases hsig : Manifest.signature? id with
    | none => rfl
    | some sig => have ha' : Bind.checkArgs id sig ⟨args, kw⟩ = pure () := by simpa only [argsOk, hsig] using ha
                  simp only [ha']
  refine wpC_bind (wpC_of_eq hch ?_)
  refine wpC_pure ⟨plainId_quiet hp _, hd, codeC_of_tree ?_⟩
  rw [Around.under_plainId hp _, den_builtin hb]
  refine wpC_mono hc (fun fin s' x => ?_) fun _ _ x => x
  cases fin with
  | done f => exact x
  | again c' => exact x
theorem upd_second {S it : Addr} {oS io io2 : Obj} {ws2 : List (Addr × Obj)} (F : Fm K₀ K env gs lk ((S, oS) :: (it, io) :: ws) h) (u : Upd1 ((S, oS) :: (it, io) :: ws) it io io2 ws2) : ws2 = (S, oS) :: (it, io2) :: ws := by
  have nd := (List.nodup_append.mp ((List.map_append (f := Prod.fst) ▸ (List.nodup_cons.mp F.apart).2))).2.1
  simp only [List.map_cons, List.nodup_cons] at nd
  cases u with
  | head => exact absurd (.head _) nd.1
  | tail u =>
    cases u with
    | head => rfl
    | tail u => exact absurd (List.mem_map_of_mem (f := Prod.fst) u.mem) nd.2.1
/-- an own list's items are set anew -/
theorem setL {a : Addr} {vs : List Value} {n : Nat} {Q : Unit → Shared → Prop} (g : Array Value → Array Value) (us : List Value) (F : Fm K₀ K env gs lk ((a, lst vs n) :: ws) h) (hg : g vs.toArray = us.toArray) (hz : vs.length < 1000000) (hz2 : us.length < 1000000)
    (q : ∀ c h', Fm K₀ K env gs lk ((a, lst us c) :: ws) h' → Q () (up s h' t)) : wpAny (model prog w) A (updateSeq a g) Q E (up s h t) := by
  have hT : (up s h t).heap.get? a = some (lst vs n) := F.isIn (.head _)
  have e := get?_update_seq (h := h) (c := "list") hT g
  rw [hg] at e
  exact wpAny_updateSeq hT rfl (q _ _ (F.upd .head e fun b y hb e => (Heap.get?_update_other _ _ (Ne.symm hb)).trans e)) (by rw [sizeLine_eq]; simp; exact Nat.le_of_lt (Nat.lt_of_lt_of_le hz (by decide))) (by rw [hg, sizeLine_eq]; simp; exact Nat.le_of_lt (Nat.lt_of_lt_of_le hz2 (by decide)))
theorem min_args (a d v : Value) : argsOk "min" ⟨[a], [(Str.ofString "default", d), (Str.ofString "key", v)]⟩ := by unfold argsOk; kernel_rfl
theorem min_loop_dec (args : Args) : decoder (.builtin "min.loop" args) = false := by show Builtin.Bytes.decodersThatHold.contains "min.loop" = false; decide +kernel
theorem C_min_loop {it l f S : Addr} {d : Value} {vs : List Value} {n : Nat} {ks : List (List UInt8)} {R : Result → Shared → Prop} (hr : Room A 60) (hl : K l = some (lst vs n)) (hlen : ks.length = vs.length)
    (hkv : ∀ (i : Nat) x k, vs[i]? = some x → ks[i]? = some k → KeyOk prog w K f x k)
    (hR : ∀ x io' c' h' t', vs[pick ltB ks (vs.length - 1)]? = some x → Fm K₀ K env gs lk ((S, lst [] c') :: (it, io') :: ws) h' → R (.ok (.ret x)) (up s h' t'))
    {m : Nat} {io : Obj} {vb : Value} {tb : Tok} {c : Nat} (hm : m < vs.length) (hio : IsLI io l (m + 1)) (hb : vs[pick ltB ks m]? = some vb)
    (F : Fm K₀ K env gs lk ((S, lst [vb, .bytes (ks.getD (pick ltB ks m) []).toArray tb] c) :: (it, io) :: ws) h) :
    codeC (model prog w) A (.builtin "min.loop" ⟨[.ref it, .ref f, .ref S], [(Str.ofString "default", d)]⟩) R (up s h t) := by
  have hname : (toString "min" ++ toString ".loop" : String) = "min.loop" := by decide
  have hh : A.in1.handled = none := hr.hd
  refine codeC_loop (plainId_quiet PySem.F.plain_min_loop _) (min_loop_dec _) (fun g s' => ∀ P : Prop, (∀ m io vb tb c h t, s' = up s h t → g = vs.length - m → m < vs.length → IsLI io l (m + 1) → vs[pick ltB ks m]? = some vb → Fm K₀ K env gs lk ((S, lst [vb, .bytes (ks.getD (pick ltB ks m) []).toArray tb] c) :: (it, io) :: ws) h → P) → P) ?_ (vs.length - m) (fun _ kk => kk m io vb tb c h t rfl rfl hm hio hb F)
  clear hm hio hb F
  rintro g s' hEx
  refine hEx _ ?_
  clear hEx
  rintro m io vb tb c h1 t1 rfl rfl hm hio hb F
  rw [Around.under_plainId PySem.F.plain_min_loop _, den_builtin PySem.F.entry_min_loop]
  show wpC _ A.in1 (seqItems? (.ref S) >>= _) _ _ _
  refine wpC_bind (wpC_of (wpAny_seqItems (s := up s h1 t1) (F.isIn (.head _)) rfl ?_))
  show wpC _ A.in1 (tryCatch (pyNext (.ref it)) _ >>= _) _ _ _
  rcases Nat.lt_or_ge (m + 1) vs.length with hlt | hge
  · obtain ⟨x, hx⟩ : ∃ x, vs[m + 1]? = some x := ⟨_, List.getElem?_eq_getElem hlt⟩
    have hk1 : ks[m + 1]? = some (ks.getD (m + 1) []) := by rw [List.getElem?_eq_getElem (by exact Nat.lt_of_lt_of_eq hlt hlen.symm)]; simp [List.getD, List.getElem?_eq_getElem (show m + 1 < ks.length by exact Nat.lt_of_lt_of_eq hlt hlen.symm)]
    refine wpC_bind (wpC_tryCatch (wpC_of (nx_l F hio (.tail _ (.head _)) (F.kept _ _ hl) hx (fun io2 ws2 h2 hio2 u2 F2 => ?_) (fun o' => ⟨_, .tail .head⟩))))
    obtain rfl : ws2 = (S, _) :: (it, io2) :: ws := upd_second F u2
    show wpC _ A.in1 (tryCatch (holding [x] (call (.ref f) [x])) _ >>= _) _ _ _
    refine wpC_bind (wpC_tryCatch (wpC_holding (hkv _ _ _ hx hk1 A.in1 _ _ s h2 t1 (hr.in1 (by decide)) F2.kept fun tk h3 t3 hk3 => ?_)))
    have F3 := F2.keeps hk3
    show wpC _ A.in1 (tryCatch (holding [x, .bytes (ks.getD (m + 1) []).toArray tk] (richCompare .Lt (.bytes (ks.getD (m + 1) []).toArray tk) (.bytes (ks.getD (pick ltB ks m) []).toArray tb) >>= _)) _ >>= _) _ _ _
    refine wpC_bind (wpC_tryCatch (wpC_holding (wpC_bind (wpC_of (lt_bytes (s := up s h3 t3) ?_)))))
    refine wpC_bind (wpC_holding (wpC_of (wpAny_truthy_bool ?_)))
    refine wpC_bind (wpC_of (wpAny_letGo (wpC_pure ?_)))
    have hp : pick ltB ks (m + 1) = if ltB (ks.getD (m + 1) []) (ks.getD (pick ltB ks m) []) then m + 1 else pick ltB ks m := rfl
    show wpC _ A.in1 (if ltB (ks.getD (m + 1) []) (ks.getD (pick ltB ks m) []) = true then _ else _) _ _ _
    cases hbt : ltB (ks.getD (m + 1) []) (ks.getD (pick ltB ks m) []) with
    | true =>
      rw [hbt, if_pos rfl] at hp
      rw [if_pos rfl]
      refine wpC_bind (wpC_of ?_)
      refine setL (fun _ => #[x, .bytes (ks.getD (m + 1) []).toArray tk]) [x, .bytes (ks.getD (m + 1) []).toArray tk] F3 rfl (by simp) (by simp) fun c4 h4 F4 => ?_
      refine wpC_bind (wpC_of (wpAny_letGo ?_))
      rw [hname]
      refine wpC_pure (.inl ⟨rfl, vs.length - (m + 1), by (clear hlen hlt hp; omega), fun _ kk => kk (m + 1) io2 x tk c4 h4 t3 rfl rfl hlt hio2 ?_ ?_⟩)
      · rw [hp]; exact hx
      · rw [hp]; exact F4
    | false =>
      rw [hbt, if_neg (by decide)] at hp
      rw [if_neg (by decide)]
      refine wpC_bind (wpC_of (wpAny_letGo ?_))
      rw [hname]
      refine wpC_pure (.inl ⟨rfl, vs.length - (m + 1), by (clear hlen hlt hp; omega), fun _ kk => kk (m + 1) io2 vb tb c h3 t3 rfl rfl hlt hio2 ?_ ?_⟩)
      · rw [hp]; exact hb
      · rw [hp]; exact F3
  · refine wpC_bind (wpC_tryCatch (wpC_of (nx_li_end (fun o' => _ :: (it, o') :: ws) hh F (.inl ⟨_, hio, hge⟩) (fun o' => .tail .head) (F.kept _ _ hl) fun io2 h2 hd F2 => ?_)))
    show wpC _ A.in1 (updateSeq S (fun _ => #[]) >>= _) _ _ _
    refine wpC_bind (wpC_of (setL (fun _ => #[]) [] F2 rfl (by simp) (by simp) fun c4 h4 F4 => ?_))
    refine wpC_bind (wpC_of (wpAny_letGo ?_))
    refine wpC_pure ?_
    obtain rfl : m = vs.length - 1 := by omega
    exact hR vb io2 c4 h4 _ hb F4
theorem C_min {it l f : Addr} {d : Value} {vs : List Value} {n : Nat} {io : Obj} {ks : List (List UInt8)} {Q : Value → Shared → Prop} (hr : Room A 60) (hl : K l = some (lst vs n)) (hlen : ks.length = vs.length) (hne : 0 < vs.length)
    (hkv : ∀ (i : Nat) x k, vs[i]? = some x → ks[i]? = some k → KeyOk prog w K f x k) (F : Fm K₀ K env gs lk ((it, io) :: ws) h) (hio : IsLI io l 0)
    (q : ∀ x io' h' t', vs[pick ltB ks (vs.length - 1)]? = some x → Fm K₀ K env gs lk ((it, io') :: ws) h' → Q x (up s h' t')) :
    wpC (model prog w) A (call (.builtin "min") [.ref it] [(Str.ofString "default", d), (Str.ofString "key", .ref f)]) Q E (up s h t) := by
  have hname : (toString "min" ++ toString ".loop" : String) = "min.loop" := by decide
  refine C_function PySem.F.kind_min PySem.F.plain_min PySem.F.entry_min (min_args _ _ _) (by decide +kernel) ?_
  show wpC _ A.in1 (Builtin.Builtins.bindParams "min" ["key", "default"] 0 ⟨[], [(Str.ofString "default", d), (Str.ofString "key", .ref f)]⟩ >>= _) _ _ _
  refine wpC_bind (wpC_of_eq (show Builtin.Builtins.bindParams "min" ["key", "default"] 0 ⟨[], [(Str.ofString "default", d), (Str.ofString "key", .ref f)]⟩ = pure [some (.ref f), some d] from rfl) ?_)
  refine wpC_bind (wpC_pure ?_)
  refine wpC_bind (wpC_of (wpAny_pyIter_listiter (s := up s h t) ⟨io, F.isIn (.head _), hio.1, hio.2⟩ ?_))
  refine wpC_bind (wpC_of (wpAny_newList ?_ (Nat.zero_le _)))
  rw [hname]
  have F1 := F.push (lst [] 0)
  show wpC _ _ _ _ _ (up s (h.push (lst [] 0)) t)
  generalize h.push (lst [] 0) = h1 at F1 ⊢
  show wpC _ _ (again (.builtin "min.loop" ⟨[.ref it, .ref f, .ref h.objs.size], [(Str.ofString "default", d)]⟩)) _ _ _
  generalize h.objs.size = S at F1 ⊢
  refine wpC_pure ⟨plainId_quiet PySem.F.plain_min_loop _, min_loop_dec _, codeC_of_tree ?_⟩
  rw [Around.under_plainId PySem.F.plain_min_loop _, den_builtin PySem.F.entry_min_loop]
  show wpC _ A.in1 (seqItems? (.ref S) >>= _) _ _ _
  refine wpC_bind (wpC_of (wpAny_seqItems (s := up s h1 t) (F1.isIn (.head _)) rfl ?_))
  show wpC _ A.in1 (tryCatch (pyNext (.ref it)) _ >>= _) _ _ _
  obtain ⟨x, hx⟩ : ∃ x, vs[0]? = some x := ⟨_, List.getElem?_eq_getElem hne⟩
  have hk1 : ks[0]? = some (ks.getD 0 []) := by rw [List.getElem?_eq_getElem (by exact Nat.lt_of_lt_of_eq hne hlen.symm)]; simp [List.getD, List.getElem?_eq_getElem (show 0 < ks.length by exact Nat.lt_of_lt_of_eq hne hlen.symm)]
  refine wpC_bind (wpC_tryCatch (wpC_of (nx_l F1 hio (.tail _ (.head _)) (F1.kept _ _ hl) hx (fun io2 ws2 h2 hio2 u2 F2 => ?_) (fun o' => ⟨_, .tail .head⟩))))
  obtain rfl : ws2 = (S, _) :: (it, io2) :: ws := upd_second F1 u2
  show wpC _ A.in1 (tryCatch (holding [x] (call (.ref f) [x])) _ >>= _) _ _ _
  refine wpC_bind (wpC_tryCatch (wpC_holding (hkv _ _ _ hx hk1 A.in1 _ _ s h2 t (hr.in1 (by decide)) F2.kept fun tk h3 t3 hk3 => ?_)))
  have F3 := F2.keeps hk3
  show wpC _ A.in1 (updateSeq S (fun _ => #[x, .bytes (ks.getD 0 []).toArray tk]) >>= _) _ _ _
  refine wpC_bind (wpC_of (setL (fun _ => #[x, .bytes (ks.getD 0 []).toArray tk]) [x, .bytes (ks.getD 0 []).toArray tk] F3 rfl (by simp) (by simp) fun c4 h4 F4 => ?_))
  rw [hname]
  refine wpC_pure ⟨plainId_quiet PySem.F.plain_min_loop _, min_loop_dec _, C_min_loop hr hl hlen hkv (fun x io' c' h' t' e F' => q x io' h' t' e (F'.drop (List.sublist_cons_self _ _))) (m := 0) hne hio2 hx F4⟩
theorem max_args (a d v : Value) : argsOk "max" ⟨[a], [(Str.ofString "default", d), (Str.ofString "key", v)]⟩ := by unfold argsOk; kernel_rfl
theorem max_loop_dec (args : Args) : decoder (.builtin "max.loop" args) = false := by show Builtin.Bytes.decodersThatHold.contains "max.loop" = false; decide +kernel
theorem C_max_loop {it l f S : Addr} {d : Value} {vs : List Value} {n : Nat} {ks : List (List UInt8)} {R : Result → Shared → Prop} (hr : Room A 60) (hl : K l = some (lst vs n)) (hlen : ks.length = vs.length)
    (hkv : ∀ (i : Nat) x k, vs[i]? = some x → ks[i]? = some k → KeyOk prog w K f x k)
    (hR : ∀ x io' c' h' t', vs[pick gtB ks (vs.length - 1)]? = some x → Fm K₀ K env gs lk ((S, lst [] c') :: (it, io') :: ws) h' → R (.ok (.ret x)) (up s h' t'))
    {m : Nat} {io : Obj} {vb : Value} {tb : Tok} {c : Nat} (hm : m < vs.length) (hio : IsLI io l (m + 1)) (hb : vs[pick gtB ks m]? = some vb)
    (F : Fm K₀ K env gs lk ((S, lst [vb, .bytes (ks.getD (pick gtB ks m) []).toArray tb] c) :: (it, io) :: ws) h) :
    codeC (model prog w) A (.builtin "max.loop" ⟨[.ref it, .ref f, .ref S], [(Str.ofString "default", d)]⟩) R (up s h t) := by
  have hname : (toString "max" ++ toString ".loop" : String) = "max.loop" := by decide
  have hh : A.in1.handled = none := hr.hd
  refine codeC_loop (plainId_quiet PySem.F.plain_max_loop _) (max_loop_dec _) (fun g s' => ∀ P : Prop, (∀ m io vb tb c h t, s' = up s h t → g = vs.length - m → m < vs.length → IsLI io l (m + 1) → vs[pick gtB ks m]? = some vb → Fm K₀ K env gs lk ((S, lst [vb, .bytes (ks.getD (pick gtB ks m) []).toArray tb] c) :: (it, io) :: ws) h → P) → P) ?_ (vs.length - m) (fun _ kk => kk m io vb tb c h t rfl rfl hm hio hb F)
  clear hm hio hb F
  rintro g s' hEx
  refine hEx _ ?_
  clear hEx
  rintro m io vb tb c h1 t1 rfl rfl hm hio hb F
  rw [Around.under_plainId PySem.F.plain_max_loop _, den_builtin PySem.F.entry_max_loop]
  show wpC _ A.in1 (seqItems? (.ref S) >>= _) _ _ _
  refine wpC_bind (wpC_of (wpAny_seqItems (s := up s h1 t1) (F.isIn (.head _)) rfl ?_))
  show wpC _ A.in1 (tryCatch (pyNext (.ref it)) _ >>= _) _ _ _
  rcases Nat.lt_or_ge (m + 1) vs.length with hlt | hge
  · obtain ⟨x, hx⟩ : ∃ x, vs[m + 1]? = some x := ⟨_, List.getElem?_eq_getElem hlt⟩
    have hk1 : ks[m + 1]? = some (ks.getD (m + 1) []) := by rw [List.getElem?_eq_getElem (by exact Nat.lt_of_lt_of_eq hlt hlen.symm)]; simp [List.getD, List.getElem?_eq_getElem (show m + 1 < ks.length by exact Nat.lt_of_lt_of_eq hlt hlen.symm)]
    refine wpC_bind (wpC_tryCatch (wpC_of (nx_l F hio (.tail _ (.head _)) (F.kept _ _ hl) hx (fun io2 ws2 h2 hio2 u2 F2 => ?_) (fun o' => ⟨_, .tail .head⟩))))
    obtain rfl : ws2 = (S, _) :: (it, io2) :: ws := upd_second F u2
    show wpC _ A.in1 (tryCatch (holding [x] (call (.ref f) [x])) _ >>= _) _ _ _
    refine wpC_bind (wpC_tryCatch (wpC_holding (hkv _ _ _ hx hk1 A.in1 _ _ s h2 t1 (hr.in1 (by decide)) F2.kept fun tk h3 t3 hk3 => ?_)))
    have F3 := F2.keeps hk3
    show wpC _ A.in1 (tryCatch (holding [x, .bytes (ks.getD (m + 1) []).toArray tk] (richCompare .Gt (.bytes (ks.getD (m + 1) []).toArray tk) (.bytes (ks.getD (pick gtB ks m) []).toArray tb) >>= _)) _ >>= _) _ _ _
    refine wpC_bind (wpC_tryCatch (wpC_holding (wpC_bind (wpC_of (gt_bytes (s := up s h3 t3) ?_)))))
    refine wpC_bind (wpC_holding (wpC_of (wpAny_truthy_bool ?_)))
    refine wpC_bind (wpC_of (wpAny_letGo (wpC_pure ?_)))
    have hp : pick gtB ks (m + 1) = if gtB (ks.getD (m + 1) []) (ks.getD (pick gtB ks m) []) then m + 1 else pick gtB ks m := rfl
    show wpC _ A.in1 (if gtB (ks.getD (m + 1) []) (ks.getD (pick gtB ks m) []) = true then _ else _) _ _ _
    cases hbt : gtB (ks.getD (m + 1) []) (ks.getD (pick gtB ks m) []) with
    | true =>
      rw [hbt, if_pos rfl] at hp
      rw [if_pos rfl]
      refine wpC_bind (wpC_of ?_)
      refine setL (fun _ => #[x, .bytes (ks.getD (m + 1) []).toArray tk]) [x, .bytes (ks.getD (m + 1) []).toArray tk] F3 rfl (by simp) (by simp) fun c4 h4 F4 => ?_
      refine wpC_bind (wpC_of (wpAny_letGo ?_))
      rw [hname]
      refine wpC_pure (.inl ⟨rfl, vs.length - (m + 1), by (clear hlen hlt hp; omega), fun _ kk => kk (m + 1) io2 x tk c4 h4 t3 rfl rfl hlt hio2 ?_ ?_⟩)
      · rw [hp]; exact hx
      · rw [hp]; exact F4
    | false =>
      rw [hbt, if_neg (by decide)] at hp
      rw [if_neg (by decide)]
      refine wpC_bind (wpC_of (wpAny_letGo ?_))
      rw [hname]
      refine wpC_pure (.inl ⟨rfl, vs.length - (m + 1), by (clear hlen hlt hp; omega), fun _ kk => kk (m + 1) io2 vb tb c h3 t3 rfl rfl hlt hio2 ?_ ?_⟩)
      · rw [hp]; exact hb
      · rw [hp]; exact F3
  · refine wpC_bind (wpC_tryCatch (wpC_of (nx_li_end (fun o' => _ :: (it, o') :: ws) hh F (.inl ⟨_, hio, hge⟩) (fun o' => .tail .head) (F.kept _ _ hl) fun io2 h2 hd F2 => ?_)))
    show wpC _ A.in1 (updateSeq S (fun _ => #[]) >>= _) _ _ _
    refine wpC_bind (wpC_of (setL (fun _ => #[]) [] F2 rfl (by simp) (by simp) fun c4 h4 F4 => ?_))
    refine wpC_bind (wpC_of (wpAny_letGo ?_))
    refine wpC_pure ?_
    obtain rfl : m = vs.length - 1 := by omega
    exact hR vb io2 c4 h4 _ hb F4
theorem C_max {it l f : Addr} {d : Value} {vs : List Value} {n : Nat} {io : Obj} {ks : List (List UInt8)} {Q : Value → Shared → Prop} (hr : Room A 60) (hl : K l = some (lst vs n)) (hlen : ks.length = vs.length) (hne : 0 < vs.length)
    (hkv : ∀ (i : Nat) x k, vs[i]? = some x → ks[i]? = some k → KeyOk prog w K f x k) (F : Fm K₀ K env gs lk ((it, io) :: ws) h) (hio : IsLI io l 0)
    (q : ∀ x io' h' t', vs[pick gtB ks (vs.length - 1)]? = some x → Fm K₀ K env gs lk ((it, io') :: ws) h' → Q x (up s h' t')) :
    wpC (model prog w) A (call (.builtin "max") [.ref it] [(Str.ofString "default", d), (Str.ofString "key", .ref f)]) Q E (up s h t) := by
  have hname : (toString "max" ++ toString ".loop" : String) = "max.loop" := by decide
  refine C_function PySem.F.kind_max PySem.F.plain_max PySem.F.entry_max (max_args _ _ _) (by decide +kernel) ?_
  show wpC _ A.in1 (Builtin.Builtins.bindParams "max" ["key", "default"] 0 ⟨[], [(Str.ofString "default", d), (Str.ofString "key", .ref f)]⟩ >>= _) _ _ _
  refine wpC_bind (wpC_of_eq (show Builtin.Builtins.bindParams "max" ["key", "default"] 0 ⟨[], [(Str.ofString "default", d), (Str.ofString "key", .ref f)]⟩ = pure [some (.ref f), some d] from rfl) ?_)
  refine wpC_bind (wpC_pure ?_)
  refine wpC_bind (wpC_of (wpAny_pyIter_listiter (s := up s h t) ⟨io, F.isIn (.head _), hio.1, hio.2⟩ ?_))
  refine wpC_bind (wpC_of (wpAny_newList ?_ (Nat.zero_le _)))
  rw [hname]
  have F1 := F.push (lst [] 0)
  show wpC _ _ _ _ _ (up s (h.push (lst [] 0)) t)
  generalize h.push (lst [] 0) = h1 at F1 ⊢
  show wpC _ _ (again (.builtin "max.loop" ⟨[.ref it, .ref f, .ref h.objs.size], [(Str.ofString "default", d)]⟩)) _ _ _
  generalize h.objs.size = S at F1 ⊢
  refine wpC_pure ⟨plainId_quiet PySem.F.plain_max_loop _, max_loop_dec _, codeC_of_tree ?_⟩
  rw [Around.under_plainId PySem.F.plain_max_loop _, den_builtin PySem.F.entry_max_loop]
  show wpC _ A.in1 (seqItems? (.ref S) >>= _) _ _ _
  refine wpC_bind (wpC_of (wpAny_seqItems (s := up s h1 t) (F1.isIn (.head _)) rfl ?_))
  show wpC _ A.in1 (tryCatch (pyNext (.ref it)) _ >>= _) _ _ _
  obtain ⟨x, hx⟩ : ∃ x, vs[0]? = some x := ⟨_, List.getElem?_eq_getElem hne⟩
  have hk1 : ks[0]? = some (ks.getD 0 []) := by rw [List.getElem?_eq_getElem (by exact Nat.lt_of_lt_of_eq hne hlen.symm)]; simp [List.getD, List.getElem?_eq_getElem (show 0 < ks.length by exact Nat.lt_of_lt_of_eq hne hlen.symm)]
  refine wpC_bind (wpC_tryCatch (wpC_of (nx_l F1 hio (.tail _ (.head _)) (F1.kept _ _ hl) hx (fun io2 ws2 h2 hio2 u2 F2 => ?_) (fun o' => ⟨_, .tail .head⟩))))
  obtain rfl : ws2 = (S, _) :: (it, io2) :: ws := upd_second F1 u2
  show wpC _ A.in1 (tryCatch (holding [x] (call (.ref f) [x])) _ >>= _) _ _ _
  refine wpC_bind (wpC_tryCatch (wpC_holding (hkv _ _ _ hx hk1 A.in1 _ _ s h2 t (hr.in1 (by decide)) F2.kept fun tk h3 t3 hk3 => ?_)))
  have F3 := F2.keeps hk3
  show wpC _ A.in1 (updateSeq S (fun _ => #[x, .bytes (ks.getD 0 []).toArray tk]) >>= _) _ _ _
  refine wpC_bind (wpC_of (setL (fun _ => #[x, .bytes (ks.getD 0 []).toArray tk]) [x, .bytes (ks.getD 0 []).toArray tk] F3 rfl (by simp) (by simp) fun c4 h4 F4 => ?_))
  rw [hname]
  refine wpC_pure ⟨plainId_quiet PySem.F.plain_max_loop _, max_loop_dec _, C_max_loop hr hl hlen hkv (fun x io' c' h' t' e F' => q x io' h' t' e (F'.drop (List.sublist_cons_self _ _))) (m := 0) hne hio2 hx F4⟩
end
end Mine
end
section
open PySem PySem.W PyProof.Rows PySem.SeqAt
set_option Elab.async false
set_option maxRecDepth 100000
set_option linter.unusedVariables false
namespace Mine
section
variable {prog : Program} {w : World} {M : Model} {A : Around} {E : Value → Shared → Prop} {s : Shared} {t : Nat} {K₀ K : KMap} {env : Env} {gs : List Str} {lk : List Var} {ws ws' : List (Addr × Obj)} {h : Heap}
theorem oneLt_bytes {b c : Array UInt8} {t u : Tok} {Q : Bool → Shared → Prop} (q : Q (ltB b.toList c.toList) s) : wpAny (model prog w) A (oneLt' true (.bytes b t) (.bytes c u)) Q E s := by
  rw [oneLt'_eq]
  simp only [if_true]
  refine wpAny_bind (wpAny_cRoomFor_byValue rfl ?_)
  refine wpAny_bind (wpAny_callSpecialIfBound?_slot (PySem.W.typeIs_bytes s b t) by_slot_lt (wpAny_call_entry by_slot_lt (PySem.W.typeIs_bytes s b t) by_entry_lt ?_ (by_args_lt _ _)))
  show wpAny _ _ (isInstance (.bytes c u) (.type "bytes") >>= fun r => _) _ E s
  refine wpAny_bind (wpAny_isInstance (PySem.W.typeIs_bytes s c u) PySem.F.sub_bytes_bytes ?_)
  exact wpAny_pure ⟨.bool (ltB b.toList c.toList), rfl, wpAny_truthy_bool q⟩
theorem keyLt_ents {x y : Value} {e f : Ent} {Q : Bool → Shared → Prop} (hs : Sub K h) (hx : EntAt K x e) (hy : EntAt K y f) (hd : e.key = f.key → e.ord ≠ f.ord ∨ e.item = f.item) (q : Q (ltE e f) (up s h t)) :
    wpAny (model prog w) A (keyLt' (tuples' true) x y) Q E (up s h t) := by
  obtain ⟨a, t1, u, n, rfl, h1⟩ := hx
  obtain ⟨b, t', u', n', rfl, h2⟩ := hy
  have h1 := hs _ _ h1
  have h2 := hs _ _ h2
  refine kat_lt (s := up s h t) h1 rfl h2 rfl ?_
  show KatLex prog w A true false Q [(.bytes e.key.toArray t1, .bytes f.key.toArray t'), (.int e.ord u, .int f.ord u'), (e.item, f.item)] 0 (up s h t)
  refine kat_cons (eqAt_bytes A (up s h t) e.key.toArray f.key.toArray t1 t' prog w _ _ ?_)
  simp only [ltE] at q
  refine kat_go (fun hk => kat_yes ?_) (fun hk => kat_no ?_)
  · have hk : e.key = f.key := by simpa using hk
    rw [if_pos (by simp [hk])] at q
    refine kat_cons (EqAt.int_int (A := A) (s := up s h t) e.ord u f.ord u' prog w _ _ ?_)
    refine kat_go (fun ho => kat_yes ?_) (fun ho => kat_no ?_)
    · have ho : e.ord = f.ord := by simpa using ho
      have hi : e.item = f.item := (hd hk).resolve_left (fun z => z ho)
      rw [hi]
      refine kat_cons (EqAt.same f.item prog w _ _ ?_)
      refine kat_yes (kat_nil ?_)
      rw [ho] at q; simpa using q
    · show wpAny _ _ (oneLt' false _ _) _ _ _
      refine kat_one _ _ (PyProof.Rows.lt_int ?_)
      exact q
  · show wpAny _ _ (oneLt' true _ _) _ _ _
    refine oneLt_bytes ?_
    have hk : ¬ ((e.key == f.key) = true) := by
      intro z; rw [show e.key = f.key by simpa using z] at hk; simp at hk
    rw [if_neg hk] at q
    exact q
theorem kas_of_path {α : Type} {lt : Nat → Nat → Bool} {n : Nat} {P : α → Prop} {cmp : Nat → Nat → (Bool → Shared → Prop) → Shared → Prop} {Q : α → Shared → Prop} {S : Shared} (hc : ∀ i j, i < n → j < n → ∀ C : Bool → Shared → Prop, C (lt i j) S → cmp i j C S) (hq : ∀ a, P a → Q a S) :
    ∀ {t : KasT α}, Path lt n P t → t.kasWp cmp Q S
  | .ret a, h => hq a h
  | .ask i j k, h => hc i j h.1 h.2.1 _ (kas_of_path hc hq h.2.2)
theorem katRev_at (b : Bool) (l : List Value) {i : Nat} (hi : i < l.length) : (katRev b l).getD i Value.none = l.getD (rvI b l.length i) Value.none := by
  cases b with
  | false => rfl
  | true =>
    show l.reverse.getD i Value.none = l.getD (l.length - 1 - i) Value.none
    simp only [List.getD_eq_getElem?_getD]
    rw [List.getElem?_reverse hi]
theorem runs_ {κ : SortKind} {ks vs : List Value} {b : Bool} {lt : Nat → Nat → Bool} {Q : SortSt → Shared → Prop} {S : Shared} (wo : Swo lt) (hl : ks.length = vs.length) (h2 : 2 ≤ vs.length) (h64 : vs.length < 64)
    (hc : ∀ i j, i < vs.length → j < vs.length → ∀ C : Bool → Shared → Prop, C (lt i j) S → wpAny (model prog w) A (keyLt' κ (ks.getD i Value.none) (ks.getD j Value.none)) C (fun _ _ => False) S)
    (q : ∀ st' (idx : List Nat), idx.Perm (List.range vs.length) → idx.Pairwise (Sb (flipB b lt)) → failedOf st' = none → (if b = true then ((arrOf st').map (·.2)).reverse else (arrOf st').map (·.2)) = (idx.map fun i => vs.getD i Value.none).toArray → Q st' S) :
    wpAny (model prog w) A ((sortRuns').run (SortSt.mk' κ (if b = true then (ks.toArray.zip vs.toArray).reverse else ks.toArray.zip vs.toArray) #[] 7 none)) (fun r s' => Q r.2 s') E S := by
  rw [kat_pairs b hl]
  have hlr : (katRev b ks).length = (katRev b vs).length := by rw [kat_len, kat_len, hl]
  refine kat_run (vs := katRev b vs) (G := fun p s' => s' = S ∧ Own vs.length p vs.length ∧ Up (fun i j => lt (rvI b vs.length i) (rvI b vs.length j)) p vs.length) hlr (by rw [kat_len]; exact h2) (by rw [kat_len]; exact h64) ?_ ?_
  · rintro p st' s' hp har hf ⟨rfl, o, hu⟩
    obtain ⟨i1, i2⟩ := sort_out (b := b) wo o hu
    refine q st' _ i1 i2 hf ?_
    rw [kat_snds hlr har, kat_outs]
    congr 1
    have hlt : ∀ x ∈ p.toList, x < vs.length := fun x hx => List.mem_range.mp (o.pm.mem_iff.mp hx)
    have e : (p.toList.map fun i => (katRev b vs).getD i Value.none) = (p.toList.map (rvI b vs.length)).map fun i => vs.getD i Value.none := by
      rw [List.map_map]
      exact List.map_congr_left fun i hi => katRev_at b vs (hlt i hi)
    rw [e]
    cases b with
    | false => rfl
    | true => exact (List.map_reverse ..).symm
  · rw [kat_len]
    refine kas_of_path (lt := fun i j => lt (rvI b vs.length i) (rvI b vs.length j)) (n := vs.length) (fun i j hi hj C hC => ?_) (fun p hp => ⟨rfl, hp⟩) (sort_path (wo.comap _) (by exact Nat.le_of_lt h2))
    show wpAny _ _ (keyLt' κ ((katRev b ks).getD i Value.none) ((katRev b ks).getD j Value.none)) _ _ _
    rw [katRev_at b ks (by exact Nat.lt_of_lt_of_eq hi hl.symm), katRev_at b ks (by exact Nat.lt_of_lt_of_eq hj hl.symm), hl]
    have hr : ∀ i, i < vs.length → rvI b vs.length i < vs.length := fun i hi => by unfold rvI; split <;> omega
    exact hc _ _ (hr i hi) (hr j hj) C hC
theorem sort0 (a : Addr) : Builtin.«list.sort» ⟨[.ref a], []⟩ = Builtin.«list.sort» ⟨[.ref a], [(Str.ofString "reverse", .bool false)]⟩ := by rfl
theorem updL {a : Addr} {vs : List Value} {n : Nat} {Q : Unit → Shared → Prop} (g : Array Value → Array Value) (us : List Value) (F : Fm K₀ K env gs lk ws h) (wf : Obj → List (Addr × Obj)) (u : ∀ o', Upd1 ws a (lst vs n) o' (wf o')) (hg : g vs.toArray = us.toArray) (hz : vs.length < 1000000) (hz2 : us.length < 1000000)
    (q : ∀ c h', Fm K₀ K env gs lk (wf (lst us c)) h' → Q () (up s h' t)) : wpAny (model prog w) A (Builtin.List.listUpdate (.ref a) g) Q E (up s h t) := by
  have hT : (up s h t).heap.get? a = some (lst vs n) := F.isIn (u default).mem
  have e := get?_update_seq (h := h) (c := "list") hT g
  rw [hg] at e
  exact listUpdate_at hT rfl (q _ _ (F.upd (u _) e fun b y hb e => (Heap.get?_update_other _ _ (Ne.symm hb)).trans e)) (by rw [sizeLine_eq]; simp; exact Nat.le_of_lt (Nat.lt_of_lt_of_le hz (by decide))) (by rw [hg, sizeLine_eq]; simp; exact Nat.le_of_lt (Nat.lt_of_lt_of_le hz2 (by decide)))
end
end Mine
end
section
open PySem PySem.W PyProof.Rows PySem.SeqAt
set_option Elab.async false
set_option maxRecDepth 100000
set_option maxHeartbeats 1000000
set_option linter.unusedVariables false
namespace Mine
section
variable {prog : Program} {w : World} {M : Model} {A : Around} {E : Value → Shared → Prop} {s : Shared} {t : Nat} {K₀ K : KMap} {env : Env} {gs : List Str} {lk : List Var} {ws ws' : List (Addr × Obj)} {h : Heap}
theorem firsts_of (hs : Sub K h) : ∀ {vs : List Value}, (∀ v ∈ vs, ∃ e, EntAt K v e) → ∃ fs, KatTups h vs fs ∧ fs.length = vs.length ∧ ∀ v ∈ fs, ∃ b u, v = .bytes b u
  | [], _ => ⟨[], trivial, rfl, fun v hv => nomatch hv⟩
  | v :: vs, hv => by
    obtain ⟨fs, h1, h2, h3⟩ := firsts_of hs fun v hv' => hv v (.tail _ hv')
    obtain ⟨e, a, t1, u, n, rfl, ha⟩ := hv _ (.head _)
    refine ⟨.bytes e.key.toArray t1 :: fs, ⟨⟨a, _, _, _, rfl, hs _ _ ha, rfl, rfl, rfl⟩, h1⟩, by simp [h2], fun v hv => ?_⟩
    rcases List.mem_cons.mp hv with rfl | hv
    · exact ⟨_, _, rfl⟩
    · exact h3 v hv
theorem idx_range (vs : List Value) : (List.range vs.length).map (fun i => vs.getD i Value.none) = vs := by
  apply List.ext_getElem
  · simp
  · intro i h1 h2
    simp [h2]
theorem zip_few {vs : List Value} (b : Bool) (hv : vs.length < 2) : (if b = true then ((if b = true then (vs.toArray.zip vs.toArray).reverse else vs.toArray.zip vs.toArray).map (·.2)).reverse else (if b = true then (vs.toArray.zip vs.toArray).reverse else vs.toArray.zip vs.toArray).map (·.2)) = vs.toArray := by
  match vs, hv with
  | [], _ => cases b <;> simp
  | [v], _ => cases b <;> simp
  | _ :: _ :: _, h => exact absurd h (by simp)
theorem sort_tree {a : Addr} {vs : List Value} {n : Nat} {b : Bool} {lt : Value → Value → Bool} {P : PySem.Fin → Shared → Prop} (wo : Swo lt) (F : Fm K₀ K env gs lk ((a, lst vs n) :: ws) h) (h64 : vs.length < 64)
    (hlt : ∀ x ∈ vs, ∀ y ∈ vs, ∃ e f, EntAt K x e ∧ EntAt K y f ∧ (e.key = f.key → e.ord ≠ f.ord ∨ e.item = f.item) ∧ lt x y = ltE e f)
    (q : ∀ (idx : List Nat) c h', idx.Perm (List.range vs.length) → idx.Pairwise (Sb (flipB b fun i j => lt (vs.getD i .none) (vs.getD j .none))) → Fm K₀ K env gs lk ((a, lst (idx.map fun i => vs.getD i .none) c) :: ws) h' → P (.done (.ret .none)) (up s h' t)) :
    wpAny (model prog w) A (Builtin.«list.sort» ⟨[.ref a], [(Str.ofString "reverse", .bool b)]⟩) P E (up s h t) := by
  have hl := F.isIn (a := a) (.head _)
  rw [list_sort_rev]
  refine wpAny_bind (listItems_at (s := up s h t) hl rfl ?_)
  refine wpAny_bind (updL (fun _ => #[]) [] F (fun o => (a, o) :: ws) (fun _ => .head) rfl (by exact Nat.lt_of_lt_of_le h64 (by decide)) (by simp) fun c1 h1 F1 => ?_)
  refine wpAny_bind (seqEpoch_at (s := up s h1 t) (F1.isIn (.head _)) rfl ?_)
  refine wpAny_bind (wpAny_newTuple ?_ (by simp; rw [sizeLine_eq]; exact Nat.le_of_lt (Nat.lt_of_lt_of_le h64 (by decide))))
  refine wpAny_bind (wpAny_newList ?_ (Nat.zero_le _))
  refine wpAny_holding ?_
  have F3 := ((F1.push (tup vs 0)).push (lst [] 0)).perm (ws' := (a, lst [] c1) :: (_, lst [] 0) :: (_, tup vs 0) :: ws) ((List.Perm.cons _ (List.Perm.swap _ _ _)).trans (List.Perm.swap _ _ _))
  show wpAny _ _ _ _ _ (up s ((h1.push (tup vs 0)).push (lst [] 0)) t)
  generalize (h1.push (tup vs 0)).push (lst [] 0) = h3 at F3 ⊢
  generalize (h1.push (tup vs 0)).objs.size = B1 at F3
  generalize h1.objs.size = B2 at F3
  have step : ∀ t' : Sem PySem.Fin, wpAny (model prog w) A t' P E (up s h3 t) → wpAny (model prog w) A (if b = true then (do let _ ← rule "list.sort.reverse"; t') else t') P E (up s h3 t) := by
    intro t' ht
    split
    · exact wpAny_bind (wpAny_rule ht)
    · exact ht
  have fin : ∀ (st' : SortSt) (idx : List Nat), idx.Perm (List.range vs.length) → idx.Pairwise (Sb (flipB b fun i j => lt (vs.getD i .none) (vs.getD j .none))) → failedOf st' = none →
      (if b = true then ((arrOf st').map (·.2)).reverse else (arrOf st').map (·.2)) = (idx.map fun i => vs.getD i Value.none).toArray →
      wpAny (model prog w) A (do
        let sorted := (arrOf st').map (·.2)
        let touched := (← seqEpoch a) != c1
        Builtin.List.listUpdate (.ref a) fun _ => if b then sorted.reverse else sorted
        if let some e := failedOf st' then rule "list.sort.comparison-raised"; throw e
        if touched then rule "list.sort.modified"; raiseError "ValueError" "list modified during sort"
        ret .none) P E (up s h3 t) := by
    intro st' idx i1 i2 hf ho
    have hil : idx.length = vs.length := by simpa using i1.length_eq
    refine wpAny_bind (seqEpoch_at (s := up s h3 t) (F3.isIn (.head _)) rfl ?_)
    dsimp only
    refine wpAny_bind (updL (fun _ => if b then ((arrOf st').map (·.2)).reverse else (arrOf st').map (·.2)) (idx.map fun i => vs.getD i Value.none) F3 (fun o => (a, o) :: (B1, lst [] 0) :: (B2, tup vs 0) :: ws) (fun _ => .head) ho (by simp) (by simp; omega) fun c4 h4 F4 => ?_)
    rw [hf]
    simp only [bne_self_eq_false, Bool.false_eq_true, if_false]
    exact wpAny_pure (q idx c4 h4 i1 i2 (F4.drop (.cons_cons _ (.cons _ (.cons _ (.refl _))))))
  refine step _ ?_
  by_cases h2 : vs.toArray.size < 2
  · rw [if_pos h2, if_pos h2]
    refine wpAny_bind (wpAny_pure ?_)
    dsimp only
    rw [StateT.run_pure]
    refine wpAny_bind (wpAny_pure ?_)
    have hv2 : vs.length < 2 := by simpa using h2
    have hpw : (List.range vs.length).Pairwise (Sb (flipB b fun i j => lt (vs.getD i .none) (vs.getD j .none))) := by
      rw [List.pairwise_iff_getElem]
      intro i j hi hj hij
      simp only [List.length_range] at hi hj
      (clear h64 hi; lia)
    refine fin (SortSt.mk' general' (if b = true then (vs.toArray.zip vs.toArray).reverse else vs.toArray.zip vs.toArray) #[] 7 none) (List.range vs.length) (List.Perm.refl _) hpw rfl ?_
    rw [idx_range]
    show (if b = true then ((if b = true then (vs.toArray.zip vs.toArray).reverse else vs.toArray.zip vs.toArray).map (·.2)).reverse else (if b = true then (vs.toArray.zip vs.toArray).reverse else vs.toArray.zip vs.toArray).map (·.2)) = vs.toArray
    exact zip_few b hv2
  · rw [if_neg h2, if_neg h2]
    have hv2 : 2 ≤ vs.length := by simpa using h2
    obtain ⟨fs, f1, f2, f3⟩ := firsts_of F3.kept (vs := vs) fun v hv => by obtain ⟨e, _, he, _⟩ := hlt v hv v hv; exact ⟨e, he⟩
    refine wpAny_bind (kat_kind (s := up s h3 t) (T := .type "bytes") f1 (by (clear h64 h2; lia)) (fun v hv => ?_) (by rfl) ?_)
    · obtain ⟨b, u, rfl⟩ := f3 v hv
      exact Looks.of_pure rfl
    · refine wpAny_bind (wpAny_mono (runs_ (κ := tuples' true) (ks := vs) (vs := vs) (b := b) (lt := fun i j => lt (vs.getD i .none) (vs.getD j .none)) (Q := fun st' s' => s' = up s h3 t ∧ ∃ idx : List Nat, idx.Perm (List.range vs.length) ∧ idx.Pairwise (Sb (flipB b fun i j => lt (vs.getD i .none) (vs.getD j .none))) ∧ failedOf st' = none ∧
          (if b = true then ((arrOf st').map (·.2)).reverse else (arrOf st').map (·.2)) = (idx.map fun i => vs.getD i Value.none).toArray) (wo.comap _) rfl hv2 h64 (fun i j hi hj C hC => ?_) (fun st' idx i1 i2 hf ho => ⟨rfl, idx, i1, i2, hf, ho⟩)) ?_ fun _ _ e => e)
      · have hvi : vs.getD i .none ∈ vs := by simp [List.getD, hi]
        have hvj : vs.getD j .none ∈ vs := by simp [List.getD, hj]
        obtain ⟨e, f, he, hf, hd, hl⟩ := hlt _ hvi _ hvj
        refine keyLt_ents F3.kept he hf hd ?_
        rw [← hl]; exact hC
      · rintro ⟨⟨⟩, st'⟩ s' ⟨rfl, idx, i1, i2, hf, ho⟩
        exact fin st' idx i1 i2 hf ho
/-- result.sort() of entries -/
theorem sort_m {pos : Pos} {a : Addr} {vs : List Value} {n : Nat} {lt : Value → Value → Bool} {Q : Value → Shared → Prop} (wo : Swo lt) (F : Fm K₀ K env gs lk ((a, lst vs n) :: ws) h) (h64 : vs.length < 64)
    (hlt : ∀ x ∈ vs, ∀ y ∈ vs, ∃ e f, EntAt K x e ∧ EntAt K y f ∧ (e.key = f.key → e.ord ≠ f.ord ∨ e.item = f.item) ∧ lt x y = ltE e f)
    (q : ∀ (idx : List Nat) c h', idx.Perm (List.range vs.length) → idx.Pairwise (Sb (flipB false fun i j => lt (vs.getD i .none) (vs.getD j .none))) → Fm K₀ K env gs lk ((a, lst (idx.map fun i => vs.getD i .none) c) :: ws) h' → Q .none (up s h' t)) :
    MethodOn prog w A (Str.ofString "sort") pos (.ref a) [] Q E (up s h t) := by
  have hl := F.isIn (a := a) (.head _)
  refine meth_list PySem.F.slot_list_sort PySem.F.type_list_sort hl ?_
  refine Calls.callWith_builtin rfl ?_
  refine evalArgs_nil3 ?_
  refine wpAny_call_entry (s := up s h t) slot_list_sort ⟨_, hl, rfl⟩ entry_list_sort ?_ (args_list_sort _)
  show wpAny _ _ (Builtin.«list.sort» ⟨[.ref a], []⟩) _ _ _
  rw [sort0]
  exact sort_tree wo F h64 hlt fun idx c h' i1 i2 F' => ⟨_, rfl, q idx c h' i1 i2 F'⟩
end
end Mine
end
section
open PySem PySem.W PyProof.Rows PySem.SeqAt
set_option Elab.async false
set_option maxRecDepth 100000
set_option maxHeartbeats 1000000
set_option linter.unusedVariables false
namespace Mine
/-- octets -/
inductive KeysAre : List Value → List (List UInt8) → Prop
  | nil : KeysAre [] []
  | cons {k : List UInt8} {u : Tok} {vs : List Value} {ks : List (List UInt8)} : KeysAre vs ks → KeysAre (.bytes k.toArray u :: vs) (k :: ks)
theorem KeysAre.snoc {k : List UInt8} {u : Tok} {vs : List Value} {ks : List (List UInt8)} (h : KeysAre vs ks) : KeysAre (vs ++ [.bytes k.toArray u]) (ks ++ [k]) := by
  induction h with
  | nil => exact .cons .nil
  | cons _ ih => exact .cons ih
theorem KeysAre.length {vs : List Value} {ks : List (List UInt8)} (h : KeysAre vs ks) : vs.length = ks.length := by
  induction h with
  | nil => rfl
  | cons _ ih => simp [ih]
theorem KeysAre.at {vs : List Value} {ks : List (List UInt8)} (h : KeysAre vs ks) : ∀ {i : Nat}, i < ks.length → ∃ u, vs.getD i .none = .bytes (ks.getD i []).toArray u := by
  induction h with
  | nil => intro i hi; cases hi
  | @cons k u vs ks _ ih =>
    intro i hi
    cases i with
    | zero => exact ⟨u, rfl⟩
    | succ i => exact ih (by simpa using hi)
theorem KeysAre.mem {vs : List Value} {ks : List (List UInt8)} (h : KeysAre vs ks) : ∀ v ∈ vs, ∃ b u, v = .bytes b u := by
  induction h with
  | nil => intro v hv; cases hv
  | cons _ ih =>
    intro v hv
    rcases List.mem_cons.mp hv with rfl | hv
    · exact ⟨_, _, rfl⟩
    · exact ih v hv
section
variable {prog : Program} {w : World} {M : Model} {A : Around} {E : Value → Shared → Prop} {s : Shared} {t : Nat} {K₀ K : KMap} {env : Env} {gs : List Str} {lk : List Var} {ws ws' : List (Addr × Obj)} {h : Heap}
theorem C_fold {body : Value → PUnit → Sem (ForInStep PUnit)} {Q : PUnit → Shared → Prop} (I : Nat → Shared → Prop) : ∀ (vs : List Value) (i : Nat) (s : Shared), I i s →
    (∀ j x s', vs[j]? = some x → I (i + j) s' → wpC M A (body x ⟨⟩) (fun r s'' => r = .yield ⟨⟩ ∧ I (i + j + 1) s'') E s') →
    (∀ s', I (i + vs.length) s' → Q ⟨⟩ s') → wpC M A (forIn vs PUnit.unit body) Q E s
  | [], i, s, hI, _, done => by
    rw [List.forIn_nil]
    exact wpC_pure (done s (by simpa using hI))
  | x :: vs, i, s, hI, step, done => by
    rw [List.forIn_cons]
    refine wpC_bind (wpC_mono (step 0 x s (by simp) hI) (fun r s' h' => ?_) fun _ _ e => e)
    obtain ⟨rfl, hI'⟩ := h'
    show wpC M A (forIn vs PUnit.unit body) Q E s'
    refine C_fold I vs (i + 1) s' hI' (fun j y s'' hy hJ => ?_) fun s'' hd => done s'' ?_
    · have e : i + (j + 1) = i + 1 + j := by lia
      have h1 := step (j + 1) y s'' (by simpa using hy) (by rw [e]; exact hJ)
      rw [e] at h1
      exact h1
    · have e : i + (x :: vs).length = i + 1 + vs.length := by rw [List.length_cons]; lia
      rw [e]
      exact hd
/-- behind the keys: the sort's end -/
theorem keyed_end {a kS : Addr} {vs kvs : List Value} {ks : List (List UInt8)} {c e1 : Nat} {b : Bool} {P : PySem.Fin → Shared → Prop} (wo : Swo ltB) (hk : KeysAre kvs ks) (hlen : ks.length = vs.length) (h64 : vs.length < 64)
    (F : Fm K₀ K env gs lk ((kS, lst kvs c) :: (a, lst [] e1) :: ws) h)
    (q : ∀ (idx : List Nat) c h', idx.Perm (List.range vs.length) → idx.Pairwise (Sb (flipB b fun i j => ltB (ks.getD i []) (ks.getD j []))) → Fm K₀ K env gs lk ((a, lst (idx.map fun i => vs.getD i .none) c) :: ws) h' → P (.done (.ret .none)) (up s h' t)) :
    wpAny (model prog w) A (ksk_end a b vs.toArray e1 (.ref kS) kvs.toArray) P E (up s h t) := by
  have hkl := hk.length
  have step : ∀ t' : Sem PySem.Fin, wpAny (model prog w) A t' P E (up s h t) → wpAny (model prog w) A (if b = true then (do let _ ← rule "list.sort.reverse"; t') else t') P E (up s h t) := by
    intro t' ht
    split
    · exact wpAny_bind (wpAny_rule ht)
    · exact ht
  have fin : ∀ (st' : SortSt) (idx : List Nat), idx.Perm (List.range vs.length) → idx.Pairwise (Sb (flipB b fun i j => ltB (ks.getD i []) (ks.getD j []))) → failedOf st' = none →
      (if b = true then ((arrOf st').map (·.2)).reverse else (arrOf st').map (·.2)) = (idx.map fun i => vs.getD i Value.none).toArray →
      wpAny (model prog w) A (ksk_tail a b e1 (.ref kS) st') P E (up s h t) := by
    intro st' idx i1 i2 hf ho
    have hil : idx.length = vs.length := by simpa using i1.length_eq
    unfold ksk_tail
    dsimp only
    refine wpAny_bind (updL (fun _ => #[]) [] F (fun o => (kS, o) :: (a, lst [] e1) :: ws) (fun _ => .head) rfl (by (clear hil; lia)) (by simp) fun c1 h1 F1 => ?_)
    refine wpAny_bind (wpAny_letGo ?_)
    refine wpAny_bind (seqEpoch_at (s := up s h1 t) (F1.isIn (a := a) (.tail _ (.head _))) rfl ?_)
    try dsimp only
    refine wpAny_bind (updL (fun _ => if b then ((arrOf st').map (·.2)).reverse else (arrOf st').map (·.2)) (idx.map fun i => vs.getD i Value.none) F1 (fun o => (kS, lst [] c1) :: (a, o) :: ws) (fun _ => .tail .head) ho (by simp) (by simp; (clear hlen hkl; omega)) fun c4 h4 F4 => ?_)
    rw [hf]
    simp only [bne_self_eq_false, Bool.false_eq_true, if_false]
    exact wpAny_pure (q idx c4 h4 i1 i2 (F4.drop (List.sublist_cons_self _ _)))
  unfold ksk_end
  dsimp only
  refine step _ ?_
  by_cases h2 : vs.toArray.size < 2
  · rw [if_pos h2, if_pos h2]
    refine wpAny_bind (wpAny_pure ?_)
    try dsimp only
    rw [StateT.run_pure]
    refine wpAny_bind (wpAny_pure ?_)
    have hv2 : vs.length < 2 := by simpa using h2
    have hpw : (List.range vs.length).Pairwise (Sb (flipB b fun i j => ltB (ks.getD i []) (ks.getD j []))) := by
      rw [List.pairwise_iff_getElem]
      intro i j hi hj hij
      simp only [List.length_range] at hi hj
      (clear hlen h64 hi; lia)
    refine fin (SortSt.mk' general' (if b = true then (kvs.toArray.zip vs.toArray).reverse else kvs.toArray.zip vs.toArray) #[] 7 none) (List.range vs.length) (List.Perm.refl _) hpw rfl ?_
    rw [idx_range]
    show (if b = true then ((if b = true then (kvs.toArray.zip vs.toArray).reverse else kvs.toArray.zip vs.toArray).map (·.2)).reverse else (if b = true then (kvs.toArray.zip vs.toArray).reverse else kvs.toArray.zip vs.toArray).map (·.2)) = vs.toArray
    match vs, kvs, hv2, (show kvs.length = vs.length by exact hkl.trans hlen) with
    | [], [], _, _ => cases b <;> simp
    | [v], [k], _, _ => cases b <;> simp
    | _ :: _ :: _, _, h, _ => exact absurd h (by simp)
  · rw [if_neg h2, if_neg h2]
    have hv2 : 2 ≤ vs.length := by simpa using h2
    refine wpAny_bind (kas_kind (s := up s h t) (T := .type "bytes") (by (clear h64 h2; lia)) (fun v hv => ?_) (by rfl) (by rfl) ?_)
    · obtain ⟨b, u, rfl⟩ := hk.mem v hv
      exact Looks.of_pure rfl
    · refine wpAny_bind (wpAny_mono (runs_ (κ := oneType') (ks := kvs) (vs := vs) (b := b) (lt := fun i j => ltB (ks.getD i []) (ks.getD j [])) (Q := fun st' s' => s' = up s h t ∧ ∃ idx : List Nat, idx.Perm (List.range vs.length) ∧ idx.Pairwise (Sb (flipB b fun i j => ltB (ks.getD i []) (ks.getD j []))) ∧ failedOf st' = none ∧
          (if b = true then ((arrOf st').map (·.2)).reverse else (arrOf st').map (·.2)) = (idx.map fun i => vs.getD i Value.none).toArray) (wo.comap _) (by exact hkl.trans hlen) hv2 h64 (fun i j hi hj C hC => ?_) (fun st' idx i1 i2 hf ho => ⟨rfl, idx, i1, i2, hf, ho⟩)) ?_ fun _ _ e => e)
      · obtain ⟨u1, e1⟩ := hk.at (i := i) (by exact Nat.lt_of_lt_of_eq hi hlen.symm)
        obtain ⟨u2, e2⟩ := hk.at (i := j) (by exact Nat.lt_of_lt_of_eq hj hlen.symm)
        rw [e1, e2, keyLt'_oneType]
        refine oneLt_bytes ?_
        exact hC
      · rintro ⟨⟨⟩, st'⟩ s' ⟨rfl, idx, i1, i2, hf, ho⟩
        exact fin st' idx i1 i2 hf ho
theorem C_keyed {a f : Addr} {vs : List Value} {ks : List (List UInt8)} {n : Nat} {b : Bool} {P : PySem.Fin → Shared → Prop} (wo : Swo ltB) (hr : Room A 60) (hlen : ks.length = vs.length) (h64 : vs.length < 64)
    (hkv : ∀ (i : Nat) x k, vs[i]? = some x → ks[i]? = some k → KeyOk prog w K f x k) (F : Fm K₀ K env gs lk ((a, lst vs n) :: ws) h)
    (q : ∀ (idx : List Nat) c h' t', idx.Perm (List.range vs.length) → idx.Pairwise (Sb (flipB b fun i j => ltB (ks.getD i []) (ks.getD j []))) → Fm K₀ K env gs lk ((a, lst (idx.map fun i => vs.getD i .none) c) :: ws) h' → P (.done (.ret .none)) (up s h' t')) :
    wpC (model prog w) A (ksk_tree a (.ref f) b) P E (up s h t) := by
  unfold ksk_tree
  refine wpC_bind (wpC_of (listItems_at (s := up s h t) (F.isIn (.head _)) rfl ?_))
  refine wpC_bind (wpC_of (updL (fun _ => #[]) [] F (fun o => (a, o) :: ws) (fun _ => .head) rfl (by exact Nat.lt_of_lt_of_le h64 (by decide)) (by simp) fun e1 h1 F1 => ?_))
  refine wpC_bind (wpC_of (seqEpoch_at (s := up s h1 t) (F1.isIn (.head _)) rfl ?_))
  refine wpC_bind (wpC_of (wpAny_newTuple ?_ (by simp; rw [sizeLine_eq]; exact Nat.le_of_lt (Nat.lt_of_lt_of_le h64 (by decide)))))
  refine wpC_bind (wpC_of (wpAny_newList ?_ (Nat.zero_le _)))
  refine wpC_holding ?_
  have F3 := ((F1.push (tup vs 0)).push (lst [] 0)).drop (ws' := (_, lst [] 0) :: (a, lst [] e1) :: ws) (.cons_cons _ (List.sublist_cons_self _ _))
  show wpC _ _ (ksk_rest a (.ref f) b vs.toArray e1 (.ref (h1.push (tup vs 0)).objs.size)) _ _ (up s ((h1.push (tup vs 0)).push (lst [] 0)) t)
  generalize (h1.push (tup vs 0)).push (lst [] 0) = h3 at F3 ⊢
  generalize (h1.push (tup vs 0)).objs.size = kS at F3 ⊢
  unfold ksk_rest
  refine wpC_bind (wpC_of (wpAny_rule ?_))
  rw [List.forIn_toArray]
  refine wpC_bind (C_fold (fun i s' => ∃ h' t' kvs c, s' = up s h' t' ∧ KeysAre kvs (ks.take i) ∧ Fm K₀ K env gs lk ((kS, lst kvs c) :: (a, lst [] e1) :: ws) h') vs 0 _ ⟨h3, t, [], 0, rfl, by simpa using KeysAre.nil, F3⟩ ?step ?done)
  case step =>
    rintro j x s' hx ⟨h', t', kvs, c, rfl, hk, F'⟩
    simp only [Nat.zero_add] at hk ⊢
    have hj : j < vs.length := (List.getElem?_eq_some_iff.mp hx).1
    have hkj : ks[j]? = some (ks.getD j []) := by rw [List.getElem?_eq_getElem (by exact Nat.lt_of_lt_of_eq hj hlen.symm)]; simp [List.getD, List.getElem?_eq_getElem (show j < ks.length by exact Nat.lt_of_lt_of_eq hj hlen.symm)]
    have hkl := hk.length
    rw [List.length_take] at hkl
    refine wpC_bind (wpC_attempt (hkv j x _ hx hkj A _ _ s h' t' (hr.less (by decide)) F'.kept fun tk h4 t4 hk4 => ?_))
    have F4 := F'.keeps hk4
    dsimp only
    refine wpC_bind (wpC_of (updL (fun l => l.push (.bytes (ks.getD j []).toArray tk)) (kvs ++ [.bytes (ks.getD j []).toArray tk]) F4 (fun o => (kS, o) :: (a, lst [] e1) :: ws) (fun _ => .head) (by simp) (by (clear hj; omega)) (by simp; (clear hj; omega)) fun c5 h5 F5 => ?_))
    refine wpC_pure ⟨rfl, h5, t4, _, c5, rfl, ?_, F5⟩
    have ek : ks.take (j + 1) = ks.take j ++ [ks.getD j []] := by rw [List.take_add_one, hkj]; rfl
    rw [ek]; exact hk.snoc
  case done =>
    rintro s' ⟨h', t', kvs, c, rfl, hk, F'⟩
    rw [List.take_of_length_le (by (clear h64; lia))] at hk
    try dsimp only
    refine wpC_bind (wpC_of (listItems_at (s := up s h' t') (F'.isIn (.head _)) rfl ?_))
    exact wpC_of (keyed_end wo hk hlen h64 F' fun idx c h' i1 i2 F'' => q idx c h' t' i1 i2 F'')
end
end Mine
end
section
open PySem PySem.W PyProof.Rows PySem.SeqAt
set_option Elab.async false
set_option maxRecDepth 100000
set_option maxHeartbeats 1000000
set_option linter.unusedVariables false
namespace Mine
section
variable {prog : Program} {w : World} {M : Model} {A : Around} {E : Value → Shared → Prop} {s : Shared} {t : Nat} {K₀ K : KMap} {env : Env} {gs : List Str} {lk : List Var} {ws ws' : List (Addr × Obj)} {h : Heap}
theorem C_entryK {T : String} {name : Str} {id : String} {B : Builtin} {self : Value} {args : List Value} {kw : List (Str × Value)} {Q : Value → Shared → Prop} (slot : Slot T name id) (hT : s.TypeIs self T) (entry : entryFor table id = some B) (hargs : argsOk id ⟨self :: args, kw⟩) (hd : Builtin.Bytes.decodersThatHold.contains id = false)
    (k : wpC (model prog w) A.in1 (B ⟨self :: args, kw⟩) (fun fin s' => ∃ v, fin = .done (.ret v) ∧ Q v s') E s) : wpC (model prog w) A (call (.builtin id) (self :: args) kw) Q E s := by
  refine wpC_call (codeC_of_tree ?_)
  show wpC _ A.in1 (do checkBuiltinCall id ⟨self :: args, kw⟩; again (.builtin id ⟨self :: args, kw⟩)) _ _ s
  refine wpC_bind (wpC_of (slot.check _ _ _ _ _ _ _ _ hT hargs ?_))
  refine wpC_pure ⟨plainId_quiet slot.plain _, hd, codeC_of_tree ?_⟩
  rw [Around.under_plainId slot.plain _]
  rw [den_builtin entry]
  refine wpC_mono k (fun fin s' h' => ?_) fun _ _ x => x
  obtain ⟨v, rfl, hv⟩ := h'
  exact hv
theorem C_sorted {l f : Addr} {vs : List Value} {ks : List (List UInt8)} {n : Nat} {Q : Value → Shared → Prop} (wo : Swo ltB) (hr : Room A 80) (hlen : ks.length = vs.length) (h64 : vs.length < 64)
    (hkv : ∀ (i : Nat) x k, vs[i]? = some x → ks[i]? = some k → KeyOk prog w K f x k) (F : Fm K₀ K env gs lk ws h) (hl : K l = some (lst vs n))
    (q : ∀ L (idx : List Nat) c h' t', idx.Perm (List.range vs.length) → idx.Pairwise (Sb (flipB true fun i j => ltB (ks.getD i []) (ks.getD j []))) → Fm K₀ K env gs lk ((L, lst (idx.map fun i => vs.getD i .none) c) :: ws) h' → Q (.ref L) (up s h' t')) :
    wpC (model prog w) A (call (.builtin "sorted") [.ref l] [(Str.ofString "key", .ref f), (Str.ofString "reverse", .bool true)]) Q E (up s h t) := by
  refine C_function kind_sorted plain_sorted entry_sorted (ksk_s2 _ _ _) (by decide +kernel) ?_
  unfold Builtin.«sorted»
  refine wpC_bind (m := checkCount "sorted" 1 1 _) (wpC_of (wpAny_pure ?_))
  refine wpC_bind (wpC_of (collect_list (s := up s h t) (vs := vs) ⟨_, F.kept _ _ hl, rfl, _, rfl⟩ ?_ (by rw [sizeLine_eq]; exact Nat.le_of_lt (Nat.lt_of_lt_of_le h64 (by decide)))))
  refine wpC_bind (wpC_of (wpAny_newList ?_ (by rw [sizeLine_eq]; exact Nat.le_of_lt (Nat.lt_of_lt_of_le h64 (by decide)))))
  have hk : Keeps h ((h.push (seqObj "list" #[] 0)).update h.objs.size (Obj.mapSeq (· ++ vs.toArray))) := fun b o e => by
    have hlt : b < h.objs.size := Heap.lt_size e
    rw [Heap.get?_update_ne _ _ _ _ (Nat.ne_of_lt hlt)]
    exact Heap.get?_push_of_some _ e
  have F1 := (F.keeps hk).push (lst vs 0)
  show wpC _ _ _ _ _ (up s (((h.push (seqObj "list" #[] 0)).update h.objs.size (Obj.mapSeq (· ++ vs.toArray))).push (lst vs 0)) t)
  show wpC _ _ (holding [Value.ref ((h.push (seqObj "list" #[] 0)).update h.objs.size (Obj.mapSeq (· ++ vs.toArray))).objs.size] (call (.builtin "list.sort") [Value.ref ((h.push (seqObj "list" #[] 0)).update h.objs.size (Obj.mapSeq (· ++ vs.toArray))).objs.size] [(Str.ofString "key", .ref f), (Str.ofString "reverse", .bool true)]) >>= _) _ _ _
  generalize ((h.push (seqObj "list" #[] 0)).update h.objs.size (Obj.mapSeq (· ++ vs.toArray))).push (lst vs 0) = h1 at F1 ⊢
  generalize hL : ((h.push (seqObj "list" #[] 0)).update h.objs.size (Obj.mapSeq (· ++ vs.toArray))).objs.size = L at F1 ⊢
  refine wpC_bind (wpC_holding (C_entryK slot_list_sort ⟨_, F1.isIn (.head _), rfl⟩ entry_list_sort (ksk_l2 _ _ _) (by decide +kernel) ?_))
  rw [ksk_t2]
  refine C_keyed (A := A.in1.in1) wo ((hr.in1 (m := 70) (by decide)).in1 (by decide)) hlen h64 hkv F1 fun idx c h' t' i1 i2 F' => ⟨_, rfl, ?_⟩
  refine wpC_pure ?_
  show Q (.ref ((h.push (seqObj "list" #[] 0)).update h.objs.size (Obj.mapSeq (· ++ vs.toArray))).objs.size) _
  rw [hL]
  exact q L idx c h' t' i1 i2 F'
theorem sort_rev_call {a : Addr} {vs : List Value} {n : Nat} {lt : Value → Value → Bool} {Q : Value → Shared → Prop} (wo : Swo lt) (F : Fm K₀ K env gs lk ((a, lst vs n) :: ws) h) (h64 : vs.length < 64)
    (hlt : ∀ x ∈ vs, ∀ y ∈ vs, ∃ e f, EntAt K x e ∧ EntAt K y f ∧ (e.key = f.key → e.ord ≠ f.ord ∨ e.item = f.item) ∧ lt x y = ltE e f)
    (q : ∀ (idx : List Nat) c h', idx.Perm (List.range vs.length) → idx.Pairwise (Sb (flipB true fun i j => lt (vs.getD i .none) (vs.getD j .none))) → Fm K₀ K env gs lk ((a, lst (idx.map fun i => vs.getD i .none) c) :: ws) h' → Q .none (up s h' t)) :
    wpAny (model prog w) A (call (.builtin "list.sort") [.ref a] [(Str.ofString "reverse", .bool true)]) Q E (up s h t) := by
  have hl := F.isIn (a := a) (.head _)
  refine wpAny_call_entry_kw (s := up s h t) slot_list_sort ⟨_, hl, rfl⟩ entry_list_sort ?_ (args_list_sort_rev _ _)
  exact sort_tree wo F h64 hlt fun idx c h' i1 i2 F' => ⟨_, rfl, q idx c h' i1 i2 F'⟩
/-- a method of an own list called with one keyword -/
theorem meth_kw {o e : Expr} {name kn : Str} {id : String} {apos pos kp : Pos} {Q : Value → Shared → Prop} (slot : Slot "list" name id) (hty : typeOf (.builtin id) = pure (.type "method_descriptor"))
    (k : wpAny (model prog w) A (eval o env) (fun ov s₁ => ∃ l vs n, ov = .ref l ∧ s₁.heap.get? l = some (lst vs n) ∧ wpAny (model prog w) A (eval e env) (fun v s₂ => wpAny (model prog w) A (call (.builtin id) [.ref l] [(kn, v)]) Q E s₂) E s₁) E s)
    (hbase : attributeBase o name env (eval o env) = eval o env := by rfl) (hline : (apos.endLine == pos.line) = true := by rfl) :
    wpAny (model prog w) A (eval (.Call (.Attribute o name apos) [] [⟨some kn, e, kp⟩] pos) env) Q E s := by
  rw [arm_eval_Call, hbase]
  refine wpAny_bind (wpAny_mono k (fun ov s₁ h₁ => ?_) fun _ _ e => e)
  obtain ⟨l, vs, n, rfl, hl, hc⟩ := h₁
  refine wpAny_bind (wpAny_standAt ?_)
  have hform : methodCallForm (([] : List Expr).length + [(⟨some kn, e, kp⟩ : Keyword)].length) (backTo pos (starEach [] env)) (backToKw pos (keywordEach [⟨some kn, e, kp⟩] env)) = true := rfl
  have hpos : methodCallPos true o env apos pos = pure pos := by unfold methodCallPos; simp [hline]
  unfold methodCall
  rw [hform]
  refine wpAny_bind (wpAny_holding (getMethod_builtin (T := "list") ⟨_, hl, rfl⟩ PySem.F.plainAttrs_list slot hty (fun a e => by cases e; exact ⟨_, hl, rfl⟩) ?_))
  refine wpAny_bind (wpAny_of_eq hpos ?_)
  refine callWith_builtin_kwB rfl rfl ?_
  unfold evalArgs
  refine wpAny_bind ?_
  refine spliced_none (wpAny_bind (wpAny_pure ?_))
  refine wpAny_holding ?_
  rw [if_pos (show (backToKw pos (keywordEach [⟨some kn, e, kp⟩] env)).all (·.1.isSome) = true from rfl)]
  refine wpAny_bind (kws_cons (wpAny_mono hc (fun v s₂ h₂ => kws_nil ?_) fun _ _ e => e))
  exact wpAny_bind (wpAny_pure (wpAny_pure h₂))
/-- a call of a name with keywords -/
theorem C_Call_NameK {x : Str} {np pos : Pos} {args : List Expr} {kws : List Keyword} {Q : Value → Shared → Prop} (k : wpAny M A (eval (.Name x np) env) (fun f s₁ => wpC M A (callWith pos f [] (backTo pos (starEach args env)) (backToKw pos (keywordEach kws env))) Q E s₁) E s) :
    wpC M A (eval (.Call (.Name x np) args kws pos) env) Q E s := by
  show wpC M A (do callWith pos (← eval (.Name x np) env) [] (backTo pos (starEach args env)) (backToKw pos (keywordEach kws env))) Q E s
  exact wpC_bind (wpC_of k)
/-- a built-in function with keywords, its arguments are plain -/
theorem C_builtinK {pos : Pos} {id : String} {e : Expr} {rest : List Expr} {kws : List Keyword} {Q : Value → Shared → Prop}
    (k : wpAny M A (spliced (backTo pos (starEach (e :: rest) env))) (fun vs s₁ => wpAny M A (evalAll ((backToKw pos (keywordEach kws env)).map (·.2)))
      (fun kvs s₂ => wpC M A (call (.builtin id) vs (((backToKw pos (keywordEach kws env)).filterMap (·.1)).zip kvs)) Q E s₂) E s₁) E s)
    (he : backTo pos (starEach (e :: rest) env) = (false, eval e env) :: backTo pos (starEach rest env) := by rfl)
    (hplain : (backTo pos (starEach (e :: rest) env)).any (·.1) = false := by rfl)
    (hall : (backToKw pos (keywordEach kws env)).all (·.1.isSome) = true := by rfl)
    (hkw : (backToKw pos (keywordEach kws env)).any (·.1.isNone) = false := by rfl) :
    wpC M A (callWith pos (.builtin id) [] (backTo pos (starEach (e :: rest) env)) (backToKw pos (keywordEach kws env))) Q E s := by
  refine C_callWith_builtin (by rw [hplain, hkw]; rfl) ?_
  rw [he] at k ⊢
  exact evalArgs_kwB hall k
/-- a function with keywords, its arguments are plain -/
theorem C_refK {pos : Pos} {a : Addr} {o : Obj} {fd : FuncData} {e : Expr} {rest : List Expr} {kws : List Keyword} {Q : Value → Shared → Prop} (hd : o.data = .func fd)
    (k : wpAny M A (spliced (backTo pos (starEach (e :: rest) env))) (fun vs s₁ => wpAny M A (evalAll ((backToKw pos (keywordEach kws env)).map (·.2)))
      (fun kvs s₂ => s₂.heap.get? a = some o ∧ wpC M A (call (.ref a) vs (((backToKw pos (keywordEach kws env)).filterMap (·.1)).zip kvs)) Q E s₂) E s₁) E s)
    (he : backTo pos (starEach (e :: rest) env) = (false, eval e env) :: backTo pos (starEach rest env) := by rfl)
    (hplain : (backTo pos (starEach (e :: rest) env)).any (·.1) = false := by rfl)
    (hall : (backToKw pos (keywordEach kws env)).all (·.1.isSome) = true := by rfl)
    (hkw : (backToKw pos (keywordEach kws env)).any (·.1.isNone) = false := by rfl) (hfew : (backTo pos (starEach (e :: rest) env)).length + 2 * (backToKw pos (keywordEach kws env)).length ≤ 30 := by exact Nat.le_of_ble_eq_true rfl) :
    wpC M A (callWith pos (.ref a) [] (backTo pos (starEach (e :: rest) env)) (backToKw pos (keywordEach kws env))) Q E s := by
  refine C_callWith_ref (o := o) (fd := fd) hfew (by rw [hplain, hkw]; rfl) ?_
  rw [he] at k ⊢
  refine evalArgs_kwB hall (wpAny_mono k (fun vs s₁ h₁ => wpAny_mono h₁ (fun kvs s₂ h₂ => ?_) fun _ _ e => e) fun _ _ e => e)
  exact ⟨⟨h₂.1, hd⟩, h₂.2⟩
end
end Mine
end
section
open PySem PySem.W PyProof.Rows
set_option Elab.async false
set_option maxRecDepth 100000
set_option maxHeartbeats 1000000
set_option linter.unusedVariables false
namespace Mine
section
variable {prog : Program} {w : World} {A : Around} {E : Value → Shared → Prop} {s : Shared} {t : Nat} {env : Env}
abbrev cAcP (s : Shared) (env : Env) (x : Str) (Q : Flow → Shared → Prop) (acc : Addr) (K₀ K' : KMap) (gs : List Str) (lk : List Var) (wsO : List (Addr × Obj)) (t2 : Nat) : Prop := ∃ lk', Put lk x (.ref acc) lk' ∧ ∀ h3 t3, Fm K₀ K' env gs lk' wsO h3 → Q .next (up s h3 t3)
abbrev cAc2 (s : Shared) (prog : Program) (w : World) (A : Around) (env : Env) (elt : Expr) (gens : List Comprehension) (scope : Scope) (pos : Pos) (lkI : List Var) (gsI : List Str) (x : Str) (Q : Flow → Shared → Prop) : Value → Shared → Prop := fun it s₂ =>
  CompIn prog w A s env elt gens scope pos lkI gsI it (cAcP s env x Q) s₂
abbrev cAc1 (s : Shared) (prog : Program) (w : World) (A : Around) (env : Env) (elt : Expr) (gens : List Comprehension) (scope : Scope) (pos : Pos) (lkI : List Var) (gsI : List Str) (x : Str) (Q : Flow → Shared → Prop) (E : Value → Shared → Prop) : Value → Shared → Prop := fun v s₁ =>
  wpC (model prog w) A (pyIter v) (cAc2 s prog w A env elt gens scope pos lkI gsI x Q) E s₁
/-- a comprehension's list bound to a local name at once -/
theorem C_AssignComp {x : Str} {pos' pos2 pos : Pos} {elt target iter : Expr} {ifs : List Expr} {rest : List Comprehension} {scope : Scope} {Q : Flow → Shared → Prop} (lkI : List Var) (gsI : List Str) {K₀ K : KMap} {gs : List Str} {lk : List Var} {ws : List (Addr × Obj)} {h0 : Heap} {v0 : Option Value}
    (F0 : Fm K₀ K env gs lk ws h0) (ok : innerB scope.names (lkI.map fun p => (p.1, p.2.1.isSome)) gsI = true) (hcell : ∀ p ∈ lkI, ∀ c, p.2.1 = some c → ∃ v, (p.1, some c, v) ∈ lk) (hxl : (x, none, v0) ∈ lk)
    (k : wpC (model prog w) A (eval iter env) (cAc1 s prog w A env elt (⟨target, iter, ifs, 0⟩ :: rest) scope pos2 lkI gsI x Q E) E (up s h0 t))
    (hkind : scope.kind = .function := by rfl) (hfs : ∀ x, foldedSetIterable iter env x = pure x := by intro _; rfl) (hline : (pos'.line == pos2.line) = true := by rfl) (hno : (scope.names.any fun (n, k) => n == x && (k == .local || k == .cell)) = false := by rfl) :
    wpC (model prog w) A (exec (.Assign [.Name x pos'] (.ListComp elt (⟨target, iter, ifs, 0⟩ :: rest) scope pos2) pos) env) Q E (up s h0 t) := by
  obtain ⟨n1, n2, n3⟩ := names_of_inner ok
  rw [clo_names] at n3
  have hclos : closureFor scope env = pure (cloOf lkI) := closure_of n3 fun p hp => by
    obtain ⟨v, hv⟩ := mem_clo hp
    obtain ⟨v', hv'⟩ := hcell _ hv _ rfl
    exact (F0.kind _ hv').2.1
  have hsw : swapsWith (.ListComp elt (⟨target, iter, ifs, 0⟩ :: rest) scope pos2) (some (.Name x pos')) pos.line env = pure true := by
    show (pure (env.blockKind == .function && env.kindOf x == some .local && pos'.line == pos2.line && !(scope.names.any fun (n, k) => n == x && (k == .local || k == .cell))) : Sem Bool) = pure true
    have h1 : env.blockKind = .function := by unfold Env.blockKind; rw [F0.fk]; rfl
    have h2 : env.kindOf x = some .local := (F0.kind _ hxl).2
    rw [h1, h2, hline, hno]; rfl
  rw [exec_Assign_Name_used _ _ _ _ hsw]
  refine wpC_bind (wpC_standAt ?_)
  refine wpC_bind (wpC_mono (Q := fun _ => Q .next) ?_ (fun _ _ hq => wpC_pure hq) fun _ _ e => e)
  show wpC _ _ (do let _ ← comprehension (.ListComp elt (⟨target, iter, ifs, 0⟩ :: rest) scope pos2) scope env _ (newList []) false (eval iter env) (some (assign (.Name x pos') env))) _ _ _
  refine wpC_bind (wpC_mono (Q := fun _ => Q .next) ?_ (fun _ _ hq => wpC_pure hq) fun _ _ e => e)
  refine C_comprehension (use := some (assign (.Name x pos') env)) rfl hfs hclos hkind n2 (wpC_mono k (fun x1 s₁ h₁ => wpC_mono h₁ (fun it s₂ h₂ => ?_) fun _ _ e => e) fun _ _ e => e)
  refine h₂ _ ?_
  clear h₂
  rintro h t K₀ K gs lk ws wsI rfl F hloc hp hit go
  obtain ⟨o, ho⟩ := F.L_some
  refine wpC_of (wpAny_newList ?_ (by simp))
  refine wpC_of (wpAny_newFunctionEnv n1 (fun x hx => by cases hx) ?_ hkind)
  intro h' hn hs
  have F1 := F.push (lst [] 0)
  have hkp : Keeps (h.push (lst [] 0)) h' := fun b ob e => hs.extBut b ob (Nat.ne_of_lt (Heap.lt_size e)) (Heap.get?_push_of_some _ e)
  have hLn : (h.push (lst [] 0)).get? (h.push (lst [] 0)).objs.size = none := Heap.get?_none_of_le (Nat.le_refl _)
  have FI := F1.inner (lkI := lkI) (wsI := (h.objs.size, lst [] 0) :: wsI) ok hkind hloc (List.perm_middle.trans ((hp.cons _).trans List.perm_middle.symm)) (Heap.get?_push_of_some _ ho) hLn hn hkp
  have go := go h.objs.size _ o h' ho FI
  have hcode : codeC (model prog w) A (.compStart (.ListComp elt (⟨target, iter, ifs, 0⟩ :: rest) scope pos2) 0 it (.ref h.objs.size) (compEnvC scope (cloOf lkI) (h.push (lst [] 0)).objs.size env)) (compC (model prog w) A E (some (assign (.Name x pos') env)) (fun _ => Q .next) (.ref h.objs.size) (h.push (lst [] 0)).objs.size) (up s h' t) := by
    have hfin : ∀ r s', CompOut s K₀ (compEnvC scope (cloOf lkI) (h.push (lst [] 0)).objs.size env) gsI env.locals o (cellsOf lk) (fun K' wsO t2 => cAcP s env x Q h.objs.size K₀ K' gs lk wsO t2) r s' → compC (model prog w) A E (some (assign (.Name x pos') env)) (fun _ => Q .next) (.ref h.objs.size) (h.push (lst [] 0)).objs.size r s' := fun r s' y => by
      cases r with
      | error e => exact y.elim
      | ok f =>
        refine y _ ?_
        rintro h2 t2 K2 lk2 ws2 wsO rfl F2 hK2 hp2 ⟨lk', hput, q⟩
        have FO := F.outer ho F2 hK2 hp2 (Heap.SameBut.refl _ _)
        obtain ⟨oC, es, ep, eC, rC⟩ := F2.nsp
        have hCL : (compEnvC scope (cloOf lkI) (h.push (lst [] 0)).objs.size env).locals ≠ env.locals := fun e => by rw [← e, F2.kL] at hK2; cases hK2
        have FC := FO.addOwn (a := (compEnvC scope (cloOf lkI) (h.push (lst [] 0)).objs.size env).locals) (o := oC) eC (by
          unfold drp; rw [if_neg hCL]; exact F2.kL) (fun hm => by
            rcases List.mem_cons.mp hm with e | hm
            · exact hCL e
            · have : (compEnvC scope (cloOf lkI) (h.push (lst [] 0)).objs.size env).locals ∈ (cellsOf lk2 ++ ws2).map (·.1) := ((hp2.map (·.1)).mem_iff).mpr hm
              exact (List.nodup_cons.mp F2.apart).1 this)
        show wpC _ _ (assign (.Name x pos') env (.ref h.objs.size)) _ _ _
        refine wpC_of (asg FC hput fun h4 t4 F4 => ?_)
        refine ⟨_, ⟨oC, es, ep, F4.isIn (.head _), rC⟩, fun h5 hs5 => q h5 t4 (F4.extBut hs5.extBut)⟩
    refine C_compStart rfl (wpC_of (wpAny_mono (hit h' t fun b ob e => hkp _ _ (Heap.get?_push_of_some _ e)) (fun v s' x => ?_) fun _ _ x => x)) (codeC_mono go hfin)
    obtain ⟨rfl, rfl⟩ := x
    exact ⟨rfl, codeC_mono go hfin⟩
  exact hcode
end
section
variable {prog : Program} {w : World} {A : Around} {s : Shared} {t : Nat} {K₀ K : KMap} {h : Heap}
/-- a call of a def of the top, its frame told -/
theorem enterE {R : Result → Shared → Prop} {fa : Addr} {fd : FuncData} {body : List Stmt} {args : Args} {binds : List (Str × Value)} {lk : List Var} {gs : List Str}
    (hB : Base K₀) (hs : Sub K₀ h) (hF : Fn K₀ fa fd) (hroom : A.depth < recursionLimit) (hbody : fd.body = .stmts body)
    (hgs : globsOf fd.scope.names = gs) (hbind : ∀ (Q : List (Str × Value) → Shared → Prop) (E : Value → Shared → Prop), Q binds (up s h t) → wpAny (model prog w) A.in1 (bindArgs fd args) Q E (up s h t)) (hput : PutAll (varsOf (h.objs.size + 1) fd.scope.names) binds lk)
    (k : ∀ env h' t', env = callEnvC fd h.objs.size fa → Fm K₀ (hk h) env gs lk [] h' →
      wpC (model prog w) (A.deeper env) (execs body env) (fun f s' => R (.ok (.ret (match f with | .ret v => v | _ => .none))) s') (fun _ _ => False) (up s h' t')) :
    codeC (model prog w) A (.call (.ref fa) args) R (up s h t) := by
  obtain ⟨o, ho, hd⟩ := hF.obj
  have ok := hF.ok
  simp only [scopeOk, Bool.and_eq_true, decide_eq_true_eq, Bool.not_eq_true', List.all_eq_true] at ok
  obtain ⟨⟨⟨⟨ok1, ok2⟩, ok3⟩, nd⟩, ok5⟩ := ok
  refine codeC_of_tree ?_
  show wpC _ A.in1 (callAny (.ref fa) args) _ _ _
  simp only [callAny]
  refine wpC_bind (wpC_of (wpAny_load (hs _ _ ho) ?_))
  obtain ⟨c, oc, vs, tq, hc, hoc, hdc, hq⟩ := hF.code _ hs
  simp only [hd, callFunction, ok2, ok3, hbody, hc]
  refine wpC_bind (m := field (.ref c) 1) (wpC_of (wpAny_field hoc hdc hq (wpC_bind (wpC_pure ?_))))
  refine wpC_bind (wpC_of (hbind _ _ ?_))
  rw [hF.clo, ← hc]
  simp only [newFunctionEnv, Option.isSome_none, Bool.false_eq_true, if_false]
  refine wpC_bind (wpC_of ?_)
  refine wpAny_bind (wpAny_alloc ?_)
  refine wpAny_bind (wpAny_layCells _ (fun name kind cells => by cases hkc : kind == NameKind.cell <;> simp) _ _ _ _ ?_)
  have F0 := entry_frame (h := h) hs hF
  rw [hgs] at F0
  have e1 : ({ up s h t with heap := (up s h t).heap.push { cls := .type "frame", data := .dict #[] } } : Shared).heap.objs.size = h.objs.size + 1 := Heap.size_push ..
  rw [e1]
  refine wpAny_bind (storeAll (s := s) (env := callEnvC fd h.objs.size fa) _ (fun _ _ _ => rfl) hput F0 fun h' t' F' => wpAny_pure ?_)
  refine wpC_bind (wpC_of (wpAny_enterFrame (hB.lim _ ((F'.base).sub F'.kept)) hroom ?_))
  refine wpC_pure ⟨rfl, rfl, codeC_of_tree ?_⟩
  show wpC _ (A.deeper _) (do point; match ← (execs body _).onRaise (leaving _) with | .ret v => ret v | _ => ret .none) _ _ _
  refine wpC_bind (wpC_of (wpAny_point (wpC_bind (wpC_onRaise (wpC_mono (k _ h' t' rfl F') (fun f s' h' => ?_) fun _ _ x => x)))))
  cases f <;> exact wpC_pure h'
end
end Mine
end
section
open PySem PySem.W PyProof.Rows
set_option Elab.async false
set_option maxRecDepth 100000
set_option maxHeartbeats 1000000
set_option linter.unusedVariables false
namespace Mine
noncomputable abbrev obo : Obj := { cls := .type "object", data := .plain }
theorem ob_mro : mroOf (.type "object") = pure [.type "object"] := by rw [mroOf_type]; kernel_rfl
theorem ob_lookup_new : typeLookup (.type "object") "__new__" = pure (some (.builtin "object.__new__")) := by rw [typeLookup_type, builtinLookup_eq_fast]; kernel_rfl
theorem ob_called : TypeCalled "object" "object.__new__" "object.__init__" :=
  ⟨by decide +kernel, by decide +kernel, ⟨_, _, ob_mro⟩, madeBy_type ob_mro ob_lookup_new (by decide +kernel), by decide +kernel, by rw [isSubtype_type]; kernel_rfl, PySem.F.slot_object_init⟩
theorem ob_typeCall : checkTypeCall "object" ⟨[], []⟩ = pure () := by kernel_rfl
theorem ob_newCall : checkBuiltinCall "object.__new__" ⟨[.type "object"], []⟩ = pure () := by kernel_rfl
theorem ob_entry : entryFor table "object.__new__" = some Builtin.«object.__new__» := entryFor_of_tree (by kernel_rfl)
theorem ob_tree : Builtin.«object.__new__» ⟨[.type "object"], []⟩ = (do let v ← newObj (.type "object") .plain none; ret v) := by kernel_rfl
section
variable {prog : Program} {w : World} {M : Model} {A : Around} {E : Value → Shared → Prop} {s : Shared} {t : Nat} {K₀ K : KMap} {env : Env} {gs : List Str} {lk : List Var} {ws ws' : List (Addr × Obj)} {h : Heap}
theorem obj_new {Q : Value → Shared → Prop} (F : Fm K₀ K env gs lk ws h) (q : ∀ a h', Fm K₀ K env gs lk ((a, obo) :: ws) h' → Q (.ref a) (up s h' t)) : wpAny (model prog w) A (call (.type "object") []) Q E (up s h t) := by
  refine callType_codes (s := up s h t) (Q₁ := fun obj s₁ => s₁.TypeIs obj "object" ∧ Q obj s₁) ob_called ob_typeCall PySem.F.entry_object_init ?_ fun obj s₁ h₁ => ?_
  · refine codeAny_of_tree ?_
    show wpAny _ A.in1.in1 (do checkBuiltinCall "object.__new__" ⟨[.type "object"], []⟩; again (.builtin "object.__new__" ⟨[.type "object"], []⟩)) _ _ _
    refine wpAny_bind (wpAny_of_eq ob_newCall (wpAny_pure ⟨plainId_quiet ob_called.plain _, codeAny_builtin ob_entry ?_⟩))
    rw [Around.under_plainId ob_called.plain _, ob_tree]
    have F' := F.push obo
    refine wpAny_bind (wpAny_newObj_type ?_ (by trivial))
    exact wpAny_pure ⟨⟨_, F'.isIn (.head _), rfl⟩, q _ _ F'⟩
  · exact ⟨h₁.1, PySem.F.args_object_init_1 obj, wpAny_pure ⟨rfl, h₁.2⟩⟩
theorem iter_call {x : Value} {Q : Value → Shared → Prop} (k : wpAny (model prog w) A.in1 (pyIter x) (fun v s' => Q v s') E s) : wpAny (model prog w) A (call (.builtin "iter") [x]) Q E s := by
  refine Calls.call_function_entry (by decide +kernel) (by decide +kernel) kdk_entry_iter (kdk_args_iter _) ?_
  unfold Builtin.«iter»
  refine wpAny_bind (m := someArgs "iter" 1 2 _) (wpAny_of_eq (a := [x]) (by first | rfl | kernel_rfl!) ?_)
  show wpAny _ _ (pyIter x >>= _) _ _ _
  exact wpAny_bind (wpAny_mono k (fun v s' hv => wpAny_pure ⟨_, rfl, hv⟩) fun _ _ e => e)
theorem is_tup_obj {x y : Addr} {ox oy : Obj} {Q : Value → Shared → Prop} (hxy : x ≠ y) (hx : s.heap.get? x = some ox) (hy : s.heap.get? y = some oy) (hnt : oy.cls ≠ .type "tuple") (q : Q (.bool false) s) : wpAny M A (compareOp .Is (.ref x) (.ref y)) Q E s := by
  show wpAny M A (do return .bool (← isSame (.ref x) (.ref y))) Q E s
  refine wpAny_bind ?_
  show wpAny M A (if (x == y) = true then pure true else _) _ E s
  rw [if_neg (by simpa using hxy)]
  refine wpAny_bind (wpAny_load hx (wpAny_bind (wpAny_load hy ?_)))
  split
  · rename_i h1 h2 _ _; exact absurd h2 hnt
  · exact wpAny_pure (wpAny_pure q)
/-- «a, b, c = value» -/
theorem assign_tup3 {n1 n2 n3 : Str} {p1 p2 p3 pos' pos : Pos} {k : Nat} {value : Expr} {Q : Flow → Shared → Prop}
    (q : wpAny M A (eval value env) (fun v s₁ => wpAny M A (assign (.Tuple [.Name n1 p1, .Name n2 p2, .Name n3 p3] k pos') env v) (fun _ => Q .next) E s₁) E s)
    (hs : swapsWithSole [.Tuple [.Name n1 p1, .Name n2 p2, .Name n3 p3] k pos'] value pos.line env = pure false := by rfl) (hw : swappedStores [.Tuple [.Name n1 p1, .Name n2 p2, .Name n3 p3] k pos'] value env = pure none := by rfl) :
    wpAny M A (exec (.Assign [.Tuple [.Name n1 p1, .Name n2 p2, .Name n3 p3] k pos'] value pos) env) Q E s := by
  rw [arm_exec_Assign]
  refine wpAny_bind (wpAny_standAt ?_)
  refine wpAny_bind (wpAny_of_eq hs ?_)
  rw [if_neg (by decide)]
  refine wpAny_bind (wpAny_mono q (fun v s₁ h₁ => ?_) fun _ _ e => e)
  refine wpAny_bind (wpAny_of_eq hw ?_)
  unfold assignStores
  refine wpAny_bind ?_
  show wpAny M A (assignAll v [assign (.Tuple [.Name n1 p1, .Name n2 p2, .Name n3 p3] k pos') env]) _ _ _
  unfold assignAll
  exact wpAny_mono h₁ (fun _ _ hq => wpAny_pure hq) fun _ _ e => e
end
end Mine
end
section
open PySem PySem.W PyProof.Rows PySem.Builtin
set_option Elab.async false
set_option linter.unusedVariables false
namespace Mine
/-! the order of octets -/
theorem ltB_nil : ∀ b : List UInt8, ltB [] b = !b.isEmpty
  | [] => rfl
  | _ :: _ => rfl
theorem ltB_cons_nil (x : UInt8) (xs : List UInt8) : ltB (x :: xs) [] = false := rfl
theorem ltB_cons (x y : UInt8) (xs ys : List UInt8) : ltB (x :: xs) (y :: ys) = (decide (x.toNat < y.toNat) || (x == y && ltB xs ys)) := by
  unfold ltB
  rw [show Bytes.order (x :: xs) (y :: ys) = if x < y then .lt else if x > y then .gt else Bytes.order xs ys from rfl]
  by_cases h1 : x < y
  · have : x.toNat < y.toNat := UInt8.lt_iff_toNat_lt.mp h1
    rw [if_pos h1]; simp [this]
  · have h1' : ¬ x.toNat < y.toNat := fun h => h1 (UInt8.lt_iff_toNat_lt.mpr h)
    rw [if_neg h1]
    by_cases h2 : x > y
    · have : y.toNat < x.toNat := UInt8.lt_iff_toNat_lt.mp h2
      rw [if_pos h2]
      have hne : (x == y) = false := beq_eq_false_iff_ne.mpr (fun e => by rw [e] at this; exact Nat.lt_irrefl _ this)
      simp [h1', hne]
    · have h2' : ¬ y.toNat < x.toNat := fun h => h2 (UInt8.lt_iff_toNat_lt.mpr h)
      have : x = y := UInt8.toNat_inj.mp (by (clear h1 h2; lia))
      rw [if_neg h2]; simp [this]
theorem ltB_irr : ∀ a : List UInt8, ltB a a = false
  | [] => rfl
  | x :: xs => by rw [ltB_cons, ltB_irr xs]; simp
theorem ltB_trans : ∀ {a b c : List UInt8}, ltB a b = true → ltB b c = true → ltB a c = true
  | [], [], _, h, _ => by cases h
  | [], _ :: _, [], _, h => by cases h
  | [], _ :: _, _ :: _, _, _ => rfl
  | _ :: _, [], _, h, _ => by cases h
  | _ :: _, _ :: _, [], _, h => by cases h
  | x :: xs, y :: ys, z :: zs, h1, h2 => by
    rw [ltB_cons] at h1 h2 ⊢
    simp only [Bool.or_eq_true, decide_eq_true_eq, Bool.and_eq_true, beq_iff_eq] at h1 h2 ⊢
    rcases h1 with h1 | ⟨rfl, h1⟩ <;> rcases h2 with h2 | ⟨rfl, h2⟩
    · exact .inl (by exact Nat.lt_trans h1 h2)
    · exact .inl h1
    · exact .inl h2
    · exact .inr ⟨rfl, ltB_trans h1 h2⟩
theorem ltB_tot : ∀ {a b : List UInt8}, a ≠ b → ltB a b = true ∨ ltB b a = true
  | [], [], h => absurd rfl h
  | [], _ :: _, _ => .inl rfl
  | _ :: _, [], _ => .inr rfl
  | x :: xs, y :: ys, h => by
    rw [ltB_cons, ltB_cons]
    simp only [Bool.or_eq_true, decide_eq_true_eq, Bool.and_eq_true, beq_iff_eq]
    by_cases e : x = y
    · subst e
      rcases ltB_tot (a := xs) (b := ys) (fun z => h (by rw [z])) with h1 | h1
      · exact .inl (.inr ⟨rfl, h1⟩)
      · exact .inr (.inr ⟨rfl, h1⟩)
    · have : x.toNat ≠ y.toNat := fun z => e (UInt8.toNat_inj.mp z)
      rcases Nat.lt_or_gt_of_ne this with h1 | h1
      · exact .inl (.inl h1)
      · exact .inr (.inl h1)
theorem swo_of {α : Type} {lt : α → α → Bool} (irr : ∀ a, lt a a = false) (tr : ∀ a b c, lt a b = true → lt b c = true → lt a c = true) (tot : ∀ a b, a ≠ b → lt a b = true ∨ lt b a = true) : Swo lt := by
  classical
  refine ⟨fun a b h => ?_, fun a b c h1 h2 => ?_⟩
  · cases h2 : lt b a with
    | false => rfl
    | true => have := tr _ _ _ h h2; rw [irr] at this; cases this
  · cases h3 : lt c a with
    | false => rfl
    | true =>
      by_cases e : a = b
      · subst e; rw [h3] at h2; cases h2
      · rcases tot a b e with h4 | h4
        · have := tr _ _ _ h3 h4; rw [h2] at this; cases this
        · rw [h1] at h4; cases h4
theorem ltB_swo : Swo ltB := swo_of ltB_irr (fun _ _ _ => ltB_trans) (fun _ _ => ltB_tot)
theorem gtB_eq (a b : List UInt8) : gtB a b = ltB b a := by
  induction a generalizing b with
  | nil => cases b <;> rfl
  | cons x xs ih =>
    cases b with
    | nil => rfl
    | cons y ys =>
      rw [ltB_cons, ← ih ys]
      unfold gtB
      rw [show Bytes.order (x :: xs) (y :: ys) = if x < y then .lt else if x > y then .gt else Bytes.order xs ys from rfl]
      by_cases h1 : x < y
      · have : x.toNat < y.toNat := UInt8.lt_iff_toNat_lt.mp h1
        have hne : (y == x) = false := beq_eq_false_iff_ne.mpr (fun e => by rw [e] at this; exact Nat.lt_irrefl _ this)
        rw [if_pos h1, hne]; simp; exact Nat.le_of_lt this
      · have h1' : ¬ x.toNat < y.toNat := fun h => h1 (UInt8.lt_iff_toNat_lt.mpr h)
        rw [if_neg h1]
        by_cases h2 : x > y
        · have : y.toNat < x.toNat := UInt8.lt_iff_toNat_lt.mp h2
          rw [if_pos h2]; simp [this]
        · have h2' : ¬ y.toNat < x.toNat := fun h => h2 (UInt8.lt_iff_toNat_lt.mpr h)
          have : x = y := UInt8.toNat_inj.mp (by (clear h1 h2; lia))
          rw [if_neg h2]; simp [this]
/-- upward, or downward -/
noncomputable def btU (u : Bool) (a b : List UInt8) : Bool := if u then ltB a b else ltB b a
/-- one place ahead of another: by the keys, like ones by the places -/
noncomputable def bfU (u : Bool) (ks : List (List UInt8)) (i j : Nat) : Bool := if ks.getD i [] == ks.getD j [] then decide (i < j) else btU u (ks.getD i []) (ks.getD j [])
structure Sto (bf : Nat → Nat → Bool) : Prop where
  irr : ∀ i, bf i i = false
  tr : ∀ i j k, bf i j = true → bf j k = true → bf i k = true
  tot : ∀ i j, i ≠ j → bf i j = true ∨ bf j i = true
theorem btU_irr (u : Bool) (a : List UInt8) : btU u a a = false := by unfold btU; split <;> exact ltB_irr a
theorem btU_tr {u : Bool} {a b c : List UInt8} (h1 : btU u a b = true) (h2 : btU u b c = true) : btU u a c = true := by
  unfold btU at *
  cases u
  · exact ltB_trans h2 h1
  · exact ltB_trans h1 h2
theorem btU_tot (u : Bool) {a b : List UInt8} (h : a ≠ b) : btU u a b = true ∨ btU u b a = true := by
  unfold btU
  cases u
  · exact (ltB_tot h).symm
  · exact ltB_tot h
theorem bfU_iff {u : Bool} {ks : List (List UInt8)} {i j : Nat} : bfU u ks i j = true ↔ (ks.getD i [] = ks.getD j [] ∧ i < j) ∨ btU u (ks.getD i []) (ks.getD j []) = true := by
  unfold bfU
  by_cases e : ks.getD i [] = ks.getD j []
  · rw [if_pos (beq_iff_eq.mpr e)]
    constructor
    · intro h; exact .inl ⟨e, by simpa using h⟩
    · rintro (h | h)
      · simpa using h.2
      · rw [e, btU_irr] at h; cases h
  · rw [if_neg (fun z => e (beq_iff_eq.mp z))]
    constructor
    · intro h; exact .inr h
    · rintro (h | h)
      · exact absurd h.1 e
      · exact h
theorem bfU_sto (u : Bool) (ks : List (List UInt8)) : Sto (bfU u ks) := by
  refine ⟨fun i => ?_, fun i j k h1 h2 => ?_, fun i j h => ?_⟩
  · unfold bfU; simp
  · rw [bfU_iff] at *
    rcases h1 with ⟨e1, l1⟩ | h1 <;> rcases h2 with ⟨e2, l2⟩ | h2
    · exact .inl ⟨e1.trans e2, by exact Nat.lt_trans l1 l2⟩
    · rw [e1]; exact .inr h2
    · rw [← e2]; exact .inr h1
    · exact .inr (btU_tr h1 h2)
  · rw [bfU_iff, bfU_iff]
    by_cases e : ks.getD i [] = ks.getD j []
    · rcases Nat.lt_or_gt_of_ne h with h1 | h1
      · exact .inl (.inl ⟨e, h1⟩)
      · exact .inr (.inl ⟨e.symm, h1⟩)
    · rcases btU_tot u e with h1 | h1
      · exact .inl (.inr h1)
      · exact .inr (.inr h1)
theorem Sto.swo {bf : Nat → Nat → Bool} (s : Sto bf) : Swo bf := swo_of s.irr s.tr s.tot
theorem Sto.asym {bf : Nat → Nat → Bool} (s : Sto bf) {i j : Nat} (h : bf i j = true) : bf j i = false := s.swo.asym _ _ h
/-- the order of a heap whose root is the last one -/
noncomputable def ltG {α : Type} (bf : Nat → Nat → Bool) (g : α → Nat) (x y : α) : Bool := bf (g y) (g x)
theorem ltG_swo {α : Type} {bf : Nat → Nat → Bool} (s : Sto bf) (g : α → Nat) : Swo (ltG bf g) :=
  ⟨fun a b h => s.asym h, fun a b c h1 h2 => s.swo.trans _ _ _ h2 h1⟩
theorem sb_bf {u : Bool} {ks : List (List UInt8)} {i j : Nat} (h : Sb (fun i j => btU u (ks.getD i []) (ks.getD j [])) i j) : bfU u ks i j = true := by
  rw [bfU_iff]
  rcases h with h | ⟨h, l⟩
  · exact .inr h
  · have h : btU u (ks.getD j []) (ks.getD i []) = false := h
    by_cases e : ks.getD i [] = ks.getD j []
    · exact .inl ⟨e, l⟩
    · exact .inr ((btU_tot u e).resolve_right (by rw [h]; decide))
theorem take_eq {bf : Nat → Nat → Bool} (s : Sto bf) : ∀ {idx js : List Nat}, idx.Pairwise (bf · · = true) → js.Pairwise (bf · · = true) → (∀ j ∈ js, j ∈ idx) → (∀ j ∈ idx, j ∉ js → ∀ v ∈ js, bf v j = true) → js = idx.take js.length
  | [], [], _, _, _, _ => rfl
  | [], b :: t, _, _, h, _ => by have := h b (.head _); cases this
  | a :: r, [], _, _, _, _ => rfl
  | a :: r, b :: t, hi, hj, hs, hb => by
    rw [List.pairwise_cons] at hi hj
    have hab : a = b := by
      by_cases e : a = b
      · exact e
      · have hbr : b ∈ r := by
          rcases List.mem_cons.mp (hs b (.head _)) with z | z
          · exact absurd z.symm e
          · exact z
        have h1 := hi.1 b hbr
        have h2 : bf b a = true := by
          by_cases hm : a ∈ b :: t
          · rcases List.mem_cons.mp hm with z | z
            · exact absurd z e
            · exact hj.1 a z
          · exact hb a (.head _) hm b (.head _)
        rw [s.asym h1] at h2; cases h2
    subst hab
    have := take_eq s (idx := r) (js := t) hi.2 hj.2 (fun j hjt => by
      rcases List.mem_cons.mp (hs j (.tail _ hjt)) with z | z
      · subst z; have := hj.1 j hjt; rw [s.irr] at this; cases this
      · exact z) (fun j hjr hjt v hv => hb j (.tail _ hjr) (fun hm => by
        rcases List.mem_cons.mp hm with z | z
        · subst z; have := hi.1 j hjr; rw [s.irr] at this; cases this
        · exact hjt z) v (.tail _ hv))
    rw [List.length_cons, List.take_succ_cons, ← this]
theorem pick_eq (u : Bool) (ks : List (List UInt8)) (bt : List UInt8 → List UInt8 → Bool) (hbt : ∀ a b, bt a b = btU u a b) : ∀ m, pick bt ks m ≤ m ∧ ∀ j, j ≤ m → j ≠ pick bt ks m → bfU u ks (pick bt ks m) j = true
  | 0 => ⟨Nat.le_refl _, fun j h1 h2 => by simp only [pick] at h2; lia⟩
  | m + 1 => by
    obtain ⟨i1, i2⟩ := pick_eq u ks bt hbt m
    have st := bfU_sto u ks
    simp only [pick]
    cases h : bt (ks.getD (m + 1) []) (ks.getD (pick bt ks m) []) with
    | true =>
      rw [hbt] at h
      simp only [if_true]
      have h1 : bfU u ks (m + 1) (pick bt ks m) = true := bfU_iff.mpr (.inr h)
      refine ⟨Nat.le_refl _, fun j hj hne => ?_⟩
      by_cases e : j = pick bt ks m
      · rw [e]; exact h1
      · exact st.tr _ _ _ h1 (i2 j (by (clear i1 e; lia)) e)
    | false =>
      rw [hbt] at h
      simp only [Bool.false_eq_true, if_false]
      refine ⟨by lia, fun j hj hne => ?_⟩
      by_cases e : j = m + 1
      · subst e
        rw [bfU_iff]
        by_cases e2 : ks.getD (pick bt ks m) [] = ks.getD (m + 1) []
        · exact .inl ⟨e2, by exact Nat.lt_succ_of_le i1⟩
        · exact .inr ((btU_tot u e2).resolve_right (by rw [h]; decide))
      · exact i2 j (by (clear i1 hne; lia)) hne
/-- what stands in order -/
structure Rise (u : Bool) (ks : List (List UInt8)) (idx : List Nat) : Prop where
  pm : idx.Perm (List.range ks.length)
  pw : idx.Pairwise (bfU u ks · · = true)
theorem Rise.one {u : Bool} {ks : List (List UInt8)} {idx : List Nat} (r : Rise u ks idx) (hk : 0 < ks.length) (bt : List UInt8 → List UInt8 → Bool) (hbt : ∀ a b, bt a b = btU u a b) : idx.take 1 = [pick bt ks (ks.length - 1)] := by
  obtain ⟨i1, i2⟩ := pick_eq u ks bt hbt (ks.length - 1)
  have := take_eq (bfU_sto u ks) (idx := idx) (js := [pick bt ks (ks.length - 1)]) r.pw (List.pairwise_singleton _ _) (fun j hj => by
    rw [List.mem_singleton] at hj; subst hj; exact r.pm.mem_iff.mpr (List.mem_range.mpr (by omega))) (fun j hj hn v hv => by
    rw [List.mem_singleton] at hv; subst hv
    exact i2 j (by have := List.mem_range.mp (r.pm.mem_iff.mp hj); omega) (fun e => hn (by rw [e]; exact .head _)))
  exact this.symm
theorem Rise.unique {u : Bool} {ks : List (List UInt8)} {idx jdx : List Nat} (r : Rise u ks idx) (q : Rise u ks jdx) : jdx = idx := by
  have := take_eq (bfU_sto u ks) r.pw q.pw (fun j hj => r.pm.mem_iff.mpr (q.pm.mem_iff.mp hj)) (fun j hj hn => absurd (q.pm.mem_iff.mpr (r.pm.mem_iff.mp hj)) hn)
  rw [this, q.pm.length_eq, ← r.pm.length_eq, List.take_length]
end Mine
end
section
open PySem PySem.W PyProof.Rows PySem.Builtin
set_option Elab.async false
set_option linter.unusedVariables false
namespace Mine
/-- entries of the places -/
structure Ents (K : KMap) (u : Bool) (ks : List (List UInt8)) (vs rv : List Value) (g : Value → Nat) (o : Nat → Int) (i : Nat) (ord : Int) : Prop where
  ents : ∀ v ∈ rv, g v < i ∧ EntAt K v ⟨ks.getD (g v) [], o (g v), vs.getD (g v) .none⟩
  nd : (rv.map g).Nodup
  mono : ∀ v ∈ rv, ∀ x ∈ rv, g v < g x → (if u then o (g v) < o (g x) else o (g x) < o (g v))
  low : ∀ v ∈ rv, if u then o (g v) < ord else ord < o (g v)
theorem Ents.ge {K : KMap} {u : Bool} {ks : List (List UInt8)} {vs rv : List Value} {g : Value → Nat} {o : Nat → Int} {i : Nat} {ord : Int} (E : Ents K u ks vs rv g o i ord) {K' : KMap} (hk : KLe K K') : Ents K' u ks vs rv g o i ord :=
  ⟨fun v hv => ⟨(E.ents v hv).1, (E.ents v hv).2.mono hk⟩, E.nd, E.mono, E.low⟩
theorem Ents.perm {K : KMap} {u : Bool} {ks : List (List UInt8)} {vs rv rv' : List Value} {g : Value → Nat} {o : Nat → Int} {i : Nat} {ord : Int} (E : Ents K u ks vs rv g o i ord) (p : rv'.Perm rv) : Ents K u ks vs rv' g o i ord :=
  ⟨fun v hv => E.ents v (p.mem_iff.mp hv), (p.map g).nodup_iff.mpr E.nd, fun v hv x hx => E.mono v (p.mem_iff.mp hv) x (p.mem_iff.mp hx), fun v hv => E.low v (p.mem_iff.mp hv)⟩
theorem Ents.sub {K : KMap} {u : Bool} {ks : List (List UInt8)} {vs rv rv' : List Value} {g : Value → Nat} {o : Nat → Int} {i : Nat} {ord : Int} (E : Ents K u ks vs rv g o i ord) (p : rv'.Sublist rv) : Ents K u ks vs rv' g o i ord :=
  ⟨fun v hv => E.ents v (p.subset hv), E.nd.sublist (p.map g), fun v hv x hx => E.mono v (p.subset hv) x (p.subset hx), fun v hv => E.low v (p.subset hv)⟩
theorem Ents.cmp {K : KMap} {u : Bool} {ks : List (List UInt8)} {vs rv : List Value} {g : Value → Nat} {o : Nat → Int} {i : Nat} {ord : Int} (E : Ents K u ks vs rv g o i ord) {v x : Value} (hv : v ∈ rv) (hx : x ∈ rv) :
    ∃ e f, EntAt K v e ∧ EntAt K x f ∧ (e.key = f.key → e.ord ≠ f.ord ∨ e.item = f.item) ∧ ltE e f = (if u then bfU u ks (g v) (g x) else bfU u ks (g x) (g v)) := by
  refine ⟨_, _, (E.ents v hv).2, (E.ents x hx).2, ?_, ?_⟩
  · intro _
    rcases Nat.lt_trichotomy (g v) (g x) with h | h | h
    · have := E.mono v hv x hx h
      left; show o (g v) ≠ o (g x)
      split at this <;> (clear h; lia)
    · right; show vs.getD (g v) .none = vs.getD (g x) .none; rw [h]
    · have := E.mono x hx v hv h
      left; show o (g v) ≠ o (g x)
      split at this <;> (clear h; lia)
  · simp only [ltE]
    by_cases hk : ks.getD (g v) [] = ks.getD (g x) []
    · rw [if_pos (beq_iff_eq.mpr hk)]
      unfold bfU
      rw [if_pos (beq_iff_eq.mpr hk), if_pos (beq_iff_eq.mpr hk.symm)]
      rcases Nat.lt_trichotomy (g v) (g x) with h | h | h
      · have := E.mono v hv x hx h
        cases u <;> simp only [if_true, Bool.false_eq_true, if_false] at this ⊢ <;> rw [decide_eq_decide] <;> omega
      · rw [h]; cases u <;> simp
      · have := E.mono x hx v hv h
        cases u <;> simp only [if_true, Bool.false_eq_true, if_false] at this ⊢ <;> rw [decide_eq_decide] <;> omega
    · rw [if_neg (fun z => hk (beq_iff_eq.mp z))]
      unfold bfU
      rw [if_neg (fun z => hk (beq_iff_eq.mp z)), if_neg (fun z => hk (beq_iff_eq.mp z).symm)]
      cases u <;> rfl
theorem Ents.cmpOk {prog : Program} {w : World} {K : KMap} {u : Bool} {ks : List (List UInt8)} {vs rv : List Value} {g : Value → Nat} {o : Nat → Int} {i : Nat} {ord : Int} (E : Ents K u ks vs rv g o i ord) {v x : Value} (hv : v ∈ rv) (hx : x ∈ rv) :
    CmpOk prog w K v x (if u then bfU u ks (g v) (g x) else bfU u ks (g x) (g v)) := by
  obtain ⟨e, f, he, hf, hd, hl⟩ := E.cmp hv hx
  rw [← hl]
  exact cmp_ents he hf hd
/-- the heap of the best so far -/
structure HpSt (K : KMap) (u : Bool) (ks : List (List UInt8)) (vs rv : List Value) (g : Value → Nat) (o : Nat → Int) (i : Nat) (ord : Int) : Prop where
  en : Ents K u ks vs rv g o i ord
  heap : IsHeap (ltG (bfU u ks) g) rv
  best : ∀ j, j < i → j ∉ rv.map g → ∀ v ∈ rv, bfU u ks (g v) j = true
theorem at_mem {xs : List Value} {i : Nat} (h : i < xs.length) : at' xs i ∈ xs := by
  unfold at'; rw [List.getD_eq_getElem?_getD, List.getElem?_eq_getElem h]; simp
theorem mem_at {xs : List Value} {v : Value} (h : v ∈ xs) : ∃ i, i < xs.length ∧ at' xs i = v := by
  obtain ⟨i, hi, e⟩ := List.mem_iff_getElem.mp h
  exact ⟨i, hi, by unfold at'; rw [List.getD_eq_getElem?_getD, List.getElem?_eq_getElem hi]; exact e⟩
theorem HpSt.root {K : KMap} {u : Bool} {ks : List (List UInt8)} {vs rv : List Value} {g : Value → Nat} {o : Nat → Int} {i : Nat} {ord : Int} (S : HpSt K u ks vs rv g o i ord) (v : Value) (hv : v ∈ rv) : g v = g (at' rv 0) ∨ bfU u ks (g v) (g (at' rv 0)) = true := by
  obtain ⟨j, hj, rfl⟩ := mem_at hv
  have := root_ok (ltG_swo (bfU_sto u ks) g) S.heap j hj
  have h2 : bfU u ks (g (at' rv 0)) (g (at' rv j)) = false := this
  by_cases e : g (at' rv j) = g (at' rv 0)
  · exact .inl e
  · exact .inr (((bfU_sto u ks).tot _ _ e).resolve_right (by rw [h2]; decide))
theorem HpSt.keep {K : KMap} {u : Bool} {ks : List (List UInt8)} {vs rv : List Value} {g : Value → Nat} {o : Nat → Int} {i : Nat} {ord : Int} (S : HpSt K u ks vs rv g o i ord) (hp : 0 < rv.length) (ht : btU u (ks.getD i []) (ks.getD (g (at' rv 0)) []) = false) :
    HpSt K u ks vs rv g o (i + 1) ord := by
  refine ⟨⟨fun v hv => ⟨Nat.lt_succ_of_lt (S.en.ents v hv).1, (S.en.ents v hv).2⟩, S.en.nd, S.en.mono, S.en.low⟩, S.heap, fun j hj hn v hv => ?_⟩
  rcases Nat.lt_or_ge j i with h | h
  · exact S.best j h hn v hv
  · obtain rfl : j = i := by (clear hp hn; lia)
    have hr : bfU u ks (g (at' rv 0)) j = true := by
      rw [bfU_iff]
      have := (S.en.ents _ (at_mem hp)).1
      by_cases e : ks.getD (g (at' rv 0)) [] = ks.getD j []
      · exact .inl ⟨e, this⟩
      · exact .inr ((btU_tot u e).resolve_right (by rw [ht]; decide))
    rcases S.root v hv with e | e
    · rw [e]; exact hr
    · exact (bfU_sto u ks).tr _ _ _ e hr
theorem Ents.add {K : KMap} {u : Bool} {ks : List (List UInt8)} {vs rv : List Value} {g : Value → Nat} {o : Nat → Int} {i : Nat} {ord : Int} (E : Ents K u ks vs rv g o i ord) {v' : Value} (hn : v' ∉ rv) (he : EntAt K v' ⟨ks.getD i [], ord, vs.getD i .none⟩) :
    Ents K u ks vs (v' :: rv) (fun x => if x = v' then i else g x) (fun j => if j = i then ord else o j) (i + 1) (if u then ord + 1 else ord - 1) := by
  have hg : ∀ v ∈ rv, (if v = v' then i else g v) = g v ∧ g v ≠ i := fun v hv => by
    refine ⟨if_neg (fun (e : v = v') => hn (e ▸ hv)), fun e => ?_⟩
    have := (E.ents v hv).1; (clear hn; lia)
  refine ⟨fun v hv => ?_, ?_, fun v hv x hx h => ?_, fun v hv => ?_⟩
  · rcases List.mem_cons.mp hv with rfl | hv
    · simp only [if_true]; exact ⟨Nat.lt_succ_self _, he⟩
    · obtain ⟨g1, g2⟩ := hg v hv
      simp only [g1, if_neg g2]
      exact ⟨Nat.lt_succ_of_lt (E.ents v hv).1, (E.ents v hv).2⟩
  · have e : rv.map (fun x => if x = v' then i else g x) = rv.map g := List.map_congr_left fun v hv => (hg v hv).1
    rw [List.map_cons, e, List.nodup_cons]
    refine ⟨fun hm => ?_, E.nd⟩
    simp only [if_true] at hm
    obtain ⟨v, hv, e⟩ := List.mem_map.mp hm
    exact (hg v hv).2 e
  · rcases List.mem_cons.mp hv with e1 | hv2
    · rcases List.mem_cons.mp hx with e2 | hx2
      · rw [e1, e2] at h; (clear hn; lia)
      · obtain ⟨g1, g2⟩ := hg x hx2
        have := (E.ents x hx2).1
        simp only [e1, if_true, g1] at h
        omega
    · obtain ⟨g1, g2⟩ := hg v hv2
      rcases List.mem_cons.mp hx with e2 | hx2
      · simp only [e2, if_true, g1, if_neg g2]
        exact E.low v hv2
      · obtain ⟨k1, k2⟩ := hg x hx2
        simp only [g1, if_neg g2, k1, if_neg k2] at h ⊢
        exact E.mono v hv2 x hx2 h
  · rcases List.mem_cons.mp hv with rfl | hv
    · simp only [if_true]; cases u <;> simp <;> (clear hn; lia)
    · obtain ⟨g1, g2⟩ := hg v hv
      simp only [g1, if_neg g2]
      have := E.low v hv
      cases u <;> simp only [if_true, Bool.false_eq_true, if_false] at this ⊢ <;> (clear hn g1 g2; omega)
theorem HpSt.repl {K : KMap} {u : Bool} {ks : List (List UInt8)} {vs rv : List Value} {g : Value → Nat} {o : Nat → Int} {i : Nat} {ord : Int} (S : HpSt K u ks vs rv g o i ord) (hp : 0 < rv.length) {v' : Value} (hn : v' ∉ rv) (he : EntAt K v' ⟨ks.getD i [], ord, vs.getD i .none⟩)
    (ht : btU u (ks.getD i []) (ks.getD (g (at' rv 0)) []) = true) :
    HpSt K u ks vs (siftup (ltG (bfU u ks) fun x => if x = v' then i else g x) (rv.set 0 v') 0) (fun x => if x = v' then i else g x) (fun j => if j = i then ord else o j) (i + 1) (if u then ord + 1 else ord - 1) := by
  have st := bfU_sto u ks
  have hg : ∀ v ∈ rv, (if v = v' then i else g v) = g v := fun v hv => if_neg (fun (e : v = v') => hn (e ▸ hv))
  have hh : IsHeap (ltG (bfU u ks) fun x => if x = v' then i else g x) rv := fun j j0 hj => by
    have := S.heap j j0 hj
    unfold ltG at this ⊢
    show bfU u ks (if at' rv ((j - 1) / 2) = v' then i else g (at' rv ((j - 1) / 2))) (if at' rv j = v' then i else g (at' rv j)) = false
    rw [hg _ (at_mem (by omega)), hg _ (at_mem hj)]
    exact this
  obtain ⟨r1, r2⟩ := replace_ok (ltG_swo st fun x => if x = v' then i else g x) (v := v') hh hp
  have En := (S.en.add hn he).sub (rv' := v' :: rv.tail) (List.Sublist.cons_cons _ (List.tail_sublist _))
  refine ⟨En.perm r2, r1, fun j hj hnj v hv => ?_⟩
  have hroot : bfU u ks i (g (at' rv 0)) = true := bfU_iff.mpr (.inr ht)
  have hmem : ∀ x, x ∈ siftup (ltG (bfU u ks) fun x => if x = v' then i else g x) (rv.set 0 v') 0 ↔ x = v' ∨ x ∈ rv.tail := fun x => by rw [r2.mem_iff, List.mem_cons]
  obtain ⟨r, t, rfl⟩ : ∃ r t, rv = r :: t := by
    cases rv with
    | nil => simp at hp
    | cons r t => exact ⟨r, t, rfl⟩
  have hat : at' (r :: t) 0 = r := rfl
  rw [hat] at hroot ht
  have nd := S.en.nd
  rw [List.map_cons, List.nodup_cons] at nd
  -- each of the new ones is ahead of the old root
  have hvr : bfU u ks (if v = v' then i else g v) (g r) = true := by
    rcases (hmem v).mp hv with rfl | hv
    · simp only [if_true]; exact hroot
    · have hv : v ∈ t := hv
      rw [hg v (.tail _ hv)]
      rcases S.root v (.tail _ hv) with e | e
      · exact absurd (List.mem_map.mpr ⟨v, hv, e⟩) nd.1
      · exact e
  have hji : j ≠ i := fun e => hnj (List.mem_map.mpr ⟨v', (hmem v').mpr (.inl rfl), by rw [if_pos rfl]; exact e.symm⟩)
  by_cases hjr : j = g r
  · rw [hjr]; exact hvr
  · have hj1 : j ∉ (r :: t).map g := fun hm => by
      obtain ⟨x, hx, e⟩ := List.mem_map.mp hm
      rcases List.mem_cons.mp hx with rfl | hx
      · exact hjr e.symm
      · exact hnj (List.mem_map.mpr ⟨x, (hmem x).mpr (.inr hx), by rw [hg x (.tail _ hx)]; exact e⟩)
    exact st.tr _ _ _ hvr (S.best j (by (clear hp hn hnj nd hjr hj1; lia)) hj1 r (.head _))
/-- the start -/
theorem Ents.init {K : KMap} {u : Bool} {ks : List (List UInt8)} {vs rv : List Value} {n : Nat} (hn : rv.length ≤ n) (hv : ∀ j, j < rv.length → EntAt K (at' rv j) ⟨ks.getD j [], if u then (j : Int) else -(j : Int), vs.getD j .none⟩) :
    Ents K u ks vs rv (fun v => rv.idxOf v) (fun j => if u then (j : Int) else -(j : Int)) rv.length (if u then (n : Int) else -(n : Int)) ∧ rv.map (fun v => rv.idxOf v) = List.range rv.length := by
  have hinj : ∀ a b, a < rv.length → b < rv.length → at' rv a = at' rv b → a = b := fun a b ha hb e => by
    have h1 := hv a ha
    rw [e] at h1
    have := congrArg Ent.ord (h1.unique (hv b hb))
    simp only at this
    cases u <;> simp at this <;> exact Int.ofNat.inj this
  have hg : ∀ j (hj : j < rv.length), rv.idxOf (at' rv j) = j := fun j hj => by
    have hm := at_mem hj
    have h1 : rv.idxOf (at' rv j) < rv.length := List.idxOf_lt_length_of_mem hm
    refine hinj _ _ h1 hj ?_
    show rv.getD (rv.idxOf (at' rv j)) default = at' rv j
    rw [List.getD_eq_getElem?_getD, List.getElem?_eq_getElem h1]
    simp
  have hmap : rv.map (fun v => rv.idxOf v) = List.range rv.length := by
    apply List.ext_getElem
    · simp
    · intro j h1 h2
      have hj : j < rv.length := by simpa using h1
      have e : rv[j] = at' rv j := by unfold at'; rw [List.getD_eq_getElem?_getD, List.getElem?_eq_getElem hj]; rfl
      rw [List.getElem_map, e, hg j hj]; simp
  refine ⟨⟨fun v hvm => ?_, by rw [hmap]; exact List.nodup_range, fun v hvm x hx h => ?_, fun v hvm => ?_⟩, hmap⟩
  · obtain ⟨j, hj, rfl⟩ := mem_at hvm
    simp only [hg j hj]
    exact ⟨hj, hv j hj⟩
  · cases u <;> simp <;> omega
  · obtain ⟨j, hj, rfl⟩ := mem_at hvm
    simp only [hg j hj]
    cases u <;> simp <;> exact Nat.lt_of_lt_of_le hj hn
theorem HpSt.init {K : KMap} {u : Bool} {ks : List (List UInt8)} {vs rv : List Value} {g : Value → Nat} {o : Nat → Int} {ord : Int} (E : Ents K u ks vs rv g o rv.length ord) (hm : rv.map g = List.range rv.length) :
    HpSt K u ks vs (heapifyTo (ltG (bfU u ks) g) rv (rv.length / 2)) g o rv.length ord := by
  obtain ⟨a, b⟩ := heapify_ok (ltG_swo (bfU_sto u ks) g) rv
  refine ⟨E.perm b, a, fun j hj hn => ?_⟩
  have : j ∈ (heapifyTo (ltG (bfU u ks) g) rv (rv.length / 2)).map g := ((b.map g).mem_iff).mpr (by rw [hm]; exact List.mem_range.mpr hj)
  exact absurd this hn
/-- the end: what stands in order are the first ones -/
theorem HpSt.done {K : KMap} {u : Bool} {ks : List (List UInt8)} {vs rv : List Value} {g : Value → Nat} {o : Nat → Int} {ord : Int} (S : HpSt K u ks vs rv g o ks.length ord) {idx jdx : List Nat} (r : Rise u ks idx) (hp : jdx.Perm (List.range rv.length))
    (hs : jdx.Pairwise (Sb fun i j => bfU u ks (g (rv.getD i .none)) (g (rv.getD j .none)))) : (jdx.map fun i => rv.getD i Value.none).map (fun v => vs.getD (g v) Value.none) = (idx.take rv.length).map fun i => vs.getD i Value.none := by
  have st := bfU_sto u ks
  have hgd : ∀ i, i < rv.length → rv.getD i Value.none = at' rv i := fun i hi => by unfold at'; simp [List.getD, hi]
  have hmj : ∀ i ∈ jdx, i < rv.length := fun i hi => List.mem_range.mp (hp.mem_iff.mp hi)
  have hperm : ((jdx.map fun i => rv.getD i Value.none).map g).Perm (rv.map g) := by
    refine List.Perm.map _ ((hp.map _).trans ?_)
    have : (List.range rv.length).map (fun i => rv.getD i Value.none) = rv := by
      apply List.ext_getElem
      · simp
      · intro i h1 h2; simp [h2]
    rw [this]
  have hpw : ((jdx.map fun i => rv.getD i Value.none).map g).Pairwise (bfU u ks · · = true) := by
    have hnd : ((jdx.map fun i => rv.getD i Value.none).map g).Nodup := hperm.nodup_iff.mpr S.en.nd
    rw [List.map_map] at hnd ⊢
    rw [List.pairwise_map]
    rw [List.Nodup, List.pairwise_map] at hnd
    refine (hs.and hnd).imp fun {a b} h => ?_
    rcases h.1 with h1 | ⟨h1, _⟩
    · exact h1
    · have h1 : bfU u ks (g (rv.getD b .none)) (g (rv.getD a .none)) = false := h1
      exact (st.tot _ _ h.2).resolve_right (by show ¬ bfU u ks (g (rv.getD b .none)) (g (rv.getD a .none)) = true; rw [h1]; decide)
  have hmem : ∀ j, j ∈ (jdx.map fun i => rv.getD i Value.none).map g ↔ j ∈ rv.map g := fun j => hperm.mem_iff
  have := take_eq st r.pw hpw (fun j hj => r.pm.mem_iff.mpr (by
      obtain ⟨v, hv, rfl⟩ := List.mem_map.mp ((hmem j).mp hj)
      exact List.mem_range.mpr (S.en.ents v hv).1)) (fun j hj hn v hv => by
      obtain ⟨x, hx, rfl⟩ := List.mem_map.mp ((hmem v).mp hv)
      exact S.best j (List.mem_range.mp (r.pm.mem_iff.mp hj)) (fun hm => hn ((hmem j).mpr hm)) x hx)
  have hl : ((jdx.map fun i => rv.getD i Value.none).map g).length = rv.length := by simpa using hp.length_eq
  rw [hl] at this
  rw [← this]
  simp only [List.map_map]
  rfl
end Mine
end
section
namespace Mine
section
variable {α : Type} [Inhabited α] {lt : α → α → Bool}
theorem pop_ok (w : Swo lt) {xs : List α} (h : IsHeap lt xs) (hp : 0 < xs.length) : (heapPop lt xs).1 = at' xs 0 ∧ IsHeap lt (heapPop lt xs).2 ∧ ((heapPop lt xs).1 :: (heapPop lt xs).2).Perm xs := by
  have hne : xs ≠ [] := by intro e; subst e; simp at hp
  have hl : xs.dropLast ++ [xs.getLastD default] = xs := by
    rw [List.getLastD_eq_getLast?, List.getLast?_eq_some_getLast hne]
    exact List.dropLast_concat_getLast hne
  unfold heapPop
  cases hd : xs.dropLast.isEmpty with
  | true =>
    have e : xs.dropLast = [] := List.isEmpty_iff.mp hd
    rw [e] at hl
    simp only [if_true]
    have e0 : at' xs 0 = xs.getLastD default := by
      unfold at'
      conv => lhs; rw [← hl]
      rfl
    refine ⟨e0.symm, fun i i0 hi => by simp at hi, ?_⟩
    rw [List.nil_append] at hl
    rw [hl]
  | false =>
    simp only [Bool.false_eq_true, if_false]
    have hlen : xs.dropLast.length = xs.length - 1 := List.length_dropLast
    have hpos : 0 < xs.dropLast.length := by
      rcases Nat.eq_zero_or_pos xs.dropLast.length with z | z
      · rw [List.length_eq_zero_iff] at z; rw [z] at hd; cases hd
      · exact z
    have hat : ∀ i, i < xs.dropLast.length → at' xs.dropLast i = at' xs i := fun i hi => by
      unfold at'
      rw [List.getD_eq_getElem?_getD, List.getD_eq_getElem?_getD, List.getElem?_eq_getElem hi, List.getElem?_eq_getElem (by (clear hp hne hpos; omega))]
      simp
    have hh : IsHeap lt xs.dropLast := fun i i0 hi => by
      rw [hat i hi, hat _ (by (clear hp hne hlen hpos; omega))]
      exact h i i0 (by (clear hp hne hpos i0; omega))
    obtain ⟨a, b⟩ := replace_ok w (v := xs.getLastD default) hh hpos
    refine ⟨hat 0 hpos, a, ?_⟩
    refine (List.Perm.cons _ b).trans ((List.Perm.swap _ _ _).trans ?_)
    have ec : xs.dropLast.getD 0 default :: xs.dropLast.tail = xs.dropLast := by
      cases hx : xs.dropLast with
      | nil => rw [hx] at hpos; simp at hpos
      | cons y r => rfl
    rw [ec]
    refine (List.perm_append_singleton _ _).symm.trans ?_
    rw [hl]
end
theorem sorted_unique : ∀ {a b : List (List UInt8)}, a.Perm b → a.Pairwise (fun x y => ltB y x = false) → b.Pairwise (fun x y => ltB y x = false) → a = b
  | [], b, h, _, _ => (List.Perm.nil_eq h)
  | x :: a, [], h, _, _ => absurd h.length_eq (by simp)
  | x :: a, y :: b, h, ha, hb => by
    rw [List.pairwise_cons] at ha hb
    have e : x = y := by
      by_cases e : x = y
      · exact e
      · have hx : x ∈ b := by
          rcases List.mem_cons.mp (h.mem_iff.mp (.head _)) with z | z
          · exact absurd z e
          · exact z
        have hy : y ∈ a := by
          rcases List.mem_cons.mp (h.mem_iff.mpr (List.Mem.head b)) with z | z
          · exact absurd z.symm e
          · exact z
        have h1 := ha.1 y hy
        have h2 := hb.1 x hx
        rcases ltB_tot e with z | z
        · rw [h2] at z; cases z
        · rw [h1] at z; cases z
    subst e
    rw [sorted_unique h.cons_inv ha.2 hb.2]
theorem rise_sorted {ks : List (List UInt8)} {idx : List Nat} (r : Rise true ks idx) : (idx.map fun i => ks.getD i []).Pairwise (fun x y => ltB y x = false) ∧ (idx.map fun i => ks.getD i []).Perm ks := by
  constructor
  · rw [List.pairwise_map]
    refine r.pw.imp fun {a b} h => ?_
    rcases bfU_iff.mp h with ⟨e, _⟩ | h
    · rw [e]; exact ltB_irr _
    · exact ltB_swo.asym _ _ h
  · refine (r.pm.map _).trans ?_
    have : (List.range ks.length).map (fun i => ks.getD i []) = ks := by
      apply List.ext_getElem
      · simp
      · intro i h1 h2; simp [h2]
    rw [this]
/-- what has been popped, and what is left -/
structure Popped {α : Type} [Inhabited α] (lt : α → α → Bool) (all pv xs : List α) : Prop where
  heap : IsHeap lt xs
  pm : (pv ++ xs).Perm all
  pw : pv.Pairwise (fun x y => lt y x = false)
  le : ∀ x ∈ pv, ∀ y ∈ xs, lt y x = false
theorem Popped.next {α : Type} [Inhabited α] {lt : α → α → Bool} (w : Swo lt) {all pv xs : List α} (P : Popped lt all pv xs) (hp : 0 < xs.length) : Popped lt all (pv ++ [(heapPop lt xs).1]) (heapPop lt xs).2 ∧ (heapPop lt xs).2.length + 1 = xs.length := by
  obtain ⟨a, b, c⟩ := pop_ok w P.heap hp
  have hm : ∀ y, y ∈ (heapPop lt xs).2 → y ∈ xs := fun y hy => c.mem_iff.mp (.tail _ hy)
  have hr : (heapPop lt xs).1 ∈ xs := c.mem_iff.mp (.head _)
  refine ⟨⟨b, ?_, ?_, fun x hx y hy => ?_⟩, by have := c.length_eq; simpa using this⟩
  · rw [List.append_assoc]
    exact (List.Perm.append_left _ c).trans P.pm
  · rw [List.pairwise_append]
    refine ⟨P.pw, List.pairwise_singleton _ _, fun x hx y hy => ?_⟩
    rw [List.mem_singleton.mp hy]
    exact P.le x hx _ hr
  · rcases List.mem_append.mp hx with hx | hx
    · exact P.le x hx y (hm y hy)
    · rw [List.mem_singleton.mp hx, a]
      obtain ⟨i, hi, e⟩ := List.mem_iff_getElem.mp (hm y hy)
      have : at' xs i = y := by unfold at'; rw [List.getD_eq_getElem?_getD, List.getElem?_eq_getElem hi]; exact e
      rw [← this]
      exact root_ok w P.heap i hi
end Mine
end
section
open PySem PySem.W PyProof.Rows Mine
local macro_rules | `(tactic| walk_at "mem") => `(tactic| repeat (first | with_reducible exact List.mem_cons_self | with_reducible exact m1 | with_reducible exact m2 | with_reducible exact m3 | with_reducible exact m4 | with_reducible exact m5 | with_reducible exact m6 | with_reducible exact m7 | with_reducible exact m8 | with_reducible exact m9 | with_reducible exact m10 | with_reducible exact m11 | with_reducible exact m12 | with_reducible apply List.mem_cons_of_mem))
local macro_rules | `(tactic| walk_at "put") => `(tactic| repeat (first | with_reducible exact Put.head | with_reducible exact p1 | with_reducible exact p2 | with_reducible exact p3 | with_reducible exact p4 | with_reducible exact p5 | with_reducible exact p6 | with_reducible exact p7 | with_reducible exact p8 | with_reducible exact p9 | with_reducible exact p10 | with_reducible exact p11 | with_reducible exact p12 | with_reducible apply Put.tail))
local macro_rules | `(tactic| walk_at "upd") => `(tactic| repeat (first | with_reducible exact Upd1.head | with_reducible apply Upd1.tail))
local macro_rules | `(tactic| walk_at "putall") => `(tactic| repeat (first | with_reducible exact PutAll.nil | (refine PutAll.cons (by walk_at "put") ?_)))
section
open PySem PySem.W PyProof.Rows
set_option Elab.async false
set_option maxRecDepth 100000
open Mine
namespace Mine
theorem siftdown_walk {prog w A s t h} {K₀ K₁ : KMap} {a : Addr} {xs : List Value} {n st ps : Nat} {ts tp : Nat} {lt : Value → Value → Bool} {Q : Value → Shared → Prop} {E : Value → Shared → Prop}
   (hB : Base K₀) (hs : Sub K₀ h) (hr : Room A 40) (ha : h.get? a = some (lst xs n)) (h0 : K₀ a = none) (hK1 : Sub K₁ h) (hK1a : K₁ a = none)
   (hlen : xs.length < 1000000) (hps : ps < xs.length) (hlt : ∀ x ∈ xs, ∀ y ∈ xs, CmpOk prog w K₁ x y (lt x y))
   (q : ∀ h' t', h'.get? a = some (lst (siftdown lt (xs.getD ps default) st xs ps) n) → (∀ b o, b ≠ a → h.get? b = some o → h'.get? b = some o) → Q .none (up s h' t')) :
   wpAny (model prog w) A (call (.ref 56) [.ref a, .int st ts, .int ps tp]) Q E (up s h t) := by
  obtain ⟨pm, hF⟩ := hB.fn (56, 6, 55) (by walk_at "mem")
  refine wpAny_call (enter hB hs hF hr.depth (gs := []) rfl rfl (binds := [(Str.ofString "heap", .ref a), (Str.ofString "startpos", .int st ts), (Str.ofString "pos", .int ps tp)]) rfl
    (lk := [vr "heap" (.ref a), vr "startpos" (.int st ts), vr "pos" (.int ps tp), nv "newitem", nv "parentpos", nv "parent"]) ?_ ?_)
  · show PutAll [nv "heap", nv "startpos", nv "pos", nv "newitem", nv "parentpos", nv "parent"] _ _
    walk_at "putall"
  intro env h1 t1 F0
  have F := F0.thaw (a := a) ha h0
  clear F0
  have hKd : KLe K₁ (drp (hk h) a) := le_drp hK1 hK1a
  refine K_seq ?_
  refine K_Assign ?_
  refine K_Sub ?_
  refine ld ‹_› (by walk_at "mem") ?_
  refine ld ‹_› (by walk_at "mem") ?_
  refine gi_l ps (F.isIn (by walk_at "mem")) rfl (x := xs.getD ps default) (by simp [List.getD, hps]) hlen ?_ rfl
  generalize hnew : xs.getD ps default = new at *
  have hnewm : new ∈ xs := by rw [← hnew]; simp [List.getD, hps]
  refine stn ‹_› (by walk_at "put") ?_; intro _ _ _
  refine K_seq ?_
  refine while_ (fun m hh => ∀ P : Prop, (∀ (pp : Nat) (tq : Nat) (ys : List Value) (v1 v2 : Option Value), m = pp → pp < ys.length → ys.length = xs.length → (∀ y ∈ ys, y ∈ xs) → siftdown lt new st ys pp = siftdown lt new st xs ps → Fm K₀ (drp (hk h) a) env [] [vr "heap" (.ref a), vr "startpos" (.int st ts), vr "pos" (.int pp tq), vr "newitem" new, (Str.ofString "parentpos", none, v1), (Str.ofString "parent", none, v2)] [(a, lst ys n)] hh → P) → P)
    ps (fun _ kk => kk ps _ xs _ _ rfl hps rfl (fun _ x => x) rfl (by assumption)) ?_
  clear F
  rintro pp h2 t2 B1 hB1 D1 hD1 hEx
  refine hEx _ ?_
  clear hEx
  rintro _ tq ys v1 v2 rfl hpp hyl hym heq F
  refine K_tcmp ?_
  refine ld ‹_› (by walk_at "mem") ?_
  refine ld ‹_› (by walk_at "mem") ?_
  refine PyProof.Rows.gt_int ?_
  refine wpAny_truthy_bool ?_
  refine ite_dec (fun hc => ?_) (fun hc => ?_)
  · have hc' : st < pp := by omega
    refine K_seq ?_
    refine K_Assign ?_
    refine K_BinOp ?_
    refine K_BinOp ?_
    refine ld ‹_› (by walk_at "mem") ?_
    refine c_int ?_; intro _ _
    refine b_sub ?_; intro _ _
    refine c_int ?_; intro _ _
    refine b_shr1 (by (clear hlen hps hpp hyl hc'; lia)) ?_; intro _ _
    rw [show ((pp : Int) - 1) / 2 = (((pp - 1) / 2 : Nat) : Int) by (clear hlen hps hpp hyl hc'; lia)]
    refine stn ‹_› (by walk_at "put") ?_; intro _ _ _
    refine K_seq ?_
    refine K_Assign ?_
    refine K_Sub ?_
    refine ld ‹_› (by walk_at "mem") ?_
    refine ld ‹_› (by walk_at "mem") ?_
    have hpl : (pp - 1) / 2 < ys.length := by (clear hlen hps hyl hc'; omega)
    refine gi_l ((pp - 1) / 2) (Fm.isIn (by assumption) (by walk_at "mem")) rfl (x := ys.getD ((pp - 1) / 2) default) (by simp [List.getD, hpl]) (by exact Nat.lt_of_le_of_lt (Nat.le_of_eq hyl) hlen) ?_ rfl
    rw [siftdown_eq, if_pos hc'] at heq
    generalize hpar : ys.getD ((pp - 1) / 2) default = par at *
    have hparm : par ∈ xs := hym _ (by rw [← hpar]; simp [List.getD, hpl])
    refine stn ‹_› (by walk_at "put") ?_; intro _ _ _
    refine K_seq ?_
    refine K_If ?_
    refine K_tcmp ?_
    refine ld ‹_› (by walk_at "mem") ?_
    refine ld ‹_› (by walk_at "mem") ?_
    refine hlt new hnewm par hparm _ _ _ _ _ _ (hr.deeper (by decide)) (hKd.sub (Fm.kept (by assumption))) ?_
    intro h3 t3 hk3
    have F3 := Fm.keeps (by assumption) hk3
    refine wpAny_truthy_bool ?_
    refine ite_b (fun hb => ?_) (fun hb => ?_)
    · rw [if_pos hb] at heq
      refine K_seq ?_
      refine K_AssignS ?_
      refine ld ‹_› (by walk_at "mem") ?_
      refine ld ‹_› (by walk_at "mem") ?_
      refine ld ‹_› (by walk_at "mem") ?_
      refine si_l pp F3 (by walk_at "upd") rfl hpp (by exact Nat.lt_of_le_of_lt (Nat.le_of_eq hyl) hlen) ?_
      intro h4 F4
      refine K_seq ?_
      refine K_Assign ?_
      refine ld ‹_› (by walk_at "mem") ?_
      refine stn ‹_› (by walk_at "put") ?_; intro _ _ _
      refine K_seq ?_
      refine wpAny_Continue ?_
      exact hB1 _ _ ⟨(pp - 1) / 2, _, _, rfl, by (clear hlen hps hpp hyl hc' hpl; omega), fun _ kk => kk ((pp - 1) / 2) _ _ _ _ rfl (by simp; exact hpl) (by simp [hyl]) (fun y hy => (List.mem_or_eq_of_mem_set hy).elim (hym y) (fun e => e ▸ hparm)) heq (by assumption)⟩
    · rw [if_neg (by simp [hb])] at heq
      refine wpAny_execs_nil ?_
      refine K_seq ?_
      refine wpAny_Break ?_
      refine hB1 _ _ ?_
      refine K_seq ?_
      refine K_AssignS ?_
      refine ld ‹_› (by walk_at "mem") ?_
      refine ld ‹_› (by walk_at "mem") ?_
      refine ld ‹_› (by walk_at "mem") ?_
      refine si_l pp F3 (by walk_at "upd") rfl hpp (by exact Nat.lt_of_le_of_lt (Nat.le_of_eq hyl) hlen) ?_
      intro h4 F4
      refine wpAny_execs_nil ?_
      refine q _ _ ?_ ?_
      · rw [← heq]; exact F4.isIn (by walk_at "mem")
      · intro b o hb e; exact F4.kept b o (by simp [drp, hb]; exact e)
  · have hc' : ¬ (pp > st) := by omega
    rw [siftdown_eq, if_neg hc'] at heq
    refine hD1 _ ?_
    refine K_seq ?_
    refine K_AssignS ?_
    refine ld ‹_› (by walk_at "mem") ?_
    refine ld ‹_› (by walk_at "mem") ?_
    refine ld ‹_› (by walk_at "mem") ?_
    refine si_l pp F (by walk_at "upd") rfl hpp (by exact Nat.lt_of_le_of_lt (Nat.le_of_eq hyl) hlen) ?_
    intro h4 F4
    refine wpAny_execs_nil ?_
    refine q _ _ ?_ ?_
    · rw [← heq]; exact F4.isIn (by walk_at "mem")
    · intro b o hb e; exact F4.kept b o (by simp [drp, hb]; exact e)
theorem siftdown_max_walk {prog w A s t h} {K₀ K₁ : KMap} {a : Addr} {xs : List Value} {n st ps : Nat} {ts tp : Nat} {lt : Value → Value → Bool} {Q : Value → Shared → Prop} {E : Value → Shared → Prop}
   (hB : Base K₀) (hs : Sub K₀ h) (hr : Room A 40) (ha : h.get? a = some (lst xs n)) (h0 : K₀ a = none) (hK1 : Sub K₁ h) (hK1a : K₁ a = none)
   (hlen : xs.length < 1000000) (hps : ps < xs.length) (hlt : ∀ x ∈ xs, ∀ y ∈ xs, CmpOk prog w K₁ y x (lt x y))
   (q : ∀ h' t', h'.get? a = some (lst (siftdown lt (xs.getD ps default) st xs ps) n) → (∀ b o, b ≠ a → h.get? b = some o → h'.get? b = some o) → Q .none (up s h' t')) :
   wpAny (model prog w) A (call (.ref 70) [.ref a, .int st ts, .int ps tp]) Q E (up s h t) := by
  obtain ⟨pm, hF⟩ := hB.fn (70, 8, 69) (by walk_at "mem")
  refine wpAny_call (enter hB hs hF hr.depth (gs := []) rfl rfl (binds := [(Str.ofString "heap", .ref a), (Str.ofString "startpos", .int st ts), (Str.ofString "pos", .int ps tp)]) rfl
    (lk := [vr "heap" (.ref a), vr "startpos" (.int st ts), vr "pos" (.int ps tp), nv "newitem", nv "parentpos", nv "parent"]) ?_ ?_)
  · show PutAll [nv "heap", nv "startpos", nv "pos", nv "newitem", nv "parentpos", nv "parent"] _ _
    walk_at "putall"
  intro env h1 t1 F0
  have F := F0.thaw (a := a) ha h0
  clear F0
  have hKd : KLe K₁ (drp (hk h) a) := le_drp hK1 hK1a
  refine K_seq ?_
  refine K_Assign ?_
  refine K_Sub ?_
  refine ld ‹_› (by walk_at "mem") ?_
  refine ld ‹_› (by walk_at "mem") ?_
  refine gi_l ps (F.isIn (by walk_at "mem")) rfl (x := xs.getD ps default) (by simp [List.getD, hps]) hlen ?_ rfl
  generalize hnew : xs.getD ps default = new at *
  have hnewm : new ∈ xs := by rw [← hnew]; simp [List.getD, hps]
  refine stn ‹_› (by walk_at "put") ?_; intro _ _ _
  refine K_seq ?_
  refine while_ (fun m hh => ∀ P : Prop, (∀ (pp : Nat) (tq : Nat) (ys : List Value) (v1 v2 : Option Value), m = pp → pp < ys.length → ys.length = xs.length → (∀ y ∈ ys, y ∈ xs) → siftdown lt new st ys pp = siftdown lt new st xs ps → Fm K₀ (drp (hk h) a) env [] [vr "heap" (.ref a), vr "startpos" (.int st ts), vr "pos" (.int pp tq), vr "newitem" new, (Str.ofString "parentpos", none, v1), (Str.ofString "parent", none, v2)] [(a, lst ys n)] hh → P) → P)
    ps (fun _ kk => kk ps _ xs _ _ rfl hps rfl (fun _ x => x) rfl (by assumption)) ?_
  clear F
  rintro pp h2 t2 B1 hB1 D1 hD1 hEx
  refine hEx _ ?_
  clear hEx
  rintro _ tq ys v1 v2 rfl hpp hyl hym heq F
  refine K_tcmp ?_
  refine ld ‹_› (by walk_at "mem") ?_
  refine ld ‹_› (by walk_at "mem") ?_
  refine PyProof.Rows.gt_int ?_
  refine wpAny_truthy_bool ?_
  refine ite_dec (fun hc => ?_) (fun hc => ?_)
  · have hc' : st < pp := by omega
    refine K_seq ?_
    refine K_Assign ?_
    refine K_BinOp ?_
    refine K_BinOp ?_
    refine ld ‹_› (by walk_at "mem") ?_
    refine c_int ?_; intro _ _
    refine b_sub ?_; intro _ _
    refine c_int ?_; intro _ _
    refine b_shr1 (by (clear hlen hps hpp hyl hc'; lia)) ?_; intro _ _
    rw [show ((pp : Int) - 1) / 2 = (((pp - 1) / 2 : Nat) : Int) by (clear hlen hps hpp hyl hc'; lia)]
    refine stn ‹_› (by walk_at "put") ?_; intro _ _ _
    refine K_seq ?_
    refine K_Assign ?_
    refine K_Sub ?_
    refine ld ‹_› (by walk_at "mem") ?_
    refine ld ‹_› (by walk_at "mem") ?_
    have hpl : (pp - 1) / 2 < ys.length := by (clear hlen hps hyl hc'; omega)
    refine gi_l ((pp - 1) / 2) (Fm.isIn (by assumption) (by walk_at "mem")) rfl (x := ys.getD ((pp - 1) / 2) default) (by simp [List.getD, hpl]) (by exact Nat.lt_of_le_of_lt (Nat.le_of_eq hyl) hlen) ?_ rfl
    rw [siftdown_eq, if_pos hc'] at heq
    generalize hpar : ys.getD ((pp - 1) / 2) default = par at *
    have hparm : par ∈ xs := hym _ (by rw [← hpar]; simp [List.getD, hpl])
    refine stn ‹_› (by walk_at "put") ?_; intro _ _ _
    refine K_seq ?_
    refine K_If ?_
    refine K_tcmp ?_
    refine ld ‹_› (by walk_at "mem") ?_
    refine ld ‹_› (by walk_at "mem") ?_
    refine hlt new hnewm par hparm _ _ _ _ _ _ (hr.deeper (by decide)) (hKd.sub (Fm.kept (by assumption))) ?_
    intro h3 t3 hk3
    have F3 := Fm.keeps (by assumption) hk3
    refine wpAny_truthy_bool ?_
    refine ite_b (fun hb => ?_) (fun hb => ?_)
    · rw [if_pos hb] at heq
      refine K_seq ?_
      refine K_AssignS ?_
      refine ld ‹_› (by walk_at "mem") ?_
      refine ld ‹_› (by walk_at "mem") ?_
      refine ld ‹_› (by walk_at "mem") ?_
      refine si_l pp F3 (by walk_at "upd") rfl hpp (by exact Nat.lt_of_le_of_lt (Nat.le_of_eq hyl) hlen) ?_
      intro h4 F4
      refine K_seq ?_
      refine K_Assign ?_
      refine ld ‹_› (by walk_at "mem") ?_
      refine stn ‹_› (by walk_at "put") ?_; intro _ _ _
      refine K_seq ?_
      refine wpAny_Continue ?_
      exact hB1 _ _ ⟨(pp - 1) / 2, _, _, rfl, by (clear hlen hps hpp hyl hc' hpl; omega), fun _ kk => kk ((pp - 1) / 2) _ _ _ _ rfl (by simp; exact hpl) (by simp [hyl]) (fun y hy => (List.mem_or_eq_of_mem_set hy).elim (hym y) (fun e => e ▸ hparm)) heq (by assumption)⟩
    · rw [if_neg (by simp [hb])] at heq
      refine wpAny_execs_nil ?_
      refine K_seq ?_
      refine wpAny_Break ?_
      refine hB1 _ _ ?_
      refine K_seq ?_
      refine K_AssignS ?_
      refine ld ‹_› (by walk_at "mem") ?_
      refine ld ‹_› (by walk_at "mem") ?_
      refine ld ‹_› (by walk_at "mem") ?_
      refine si_l pp F3 (by walk_at "upd") rfl hpp (by exact Nat.lt_of_le_of_lt (Nat.le_of_eq hyl) hlen) ?_
      intro h4 F4
      refine wpAny_execs_nil ?_
      refine q _ _ ?_ ?_
      · rw [← heq]; exact F4.isIn (by walk_at "mem")
      · intro b o hb e; exact F4.kept b o (by simp [drp, hb]; exact e)
  · have hc' : ¬ (pp > st) := by omega
    rw [siftdown_eq, if_neg hc'] at heq
    refine hD1 _ ?_
    refine K_seq ?_
    refine K_AssignS ?_
    refine ld ‹_› (by walk_at "mem") ?_
    refine ld ‹_› (by walk_at "mem") ?_
    refine ld ‹_› (by walk_at "mem") ?_
    refine si_l pp F (by walk_at "upd") rfl hpp (by exact Nat.lt_of_le_of_lt (Nat.le_of_eq hyl) hlen) ?_
    intro h4 F4
    refine wpAny_execs_nil ?_
    refine q _ _ ?_ ?_
    · rw [← heq]; exact F4.isIn (by walk_at "mem")
    · intro b o hb e; exact F4.kept b o (by simp [drp, hb]; exact e)
end Mine
end
section
open PySem PySem.W PyProof.Rows
set_option Elab.async false
set_option maxRecDepth 100000
set_option maxHeartbeats 1000000
open Mine
namespace Mine
theorem siftup_walk {prog w A s t h} {K₀ K₁ : KMap} {a : Addr} {xs : List Value} {n ps : Nat} {tp : Nat} {lt : Value → Value → Bool} {Q : Value → Shared → Prop} {E : Value → Shared → Prop}
   (hB : Base K₀) (hs : Sub K₀ h) (hr : Room A 45) (ha : h.get? a = some (lst xs n)) (h0 : K₀ a = none) (hK1 : Sub K₁ h) (hK1a : K₁ a = none)
   (hlen : xs.length < 1000000) (hps : ps < xs.length) (hlt : ∀ x ∈ xs, ∀ y ∈ xs, CmpOk prog w K₁ x y (lt x y))
   (q : ∀ h' t', h'.get? a = some (lst (siftup lt xs ps) n) → (∀ b o, b ≠ a → h.get? b = some o → h'.get? b = some o) → Q .none (up s h' t')) :
   wpAny (model prog w) A (call (.ref 63) [.ref a, .int ps tp]) Q E (up s h t) := by
  obtain ⟨pm, hF⟩ := hB.fn (63, 7, 62) (by walk_at "mem")
  refine wpAny_call (enter hB hs hF hr.depth (gs := [Str.ofString "len", Str.ofString "_siftdown"]) rfl rfl (binds := [(Str.ofString "heap", .ref a), (Str.ofString "pos", .int ps tp)]) rfl
    (lk := [vr "heap" (.ref a), vr "pos" (.int ps tp), nv "endpos", nv "startpos", nv "newitem", nv "childpos", nv "rightpos"]) ?_ ?_)
  · show PutAll [nv "heap", nv "pos", nv "endpos", nv "startpos", nv "newitem", nv "childpos", nv "rightpos"] _ _
    walk_at "putall"
  intro env h1 t1 F0
  have F := F0.thaw (a := a) ha h0
  clear F0
  have hKd : KLe K₁ (drp (hk h) a) := le_drp hK1 hK1a
  refine K_seq ?_
  refine K_Assign ?_
  refine K_Call ?_
  refine ldb ‹_› ‹_› (by walk_at "mem") (by walk_at "mem") ?_
  refine K_callB ?_
  refine K_more ?_
  refine ld ‹_› (by walk_at "mem") ?_
  refine spliced_none ?_
  refine len_l (F.isIn (by walk_at "mem")) hlen ?_; intro _ _
  refine stn ‹_› (by walk_at "put") ?_; intro _ _ _
  refine K_seq ?_
  refine K_Assign ?_
  refine ld ‹_› (by walk_at "mem") ?_
  refine stn ‹_› (by walk_at "put") ?_; intro _ _ _
  refine K_seq ?_
  refine K_Assign ?_
  refine K_Sub ?_
  refine ld ‹_› (by walk_at "mem") ?_
  refine ld ‹_› (by walk_at "mem") ?_
  refine gi_l ps (Fm.isIn (by assumption) (by walk_at "mem")) rfl (x := xs.getD ps default) (by simp [List.getD, hps]) hlen ?_ rfl
  generalize hnew : xs.getD ps default = new at *
  have hnewm : new ∈ xs := by rw [← hnew]; simp [List.getD, hps]
  refine stn ‹_› (by walk_at "put") ?_; intro _ _ _
  refine K_seq ?_
  refine K_Assign ?_
  refine K_BinOp ?_
  refine K_BinOp ?_
  refine c_int ?_; intro _ _
  refine ld ‹_› (by walk_at "mem") ?_
  refine b_mul (by first | exact IntMulOk.of_left (intBits_le_64 (by omega) (by omega)) | exact IntMulOk.of_right (intBits_le_64 (by omega) (by omega))) ?_; intro _ _
  refine c_int ?_; intro _ _
  refine b_add ?_; intro _ _
  refine stn ‹_› (by walk_at "put") ?_; intro _ _ _
  refine K_seq ?_
  refine while_ (fun m hh => ∀ P : Prop, (∀ (pp : Nat) (t1 t2 t3 t4 : Nat) (ys : List Value) (v1 : Option Value), m = ys.length - pp → pp < ys.length → ys.length = xs.length → (∀ y ∈ ys, y ∈ xs) → siftupPos lt ys pp = siftupPos lt xs ps → Fm K₀ (drp (hk h) a) env [Str.ofString "len", Str.ofString "_siftdown"] [vr "heap" (.ref a), vr "pos" (.int pp t1), vr "endpos" (.int xs.length t2), vr "startpos" (.int ps t3), vr "newitem" new, vr "childpos" (.int (2 * (pp : Int) + 1) t4), (Str.ofString "rightpos", none, v1)] [(a, lst ys n)] hh → P) → P)
    _ (fun _ kk => kk ps _ _ _ _ xs _ rfl hps rfl (fun _ x => x) rfl (by assumption)) ?_
  clear F
  rintro _ h2 t2 B1 hB1 D1 hD1 hEx
  refine hEx _ ?_
  clear hEx
  rintro pp t1 t2' t3 t4 ys v1 rfl hpp hyl hym heq F
  refine K_tcmp ?_
  refine ld ‹_› (by walk_at "mem") ?_
  refine ld ‹_› (by walk_at "mem") ?_
  refine PyProof.Rows.lt_int ?_
  refine wpAny_truthy_bool ?_
  refine ite_dec (fun hc => ?_) (fun hc => ?_)
  · have hc' : 2 * pp + 1 < ys.length := by (clear hlen hps hpp; lia)
    rw [siftupPos_eq, if_pos hc'] at heq
    have hcp : (2 * (pp : Int) + 1) = ((2 * pp + 1 : Nat) : Int) := by exact Int.natCast_succ _
    have hrp : (2 * (pp : Int) + 1 + 1) = ((2 * pp + 2 : Nat) : Int) := by exact Int.natCast_succ _
    refine K_seq ?_
    refine K_Assign ?_
    refine K_BinOp ?_
    refine ld ‹_› (by walk_at "mem") ?_
    refine c_int ?_; intro _ _
    refine b_add ?_; intro _ _
    refine stn ‹_› (by walk_at "put") ?_; intro _ _ _
    refine cut (fun hh => ∃ (cc t5 : Nat) (v2 : Option Value), cc < ys.length ∧ pp < cc ∧ siftupPos lt (ys.set pp (ys.getD cc default)) cc = siftupPos lt xs ps ∧
        Fm K₀ (drp (hk h) a) env [Str.ofString "len", Str.ofString "_siftdown"] [vr "heap" (.ref a), vr "pos" (.int pp t1), vr "endpos" (.int xs.length t2'), vr "startpos" (.int ps t3), vr "newitem" new, vr "childpos" (.int cc t5), (Str.ofString "rightpos", none, v2)] [(a, lst ys n)] hh) ?_ ?_
    · refine K_If ?_
      refine wpAny_isTrue_BoolOp ?_
      refine K_and ?_
      refine K_tcmp ?_
      refine ld ‹_› (by walk_at "mem") ?_
      refine ld ‹_› (by walk_at "mem") ?_
      refine PyProof.Rows.lt_int ?_
      refine wpAny_truthy_bool ?_
      refine ite_dec (fun hd => ?_) (fun hd => ?_)
      · have hd' : 2 * pp + 2 < ys.length := by (clear hlen hps hpp hc hc' hcp hrp; lia)
        refine K_and ?_
        refine K_not ?_
        refine K_tcmp ?_
        refine K_Sub ?_
        refine ld ‹_› (by walk_at "mem") ?_
        refine ld ‹_› (by walk_at "mem") ?_
        refine gi_l (2 * pp + 1) (Fm.isIn (by assumption) (by walk_at "mem")) (by exact hcp) (x := ys.getD (2 * pp + 1) default) (by simp [List.getD, hc', hd']) (by exact Nat.lt_of_le_of_lt (Nat.le_of_eq hyl) hlen) ?_ rfl
        refine K_Sub ?_
        refine ld ‹_› (by walk_at "mem") ?_
        refine ld ‹_› (by walk_at "mem") ?_
        refine gi_l (2 * pp + 2) (Fm.isIn (by assumption) (by walk_at "mem")) (by exact hrp) (x := ys.getD (2 * pp + 2) default) (by simp [List.getD, hc', hd']) (by exact Nat.lt_of_le_of_lt (Nat.le_of_eq hyl) hlen) ?_ rfl
        refine hlt _ (hym _ (by simp [List.getD, hc'])) _ (hym _ (by simp [List.getD, hd'])) _ _ _ _ _ _ (hr.deeper (by decide)) (hKd.sub (Fm.kept (by assumption))) ?_
        intro h3 t3 hk3
        have F3 := Fm.keeps (by assumption) hk3
        refine wpAny_truthy_bool ?_
        refine ite_b (fun hb => ?_) (fun hb => ?_)
        · have hb' : lt (ys.getD (2 * pp + 1) default) (ys.getD (2 * pp + 2) default) = false := (Bool.not_eq_true' _).mp hb
          rw [if_pos ⟨hd', hb'⟩] at heq
          refine wpAny_allTrue_And_nil ?_
          refine m_tt ?_
          refine K_seq ?_
          refine K_Assign ?_
          refine ld ‹_› (by walk_at "mem") ?_
          refine stn ‹_› (by walk_at "put") ?_; intro _ _ _
          refine wpAny_execs_nil ?_
          rw [hrp] at *
          exact ⟨rfl, _, _, rfl, 2 * pp + 2, _, _, hd', by (clear hlen hps hpp hyl hc hc' hcp hrp hd hd'; lia), heq, by assumption⟩
        · have hb' : lt (ys.getD (2 * pp + 1) default) (ys.getD (2 * pp + 2) default) = true := (Bool.not_eq_false' _).mp hb
          rw [if_neg (fun x => by rw [hb'] at x; cases x.2)] at heq
          refine m_ff ?_
          refine wpAny_execs_nil ?_
          rw [hcp] at F3
          exact ⟨rfl, _, _, rfl, 2 * pp + 1, _, _, hc', by (clear hlen hps hpp hyl hc hc' hcp hrp hd hd'; lia), heq, F3⟩
      · have hd' : ¬ (2 * pp + 2 < ys.length) := by (clear hlen hps hpp hc hc' hcp hrp; omega)
        rw [if_neg (fun x => hd' x.1)] at heq
        refine m_ff ?_
        refine wpAny_execs_nil ?_
        rw [hcp] at *
        exact ⟨rfl, _, _, rfl, 2 * pp + 1, _, _, hc', by (clear hlen hps hpp hyl hc hc' hcp hrp hd hd'; lia), heq, by assumption⟩
    · rintro h3 t5 ⟨cc, t6, v2, hcc, hpc, heq3, F3⟩
      refine K_seq ?_
      refine K_AssignS ?_
      refine K_Sub ?_
      refine ld ‹_› (by walk_at "mem") ?_
      refine ld ‹_› (by walk_at "mem") ?_
      refine gi_l cc (F3.isIn (by walk_at "mem")) rfl (x := ys.getD cc default) (by simp [List.getD, hcc]) (by exact Nat.lt_of_le_of_lt (Nat.le_of_eq hyl) hlen) ?_ rfl
      refine ld ‹_› (by walk_at "mem") ?_
      refine ld ‹_› (by walk_at "mem") ?_
      refine si_l pp F3 (by walk_at "upd") rfl hpp (by exact Nat.lt_of_le_of_lt (Nat.le_of_eq hyl) hlen) ?_
      intro h4 F4
      refine K_seq ?_
      refine K_Assign ?_
      refine ld ‹_› (by walk_at "mem") ?_
      refine stn ‹_› (by walk_at "put") ?_; intro _ _ _
      refine K_seq ?_
      refine K_Assign ?_
      refine K_BinOp ?_
      refine K_BinOp ?_
      refine c_int ?_; intro _ _
      refine ld ‹_› (by walk_at "mem") ?_
      refine b_mul (by first | exact IntMulOk.of_left (intBits_le_64 (by omega) (by omega)) | exact IntMulOk.of_right (intBits_le_64 (by omega) (by omega))) ?_; intro _ _
      refine c_int ?_; intro _ _
      refine b_add ?_; intro _ _
      refine stn ‹_› (by walk_at "put") ?_; intro _ _ _
      refine wpAny_execs_nil ?_
      exact hB1 _ _ ⟨_, _, _, rfl, by simp; (clear hlen hps hyl hc hc' hcp hrp hcc; omega), fun _ kk => kk cc _ _ _ _ _ _ rfl (by simpa using hcc) (by simp [hyl]) (fun y hy => (List.mem_or_eq_of_mem_set hy).elim (hym y) (fun e => e ▸ hym _ (by simp [List.getD, hcc]))) heq3 (by assumption)⟩
  · have hc' : ¬ (2 * pp + 1 < ys.length) := by omega
    rw [siftupPos_eq, if_neg hc'] at heq
    refine hD1 _ ?_
    refine K_seq ?_
    refine K_AssignS ?_
    refine ld ‹_› (by walk_at "mem") ?_
    refine ld ‹_› (by walk_at "mem") ?_
    refine ld ‹_› (by walk_at "mem") ?_
    refine si_l pp F (by walk_at "upd") rfl hpp (by exact Nat.lt_of_le_of_lt (Nat.le_of_eq hyl) hlen) ?_
    intro h4 F4
    refine K_seq ?_
    refine K_Expr ?_ (Fm.inter ‹_›)
    refine K_Call ?_
    refine ldg ‹_› ‹_› (by walk_at "mem") (by walk_at "mem") ?_
    refine K_callf ‹_› (by walk_at "mem") ?_
    refine K_more ?_
    refine ld ‹_› (by walk_at "mem") ?_
    refine K_more ?_
    refine ld ‹_› (by walk_at "mem") ?_
    refine K_more ?_
    refine ld ‹_› (by walk_at "mem") ?_
    refine spliced_none ?_
    refine And.intro (Fm.sub ‹_›) ?_
    refine siftdown_walk (K₁ := K₁) (lt := lt) hB F4.sub0 (hr.deeper (by decide)) (F4.isIn (by walk_at "mem")) h0 (hKd.sub F4.kept) hK1a (by simpa [hyl] using hlen) (by simpa using hpp) (fun x hx y hy => hlt x ((List.mem_or_eq_of_mem_set hx).elim (hym x) (fun e => e ▸ hnewm)) y ((List.mem_or_eq_of_mem_set hy).elim (hym y) (fun e => e ▸ hnewm))) ?_
    intro h5 t5 e1 e2
    refine wpAny_execs_nil ?_
    refine q _ _ ?_ (fun b o hb e => e2 b o hb (F4.kept b o (by simp [drp, hb]; exact e)))
    rw [e1]
    unfold siftup
    rw [← heq, hnew]
    simp [List.getD, hpp]
theorem siftup_max_walk {prog w A s t h} {K₀ K₁ : KMap} {a : Addr} {xs : List Value} {n ps : Nat} {tp : Nat} {lt : Value → Value → Bool} {Q : Value → Shared → Prop} {E : Value → Shared → Prop}
   (hB : Base K₀) (hs : Sub K₀ h) (hr : Room A 45) (ha : h.get? a = some (lst xs n)) (h0 : K₀ a = none) (hK1 : Sub K₁ h) (hK1a : K₁ a = none)
   (hlen : xs.length < 1000000) (hps : ps < xs.length) (hlt : ∀ x ∈ xs, ∀ y ∈ xs, CmpOk prog w K₁ y x (lt x y))
   (q : ∀ h' t', h'.get? a = some (lst (siftup lt xs ps) n) → (∀ b o, b ≠ a → h.get? b = some o → h'.get? b = some o) → Q .none (up s h' t')) :
   wpAny (model prog w) A (call (.ref 77) [.ref a, .int ps tp]) Q E (up s h t) := by
  obtain ⟨pm, hF⟩ := hB.fn (77, 9, 76) (by walk_at "mem")
  refine wpAny_call (enter hB hs hF hr.depth (gs := [Str.ofString "len", Str.ofString "_siftdown_max"]) rfl rfl (binds := [(Str.ofString "heap", .ref a), (Str.ofString "pos", .int ps tp)]) rfl
    (lk := [vr "heap" (.ref a), vr "pos" (.int ps tp), nv "endpos", nv "startpos", nv "newitem", nv "childpos", nv "rightpos"]) ?_ ?_)
  · show PutAll [nv "heap", nv "pos", nv "endpos", nv "startpos", nv "newitem", nv "childpos", nv "rightpos"] _ _
    walk_at "putall"
  intro env h1 t1 F0
  have F := F0.thaw (a := a) ha h0
  clear F0
  have hKd : KLe K₁ (drp (hk h) a) := le_drp hK1 hK1a
  refine K_seq ?_
  refine K_Assign ?_
  refine K_Call ?_
  refine ldb ‹_› ‹_› (by walk_at "mem") (by walk_at "mem") ?_
  refine K_callB ?_
  refine K_more ?_
  refine ld ‹_› (by walk_at "mem") ?_
  refine spliced_none ?_
  refine len_l (F.isIn (by walk_at "mem")) hlen ?_; intro _ _
  refine stn ‹_› (by walk_at "put") ?_; intro _ _ _
  refine K_seq ?_
  refine K_Assign ?_
  refine ld ‹_› (by walk_at "mem") ?_
  refine stn ‹_› (by walk_at "put") ?_; intro _ _ _
  refine K_seq ?_
  refine K_Assign ?_
  refine K_Sub ?_
  refine ld ‹_› (by walk_at "mem") ?_
  refine ld ‹_› (by walk_at "mem") ?_
  refine gi_l ps (Fm.isIn (by assumption) (by walk_at "mem")) rfl (x := xs.getD ps default) (by simp [List.getD, hps]) hlen ?_ rfl
  generalize hnew : xs.getD ps default = new at *
  have hnewm : new ∈ xs := by rw [← hnew]; simp [List.getD, hps]
  refine stn ‹_› (by walk_at "put") ?_; intro _ _ _
  refine K_seq ?_
  refine K_Assign ?_
  refine K_BinOp ?_
  refine K_BinOp ?_
  refine c_int ?_; intro _ _
  refine ld ‹_› (by walk_at "mem") ?_
  refine b_mul (by first | exact IntMulOk.of_left (intBits_le_64 (by omega) (by omega)) | exact IntMulOk.of_right (intBits_le_64 (by omega) (by omega))) ?_; intro _ _
  refine c_int ?_; intro _ _
  refine b_add ?_; intro _ _
  refine stn ‹_› (by walk_at "put") ?_; intro _ _ _
  refine K_seq ?_
  refine while_ (fun m hh => ∀ P : Prop, (∀ (pp : Nat) (t1 t2 t3 t4 : Nat) (ys : List Value) (v1 : Option Value), m = ys.length - pp → pp < ys.length → ys.length = xs.length → (∀ y ∈ ys, y ∈ xs) → siftupPos lt ys pp = siftupPos lt xs ps → Fm K₀ (drp (hk h) a) env [Str.ofString "len", Str.ofString "_siftdown_max"] [vr "heap" (.ref a), vr "pos" (.int pp t1), vr "endpos" (.int xs.length t2), vr "startpos" (.int ps t3), vr "newitem" new, vr "childpos" (.int (2 * (pp : Int) + 1) t4), (Str.ofString "rightpos", none, v1)] [(a, lst ys n)] hh → P) → P)
    _ (fun _ kk => kk ps _ _ _ _ xs _ rfl hps rfl (fun _ x => x) rfl (by assumption)) ?_
  clear F
  rintro _ h2 t2 B1 hB1 D1 hD1 hEx
  refine hEx _ ?_
  clear hEx
  rintro pp t1 t2' t3 t4 ys v1 rfl hpp hyl hym heq F
  refine K_tcmp ?_
  refine ld ‹_› (by walk_at "mem") ?_
  refine ld ‹_› (by walk_at "mem") ?_
  refine PyProof.Rows.lt_int ?_
  refine wpAny_truthy_bool ?_
  refine ite_dec (fun hc => ?_) (fun hc => ?_)
  · have hc' : 2 * pp + 1 < ys.length := by (clear hlen hps hpp; lia)
    rw [siftupPos_eq, if_pos hc'] at heq
    have hcp : (2 * (pp : Int) + 1) = ((2 * pp + 1 : Nat) : Int) := by exact Int.natCast_succ _
    have hrp : (2 * (pp : Int) + 1 + 1) = ((2 * pp + 2 : Nat) : Int) := by exact Int.natCast_succ _
    refine K_seq ?_
    refine K_Assign ?_
    refine K_BinOp ?_
    refine ld ‹_› (by walk_at "mem") ?_
    refine c_int ?_; intro _ _
    refine b_add ?_; intro _ _
    refine stn ‹_› (by walk_at "put") ?_; intro _ _ _
    refine cut (fun hh => ∃ (cc t5 : Nat) (v2 : Option Value), cc < ys.length ∧ pp < cc ∧ siftupPos lt (ys.set pp (ys.getD cc default)) cc = siftupPos lt xs ps ∧
        Fm K₀ (drp (hk h) a) env [Str.ofString "len", Str.ofString "_siftdown_max"] [vr "heap" (.ref a), vr "pos" (.int pp t1), vr "endpos" (.int xs.length t2'), vr "startpos" (.int ps t3), vr "newitem" new, vr "childpos" (.int cc t5), (Str.ofString "rightpos", none, v2)] [(a, lst ys n)] hh) ?_ ?_
    · refine K_If ?_
      refine wpAny_isTrue_BoolOp ?_
      refine K_and ?_
      refine K_tcmp ?_
      refine ld ‹_› (by walk_at "mem") ?_
      refine ld ‹_› (by walk_at "mem") ?_
      refine PyProof.Rows.lt_int ?_
      refine wpAny_truthy_bool ?_
      refine ite_dec (fun hd => ?_) (fun hd => ?_)
      · have hd' : 2 * pp + 2 < ys.length := by (clear hlen hps hpp hc hc' hcp hrp; lia)
        refine K_and ?_
        refine K_not ?_
        refine K_tcmp ?_
        refine K_Sub ?_
        refine ld ‹_› (by walk_at "mem") ?_
        refine ld ‹_› (by walk_at "mem") ?_
        refine gi_l (2 * pp + 2) (Fm.isIn (by assumption) (by walk_at "mem")) (by exact hrp) (x := ys.getD (2 * pp + 2) default) (by simp [List.getD, hc', hd']) (by exact Nat.lt_of_le_of_lt (Nat.le_of_eq hyl) hlen) ?_ rfl
        refine K_Sub ?_
        refine ld ‹_› (by walk_at "mem") ?_
        refine ld ‹_› (by walk_at "mem") ?_
        refine gi_l (2 * pp + 1) (Fm.isIn (by assumption) (by walk_at "mem")) (by exact hcp) (x := ys.getD (2 * pp + 1) default) (by simp [List.getD, hc', hd']) (by exact Nat.lt_of_le_of_lt (Nat.le_of_eq hyl) hlen) ?_ rfl
        refine hlt _ (hym _ (by simp [List.getD, hc'])) _ (hym _ (by simp [List.getD, hd'])) _ _ _ _ _ _ (hr.deeper (by decide)) (hKd.sub (Fm.kept (by assumption))) ?_
        intro h3 t3 hk3
        have F3 := Fm.keeps (by assumption) hk3
        refine wpAny_truthy_bool ?_
        refine ite_b (fun hb => ?_) (fun hb => ?_)
        · have hb' : lt (ys.getD (2 * pp + 1) default) (ys.getD (2 * pp + 2) default) = false := (Bool.not_eq_true' _).mp hb
          rw [if_pos ⟨hd', hb'⟩] at heq
          refine wpAny_allTrue_And_nil ?_
          refine m_tt ?_
          refine K_seq ?_
          refine K_Assign ?_
          refine ld ‹_› (by walk_at "mem") ?_
          refine stn ‹_› (by walk_at "put") ?_; intro _ _ _
          refine wpAny_execs_nil ?_
          rw [hrp] at *
          exact ⟨rfl, _, _, rfl, 2 * pp + 2, _, _, hd', by (clear hlen hps hpp hyl hc hc' hcp hrp hd hd'; lia), heq, by assumption⟩
        · have hb' : lt (ys.getD (2 * pp + 1) default) (ys.getD (2 * pp + 2) default) = true := (Bool.not_eq_false' _).mp hb
          rw [if_neg (fun x => by rw [hb'] at x; cases x.2)] at heq
          refine m_ff ?_
          refine wpAny_execs_nil ?_
          rw [hcp] at F3
          exact ⟨rfl, _, _, rfl, 2 * pp + 1, _, _, hc', by (clear hlen hps hpp hyl hc hc' hcp hrp hd hd'; lia), heq, F3⟩
      · have hd' : ¬ (2 * pp + 2 < ys.length) := by (clear hlen hps hpp hc hc' hcp hrp; omega)
        rw [if_neg (fun x => hd' x.1)] at heq
        refine m_ff ?_
        refine wpAny_execs_nil ?_
        rw [hcp] at *
        exact ⟨rfl, _, _, rfl, 2 * pp + 1, _, _, hc', by (clear hlen hps hpp hyl hc hc' hcp hrp hd hd'; lia), heq, by assumption⟩
    · rintro h3 t5 ⟨cc, t6, v2, hcc, hpc, heq3, F3⟩
      refine K_seq ?_
      refine K_AssignS ?_
      refine K_Sub ?_
      refine ld ‹_› (by walk_at "mem") ?_
      refine ld ‹_› (by walk_at "mem") ?_
      refine gi_l cc (F3.isIn (by walk_at "mem")) rfl (x := ys.getD cc default) (by simp [List.getD, hcc]) (by exact Nat.lt_of_le_of_lt (Nat.le_of_eq hyl) hlen) ?_ rfl
      refine ld ‹_› (by walk_at "mem") ?_
      refine ld ‹_› (by walk_at "mem") ?_
      refine si_l pp F3 (by walk_at "upd") rfl hpp (by exact Nat.lt_of_le_of_lt (Nat.le_of_eq hyl) hlen) ?_
      intro h4 F4
      refine K_seq ?_
      refine K_Assign ?_
      refine ld ‹_› (by walk_at "mem") ?_
      refine stn ‹_› (by walk_at "put") ?_; intro _ _ _
      refine K_seq ?_
      refine K_Assign ?_
      refine K_BinOp ?_
      refine K_BinOp ?_
      refine c_int ?_; intro _ _
      refine ld ‹_› (by walk_at "mem") ?_
      refine b_mul (by first | exact IntMulOk.of_left (intBits_le_64 (by omega) (by omega)) | exact IntMulOk.of_right (intBits_le_64 (by omega) (by omega))) ?_; intro _ _
      refine c_int ?_; intro _ _
      refine b_add ?_; intro _ _
      refine stn ‹_› (by walk_at "put") ?_; intro _ _ _
      refine wpAny_execs_nil ?_
      exact hB1 _ _ ⟨_, _, _, rfl, by simp; (clear hlen hps hyl hc hc' hcp hrp hcc; omega), fun _ kk => kk cc _ _ _ _ _ _ rfl (by simpa using hcc) (by simp [hyl]) (fun y hy => (List.mem_or_eq_of_mem_set hy).elim (hym y) (fun e => e ▸ hym _ (by simp [List.getD, hcc]))) heq3 (by assumption)⟩
  · have hc' : ¬ (2 * pp + 1 < ys.length) := by omega
    rw [siftupPos_eq, if_neg hc'] at heq
    refine hD1 _ ?_
    refine K_seq ?_
    refine K_AssignS ?_
    refine ld ‹_› (by walk_at "mem") ?_
    refine ld ‹_› (by walk_at "mem") ?_
    refine ld ‹_› (by walk_at "mem") ?_
    refine si_l pp F (by walk_at "upd") rfl hpp (by exact Nat.lt_of_le_of_lt (Nat.le_of_eq hyl) hlen) ?_
    intro h4 F4
    refine K_seq ?_
    refine K_Expr ?_ (Fm.inter ‹_›)
    refine K_Call ?_
    refine ldg ‹_› ‹_› (by walk_at "mem") (by walk_at "mem") ?_
    refine K_callf ‹_› (by walk_at "mem") ?_
    refine K_more ?_
    refine ld ‹_› (by walk_at "mem") ?_
    refine K_more ?_
    refine ld ‹_› (by walk_at "mem") ?_
    refine K_more ?_
    refine ld ‹_› (by walk_at "mem") ?_
    refine spliced_none ?_
    refine And.intro (Fm.sub ‹_›) ?_
    refine siftdown_max_walk (K₁ := K₁) (lt := lt) hB F4.sub0 (hr.deeper (by decide)) (F4.isIn (by walk_at "mem")) h0 (hKd.sub F4.kept) hK1a (by simpa [hyl] using hlen) (by simpa using hpp) (fun x hx y hy => hlt x ((List.mem_or_eq_of_mem_set hx).elim (hym x) (fun e => e ▸ hnewm)) y ((List.mem_or_eq_of_mem_set hy).elim (hym y) (fun e => e ▸ hnewm))) ?_
    intro h5 t5 e1 e2
    refine wpAny_execs_nil ?_
    refine q _ _ ?_ (fun b o hb e => e2 b o hb (F4.kept b o (by simp [drp, hb]; exact e)))
    rw [e1]
    unfold siftup
    rw [← heq, hnew]
    simp [List.getD, hpp]
end Mine
end
section
open PySem PySem.W PyProof.Rows
set_option Elab.async false
set_option maxRecDepth 100000
set_option maxHeartbeats 1000000
open Mine
namespace Mine
theorem heapreplace_walk {prog w A s t h} {K₀ K₁ : KMap} {a : Addr} {xs : List Value} {n : Nat} {item : Value} {lt : Value → Value → Bool} {Q : Value → Shared → Prop} {E : Value → Shared → Prop}
   (hB : Base K₀) (hs : Sub K₀ h) (hr : Room A 50) (ha : h.get? a = some (lst xs n)) (h0 : K₀ a = none) (hK1 : Sub K₁ h) (hK1a : K₁ a = none)
   (hlen : xs.length < 1000000) (hps : 0 < xs.length) (hlt : ∀ x ∈ item :: xs, ∀ y ∈ item :: xs, CmpOk prog w K₁ x y (lt x y))
   (q : ∀ h' t', h'.get? a = some (lst (siftup lt (xs.set 0 item) 0) n) → (∀ b o, b ≠ a → h.get? b = some o → h'.get? b = some o) → Q (xs.getD 0 default) (up s h' t')) :
   wpAny (model prog w) A (call (.ref 28) [.ref a, item]) Q E (up s h t) := by
  obtain ⟨pm, hF⟩ := hB.fn (28, 2, 27) (by walk_at "mem")
  refine wpAny_call (enter hB hs hF hr.depth (gs := [Str.ofString "_siftup"]) rfl rfl (binds := [(Str.ofString "heap", .ref a), (Str.ofString "item", item)]) rfl
    (lk := [vr "heap" (.ref a), vr "item" item, nv "returnitem"]) ?_ ?_)
  · show PutAll [nv "heap", nv "item", nv "returnitem"] _ _
    walk_at "putall"
  intro env h1 t1 F0
  have F := F0.thaw (a := a) ha h0
  clear F0
  have hKd : KLe K₁ (drp (hk h) a) := le_drp hK1 hK1a
  refine K_seq ?_
  refine K_Assign ?_
  refine K_Sub ?_
  refine ld ‹_› (by walk_at "mem") ?_
  refine c_int ?_; intro _ _
  refine gi_l 0 (F.isIn (by walk_at "mem")) rfl (x := xs.getD 0 default) (by simp [List.getD, hps]) hlen ?_ rfl
  refine stn ‹_› (by walk_at "put") ?_; intro _ _ _
  refine K_seq ?_
  refine K_AssignS ?_
  refine ld ‹_› (by walk_at "mem") ?_
  refine ld ‹_› (by walk_at "mem") ?_
  refine c_int ?_; intro _ _
  refine si_l 0 (by assumption) (by walk_at "upd") rfl hps (by exact hlen) ?_
  intro h2 F2
  refine K_seq ?_
  refine K_Expr ?_ (Fm.inter ‹_›)
  refine K_Call ?_
  refine ldg ‹_› ‹_› (by walk_at "mem") (by walk_at "mem") ?_
  refine K_callf ‹_› (by walk_at "mem") ?_
  refine K_more ?_
  refine ld ‹_› (by walk_at "mem") ?_
  refine K_more ?_
  refine c_int ?_; intro _ _
  refine spliced_none ?_
  refine And.intro (Fm.sub ‹_›) ?_
  refine siftup_walk (K₁ := K₁) (lt := lt) (ps := 0) hB F2.sub0 (hr.deeper (by decide)) (F2.isIn (by walk_at "mem")) h0 (hKd.sub F2.kept) hK1a (by simpa using hlen) (by simpa using hps) (fun x hx y hy => hlt x ((List.mem_or_eq_of_mem_set hx).elim (.tail _) (fun e => e ▸ .head _)) y ((List.mem_or_eq_of_mem_set hy).elim (.tail _) (fun e => e ▸ .head _))) ?_
  intro h3 t3 e1 e2
  have F3 := F2.upd (by walk_at "upd") e1 e2
  refine K_seq ?_
  refine K_Return ?_
  refine ld ‹_› (by walk_at "mem") ?_
  exact q _ _ e1 (fun b o hb e => e2 b o hb (F2.kept b o (by simp [drp, hb]; exact e)))
theorem heapreplace_max_walk {prog w A s t h} {K₀ K₁ : KMap} {a : Addr} {xs : List Value} {n : Nat} {item : Value} {lt : Value → Value → Bool} {Q : Value → Shared → Prop} {E : Value → Shared → Prop}
   (hB : Base K₀) (hs : Sub K₀ h) (hr : Room A 50) (ha : h.get? a = some (lst xs n)) (h0 : K₀ a = none) (hK1 : Sub K₁ h) (hK1a : K₁ a = none)
   (hlen : xs.length < 1000000) (hps : 0 < xs.length) (hlt : ∀ x ∈ item :: xs, ∀ y ∈ item :: xs, CmpOk prog w K₁ y x (lt x y))
   (q : ∀ h' t', h'.get? a = some (lst (siftup lt (xs.set 0 item) 0) n) → (∀ b o, b ≠ a → h.get? b = some o → h'.get? b = some o) → Q (xs.getD 0 default) (up s h' t')) :
   wpAny (model prog w) A (call (.ref 42) [.ref a, item]) Q E (up s h t) := by
  obtain ⟨pm, hF⟩ := hB.fn (42, 4, 41) (by walk_at "mem")
  refine wpAny_call (enter hB hs hF hr.depth (gs := [Str.ofString "_siftup_max"]) rfl rfl (binds := [(Str.ofString "heap", .ref a), (Str.ofString "item", item)]) rfl
    (lk := [vr "heap" (.ref a), vr "item" item, nv "returnitem"]) ?_ ?_)
  · show PutAll [nv "heap", nv "item", nv "returnitem"] _ _
    walk_at "putall"
  intro env h1 t1 F0
  have F := F0.thaw (a := a) ha h0
  clear F0
  have hKd : KLe K₁ (drp (hk h) a) := le_drp hK1 hK1a
  refine K_seq ?_
  refine K_Assign ?_
  refine K_Sub ?_
  refine ld ‹_› (by walk_at "mem") ?_
  refine c_int ?_; intro _ _
  refine gi_l 0 (F.isIn (by walk_at "mem")) rfl (x := xs.getD 0 default) (by simp [List.getD, hps]) hlen ?_ rfl
  refine stn ‹_› (by walk_at "put") ?_; intro _ _ _
  refine K_seq ?_
  refine K_AssignS ?_
  refine ld ‹_› (by walk_at "mem") ?_
  refine ld ‹_› (by walk_at "mem") ?_
  refine c_int ?_; intro _ _
  refine si_l 0 (by assumption) (by walk_at "upd") rfl hps (by exact hlen) ?_
  intro h2 F2
  refine K_seq ?_
  refine K_Expr ?_ (Fm.inter ‹_›)
  refine K_Call ?_
  refine ldg ‹_› ‹_› (by walk_at "mem") (by walk_at "mem") ?_
  refine K_callf ‹_› (by walk_at "mem") ?_
  refine K_more ?_
  refine ld ‹_› (by walk_at "mem") ?_
  refine K_more ?_
  refine c_int ?_; intro _ _
  refine spliced_none ?_
  refine And.intro (Fm.sub ‹_›) ?_
  refine siftup_max_walk (K₁ := K₁) (lt := lt) (ps := 0) hB F2.sub0 (hr.deeper (by decide)) (F2.isIn (by walk_at "mem")) h0 (hKd.sub F2.kept) hK1a (by simpa using hlen) (by simpa using hps) (fun x hx y hy => hlt x ((List.mem_or_eq_of_mem_set hx).elim (.tail _) (fun e => e ▸ .head _)) y ((List.mem_or_eq_of_mem_set hy).elim (.tail _) (fun e => e ▸ .head _))) ?_
  intro h3 t3 e1 e2
  have F3 := F2.upd (by walk_at "upd") e1 e2
  refine K_seq ?_
  refine K_Return ?_
  refine ld ‹_› (by walk_at "mem") ?_
  exact q _ _ e1 (fun b o hb e => e2 b o hb (F2.kept b o (by simp [drp, hb]; exact e)))
theorem heapify_walk {prog w A s t h} {K₀ K₁ : KMap} {a : Addr} {xs : List Value} {n : Nat} {lt : Value → Value → Bool} {Q : Value → Shared → Prop} {E : Value → Shared → Prop}
   (hB : Base K₀) (hs : Sub K₀ h) (hr : Room A 50) (ha : h.get? a = some (lst xs n)) (h0 : K₀ a = none) (hK1 : Sub K₁ h) (hK1a : K₁ a = none)
   (hlen : xs.length < 1000000) (hlt : ∀ x ∈ xs, ∀ y ∈ xs, CmpOk prog w K₁ x y (lt x y))
   (q : ∀ h' t', h'.get? a = some (lst (heapifyTo lt xs (xs.length / 2)) n) → (∀ b o, b ≠ a → h.get? b = some o → h'.get? b = some o) → Q .none (up s h' t')) :
   wpAny (model prog w) A (call (.ref 35) [.ref a]) Q E (up s h t) := by
  obtain ⟨pm, hF⟩ := hB.fn (35, 3, 34) (by walk_at "mem")
  refine wpAny_call (enter hB hs hF hr.depth (gs := [Str.ofString "len", Str.ofString "reversed", Str.ofString "range", Str.ofString "_siftup"]) rfl rfl (binds := [(Str.ofString "x", .ref a)]) rfl
    (lk := [vr "x" (.ref a), nv "n", nv "i"]) ?_ ?_)
  · show PutAll [nv "x", nv "n", nv "i"] _ _
    walk_at "putall"
  intro env h1 t1 F0
  have F := F0.thaw (a := a) ha h0
  clear F0
  have hKd : KLe K₁ (drp (hk h) a) := le_drp hK1 hK1a
  have hA : (A.deeper env).handled = none := hr.hd
  refine K_seq ?_
  refine K_Assign ?_
  refine K_Call ?_
  refine ldb ‹_› ‹_› (by walk_at "mem") (by walk_at "mem") ?_
  refine K_callB ?_
  refine K_more ?_
  refine ld ‹_› (by walk_at "mem") ?_
  refine spliced_none ?_
  refine len_l (F.isIn (by walk_at "mem")) hlen ?_; intro _ _
  refine stn ‹_› (by walk_at "put") ?_; intro _ _ _
  refine K_seq ?_
  refine wpAny_For ?_
  refine K_Call ?_
  refine ldb ‹_› ‹_› (by walk_at "mem") (by walk_at "mem") ?_
  refine K_callT ?_
  refine K_more ?_
  refine K_Call ?_
  refine ldb ‹_› ‹_› (by walk_at "mem") (by walk_at "mem") ?_
  refine K_callT ?_
  refine K_more ?_
  refine K_BinOp ?_
  refine ld ‹_› (by walk_at "mem") ?_
  refine c_int ?_; intro _ _
  refine b_div (by omega) ?_; intro _ _
  refine spliced_none ?_
  refine range1 (by assumption) ?_
  intro r h2 t2 u1 u2 F2
  refine spliced_none ?_
  refine rev_range F2 (by lia) ?_
  intro it h3 F3
  refine iter_rit (F3.isIn (by walk_at "mem")) ?_
  refine for_ (fun m hh => ∀ P : Prop, (∀ (ys : List Value) (v1 : Option Value) (tn : Nat), ys.length = xs.length → m ≤ xs.length / 2 → (∀ y ∈ ys, y ∈ xs) → heapifyTo lt ys m = heapifyTo lt xs (xs.length / 2) → Fm K₀ (drp (hk h) a) env [Str.ofString "len", Str.ofString "reversed", Str.ofString "range", Str.ofString "_siftup"] [vr "x" (.ref a), vr "n" (.int xs.length tn), (Str.ofString "i", none, v1)] [(it, rit ((m : Int) - 1) m (-1)), (a, lst ys n)] hh → P) → P) (xs.length / 2)
    (fun _ kk => kk xs _ _ rfl (Nat.le_refl _) (fun _ x => x) rfl (by
      rw [show (((xs.length / 2 : Nat) : Int)) = (xs.length : Int) / 2 by exact rfl]; exact F3)) ?_
  rintro m h4 t4 B1 hB1 D1 hD1 hEx
  refine hEx _ ?_
  clear hEx
  rintro ys v1 tn hyl hm hym heq F4
  cases m with
  | zero =>
    refine nx_range_end hA F4 (by exact Int.natCast_nonneg _) ?_
    intro h5 F5
    refine hD1 _ ?_
    refine wpAny_execs_nil ?_
    refine q _ _ ?_ (fun b o hb e => F5.kept b o (by simp [drp, hb]; exact e))
    rw [← heq]; show h5.get? a = some (lst ys n); exact F5.isIn (by walk_at "mem")
  | succ k =>
    refine nx_range F4 (by walk_at "upd") (by omega) ?_
    intro tk h5 t5 F5
    refine wpAny_of_eq (a := ()) rfl ?_
    rw [show (((k + 1 : Nat) : Int) - 1) = (k : Int) by (clear hlen hyl hm; lia)] at F5 ⊢
    refine asg F5 (by walk_at "put") ?_
    intro h6 t6 F6
    refine K_seq ?_
    refine K_Expr ?_ (Fm.inter ‹_›)
    refine K_Call ?_
    refine ldg ‹_› ‹_› (by walk_at "mem") (by walk_at "mem") ?_
    refine K_callf ‹_› (by walk_at "mem") ?_
    refine K_more ?_
    refine ld ‹_› (by walk_at "mem") ?_
    refine K_more ?_
    refine ld ‹_› (by walk_at "mem") ?_
    refine spliced_none ?_
    refine And.intro (Fm.sub ‹_›) ?_
    refine siftup_walk (K₁ := K₁) (lt := lt) (ps := k) hB F6.sub0 (hr.deeper (by decide)) (F6.isIn (by walk_at "mem")) h0 (hKd.sub F6.kept) hK1a (by exact Nat.lt_of_le_of_lt (Nat.le_of_eq hyl) hlen) (by (clear hlen; lia)) (fun x hx y hy => hlt x (hym x hx) y (hym y hy)) ?_
    intro h7 t7 e1 e2
    have F7 := F6.upd (by walk_at "upd") e1 e2
    refine wpAny_execs_nil ?_
    exact hB1 _ _ ⟨k, _, _, rfl, by exact Nat.le_refl _, fun _ kk => kk _ _ _ (by rw [siftup_length]; exact hyl) (by exact Nat.le_of_lt hm) (fun y hy => hym y (siftup_mem hy (by (clear hlen; lia)))) heq F7⟩
theorem heapify_max_walk {prog w A s t h} {K₀ K₁ : KMap} {a : Addr} {xs : List Value} {n : Nat} {lt : Value → Value → Bool} {Q : Value → Shared → Prop} {E : Value → Shared → Prop}
   (hB : Base K₀) (hs : Sub K₀ h) (hr : Room A 50) (ha : h.get? a = some (lst xs n)) (h0 : K₀ a = none) (hK1 : Sub K₁ h) (hK1a : K₁ a = none)
   (hlen : xs.length < 1000000) (hlt : ∀ x ∈ xs, ∀ y ∈ xs, CmpOk prog w K₁ y x (lt x y))
   (q : ∀ h' t', h'.get? a = some (lst (heapifyTo lt xs (xs.length / 2)) n) → (∀ b o, b ≠ a → h.get? b = some o → h'.get? b = some o) → Q .none (up s h' t')) :
   wpAny (model prog w) A (call (.ref 49) [.ref a]) Q E (up s h t) := by
  obtain ⟨pm, hF⟩ := hB.fn (49, 5, 48) (by walk_at "mem")
  refine wpAny_call (enter hB hs hF hr.depth (gs := [Str.ofString "len", Str.ofString "reversed", Str.ofString "range", Str.ofString "_siftup_max"]) rfl rfl (binds := [(Str.ofString "x", .ref a)]) rfl
    (lk := [vr "x" (.ref a), nv "n", nv "i"]) ?_ ?_)
  · show PutAll [nv "x", nv "n", nv "i"] _ _
    walk_at "putall"
  intro env h1 t1 F0
  have F := F0.thaw (a := a) ha h0
  clear F0
  have hKd : KLe K₁ (drp (hk h) a) := le_drp hK1 hK1a
  have hA : (A.deeper env).handled = none := hr.hd
  refine K_seq ?_
  refine K_Assign ?_
  refine K_Call ?_
  refine ldb ‹_› ‹_› (by walk_at "mem") (by walk_at "mem") ?_
  refine K_callB ?_
  refine K_more ?_
  refine ld ‹_› (by walk_at "mem") ?_
  refine spliced_none ?_
  refine len_l (F.isIn (by walk_at "mem")) hlen ?_; intro _ _
  refine stn ‹_› (by walk_at "put") ?_; intro _ _ _
  refine K_seq ?_
  refine wpAny_For ?_
  refine K_Call ?_
  refine ldb ‹_› ‹_› (by walk_at "mem") (by walk_at "mem") ?_
  refine K_callT ?_
  refine K_more ?_
  refine K_Call ?_
  refine ldb ‹_› ‹_› (by walk_at "mem") (by walk_at "mem") ?_
  refine K_callT ?_
  refine K_more ?_
  refine K_BinOp ?_
  refine ld ‹_› (by walk_at "mem") ?_
  refine c_int ?_; intro _ _
  refine b_div (by omega) ?_; intro _ _
  refine spliced_none ?_
  refine range1 (by assumption) ?_
  intro r h2 t2 u1 u2 F2
  refine spliced_none ?_
  refine rev_range F2 (by lia) ?_
  intro it h3 F3
  refine iter_rit (F3.isIn (by walk_at "mem")) ?_
  refine for_ (fun m hh => ∀ P : Prop, (∀ (ys : List Value) (v1 : Option Value) (tn : Nat), ys.length = xs.length → m ≤ xs.length / 2 → (∀ y ∈ ys, y ∈ xs) → heapifyTo lt ys m = heapifyTo lt xs (xs.length / 2) → Fm K₀ (drp (hk h) a) env [Str.ofString "len", Str.ofString "reversed", Str.ofString "range", Str.ofString "_siftup_max"] [vr "x" (.ref a), vr "n" (.int xs.length tn), (Str.ofString "i", none, v1)] [(it, rit ((m : Int) - 1) m (-1)), (a, lst ys n)] hh → P) → P) (xs.length / 2)
    (fun _ kk => kk xs _ _ rfl (Nat.le_refl _) (fun _ x => x) rfl (by
      rw [show (((xs.length / 2 : Nat) : Int)) = (xs.length : Int) / 2 by exact rfl]; exact F3)) ?_
  rintro m h4 t4 B1 hB1 D1 hD1 hEx
  refine hEx _ ?_
  clear hEx
  rintro ys v1 tn hyl hm hym heq F4
  cases m with
  | zero =>
    refine nx_range_end hA F4 (by exact Int.natCast_nonneg _) ?_
    intro h5 F5
    refine hD1 _ ?_
    refine wpAny_execs_nil ?_
    refine q _ _ ?_ (fun b o hb e => F5.kept b o (by simp [drp, hb]; exact e))
    rw [← heq]; show h5.get? a = some (lst ys n); exact F5.isIn (by walk_at "mem")
  | succ k =>
    refine nx_range F4 (by walk_at "upd") (by omega) ?_
    intro tk h5 t5 F5
    refine wpAny_of_eq (a := ()) rfl ?_
    rw [show (((k + 1 : Nat) : Int) - 1) = (k : Int) by (clear hlen hyl hm; lia)] at F5 ⊢
    refine asg F5 (by walk_at "put") ?_
    intro h6 t6 F6
    refine K_seq ?_
    refine K_Expr ?_ (Fm.inter ‹_›)
    refine K_Call ?_
    refine ldg ‹_› ‹_› (by walk_at "mem") (by walk_at "mem") ?_
    refine K_callf ‹_› (by walk_at "mem") ?_
    refine K_more ?_
    refine ld ‹_› (by walk_at "mem") ?_
    refine K_more ?_
    refine ld ‹_› (by walk_at "mem") ?_
    refine spliced_none ?_
    refine And.intro (Fm.sub ‹_›) ?_
    refine siftup_max_walk (K₁ := K₁) (lt := lt) (ps := k) hB F6.sub0 (hr.deeper (by decide)) (F6.isIn (by walk_at "mem")) h0 (hKd.sub F6.kept) hK1a (by exact Nat.lt_of_le_of_lt (Nat.le_of_eq hyl) hlen) (by (clear hlen; lia)) (fun x hx y hy => hlt x (hym x hx) y (hym y hy)) ?_
    intro h7 t7 e1 e2
    have F7 := F6.upd (by walk_at "upd") e1 e2
    refine wpAny_execs_nil ?_
    exact hB1 _ _ ⟨k, _, _, rfl, by exact Nat.le_refl _, fun _ kk => kk _ _ _ (by rw [siftup_length]; exact hyl) (by exact Nat.le_of_lt hm) (fun y hy => hym y (siftup_mem hy (by (clear hlen; lia)))) heq F7⟩
theorem heappop_walk {prog w A s t h} {K₀ K₁ : KMap} {a : Addr} {xs : List Value} {n : Nat} {lt : Value → Value → Bool} {Q : Value → Shared → Prop} {E : Value → Shared → Prop}
   (hB : Base K₀) (hs : Sub K₀ h) (hr : Room A 50) (ha : h.get? a = some (lst xs n)) (h0 : K₀ a = none) (hK1 : Sub K₁ h) (hK1a : K₁ a = none)
   (hlen : xs.length < 1000000) (hps : 0 < xs.length) (hlt : ∀ x ∈ xs, ∀ y ∈ xs, CmpOk prog w K₁ x y (lt x y))
   (q : ∀ h' t', h'.get? a = some (lst (heapPop lt xs).2 (n + 1)) → (∀ b o, b ≠ a → h.get? b = some o → h'.get? b = some o) → Q (heapPop lt xs).1 (up s h' t')) :
   wpAny (model prog w) A (call (.ref 21) [.ref a]) Q E (up s h t) := by
  obtain ⟨pm, hF⟩ := hB.fn (21, 1, 20) (by walk_at "mem")
  refine wpAny_call (enter hB hs hF hr.depth (gs := [Str.ofString "_siftup"]) rfl rfl (binds := [(Str.ofString "heap", .ref a)]) rfl
    (lk := [vr "heap" (.ref a), nv "lastelt", nv "returnitem"]) ?_ ?_)
  · show PutAll [nv "heap", nv "lastelt", nv "returnitem"] _ _
    walk_at "putall"
  intro env h1 t1 F0
  have F := F0.thaw (a := a) ha h0
  clear F0
  have hKd : KLe K₁ (drp (hk h) a) := le_drp hK1 hK1a
  have hne : xs ≠ [] := by intro e; subst e; simp at hps
  have hl : xs.getLast? = some (xs.getLastD default) := by
    rw [List.getLast?_eq_some_getLast hne, List.getLastD_eq_getLast?, List.getLast?_eq_some_getLast hne]; rfl
  have hlm : xs.getLastD default ∈ xs := by
    rw [List.getLastD_eq_getLast?, List.getLast?_eq_some_getLast hne]; exact List.getLast_mem hne
  refine K_seq ?_
  refine K_Assign ?_
  refine K_meth0 rfl rfl ?_
  refine ld ‹_› (by walk_at "mem") ?_
  refine pop_l F (by walk_at "upd") hl hlen ?_
  intro h2 F2
  unfold heapPop at q
  generalize hlast : xs.getLastD default = last at *
  refine stn ‹_› (by walk_at "put") ?_; intro _ _ _
  refine K_seq ?_
  refine K_If ?_
  refine K_value ?_
  refine ld ‹_› (by walk_at "mem") ?_
  refine tru_l (Fm.isIn (by assumption) (by walk_at "mem")) (by simp; omega) ?_
  intro t3
  refine ite_b (fun hb => ?_) (fun hb => ?_)
  · have hb' : xs.dropLast.isEmpty = false := by simpa using hb
    have hpos : 0 < xs.dropLast.length := by
      rcases Nat.eq_zero_or_pos xs.dropLast.length with e | e
      · rw [List.length_eq_zero_iff] at e; rw [e] at hb'; cases hb'
      · exact e
    rw [if_neg (by simp [hb'])] at q
    refine K_seq ?_
    refine K_Assign ?_
    refine K_Sub ?_
    refine ld ‹_› (by walk_at "mem") ?_
    refine c_int ?_; intro _ _
    refine gi_l 0 (Fm.isIn (by assumption) (by walk_at "mem")) rfl (x := xs.dropLast.getD 0 default) (by simp [List.getD, List.getElem?_eq_getElem hpos]) (by simp; (clear hps hne hpos; omega)) ?_ rfl
    refine stn ‹_› (by walk_at "put") ?_; intro _ _ _
    refine K_seq ?_
    refine K_AssignS ?_
    refine ld ‹_› (by walk_at "mem") ?_
    refine ld ‹_› (by walk_at "mem") ?_
    refine c_int ?_; intro _ _
    refine si_l 0 (by assumption) (by walk_at "upd") rfl hpos (by simp; (clear hps hne hpos; omega)) ?_
    intro h4 F4
    refine K_seq ?_
    refine K_Expr ?_ (Fm.inter ‹_›)
    refine K_Call ?_
    refine ldg ‹_› ‹_› (by walk_at "mem") (by walk_at "mem") ?_
    refine K_callf ‹_› (by walk_at "mem") ?_
    refine K_more ?_
    refine ld ‹_› (by walk_at "mem") ?_
    refine K_more ?_
    refine c_int ?_; intro _ _
    refine spliced_none ?_
    refine And.intro (Fm.sub ‹_›) ?_
    have hmm : ∀ x ∈ xs.dropLast.set 0 last, x ∈ xs := fun x hx => (List.mem_or_eq_of_mem_set hx).elim (fun e => List.dropLast_subset _ e) (fun e => e ▸ hlm)
    refine siftup_walk (K₁ := K₁) (lt := lt) (ps := 0) hB F4.sub0 (hr.deeper (by decide)) (F4.isIn (by walk_at "mem")) h0 (hKd.sub F4.kept) hK1a (by simp; (clear hps hne hpos; omega)) (by rw [List.length_set]; exact hpos) (fun x hx y hy => hlt x (hmm x hx) y (hmm y hy)) ?_
    intro h5 t5 e1 e2
    have F5 := F4.upd (by walk_at "upd") e1 e2
    refine K_seq ?_
    refine K_Return ?_
    refine ld ‹_› (by walk_at "mem") ?_
    exact q _ _ e1 (fun b o hb e => e2 b o hb (F4.kept b o (by simp [drp, hb]; exact e)))
  · have hb' : xs.dropLast.isEmpty = true := by simpa using hb
    rw [if_pos hb'] at q
    refine wpAny_execs_nil ?_
    refine K_seq ?_
    refine K_Return ?_
    refine ld ‹_› (by walk_at "mem") ?_
    refine q _ _ ?_ (fun b o hb e => Fm.kept (by assumption) b o (by simp [drp, hb]; exact e))
    have e3 : xs.dropLast = [] := List.isEmpty_iff.mp hb'
    have e4 := Fm.isIn (a := a) (o := lst xs.dropLast (n + 1)) (by assumption) (by walk_at "mem")
    rw [e3] at e4; exact e4
end Mine
end
section
open PySem PySem.W PyProof.Rows
set_option Elab.async false
set_option maxRecDepth 100000
set_option maxHeartbeats 1000000
set_option linter.unusedVariables false
open Mine
namespace Mine
theorem te_exc : isSubtype (.type "TypeError") (.type "BaseException") = pure true := by rw [isSubtype_type]; kernel_rfl
theorem ae_exc : isSubtype (.type "AttributeError") (.type "BaseException") = pure true := by rw [isSubtype_type]; kernel_rfl
theorem te_te : isSubtype (.type "TypeError") (.type "TypeError") = pure true := by rw [isSubtype_type]; kernel_rfl
theorem te_ae : isSubtype (.type "TypeError") (.type "AttributeError") = pure false := by rw [isSubtype_type]; kernel_rfl
theorem te_nt : isSubtype (.type ((Manifest.find? "TypeError").elim "type" fun x => x.metatype)) (.type "tuple") = pure false := by kernel_rfl
theorem ae_nt : isSubtype (.type ((Manifest.find? "AttributeError").elim "type" fun x => x.metatype)) (.type "tuple") = pure false := by kernel_rfl
/-- len of a list's iterator raises, the exception is caught -/
theorem try_li {prog : Program} {w : World} {A : Around} {E : Value → Shared → Prop} {s : Shared} {t : Nat} {K₀ K : KMap} {env el : Env} {gs : List Str} {lk : List Var} {ws : List (Addr × Obj)} {h : Heap} {it l Lc : Addr} {io oc : Obj} {i : Nat} {orelse : List Stmt} {p1 p2 p3 p4 p5 p6 p7 p8 p9 p10 p11 : Pos} {k : Nat} {Q : Flow → Shared → Prop}
    (hB : Base K₀) (hh : A.handled = none) (hfr : A.frames = some [env, el]) (hk2 : el.scope.kind ≠ .module) (hf1 : env.frame = some env.locals) (hf2 : el.frame = some Lc) (dc : ∀ vs, oc.data ≠ .fields vs)
    (F : Fm K₀ K env gs lk ((Lc, oc) :: (it, io) :: ws) h) (hio : IsLI io l i) (g1 : Str.ofString "len" ∈ gs) (g2 : Str.ofString "TypeError" ∈ gs) (g3 : Str.ofString "AttributeError" ∈ gs) (hv : (Str.ofString "iterable", none, some (Value.ref it)) ∈ lk)
    (q : ∀ h' t' oc', oc'.data = oc.data → Fm K₀ K env gs lk ((Lc, oc') :: (it, io) :: ws) h' → Q .next (up s h' t')) :
    wpAny (model prog w) A (exec (.Try [.Assign [.Name (Str.ofString "size") p1] (.Call (.Name (Str.ofString "len") p2) [.Name (Str.ofString "iterable") p3] [] p4) p5]
      [.ExceptHandler (some (.Tuple [.Name (Str.ofString "TypeError") p6, .Name (Str.ofString "AttributeError") p7] k p8)) none [.Pass p9] p10] orelse [] p11) env) Q E (up s h t) := by
  refine wpAny_Try_except ?_
  refine wpAny_execs_cons (wpAny_Assign_Name (wpAny_Call_NameR (ldb hB F g1 (by walk_at "mem") ?_)))
  refine PyProof.Rows.callWith_builtin1 (spliced_more (ld F hv (spliced_none ?_)))
  refine len_li hh (F.isIn (.tail _ (.head _))) hio ?_
  intro h1 t1 e hx
  obtain ⟨oL, eL⟩ := F.L_some
  have eLc := F.isIn (a := Lc) (.head _)
  obtain ⟨oe, tt, he, hcls, hd⟩ := hx.there
  have dL : ∀ vs, oL.data ≠ .fields vs := fun vs x => by
    obtain ⟨o', _, _, e', d', _⟩ := F.nsp
    rw [eL] at e'; cases e'; rw [x] at d'; cases d'
  refine note_first (s := up s h1 t1) (el := el) hfr (by rw [F.fk]; decide) hk2 hf1 hf2 (hx.keeps _ _ eL) dL (hx.keeps _ _ eLc) dc he hd rfl ?_
  intro h2 tb k2 hL2 hc2 htn he2 ht2
  obtain ⟨oL', eL2, dL2⟩ := hL2
  obtain ⟨oc', ec2, dc2⟩ := hc2
  obtain ⟨ot, ts, et2, dt2, sz2⟩ := ht2
  have hneL : env.locals ≠ e := fun x => by rw [x, hx.new] at eL; cases eL
  have hneC : Lc ≠ e := fun x => by rw [x, hx.new] at eLc; cases eLc
  have oldE : ∀ b o, h.get? b = some o → b ≠ e := fun b o eb x => by rw [x, hx.new] at eb; cases eb
  have oldT : ∀ b o, h.get? b = some o → b ≠ tb := fun b o eb x => by
    have h3 : h1.get? b = some o := hx.keeps _ _ eb
    have h4 : h1.get? tb = none := htn
    rw [← x, h3] at h4; cases h4
  have hd2 := Obj.data_mapFields hd (·.setIfInBounds 1 (Value.ref tb))
  have hc2' : (oe.mapFields (·.setIfInBounds 1 (Value.ref tb))).cls = .type "TypeError" := by rw [Obj.cls_mapFields]; exact hcls
  generalize oe.mapFields (·.setIfInBounds 1 (Value.ref tb)) = oe' at he2 hd2 hc2'
  have hte : tb ≠ e := fun x => by rw [x] at htn; exact absurd (he.symm.trans htn) (by simp)
  have hv1 : (#[tt, Value.none, .none, .none, .bool false, .none].setIfInBounds 1 (Value.ref tb))[1]? = some (.ref tb) := by simp
  refine wpAny_setFlight_none (s := up s h2 t1) he2 hd2 hv1 et2 dt2 sz2 ?_
  have u3 : ∀ b o, b ≠ tb → h2.get? b = some o → (h2.update tb (Obj.mapFields (·.setIfInBounds 3 .none))).get? b = some o := fun b o hb eb => (Heap.get?_update_other _ _ (Ne.symm hb)).trans eb
  have et3 : ∃ ot ts, (h2.update tb (Obj.mapFields (·.setIfInBounds 3 .none))).get? tb = some ot ∧ ot.data = .fields ts ∧ 3 < ts.size :=
    ⟨_, _, Heap.get?_update_self _ et2 (Obj.isFreed_of_fields (Obj.data_mapFields dt2 _)), Obj.data_mapFields dt2 _, by simpa using sz2⟩
  show wpAny _ _ _ _ _ (up s (h2.update tb (Obj.mapFields (·.setIfInBounds 3 .none))) t1)
  generalize h2.update tb (Obj.mapFields (·.setIfInBounds 3 .none)) = h3 at u3 et3 ⊢
  obtain ⟨ot3, ts3, et3, dt3, sz3⟩ := et3
  have F3 : Fm K₀ K env gs lk ((Lc, oc') :: (it, io) :: ws) h3 := F.noted (fun b o b1 b2 eb => u3 b o (oldT b o eb) (k2 b o b1 b2 (oldE b o eb) (hx.keeps _ _ eb)))
    (fun o eo => by rw [eL] at eo; cases eo; exact ⟨oL', u3 _ _ (oldT _ _ eL) eL2, dL2⟩) (u3 _ _ (oldT _ _ eLc) ec2)
  have he3 := u3 e _ hte.symm he2
  refine wpAny_handleBy_tup2 te_exc te_nt ae_exc ae_nt te_te te_ae ?_
  refine mk_tup (spliced_more (ldb hB F3 g2 (by walk_at "mem") (spliced_more (ldb hB F3 g3 (by walk_at "mem") (spliced_none ?_)))))
  refine (mk_inT F3 (by simp) ?_)
  intro a h4 hn4 hk4 F4
  refine ⟨a, rfl, ⟨_, F4.isIn (.head _), rfl, _, rfl⟩, ⟨_, hk4 _ _ he3, hc2'⟩, ?_⟩
  rw [if_pos (show (true || false) = true from rfl)]
  refine wpAny_setFlight_none (s := up s h4 t1) (hk4 _ _ he3) hd2 hv1 (hk4 _ _ et3) dt3 sz3 ?_
  refine wpAny_execs_cons (wpAny_Pass (wpAny_execs_nil ?_))
  refine q _ _ oc' dc2 ?_
  have oldT3 : ∀ b o, h.get? b = some o → b ≠ tb := oldT
  refine F.noted (fun b o b1 b2 eb => (Heap.get?_update_other _ _ (oldT b o eb).symm).trans (hk4 _ _ (u3 b o (oldT b o eb) (k2 b o b1 b2 (oldE b o eb) (hx.keeps _ _ eb)))))
    (fun o eo => by rw [eL] at eo; cases eo; exact ⟨oL', (Heap.get?_update_other _ _ (oldT _ _ eL).symm).trans (hk4 _ _ (u3 _ _ (oldT _ _ eL) eL2)), dL2⟩) ((Heap.get?_update_other _ _ (oldT _ _ eLc).symm).trans (hk4 _ _ (u3 _ _ (oldT _ _ eLc) ec2)))
end Mine
end
section
open PySem PySem.W PyProof.Rows
set_option Elab.async false
set_option maxRecDepth 100000
set_option maxHeartbeats 1000000
set_option linter.unusedVariables false
open Mine
namespace Mine
theorem T_walk {prog w A s t h} {K₀ : KMap} {j b : Nat} {tj tb : Nat} {Q : Value → Shared → Prop} {E : Value → Shared → Prop}
   (hB : Base K₀) (hs : Sub K₀ h) (hr : Room A 10) (q : ∀ tk h' t', Keeps h h' → Q (.int (tN j b : Nat) tk) (up s h' t')) :
   wpAny (model prog w) A (call (.ref 96) [.int (j : Nat) tj, .int (b : Nat) tb]) Q E (up s h t) := by
  obtain ⟨pm, hF⟩ := hB.fn (96, 13, 95) (by walk_at "mem")
  refine wpAny_call (enter hB hs hF hr.depth (gs := []) rfl rfl (binds := [(Str.ofString "j", .int (j : Nat) tj), (Str.ofString "bias", .int (b : Nat) tb)]) rfl
    (lk := [vr "j" (.int (j : Nat) tj), vr "bias" (.int (b : Nat) tb), nv "res"]) ?_ ?_)
  · show PutAll [nv "j", nv "bias", nv "res"] _ _
    walk_at "putall"
  intro env h1 t1 F
  refine K_seq ?_
  refine K_Assign ?_
  refine K_BinOp ?_
  refine K_BinOp ?_
  refine c_int ?_; intro _ _
  refine K_BinOp ?_
  refine ld ‹_› (by walk_at "mem") ?_
  refine c_int ?_; intro _ _
  refine b_add ?_; intro _ _
  refine b_mul (by first | exact IntMulOk.of_left (intBits_le_64 (by omega) (by omega)) | exact IntMulOk.of_right (intBits_le_64 (by omega) (by omega))) ?_; intro _ _
  refine ld ‹_› (by walk_at "mem") ?_
  refine b_sub ?_; intro _ _
  refine stn ‹_› (by walk_at "put") ?_; intro _ _ _
  refine K_seq ?_
  refine K_If ?_
  refine K_tcmp ?_
  refine ld ‹_› (by walk_at "mem") ?_
  refine c_int ?_; intro _ _
  refine PyProof.Rows.lt_int ?_
  refine wpAny_truthy_bool ?_
  refine ite_dec (fun hc => ?_) (fun hc => ?_)
  · refine K_seq ?_
    refine K_Return ?_
    refine c_int ?_; intro _ _
    have e : (tN j b : Nat) = 1 := by unfold tN; rw [if_pos (by lia)]
    have q' := q; rw [e] at q'
    exact q' _ _ _ (Fm.kept (by assumption))
  · refine wpAny_execs_nil ?_
    refine K_seq ?_
    refine K_If ?_
    refine K_tcmp ?_
    refine ld ‹_› (by walk_at "mem") ?_
    refine c_int ?_; intro _ _
    refine PyProof.Rows.gt_int ?_
    refine wpAny_truthy_bool ?_
    refine ite_dec (fun hd => ?_) (fun hd => ?_)
    · refine K_seq ?_
      refine K_Return ?_
      refine c_int ?_; intro _ _
      have e : (tN j b : Nat) = 26 := by unfold tN; rw [if_neg (by omega), if_pos (by omega)]
      have q' := q; rw [e] at q'
      exact q' _ _ _ (Fm.kept (by assumption))
    · refine wpAny_execs_nil ?_
      refine K_seq ?_
      refine K_Return ?_
      refine ld ‹_› (by walk_at "mem") ?_
      have e : ((tN j b : Nat) : Int) = 36 * ((j : Int) + 1) - b := by unfold tN; rw [if_neg (by (clear hd; omega)), if_neg (by omega)]; omega
      have q' := q; rw [e] at q'
      exact q' _ _ _ (Fm.kept (by assumption))
theorem adapt_walk {prog w A s t h} {K₀ : KMap} {d n : Nat} {td tn : Nat} {first : Bool} {Q : Value → Shared → Prop} {E : Value → Shared → Prop}
   (hB : Base K₀) (hs : Sub K₀ h) (hr : Room A 10) (hn : 0 < n ∧ n < 1000) (hd : d < 1000000) (q : ∀ tk h' t', Keeps h h' → Q (.int (adaptN d first n : Nat) tk) (up s h' t')) :
   wpAny (model prog w) A (call (.ref 110) [.int (d : Nat) td, .bool first, .int (n : Nat) tn]) Q E (up s h t) := by
  obtain ⟨pm, hF⟩ := hB.fn (110, 16, 109) (by walk_at "mem")
  refine wpAny_call (enter hB hs hF hr.depth (gs := []) rfl rfl (binds := [(Str.ofString "delta", .int (d : Nat) td), (Str.ofString "first", .bool first), (Str.ofString "numchars", .int (n : Nat) tn)]) rfl
    (lk := [vr "delta" (.int (d : Nat) td), vr "first" (.bool first), vr "numchars" (.int (n : Nat) tn), nv "divisions", nv "bias"]) ?_ ?_)
  · show PutAll [nv "delta", nv "first", nv "numchars", nv "divisions", nv "bias"] _ _
    walk_at "putall"
  intro env h1 t1 F
  refine cut (fun hh => ∃ td', Fm K₀ (hk h) env [] [vr "delta" (.int ((if first then d / 700 else d / 2 : Nat) : Nat) td'), vr "first" (.bool first), vr "numchars" (.int (n : Nat) tn), nv "divisions", nv "bias"] [] hh) ?_ ?_
  · refine K_If ?_
    refine K_value ?_
    refine ld ‹_› (by walk_at "mem") ?_
    refine wpAny_truthy_bool ?_
    refine ite_b (fun hb => ?_) (fun hb => ?_)
    · subst hb
      refine K_seq ?_
      refine K_aug ?_
      refine ldn ‹_› (by walk_at "mem") ?_
      refine c_int ?_; intro _ _
      refine i_div (by decide) ?_; intro _ _
      refine st ‹_› (by walk_at "put") ?_; intro _ _ _
      refine wpAny_execs_nil ?_
      rw [show ((d : Int) / 700) = ((d / 700 : Nat) : Int) by exact rfl] at *
      exact ⟨rfl, _, _, rfl, _, by assumption⟩
    · subst hb
      refine K_seq ?_
      refine K_aug ?_
      refine ldn ‹_› (by walk_at "mem") ?_
      refine c_int ?_; intro _ _
      refine i_div (by decide) ?_; intro _ _
      refine st ‹_› (by walk_at "put") ?_; intro _ _ _
      refine wpAny_execs_nil ?_
      rw [show ((d : Int) / 2) = ((d / 2 : Nat) : Int) by exact rfl] at *
      exact ⟨rfl, _, _, rfl, _, by assumption⟩
  clear F
  rintro h2 t2 ⟨td', F⟩
  have hq : adaptN d first n = adaptLoop ((if first then d / 700 else d / 2) + (if first then d / 700 else d / 2) / n) 0 := rfl
  have hd1 : (if first then d / 700 else d / 2) ≤ d / 2 := by split <;> omega
  generalize (if first then d / 700 else d / 2) = d1 at *
  refine K_seq ?_
  refine K_aug ?_
  refine ldn ‹_› (by walk_at "mem") ?_
  refine K_BinOp ?_
  refine ld ‹_› (by walk_at "mem") ?_
  refine ld ‹_› (by walk_at "mem") ?_
  refine b_div (by omega) ?_; intro _ _
  refine i_add ?_; intro _ _
  refine st ‹_› (by walk_at "put") ?_; intro _ _ _
  refine K_seq ?_
  refine K_Assign ?_
  refine c_int ?_; intro _ _
  refine stn ‹_› (by walk_at "put") ?_; intro _ _ _
  refine K_seq ?_
  rw [show ((d1 : Int) + (d1 : Int) / (n : Int)) = ((d1 + d1 / n : Nat) : Int) by push_cast; rfl] at *
  refine while_ (fun m hh => ∀ P : Prop, (∀ (e k : Nat) (t1 t2 : Nat), m = e → e < 1000000 → adaptLoop e k = adaptN d first n → k + 36 * e < 100000000 → Fm K₀ (hk h) env [] [vr "delta" (.int (e : Nat) t1), vr "first" (.bool first), vr "numchars" (.int (n : Nat) tn), vr "divisions" (.int (k : Nat) t2), nv "bias"] [] hh → P) → P) (d1 + d1 / n)
    (fun _ kk => kk _ 0 _ _ rfl ?_ hq.symm ?_ (by assumption)) ?_
  · have : d1 / n ≤ d1 := Nat.div_le_self _ _
    (clear hn hq; lia)
  · have : d1 / n ≤ d1 := Nat.div_le_self _ _
    (clear hn hq; lia)
  clear F
  rintro e h3 t3 B1 hB1 D1 hD1 hEx
  refine hEx _ ?_
  clear hEx
  rintro _ k u1 u2 rfl he heq hb F
  refine K_tcmp ?_
  refine ld ‹_› (by walk_at "mem") ?_
  refine c_int ?_; intro _ _
  refine PyProof.Rows.gt_int ?_
  refine wpAny_truthy_bool ?_
  refine ite_dec (fun hc => ?_) (fun hc => ?_)
  · have hc' : 455 < e := by (clear hn hd hq hd1 he heq hb; omega)
    rw [adaptLoop_eq, if_pos hc'] at heq
    refine K_seq ?_
    refine K_Assign ?_
    refine K_BinOp ?_
    refine ld ‹_› (by walk_at "mem") ?_
    refine c_int ?_; intro _ _
    refine b_div (by omega) ?_; intro _ _
    refine stn ‹_› (by walk_at "put") ?_; intro _ _ _
    refine K_seq ?_
    refine K_aug ?_
    refine ldn ‹_› (by walk_at "mem") ?_
    refine c_int ?_; intro _ _
    refine i_add ?_; intro _ _
    refine st ‹_› (by walk_at "put") ?_; intro _ _ _
    refine wpAny_execs_nil ?_
    rw [show ((e : Int) / 35) = ((e / 35 : Nat) : Int) by exact rfl] at *
    rw [show ((k : Int) + 36) = ((k + 36 : Nat) : Int) by exact rfl] at *
    exact hB1 _ _ ⟨e / 35, _, _, rfl, by (clear hn hd hq hd1 he heq hb hc'; lia), fun _ kk => kk (e / 35) (k + 36) _ _ rfl (by (clear hn hd hq hd1 heq hb hc hc'; lia)) heq (by (clear hn hd hq hd1 he hc'; lia)) (by assumption)⟩
  · have hc' : ¬ (455 < e) := by (clear hn hd hq hd1 he heq hb; omega)
    rw [adaptLoop_eq, if_neg hc'] at heq
    refine hD1 _ ?_
    refine K_seq ?_
    refine K_Assign ?_
    refine K_BinOp ?_
    refine ld ‹_› (by walk_at "mem") ?_
    refine K_BinOp ?_
    refine K_BinOp ?_
    refine c_int ?_; intro _ _
    refine ld ‹_› (by walk_at "mem") ?_
    refine b_mul (by first | exact IntMulOk.of_left (intBits_le_64 (by omega) (by omega)) | exact IntMulOk.of_right (intBits_le_64 (by omega) (by omega))) ?_; intro _ _
    refine K_BinOp ?_
    refine ld ‹_› (by walk_at "mem") ?_
    refine c_int ?_; intro _ _
    refine b_add ?_; intro _ _
    refine b_div (by omega) ?_; intro _ _
    refine b_add ?_; intro _ _
    refine stn ‹_› (by walk_at "put") ?_; intro _ _ _
    refine K_seq ?_
    refine K_Return ?_
    refine ld ‹_› (by walk_at "mem") ?_
    rw [show ((k : Int) + 36 * (e : Int) / ((e : Int) + 38)) = ((k + 36 * e / (e + 38) : Nat) : Int) by push_cast; rfl, heq]
    exact q _ _ _ (Fm.kept (by assumption))
end Mine
end
section
open PySem PySem.W PyProof.Rows
set_option Elab.async false
set_option maxRecDepth 100000
set_option maxHeartbeats 1000000
set_option linter.unusedVariables false
open Mine
namespace Mine
theorem ggi_walk {prog w A s t h} {K₀ : KMap} {N b : Nat} {tn tb : Nat} {Q : Value → Shared → Prop} {E : Value → Shared → Prop}
   (hB : Base K₀) (hs : Sub K₀ h) (hr : Room A 30) (hN : N < 100000) (q : ∀ tk h' t', Keeps h h' → Q (.bytes (ggiN N b 0).toArray tk) (up s h' t')) :
   wpC (model prog w) A (call (.ref 103) [.int (N : Nat) tn, .int (b : Nat) tb]) Q E (up s h t) := by
  obtain ⟨pm, hF⟩ := hB.fn (103, 15, 102) (by walk_at "mem")
  refine wpC_call (enterC hB hs hF hr.depth (gs := [Str.ofString "bytearray", Str.ofString "T", Str.ofString "digits", Str.ofString "bytes"]) rfl rfl (binds := [(Str.ofString "N", .int (N : Nat) tn), (Str.ofString "bias", .int (b : Nat) tb)]) (fun _ _ x => wpAny_of_eq rfl x)
    (lk := [vr "N" (.int (N : Nat) tn), vr "bias" (.int (b : Nat) tb), nv "result", nv "j", nv "t"]) ?_ ?_)
  · show PutAll [nv "N", nv "bias", nv "result", nv "j", nv "t"] _ _
    walk_at "putall"
  intro env h1 t1 F
  have hg : (A.deeper env).guards = some [] := hr.gd
  refine C_execs_cons ?_
  refine C_Assign_Name ?_
  refine C_CallN (by decide +kernel) ?_
  refine ldb ‹_› ‹_› (by walk_at "mem") (by walk_at "mem") ?_
  refine C_callWith_type0 ?_
  refine C_bytearray hg F ?_
  intro a h2 F2
  refine wpC_of ?_
  refine stn ‹_› (by walk_at "put") ?_; intro _ _ _
  refine C_execs_cons ?_
  refine C_Assign_Name ?_
  refine C_ofE rfl ?_
  refine c_int ?_; intro _ _
  refine wpC_of ?_
  refine stn ‹_› (by walk_at "put") ?_; intro _ _ _
  refine C_execs_cons ?_
  refine (C_while (fun m hh => ∀ P : Prop, (∀ (N' j : Nat) (acc : List UInt8) (u1 u2 : Nat) (v1 : Option Value), m = N' → N' < 100000 → acc.length ≤ N - N' → N' ≤ N → acc ++ ggiN N' b j = ggiN N b 0 → Fm K₀ (hk h) env [Str.ofString "bytearray", Str.ofString "T", Str.ofString "digits", Str.ofString "bytes"] [vr "N" (.int (N' : Nat) u1), vr "bias" (.int (b : Nat) tb), vr "result" (.ref a), vr "j" (.int (j : Nat) u2), (Str.ofString "t", none, v1)] [(a, bao acc)] hh → P) → P)
    N (fun _ kk => kk N 0 [] _ _ _ rfl hN (by simp) (Nat.le_refl _) rfl (by assumption)) ?_)
  clear F F2
  rintro N' h3 t3 B1 hB1 D1 hD1 hEx
  refine hEx _ ?_
  clear hEx
  rintro _ j acc u1 u2 v1 rfl hN' hacc hNN heq F
  refine K_value ?_
  refine c_int ?_; intro _ _
  refine PyProof.Rows.truthy_int ?_
  refine ite_b (fun _ => ?_) (fun hb => by cases hb)
  refine C_execs_cons ?_
  refine C_Assign_Name ?_
  refine C_ofM (by decide +kernel) ?_
  refine K_Call ?_
  refine ldg ‹_› ‹_› (by walk_at "mem") (by walk_at "mem") ?_
  refine K_callf ‹_› (by walk_at "mem") ?_
  refine K_more ?_
  refine ld ‹_› (by walk_at "mem") ?_
  refine K_more ?_
  refine ld ‹_› (by walk_at "mem") ?_
  refine spliced_none ?_
  refine And.intro (Fm.sub ‹_›) ?_
  refine T_walk hB F.sub0 (hr.deeper (by decide)) ?_
  intro tk h4 t4 hk4
  have F4 := F.keeps hk4
  have hT := tN_range j b
  rw [ggiN_eq] at heq
  generalize tN j b = e at *
  refine wpC_of ?_
  refine stn ‹_› (by walk_at "put") ?_; intro _ _ _
  refine C_execs_cons ?_
  refine C_If ?_
  refine K_tcmp ?_
  refine ld ‹_› (by walk_at "mem") ?_
  refine ld ‹_› (by walk_at "mem") ?_
  refine PyProof.Rows.lt_int ?_
  refine wpAny_truthy_bool ?_
  refine ite_dec (fun hc => ?_) (fun hc => ?_)
  · have hc' : N' < e := by omega
    rw [if_pos hc'] at heq
    refine C_execs_cons ?_
    refine C_Expr ?_ (Fm.inter ‹_›)
    refine C_method1 ba_plainAttrs ba_slot_append ba_type_append ?_
    refine ld ‹_› (by walk_at "mem") ?_
    refine ⟨⟨_, Fm.isIn (by assumption) (by walk_at "mem"), rfl⟩, fun a' e' => by cases e'; exact ⟨_, Fm.isIn (by assumption) (by walk_at "mem"), rfl⟩, ?_⟩
    refine K_Sub ?_
    refine ldg ‹_› ‹_› (by walk_at "mem") (by walk_at "mem") ?_
    refine ld ‹_› (by walk_at "mem") ?_
    refine gi_digits N' rfl (by (clear hN hN' hacc hNN hc'; omega)) ?_ rfl
    intro tk' t'
    refine C_append hg (by assumption) (by walk_at "upd") ⟨by exact Int.natCast_nonneg _, by have := (dig N').toNat_lt; omega⟩ (by (clear hN' hNN hT hc hc'; omega)) ?_
    intro h5 F5
    refine C_execs_cons ?_
    refine C_Return ?_
    refine C_ofM (by decide +kernel) ?_
    refine K_Call ?_
    refine ldb ‹_› ‹_› (by walk_at "mem") (by walk_at "mem") ?_
    refine K_callT ?_
    refine K_more ?_
    refine ld ‹_› (by walk_at "mem") ?_
    refine spliced_none ?_
    refine bytes_ba (F5.isIn (by walk_at "mem")) (by simp; (clear hN' hNN hT hc hc'; omega)) ?_
    intro tk2 t2
    rw [show acc ++ [((dig N').toNat : Int).toNat.toUInt8] = ggiN N b 0 by rw [← heq]; simp]
    exact hB1 _ _ (q _ _ _ F5.kept)
  · have hc' : ¬ (N' < e) := by omega
    rw [if_neg hc'] at heq
    refine C_execs_nil ?_
    refine C_execs_cons ?_
    refine C_Expr ?_ (Fm.inter ‹_›)
    refine C_method1 ba_plainAttrs ba_slot_append ba_type_append ?_
    refine ld ‹_› (by walk_at "mem") ?_
    refine ⟨⟨_, Fm.isIn (by assumption) (by walk_at "mem"), rfl⟩, fun a' e' => by cases e'; exact ⟨_, Fm.isIn (by assumption) (by walk_at "mem"), rfl⟩, ?_⟩
    refine K_Sub ?_
    refine ldg ‹_› ‹_› (by walk_at "mem") (by walk_at "mem") ?_
    refine K_BinOp ?_
    refine ld ‹_› (by walk_at "mem") ?_
    refine K_BinOp ?_
    refine K_BinOp ?_
    refine ld ‹_› (by walk_at "mem") ?_
    refine ld ‹_› (by walk_at "mem") ?_
    refine b_sub ?_; intro _ _
    refine K_BinOp ?_
    refine c_int ?_; intro _ _
    refine ld ‹_› (by walk_at "mem") ?_
    refine b_sub ?_; intro _ _
    refine b_mod (by omega) ?_; intro _ _
    refine b_add ?_; intro _ _
    have hmod : (N' - e) % (36 - e) < 36 - e := Nat.mod_lt _ (by omega)
    refine gi_digits (e + (N' - e) % (36 - e)) (by rw [Int.natCast_add, Int.natCast_emod, Int.natCast_sub (by exact Nat.not_lt.mp hc'), Int.natCast_sub (by (clear hN hN' hacc hNN hc hc' hmod; lia))]; rfl) (by (clear hN hN' hacc hNN hT hc hc'; omega)) ?_ rfl
    intro tk' t'
    refine C_append hg (by assumption) (by walk_at "upd") ⟨by exact Int.natCast_nonneg _, by have := (dig (e + (N' - e) % (36 - e))).toNat_lt; (clear hN hN' hacc hNN hT hc hc' hmod; omega)⟩ (by (clear hN' hNN hT hc hc' hmod; omega)) ?_
    intro h5 F5
    refine C_execs_cons ?_
    refine C_Assign_Name ?_
    refine C_ofE rfl ?_
    refine K_BinOp ?_
    refine K_BinOp ?_
    refine ld ‹_› (by walk_at "mem") ?_
    refine ld ‹_› (by walk_at "mem") ?_
    refine b_sub ?_; intro _ _
    refine K_BinOp ?_
    refine c_int ?_; intro _ _
    refine ld ‹_› (by walk_at "mem") ?_
    refine b_sub ?_; intro _ _
    refine b_div (by omega) ?_; intro _ _
    refine wpC_of ?_
    refine stn ‹_› (by walk_at "put") ?_; intro _ _ _
    refine C_execs_cons ?_
    refine wpC_of ?_
    refine K_aug ?_
    refine ldn ‹_› (by walk_at "mem") ?_
    refine c_int ?_; intro _ _
    refine i_add ?_; intro _ _
    refine st ‹_› (by walk_at "put") ?_; intro _ _ _
    refine C_execs_nil ?_
    have hdiv : (N' - e) / (36 - e) ≤ N' - e := Nat.div_le_self _ _
    rw [show ((N' : Int) - e) / (36 - e) = (((N' - e) / (36 - e) : Nat) : Int) by rw [Int.natCast_ediv, Int.natCast_sub (by exact Nat.not_lt.mp hc'), Int.natCast_sub (by (clear hN hN' hacc hNN hc hc' hmod hdiv; lia))]; rfl] at *
    rw [show ((j : Int) + 1) = ((j + 1 : Nat) : Int) by exact Int.natCast_succ _] at *
    refine hB1 _ _ ⟨(N' - e) / (36 - e), _, _, rfl, by (clear hN hN' hacc hNN hc' hmod; omega), fun _ kk => kk ((N' - e) / (36 - e)) (j + 1) _ _ _ _ rfl (by (clear hN hacc hNN hT hc hc' hmod; omega)) ?_ (by (clear hN hN' hacc hT hc' hmod; omega)) ?_ (by assumption)⟩
    · simp; (clear hN hN' hc' hmod; omega)
    · rw [← heq]; simp
end Mine
end
section
open PySem PySem.W PyProof.Rows
set_option Elab.async false
set_option maxRecDepth 100000
set_option maxHeartbeats 1000000
set_option linter.unusedVariables false
open Mine
namespace Mine
theorem gi_walk {prog w A s t h} {K₀ : KMap} {base : Nat} {ds : List Nat} {vs : List Value} {l : Addr} {n : Nat} {tb : Nat} {Q : Value → Shared → Prop} {E : Value → Shared → Prop}
   (hB : Base K₀) (hs : Sub K₀ h) (hr : Room A 40) (hl : h.get? l = some (lst vs n)) (hv : NatsAre vs ds) (hd : ∀ d ∈ ds, d < 100000) (hlen : ds.length ≤ 100) (hb : base ≤ 100) (q : ∀ tk h' t', Keeps h h' → Q (.bytes (giN base ds).toArray tk) (up s h' t')) :
   wpC (model prog w) A (call (.ref 117) [.int (base : Nat) tb, .ref l]) Q E (up s h t) := by
  obtain ⟨pm, hF⟩ := hB.fn (117, 17, 116) (by walk_at "mem")
  refine wpC_call (enterC hB hs hF hr.depth (gs := [Str.ofString "bytearray", Str.ofString "enumerate", Str.ofString "generate_generalized_integer", Str.ofString "adapt", Str.ofString "bytes"]) rfl rfl (binds := [(Str.ofString "baselen", .int (base : Nat) tb), (Str.ofString "deltas", .ref l)]) (fun _ _ x => wpAny_of_eq rfl x)
    (lk := [vr "baselen" (.int (base : Nat) tb), vr "deltas" (.ref l), nv "result", nv "bias", nv "points", nv "delta", nv "s"]) ?_ ?_)
  · show PutAll [nv "baselen", nv "deltas", nv "result", nv "bias", nv "points", nv "delta", nv "s"] _ _
    walk_at "putall"
  intro env h1 t1 F
  have hg : (A.deeper env).guards = some [] := hr.gd
  have hA : (A.deeper env).handled = none := hr.hd
  have hlv := hv.length
  refine C_execs_cons ?_
  refine C_Assign_Name ?_
  refine C_CallN (by decide +kernel) ?_
  refine ldb ‹_› ‹_› (by walk_at "mem") (by walk_at "mem") ?_
  refine C_callWith_type0 ?_
  refine C_bytearray hg F ?_
  intro a h2 F2
  refine wpC_of ?_
  refine stn ‹_› (by walk_at "put") ?_; intro _ _ _
  refine C_execs_cons ?_
  refine C_Assign_Name ?_
  refine C_ofE rfl ?_
  refine c_int ?_; intro _ _
  refine wpC_of ?_
  refine stn ‹_› (by walk_at "put") ?_; intro _ _ _
  refine C_execs_cons ?_
  refine C_for ?_
  refine K_Call ?_
  refine ldb ‹_› ‹_› (by walk_at "mem") (by walk_at "mem") ?_
  refine K_callT ?_
  refine K_more ?_
  refine ld ‹_› (by walk_at "mem") ?_
  refine spliced_none ?_
  refine enum_l (by assumption) (Fm.kept (by assumption) l _ hl) ?_
  intro e it io h3 hio F3
  refine iter_enum (F3.isIn (by walk_at "mem")) ?_
  refine C_forLoop (fun m hh => ∀ P : Prop, (∀ (i bias : Nat) (acc : List UInt8) (old : Value) (io : Obj) (u1 : Nat) (v1 v2 v3 : Option Value), m = ds.length - i → i ≤ ds.length → acc.length ≤ 6 * i → acc ++ giGo base (ds.drop i) i bias = giN base ds → IsLI io l i → Fm K₀ (hk h) env [Str.ofString "bytearray", Str.ofString "enumerate", Str.ofString "generate_generalized_integer", Str.ofString "adapt", Str.ofString "bytes"] [vr "baselen" (.int (base : Nat) tb), vr "deltas" (.ref l), vr "result" (.ref a), vr "bias" (.int (bias : Nat) u1), (Str.ofString "points", none, v1), (Str.ofString "delta", none, v2), (Str.ofString "s", none, v3)]
      [(e, eno it (i : Nat) old), (it, io), (a, bao acc)] hh → P) → P) (ds.length - 0)
    (fun _ kk => kk 0 72 [] _ io _ _ _ _ rfl (Nat.zero_le _) (by simp) rfl hio F3) ?_
  clear F F2 F3 hio
  rintro m h4 t4 B1 hB1 D1 hD1 hEx
  refine hEx _ ?_
  clear hEx
  rintro i bias acc old io' u1 v1 v2 v3 hm hi hacc heq hio F
  rcases Nat.lt_or_ge i ds.length with hlt | hge
  · have hd1 : ds[i]? = some ds[i] := List.getElem?_eq_getElem hlt
    generalize hdd : ds[i] = d at *
    obtain ⟨tk, hx⟩ := hv.get hd1
    have hdm : d < 100000 := hd d (List.mem_of_getElem? hd1)
    rw [List.drop_eq_getElem_cons hlt, hdd] at heq
    refine nx_enum hA F hio (F.kept l _ hl) hx (fun tk => by walk_at "put") (fun tk => by walk_at "put") ?_
    intro tk2 io2 h5 t5 hio2 F5
    refine C_execs_cons ?_
    refine C_Assign_Name ?_
    refine C_CallN (by decide +kernel) ?_
    refine ldg ‹_› ‹_› (by walk_at "mem") (by walk_at "mem") ?_
    refine C_callf ‹_› (by walk_at "mem") ?_
    refine K_more ?_
    refine ld ‹_› (by walk_at "mem") ?_
    refine K_more ?_
    refine ld ‹_› (by walk_at "mem") ?_
    refine spliced_none ?_
    refine And.intro (Fm.sub ‹_›) ?_
    refine ggi_walk hB F5.sub0 (hr.deeper (by decide)) hdm ?_
    intro tk3 h6 t6 hk6
    have F6 := F5.keeps hk6
    have hgl := ggiN_len 5 d bias 0 hdm
    refine wpC_of ?_
    refine stn ‹_› (by walk_at "put") ?_; intro _ _ _
    refine C_execs_cons ?_
    refine C_Expr ?_ (Fm.inter ‹_›)
    refine C_method1 ba_plainAttrs ba_slot_extend ba_type_extend ?_
    refine ld ‹_› (by walk_at "mem") ?_
    refine ⟨⟨_, Fm.isIn (by assumption) (by walk_at "mem"), rfl⟩, fun a' e' => by cases e'; exact ⟨_, Fm.isIn (by assumption) (by walk_at "mem"), rfl⟩, ?_⟩
    refine ld ‹_› (by walk_at "mem") ?_
    refine C_extend hg (by assumption) (by walk_at "upd") ⟨by (clear hb hlv hm hlt hdd hdm hgl; lia), by exact Nat.lt_of_le_of_lt hgl (by decide)⟩ ?_
    intro h7 F7
    refine C_execs_cons ?_
    refine C_Assign_Name ?_
    refine C_ofM (by decide +kernel) ?_
    refine K_Call ?_
    refine ldg ‹_› ‹_› (by walk_at "mem") (by walk_at "mem") ?_
    refine K_callf ‹_› (by walk_at "mem") ?_
    refine K_more ?_
    refine ld ‹_› (by walk_at "mem") ?_
    refine K_more ?_
    refine K_cmp ?_
    refine ld ‹_› (by walk_at "mem") ?_
    refine c_int ?_; intro _ _
    refine PyProof.Rows.eq_int ?_
    refine K_more ?_
    refine K_BinOp ?_
    refine K_BinOp ?_
    refine ld ‹_› (by walk_at "mem") ?_
    refine ld ‹_› (by walk_at "mem") ?_
    refine b_add ?_; intro _ _
    refine c_int ?_; intro _ _
    refine b_add ?_; intro _ _
    refine spliced_none ?_
    refine And.intro (Fm.sub ‹_›) ?_
    rw [show ((base : Int) + (i : Int) + 1) = ((base + i + 1 : Nat) : Int) by exact Int.natCast_succ _, show (((i : Nat) : Int) == 0) = (i == 0) by cases i <;> rfl]
    refine adapt_walk hB F7.sub0 (hr.deeper (by decide)) (by (clear hlv hm hacc hlt hdd hdm hgl; lia)) (by exact Nat.lt_of_lt_of_le hdm (by decide)) ?_
    intro tk4 h8 t8 hk8
    have F8 := F7.keeps hk8
    refine wpC_of ?_
    refine stn ‹_› (by walk_at "put") ?_; intro _ _ _
    refine C_execs_nil ?_
    refine hB1 _ _ ⟨ds.length - (i + 1), _, _, rfl, by (clear hlen hb hlv hi hacc hdd hdm hgl; omega), fun _ kk => kk (i + 1) _ _ _ io2 _ _ _ _ rfl (by exact hlt) ?_ ?_ hio2 (by assumption)⟩
    · simp; (clear hlen hb hm hi hlt hdd hdm; lia)
    · rw [← heq, List.append_assoc]; rfl
  · have hii : i = ds.length := by exact Nat.le_antisymm hi hge
    subst hii
    rw [List.drop_length] at heq
    refine nx_enum_end hA F hio (F.kept l _ hl) (by exact Nat.le_of_eq hlv) ?_
    intro h5 F5
    refine hD1 _ ?_
    refine C_execs_cons ?_
    refine C_Return ?_
    refine C_ofM (by decide +kernel) ?_
    refine K_Call ?_
    refine ldb ‹_› ‹_› (by walk_at "mem") (by walk_at "mem") ?_
    refine K_callT ?_
    refine K_more ?_
    refine ld ‹_› (by walk_at "mem") ?_
    refine spliced_none ?_
    refine bytes_ba (F5.isIn (by walk_at "mem")) (by (clear hb hlv hm hi hge; lia)) ?_
    intro tk2 t2
    rw [show acc = giN base ds by rw [← heq]; simp [giGo]]
    exact q _ _ _ F5.kept
end Mine
end
section
open PySem PySem.W PyProof.Rows
set_option Elab.async false
set_option maxRecDepth 100000
set_option maxHeartbeats 1000000
set_option linter.unusedVariables false
open Mine
namespace Mine
noncomputable abbrev lamP (p : Pos) : Arguments := { posonlyargs := [], args := [{ arg := Str.ofString "item", annotation := none, pos := p }], vararg := none, kwonlyargs := [], kw_defaults := [], kwarg := none, defaults := [] }
noncomputable abbrev lamB (p1 p2 p3 p4 p5 p6 : Pos) : PySem.Expr := .Call (.Name (Str.ofString "generate_integers") p1) [.Name (Str.ofString "plain") p2, .Subscript (.Name (Str.ofString "item") p3) (.Constant (.int 1) 0 p4) p5] [] p6
noncomputable abbrev lamS : Scope := { kind := .function, names := [(Str.ofString "item", .local), (Str.ofString "plain", .free), (Str.ofString "generate_integers", .globalImplicit)], isGenerator := false, isCoroutine := false, more := [] }
theorem lam_walk {prog w} {K₀ K : KMap} {f c c' T r : Addr} {name qual : Str} {pm ctv : Value} {p p1 p2 p3 p4 p5 p6 : Pos} {base : Nat} {tb ti : Tok} {i : Int} {n nr : Nat} {row : List Nat} {rv : List Value}
    (hB : Base K₀) (hK : KLe K₀ K) (hc0 : K₀ c = none) (hf : K f = some (kla_obj name qual (lamP p) (lamB p1 p2 p3 p4 p5 p6) lamS [(Str.ofString "plain", c)] pm c' ctv)) (hcd : ∀ h, Sub K h → h.CodeRec (.ref c') qual)
    (hc : K c = some (clo (some (.int (base : Nat) tb)))) (hb : base ≤ 100) (hT : K T = some (tup [.int i ti, .ref r] n)) (hr : K r = some (lst rv nr)) (hrv : NatsAre rv row) (hd : ∀ d ∈ row, d < 100000) (hlen : row.length ≤ 100) :
    KeyOk prog w K f (.ref T) (giN base row) := by
  intro A Q E s h t hroom hs q
  have hf' := hs _ _ hf
  obtain ⟨c₂, oc, vs, tq, e2, hoc, hdc, hq⟩ := hcd h hs
  cases e2
  refine wpC_call (codeC_of_tree ?_)
  show wpC _ A.in1 (callAny (.ref f) ⟨[.ref T], []⟩) _ _ _
  simp only [callAny]
  refine wpC_bind (wpC_of (wpAny_load (s := up s h t) hf' ?_))
  simp only [callFunction]
  refine wpC_bind (m := field (.ref c') 1) (wpC_of (wpAny_field (s := up s h t) hoc hdc hq (wpC_bind (wpC_pure ?_))))
  refine wpC_bind (wpC_of_eq (a := [(Str.ofString "item", Value.ref T)]) rfl ?_)
  refine wpC_bind (wpC_of (wpAny_newFunctionEnv (fun x hx => by simp at hx; rcases hx with rfl | rfl | rfl <;> intro z <;> cases z) (fun x hx => by simp at hx; rw [hx]; rfl) ?_ rfl))
  intro h1 hn1 hs1
  have hkp : Keeps h h1 := fun b o e => hs1.extBut b o (Nat.ne_of_lt (Heap.lt_size e)) (Heap.get?_push_of_some _ e)
  have hLn : h.get? h.objs.size = none := none_above _ (Nat.le_refl _)
  have hcL : c ≠ h.objs.size := fun e => by have := hs _ _ hc; rw [e] at this; exact absurd (this.symm.trans hLn) (by simp)
  have F : Fm K₀ (drp (hk h) c) (newEnv lamS h.objs.size mainGlobals [(Str.ofString "plain", c)] (qual ++ ".<locals>.") (some f) (.ref c') none builtinsNs) [Str.ofString "generate_integers"] [vr "item" (.ref T), vc "plain" c (.int (base : Nat) tb)] [] h1 := by
    refine { fk := rfl, gl := ⟨rfl, rfl⟩, nd := (show [Str.ofString "item", Str.ofString "plain"].Nodup by decide +kernel), kind := fun p hp => ?_, glob := fun x hx => ?_, nsp := ?_, base := le_drp (fun b o e => hs _ _ (hK _ _ e)) hc0, kept := fun b o e => hkp _ _ (drp_le _ _ _ _ e), kL := ?_, own := fun p hp => ?_, apart := ?_ }
    · simp only [List.mem_cons, List.not_mem_nil, or_false] at hp
      rcases hp with rfl | rfl
      · exact ⟨rfl, rfl⟩
      · refine ⟨rfl, ?_, .inr ⟨rfl, rfl⟩⟩
        show List.lookup (Str.ofString "plain") [(Str.ofString "plain", c)] = some c
        rw [List.lookup_cons, beq_self_eq_true]
    · simp only [List.mem_cons, List.not_mem_nil, or_false] at hx
      subst hx
      exact ⟨rfl, rfl⟩
    · have e : look [vr "item" (.ref T), vc "plain" c (.int (base : Nat) tb)] = fun x => List.lookup x ([(Str.ofString "item", Value.ref T)] : List (Str × Value)).reverse := by
        funext y
        show (if y = Str.ofString "item" then some (Value.ref T) else none) = List.lookup y [(Str.ofString "item", Value.ref T)]
        rw [List.lookup_cons]
        by_cases hy : y = Str.ofString "item"
        · rw [if_pos hy, hy, beq_self_eq_true]
        · rw [if_neg hy, beq_eq_false_iff_ne.mpr hy]; rfl
      rw [e]; exact hn1
    · show drp (hk h) c h.objs.size = none
      unfold drp; split
      · rfl
      · exact hLn
    · have hp : p ∈ [(c, clo (some (.int (base : Nat) tb)))] := hp
      rw [List.mem_singleton.mp hp]
      exact ⟨hkp _ _ (hs _ _ hc), drp_self _ _⟩
    · show (h.objs.size :: [c]).Nodup
      simp; exact hcL.symm
  show wpC _ _ _ _ _ (up s h1 (t + 1))
  generalize hen : newEnv lamS h.objs.size mainGlobals [(Str.ofString "plain", c)] (qual ++ ".<locals>.") (some f) (.ref c') none builtinsNs = env at F
  refine wpC_bind (wpC_of (wpAny_enterFrame (hB.lim _ F.sub0) hroom.depth ?_))
  refine wpC_pure ⟨rfl, rfl, codeC_of_tree ?_⟩
  have hen' : newEnv lamS (up s h t).heap.objs.size mainGlobals [(Str.ofString "plain", c)] (qual ++ ".<locals>.") (some f) (.ref c') none builtinsNs = env := hen
  rw [hen']
  show wpC _ (A.deeper env) (do point; ret (← (eval (lamB p1 p2 p3 p4 p5 p6) env).onRaise (leaving env))) _ _ _
  refine wpC_bind (wpC_of (wpAny_point (wpC_bind (wpC_onRaise ?_))))
  have neC : ∀ b o, K b = some o → o ≠ clo (some (.int (base : Nat) tb)) → b ≠ c := fun b o e hne x => by rw [x, hc] at e; exact hne (Option.some.inj e).symm
  have kp : ∀ b o, K b = some o → o ≠ clo (some (.int (base : Nat) tb)) → drp (hk h) c b = some o := fun b o e hne => by
    unfold drp; rw [if_neg (neC b o e hne)]; exact hs _ _ e
  refine C_CallN (by decide +kernel) ?_
  refine ldg ‹_› ‹_› (by walk_at "mem") (by walk_at "mem") ?_
  refine C_callf ‹_› (by walk_at "mem") ?_
  refine K_more ?_
  refine ld ‹_› (by walk_at "mem") ?_
  refine K_more ?_
  refine K_Sub ?_
  refine ld ‹_› (by walk_at "mem") ?_
  refine c_int ?_; intro _ _
  refine gi_tup 1 (F.kept _ _ (kp _ _ hT (fun z => nomatch (congrArg Obj.data z)))) rfl rfl (by simp) ?_ rfl
  refine spliced_none ?_
  refine And.intro (Fm.sub ‹_›) ?_
  refine gi_walk hB F.sub0 (hroom.deeper (by decide)) (F.kept _ _ (kp _ _ hr (fun z => nomatch (congrArg Obj.data z)))) hrv hd hlen hb ?_
  intro tk h2 t2 hk2
  refine wpC_pure ?_
  exact q _ _ _ (hkp.trans hk2)
end Mine
end
section
open PySem PySem.W PyProof.Rows
set_option Elab.async false
set_option maxRecDepth 100000
set_option maxHeartbeats 1000000
set_option linter.unusedVariables false
open Mine
namespace Mine
theorem Fm.no0 {K₀ K : KMap} {env : Env} {gs : List Str} {lk : List Var} {ws : List (Addr × Obj)} {h : Heap} (F : Fm K₀ K env gs lk ws h) {a : Addr} {o : Obj} (hm : (a, o) ∈ ws) : K₀ a = none := by
  cases e : K₀ a with
  | none => rfl
  | some x => have := F.base _ _ e; rw [F.nokey hm] at this; cases this
theorem HpSt.ge {K K' : KMap} {u : Bool} {ks : List (List UInt8)} {vs rv : List Value} {g : Value → Nat} {o : Nat → Int} {i : Nat} {ord : Int} (S : HpSt K u ks vs rv g o i ord) (hk : KLe K K') : HpSt K' u ks vs rv g o i ord := ⟨S.en.ge hk, S.heap, S.best⟩
noncomputable abbrev elS : Scope := { kind := .function, names := [(Str.ofString ".0", .local), (Str.ofString "k", .local), (Str.ofString "order", .local), (Str.ofString "elem", .local)], isGenerator := false, isCoroutine := false, more := [] }
theorem elems_ret {prog : Program} {w : World} {A : Around} {E : Value → Shared → Prop} {s : Shared} {t : Nat} {K₀ K : KMap} {env : Env} {gs : List Str} {lk : List Var} {ws : List (Addr × Obj)} {h : Heap} {acc : Addr} {rv : List Value} {c kk : Nat} {p1 p2 p3 p4 p5 p6 pos : Pos} {itm : Value → Value} {Q : Value → Shared → Prop}
    (hA : A.handled = none) (F : Fm K₀ K env gs lk ((acc, lst rv c) :: ws) h) (hx : (Str.ofString "result", none, some (Value.ref acc)) ∈ lk) (hlen : rv.length < 1000) (hv : ∀ v ∈ rv, ∃ e, EntAt K v e ∧ e.item = itm v)
    (q : ∀ L c' h' t', Fm K₀ K env gs lk ((L, lst (rv.map itm) c') :: (acc, lst rv c) :: ws) h' → Q (.ref L) (up s h' t')) :
    wpC (model prog w) A (eval (.ListComp (.Name (Str.ofString "elem") p1) [⟨.Tuple [.Name (Str.ofString "k") p2, .Name (Str.ofString "order") p3, .Name (Str.ofString "elem") p4] kk p5, .Name (Str.ofString "result") p6, [], 0⟩] elS pos) env) Q E (up s h t) := by
  refine C_ListComp [nv "k", nv "order", nv "elem"] [] F rfl (fun p hp c hc => by
    simp at hp; rcases hp with rfl | rfl | rfl <;> cases hc) ?_
  refine wpC_of (ld F hx ?_)
  refine wpC_of (iter_l F (F.isIn (.head _)) ?_)
  intro ic io h1 hio F1
  have hkL := F1.kL
  have hloc : ∀ p ∈ ([nv "k", nv "order", nv "elem"] : List Var), p.2.1 = none → p.2.2 = none := by
    intro p hp hc
    simp only [List.mem_cons, List.not_mem_nil, or_false] at hp
    rcases hp with rfl | rfl | rfl <;> rfl
  refine (CompIn.mk ((ic, io) :: (cellsOf lk ++ (acc, lst rv c) :: ws)) F1 hloc List.perm_middle (fun h' t' hk' => wpAny_pyIter_listiter (s := up s h' t') ⟨_, hk' _ _ (F1.isIn (.head _)), hio⟩ ⟨rfl, rfl⟩) ?_)
  intro L LL oL h2 hoL FI
  replace FI := FI.perm (List.Perm.swap _ _ _)
  generalize compEnvC _ _ LL env = cenv at FI ⊢
  have hKle : KLe K (add K env.locals oL) := le_add hkL
  clear F1
  refine C_compLoop1 (fun m hh => ∀ P : Prop, (∀ (i : Nat) (io : Obj) (c' : Nat) (v1 v2 v3 : Option Value), m = rv.length - i → i ≤ rv.length → IsLI io acc i → Fm K₀ (add K env.locals oL) cenv [] [(Str.ofString "k", none, v1), (Str.ofString "order", none, v2), (Str.ofString "elem", none, v3)] ((ic, io) :: (L, lst ((rv.take i).map itm) c') :: (cellsOf lk ++ (acc, lst rv c) :: ws)) hh → P) → P) (rv.length - 0)
    (fun _ kk => kk 0 io 0 none none none rfl (Nat.zero_le _) hio FI) ?_
  clear FI hio io
  rintro m h3 t3 Z1 hZ1 D1 hD1 hEx
  refine hEx _ ?_
  clear hEx
  rintro i io c' v1 v2 v3 hm hi hio FJ
  rcases Nat.lt_or_ge i rv.length with hlt | hge
  · obtain ⟨x, hxi⟩ : ∃ x, rv[i]? = some x := ⟨_, List.getElem?_eq_getElem hlt⟩
    obtain ⟨e, ⟨T, tk, tu, nn, rfl, hT⟩, hit⟩ := hv x (List.mem_of_getElem? hxi)
    refine nx_lh FJ hio (FJ.isIn (.tail _ (.tail _ (List.mem_append_right _ (.head _))))) hxi ?_
    intro io2 h4 hio2 FJ2
    refine wpAny_letOwnedTupleGo_listiter (s := up s h4 t3) ⟨io2, FJ2.isIn (.head _), hio2.1, hio2.2⟩ ?_
    refine asg3 (s := s) (h := h4) hA FJ2 (FJ2.kept _ _ (hKle _ _ hT)) (by walk_at "put") (by walk_at "put") (by walk_at "put") ?_
    intro h5 t5 FJ3
    refine wpC_of (ld FJ3 (by walk_at "mem") ?_)
    refine app_l (pos := default) FJ3 (.tail .head) (by simp; (clear hm hi hlt; omega)) ?_
    intro h6 FJ4
    have htk : (rv.take (i + 1)).map itm = (rv.take i).map itm ++ [e.item] := by rw [List.take_add_one, hxi, hit]; simp
    rw [← htk] at FJ4
    exact hZ1 _ ⟨rv.length - (i + 1), _, _, rfl, by omega, fun _ kk => kk (i + 1) io2 _ _ _ _ rfl (by exact hlt) hio2 FJ4⟩
  · refine nx_l_end hA FJ hio (FJ.isIn (.tail _ (.tail _ (List.mem_append_right _ (.head _))))) hge ?_
    intro h4 FK
    rw [List.take_of_length_le hge] at FK
    refine hD1 _ (CompOut.mk FK (add_self _ _ _) ((L, lst (rv.map itm) c') :: (acc, lst rv c) :: ws) List.perm_middle.symm ?_)
    intro h5 FO
    rw [drp_add hkL] at FO
    exact q _ _ _ _ FO
end Mine
end
section
open PySem PySem.W PyProof.Rows
set_option Elab.async false
set_option maxRecDepth 100000
set_option maxHeartbeats 2000000
set_option linter.unusedVariables false
open Mine
namespace Mine
theorem C_callr {M : Model} {A : Around} {E : Value → Shared → Prop} {s : Shared} {env : Env} {pos : Pos} {a : Addr} {o : Obj} {fd : FuncData} {e : PySem.Expr} {rest : List PySem.Expr} {Q : Value → Shared → Prop} (hd : o.data = .func fd)
    (k : wpAny M A (spliced (backTo pos (starEach (e :: rest) env))) (fun vs s₁ => s₁.heap.get? a = some o ∧ wpC M A (call (.ref a) vs) Q E s₁) E s)
    (he : starEach (e :: rest) env = (false, eval e env) :: starEach rest env := by rfl) (hst : (backTo pos (starEach rest env)).any (·.1) = false := by rfl) (hfew : (backTo pos (starEach (e :: rest) env)).length ≤ 30 := by exact Nat.le_of_ble_eq_true rfl) :
    wpC M A (callWith pos (.ref a) [] (backTo pos (starEach (e :: rest) env)) []) Q E s := by
  rw [he] at k hfew ⊢
  refine C_callWith_ref (o := o) (fd := fd) (by simpa using hfew) ?_ (Calls.evalArgs_plain (wpAny_mono k (fun vs s₁ x => ⟨⟨x.1, hd⟩, x.2⟩) fun _ _ x => x))
  show ((false || (backTo pos (starEach rest env)).any (·.1)) || false) = false
  rw [hst]; rfl
theorem iter_dead {prog : Program} {w : World} {A : Around} {E : Value → Shared → Prop} {s : Shared} {t : Nat} {h : Heap} {it : Addr} {o : Obj} {Q : Value → Shared → Prop} (ho : h.get? it = some o) (hc : o.cls = .type "list_iterator") (q : Q (.ref it) (up s h t)) : wpAny (model prog w) A (pyIter (.ref it)) Q E (up s h t) := by
  have hT : (up s h t).TypeIs (.ref it) "list_iterator" := ⟨_, ho, hc⟩
  refine wpAny_pyIter_slot hT slot_listiter_iter (wpAny_call_entry slot_listiter_iter hT entry_listiter_iter ?_ (args_listiter_iter _))
  show wpAny _ _ (ret (.ref it)) _ _ _
  exact wpAny_pure ⟨_, rfl, "list_iterator", _, hT, slot_listiter_next.lookup, q⟩
theorem at_app_l {xs : List Value} {y : Value} {j : Nat} (h : j < xs.length) : at' (xs ++ [y]) j = at' xs j := by
  unfold at'; simp [List.getD, List.getElem?_append_left h]
theorem at_app_r {xs : List Value} {y : Value} {j : Nat} (h : xs.length = j) : at' (xs ++ [y]) j = y := by
  unfold at'; subst h; simp [List.getD]
theorem nsmallest_walk {prog w A s t h} {K₀ K₁ : KMap} {n : Nat} {tn : Tok} {it l f Lc : Addr} {io oc fo : Obj} {vs : List Value} {nl : Nat} {ks : List (List UInt8)} {el : Env} {fd : FuncData} {idx : List Nat} {Q : Value → Shared → Prop} {E : Value → Shared → Prop}
    (hB : BaseL K₀) (hs : Sub K₀ h) (hr : Room A 110) (hfr : A.frames = some [el]) (hek : el.scope.kind ≠ .module) (hef : el.frame = some Lc) (hLc : h.get? Lc = some oc) (dc : ∀ vs, oc.data ≠ .fields vs) (hL0 : K₀ Lc = none)
    (hit : h.get? it = some io) (hio : IsLI io l 0) (hi0 : K₀ it = none) (hK1 : Sub K₁ h) (hK1L : K₁ Lc = none) (hK1i : K₁ it = none) (hl : K₁ l = some (lst vs nl)) (hf : K₁ f = some fo) (hfd : fo.data = .func fd)
    (hlen : ks.length = vs.length) (hv1 : 1 ≤ vs.length) (hv2 : vs.length ≤ 20) (hn : n ≤ 50) (hkv : ∀ (i : Nat) x k, vs[i]? = some x → ks[i]? = some k → KeyOk prog w K₁ f x k)
    (hvt : ∀ x ∈ vs, ∃ T o, x = .ref T ∧ K₁ T = some o ∧ o.cls = .type "tuple") (hrise : Rise true ks idx)
    (q : ∀ L c h' t' oc', h'.get? L = some (lst ((idx.take n).map fun i => vs.getD i .none) c) → (∀ b o, b ≠ it → b ≠ Lc → h.get? b = some o → h'.get? b = some o) → h'.get? Lc = some oc' → oc'.data = oc.data → Q (.ref L) (up s h' t')) :
    wpC (model prog w) A (call (.ref 83) [.int (n : Nat) tn, .ref it] [(Str.ofString "key", .ref f)]) Q E (up s h t) := by
  obtain ⟨pm, hF⟩ := hB.fn (83, 10, 82, .ref 78) (List.mem_append_right _ (.head _))
  refine wpC_call (enterE hB.base hs hF hr.depth (gs := [Str.ofString "iter", Str.ofString "object", Str.ofString "min", Str.ofString "len", Str.ofString "TypeError", Str.ofString "AttributeError", Str.ofString "sorted", Str.ofString "zip", Str.ofString "range", Str.ofString "_heapify_max", Str.ofString "_heapreplace_max"]) rfl rfl
    (binds := [(Str.ofString "n", .int (n : Nat) tn), (Str.ofString "iterable", .ref it), (Str.ofString "key", .ref f)]) ?_
    (lk := [vr "n" (.int (n : Nat) tn), vr "iterable" (.ref it), vc "key" (h.objs.size + 1) (.ref f), nv "it", nv "sentinel", nv "result", nv "size", nv "elem", nv "top", nv "order", nv "_heapreplace", nv "_order", nv "k", nv "_elem"]) ?_ ?_)
  · intro Q E x
    show wpAny _ _ (seqItems? (.ref 78) >>= _) _ _ _
    refine wpAny_bind (wpAny_seqItems (s := up s h t) (hs _ _ hB.t78) rfl ?_)
    exact wpAny_of_eq rfl x
  · show PutAll [nv "n", nv "iterable", (Str.ofString "key", some (h.objs.size + 1), none), nv "it", nv "sentinel", nv "result", nv "size", nv "elem", nv "top", nv "order", nv "_heapreplace", nv "_order", nv "k", nv "_elem"] _ _
    walk_at "putall"
  intro env h1 t1 henv F0
  have hfrm : env.frame = some env.locals := by rw [henv]; rfl
  have hfrs : (A.deeper env).frames = some [env, el] := Around.frames_deeper hfr
  clear henv
  have hA : (A.deeper env).handled = none := hr.hd
  have hBb := hB.base
  generalize h.objs.size + 1 = ck at F0 ⊢
  have hitL : it ≠ Lc := fun e => by rw [e, hLc] at hit; cases hit; exact dc _ hio.2
  have F1 := (F0.thaw (a := Lc) hLc hL0).thaw (a := it) (o := io) (by unfold drp; rw [if_neg hitL]; exact hit) hi0
  have F := F1.perm (List.Perm.swap _ _ _)
  clear F0 F1
  have hKle : KLe K₁ (drp (drp (hk h) Lc) it) := le_drp (le_drp hK1 hK1L) hK1i
  generalize hKK : drp (drp (hk h) Lc) it = K at F hKle
  have hback : ∀ b o, b ≠ it → b ≠ Lc → h.get? b = some o → K b = some o := fun b o b1 b2 e => by
    rw [← hKK]; unfold drp; rw [if_neg b1, if_neg b2]; exact e
  clear hKK
  refine C_execs_cons ?_
  refine C_If ?_
  refine K_tcmp ?_
  refine ld ‹_› (by walk_at "mem") ?_
  refine c_int ?_; intro _ _
  refine PyProof.Rows.eq_int ?_
  refine wpAny_truthy_bool ?_
  refine ite_b (fun hn1 => ?_) (fun hn1 => ?_)
  · have hn1' : n = 1 := by
      have := hn1; simp at this; exact Int.ofNat.inj this
    refine C_execs_cons ?_
    refine C_Assign_Name ?_
    refine C_ofM (by decide +kernel) ?_
    refine K_Call ?_
    refine ldb ‹_› ‹_› (by walk_at "mem") (by walk_at "mem") ?_
    refine K_callB ?_
    refine K_more ?_
    refine ld ‹_› (by walk_at "mem") ?_
    refine spliced_none ?_
    refine iter_call (wpAny_pyIter_listiter ⟨io, F.isIn (.tail _ (.head _)), hio.1, hio.2⟩ ?_)
    refine wpC_of ?_
    refine stn ‹_› (by walk_at "put") ?_; intro _ _ _
    refine C_execs_cons ?_
    refine C_Assign_Name ?_
    refine wpC_of ?_
    refine K_Call ?_
    refine ldb ‹_› ‹_› (by walk_at "mem") (by walk_at "mem") ?_
    refine callWith_type0 ?_
    rename_i h2 t2 F2
    refine obj_new F2 ?_
    intro sa h3 F3
    refine wpC_of (stn F3 (by walk_at "put") ?_)
    intro h4 t4 F4
    refine C_execs_cons ?_
    refine C_Assign_Name ?_
    refine C_Call_NameK (ldb hBb F4 (by walk_at "mem") (by walk_at "mem") ?_)
    refine C_builtinK (spliced_more (ld F4 (by walk_at "mem") (spliced_none ?_)))
    refine kws_cons (ld F4 (by walk_at "mem") (kws_cons (ld F4 (by walk_at "mem") (kws_nil ?_))))
    show wpC _ _ (call (.builtin "min") [.ref it] [(Str.ofString "default", .ref sa), (Str.ofString "key", .ref f)]) _ _ _
    have F5 := F4.perm (ws' := [(it, io), (sa, obo), (Lc, oc)]) ((List.Perm.cons _ (List.Perm.swap _ _ _)).trans (List.Perm.swap _ _ _))
    refine C_min (hr.deeper (m := 60) (by decide)) (hKle _ _ hl) hlen (by exact hv1) (fun i x k e1 e2 => (hkv i x k e1 e2).mono hKle) F5 hio ?_
    intro x io' h6 t6 hx F6
    refine wpC_of (stn F6 (by walk_at "put") ?_)
    intro h7 t7 F7
    obtain ⟨T, oT, rfl, hT, hTc⟩ := hvt x (List.mem_of_getElem? hx)
    refine C_execs_cons ?_
    refine C_Return ?_
    refine C_ofE rfl ?_
    refine K_IfExp ?_
    refine K_tcmp ?_
    refine ld ‹_› (by walk_at "mem") ?_
    refine ld ‹_› (by walk_at "mem") ?_
    have hTs : T ≠ sa := fun e => by have := F7.nokey (a := sa) (.tail _ (.head _)); rw [← e, hKle _ _ hT] at this; cases this
    refine is_tup_obj (s := up s h7 t7) hTs (F7.kept _ _ (hKle _ _ hT)) (F7.isIn (a := sa) (.tail _ (.head _))) (by simp) ?_
    refine wpAny_truthy_bool ?_
    refine m_ff ?_
    refine mk_list ?_
    refine K_more ?_
    refine ld ‹_› (by walk_at "mem") ?_
    refine spliced_none ?_
    refine mk_inL ‹_› ?_ ?_; (· first | (simp; done) | (simp; omega)); intro _ _ _
    rename_i L h8 F8
    refine q L 0 h8 _ oc ?_ (fun b o b1 b2 e => F8.kept _ _ (hback b o b1 b2 e)) (F8.isIn (a := Lc) (by walk_at "mem")) rfl
    rw [F8.isIn (a := L) (.head _), hn1', hrise.one (by exact Nat.lt_of_lt_of_eq hv1 hlen.symm) ltB (fun a b => rfl)]
    have : vs.getD (pick ltB ks (vs.length - 1)) .none = .ref T := by rw [List.getD_eq_getElem?_getD, hx]; rfl
    rw [hlen]
    simp only [List.map_cons, List.map_nil, this]
  · have hn1' : n ≠ 1 := by
      intro e; rw [e] at hn1; simp at hn1
    refine C_execs_nil ?_
    refine C_execs_cons ?_
    refine wpC_of (try_li hBb hA hfrs hek hfrm hef dc F hio (by walk_at "mem") (by walk_at "mem") (by walk_at "mem") (by walk_at "mem") ?_)
    intro h2 t2 oc2 hoc2 F2
    clear F
    refine C_execs_cons ?_
    refine C_If ?_
    refine K_tcmp ?_
    refine ld ‹_› (by walk_at "mem") ?_
    refine wpAny_Constant_none ?_
    refine is_ref_none ?_
    refine wpAny_truthy_bool ?_
    refine m_ff ?_
    refine C_execs_nil ?_
    have F3 := F2.perm (ws' := [(it, io), (Lc, oc2)]) (List.Perm.swap _ _ _)
    clear F2
    refine C_execs_cons ?_
    refine C_Assign_Name ?_
    refine wpC_of ?_
    refine K_Call ?_
    refine ldb ‹_› ‹_› (by walk_at "mem") (by walk_at "mem") ?_
    refine K_callB ?_
    refine K_more ?_
    refine ld ‹_› (by walk_at "mem") ?_
    refine spliced_none ?_
    refine iter_call (wpAny_pyIter_listiter ⟨io, F3.isIn (.head _), hio.1, hio.2⟩ ?_)
    refine wpC_of (stn F3 (by walk_at "put") ?_)
    intro h4 t4 F4
    clear F3
    have hkL := F4.kL
    refine C_execs_cons ?_
    refine C_AssignComp [nv "i", nv "elem", vc "key" ck (.ref f)] [] F4 rfl (fun p hp c hc => by
      simp at hp; rcases hp with rfl | rfl | rfl
      · cases hc
      · cases hc
      · cases hc; exact ⟨_, by walk_at "mem"⟩) (v0 := none) (by walk_at "mem") ?_
    refine wpC_of ?_
    refine K_Call ?_
    refine ldb ‹_› ‹_› (by walk_at "mem") (by walk_at "mem") ?_
    refine K_callT ?_
    refine K_more ?_
    refine K_Call ?_
    refine ldb ‹_› ‹_› (by walk_at "mem") (by walk_at "mem") ?_
    refine K_callT ?_
    refine K_more ?_
    refine ld ‹_› (by walk_at "mem") ?_
    refine spliced_none ?_
    refine range1 F4 ?_
    intro r h5 t5 u1 u2 F5
    refine K_more ?_
    refine ld ‹_› (by walk_at "mem") ?_
    refine spliced_none ?_
    refine zip_new F5 (small_of (by decide) (by omega) (.inl rfl)) (.head _) hio ?_
    intro z TI TO ri h6 F6
    rw [rangeSize_up (by exact Int.natCast_nonneg _)] at F6
    refine wpC_of (iter_zip (F6.isIn (.head _)) ?_)
    have hloc : ∀ p ∈ ([nv "i", nv "elem", vc "key" ck (.ref f)] : List Var), p.2.1 = none → p.2.2 = none := by
      intro p hp hc
      simp only [List.mem_cons, List.not_mem_nil, or_false] at hp
      rcases hp with rfl | rfl | rfl
      · rfl
      · rfl
      · cases hc
    refine (CompIn.mk _ F6 hloc (List.Perm.refl _) (fun h' t' hk' => iter_zip (hk' _ _ (F6.isIn (.head _))) ⟨rfl, rfl⟩) ?_)
    intro acc LL oL h7 hoL FI
    have hoLd : ∀ vs' n', oL ≠ tup vs' n' := fun vs' n' e => by
      obtain ⟨o', es, ep, e1, e2, _⟩ := F6.nsp
      rw [hoL] at e1; cases e1; rw [e] at e2; cases e2
    clear F6 F5 F4
    replace FI := FI.perm (List.perm_middle (l₁ := [_, _, _, _, _]) (l₂ := [_])).symm
    generalize compEnvC _ _ LL env = cenv at FI ⊢
    have hKle2 : KLe K (add K env.locals oL) := le_add hkL
    refine C_compLoop1 (fun m hh => ∀ P : Prop, (∀ (i : Nat) (io : Obj) (K' : KMap) (rv : List Value) (c : Nat) (a b : Value) (v1 v2 : Option Value), m = n + vs.length + 1 - i → i ≤ n → i ≤ vs.length → IsLI io l i → KLe (add K env.locals oL) K' → rv.length = i → (∀ j, j < i → EntAt K' (at' rv j) ⟨ks.getD j [], (j : Int), vs.getD j .none⟩) → Fm K₀ K' cenv [] [(Str.ofString "i", none, v1), (Str.ofString "elem", none, v2), vc "key" ck (.ref f)]
          [(z, zpo .none TI TO), (TI, tup [.ref ri, .ref it] 0), (TO, tup [a, b] 0), (ri, rit (i : Int) ((n : Int) - (i : Int)) 1), (it, io), (acc, lst rv c), (Lc, oc2)] hh → P) → P) (n + vs.length + 1 - 0)
      (fun _ kk => kk 0 io _ [] 0 .none .none none none rfl (Nat.zero_le _) (Nat.zero_le _) hio (KLe.refl _) rfl (fun j hj => absurd hj (Nat.not_lt_zero _)) (by simpa using FI)) ?_
    clear FI hio io hit
    rintro m h8 t8 Z1 hZ1 D1 hD1 hEx
    refine hEx _ ?_
    clear hEx
    rintro i io K' rv c a b v1 v2 hm hin hil hio hKK hrl hent FJ
    have hKl : K' l = some (lst vs nl) := hKK _ _ (hKle2 _ _ (hKle _ _ hl))
    by_cases hgo : i < n ∧ i < vs.length
    · obtain ⟨hi1, hi2⟩ := hgo
      obtain ⟨x, hx⟩ : ∃ x, vs[i]? = some x := ⟨_, List.getElem?_eq_getElem hi2⟩
      have hk1 : ks[i]? = some (ks.getD i []) := by rw [List.getElem?_eq_getElem (by exact Nat.lt_of_lt_of_eq hi2 hlen.symm)]; simp [List.getD, List.getElem?_eq_getElem (show i < ks.length by exact Nat.lt_of_lt_of_eq hi2 hlen.symm)]
      refine nx_zip hA FJ hio hKl hx (by (clear hek hlen hv1 hv2 hn hitL hn1' hm hin hil hrl hi2; omega)) (fun tk => by walk_at "put") (fun tk => by walk_at "put") ?_
      intro tk io2 h9 t9 hio2 FJ2
      refine C_Tuple (C_spliced_more (C_Call_Name (ld FJ2 (by walk_at "mem") ?_)))
      refine C_callr hfd (spliced_more (ld FJ2 (by walk_at "mem") (spliced_none ⟨FJ2.kept _ _ (hKK _ _ (hKle2 _ _ (hKle _ _ hf))), ?_⟩)))
      refine (hkv i x _ hx hk1) (A.deeper env) _ _ s h9 t9 (hr.deeper (by decide)) (fun b o e => FJ2.kept _ _ (hKK _ _ (hKle2 _ _ (hKle _ _ e)))) ?_
      intro tk2 h10 t10 hk10
      have FJ3 := FJ2.keeps hk10
      refine C_spliced_more (wpC_of (ld FJ3 (by walk_at "mem") ?_))
      refine C_spliced_more (wpC_of (ld FJ3 (by walk_at "mem") ?_))
      refine C_spliced_none ?_
      refine wpC_of (wpAny_newTuple ?_ (by simp; rw [sizeLine_eq]; decide))
      have FJ4 := FJ3.push (tup [.bytes (ks.getD i []).toArray tk2, .int (i : Nat) tk, x] 0)
      have hTn := FJ4.nokey (.head _)
      show wpAny _ _ (call (.builtin "list.append") [.ref acc, .ref h10.objs.size]) _ _ (up s (h10.push (tup [.bytes (ks.getD i []).toArray tk2, .int (i : Nat) tk, x] 0)) t10)
      generalize h10.push (tup [.bytes (ks.getD i []).toArray tk2, .int (i : Nat) tk, x] 0) = h11 at FJ4 ⊢
      generalize h10.objs.size = T at FJ4 hTn ⊢
      refine app_l (pos := default) FJ4 (by walk_at "upd") (by (clear hek hlen hv1 hv2 hitL hn1' hm hil hi1 hi2; omega)) ?_
      intro h12 FJ5
      have FJ6 := FJ5.freeze
      rw [show (i : Int) + 1 = ((i + 1 : Nat) : Int) by exact Int.natCast_succ _, show ((n : Int) - (i : Int) - 1) = (n : Int) - ((i + 1 : Nat) : Int) by (clear hek hlen hv1 hv2 hn hitL hn1' hm hin hil hrl hi1 hi2; lia)] at FJ6
      refine hZ1 _ ⟨n + vs.length + 1 - (i + 1), _, _, rfl, by (clear hek hlen hv2 hn hitL hn1' hil hrl hi1 hi2; omega), fun _ kk => kk (i + 1) io2 _ _ _ _ _ _ _ rfl (by exact hi1) (by exact hi2) hio2 (hKK.trans (le_add hTn)) (by simp [hrl]) (fun j hj => ?_) FJ6⟩
      rcases Nat.lt_or_ge j i with hji | hji
      · rw [at_app_l (by exact Nat.lt_of_lt_of_eq hji hrl.symm)]; exact (hent j hji).mono (le_add hTn)
      · obtain rfl : j = i := by (clear hek hlen hv1 hv2 hn hitL hn1' hm hin hil hrl hi1 hi2; lia)
        rw [at_app_r (by exact hrl)]
        have hxg : vs.getD j .none = x := by rw [List.getD_eq_getElem?_getD, hx]; rfl
        rw [hxg]
        exact ⟨T, tk2, tk, 0, rfl, add_self _ _ _⟩
    · refine nx_zip_end hA FJ hio hKl (by (clear hek hlen hv1 hv2 hn hitL hn1' hm hin hil hrl; omega)) ?_
      intro io2 h9 t9 hio2 FK
      refine hD1 _ (CompOut.mk FK (hKK _ _ (add_self _ _ _)) _ (List.Perm.refl _) ⟨_, by walk_at "put", ?_⟩)
      intro h10 t10 FO
      clear FK FJ hio
      have hK2le : KLe K (drp K' env.locals) := fun b o e => by
        have hb : b ≠ env.locals := fun z => by rw [z, hkL] at e; cases e
        unfold drp; rw [if_neg hb]; exact hKK _ _ (hKle2 _ _ e)
      have hent2 : ∀ j, j < rv.length → EntAt (drp K' env.locals) (at' rv j) ⟨ks.getD j [], if true then (j : Int) else -(j : Int), vs.getD j .none⟩ := fun j hj => by
        obtain ⟨a1, a2, a3, a4, a5, a6⟩ := hent j (by exact Nat.lt_of_lt_of_eq hj hrl)
        refine ⟨a1, a2, a3, a4, a5, ?_⟩
        have hb : a1 ≠ env.locals := fun z => by rw [z, hKK _ _ (add_self _ _ _)] at a6; exact hoLd _ _ (Option.some.inj a6)
        unfold drp; rw [if_neg hb]; exact a6
      clear hent
      generalize drp K' env.locals = K2 at FO hK2le hent2
      have hKl2 : K2 l = some (lst vs nl) := hK2le _ _ (hKle _ _ hl)
      clear hKl hKK hKle2 hoLd hoL
      refine C_execs_cons ?_
      refine C_If ?_
      refine K_not ?_
      refine K_value ?_
      refine ld ‹_› (by walk_at "mem") ?_
      refine tru_l (FO.isIn (by walk_at "mem")) (by (clear hek hlen hv1 hv2 hitL hn1' hm hil hgo; omega)) ?_
      intro t11
      refine ite_b (fun hb => ?_) (fun hb => ?_)
      · have hrv0 : rv = [] := by simpa using hb
        refine C_execs_cons ?_
        refine C_Return ?_
        refine C_ofE rfl ?_
        refine ld ‹_› (by walk_at "mem") ?_
        refine q acc c h10 _ oc2 ?_ (fun b o b1 b2 e => FO.kept _ _ (hK2le _ _ (hback b o b1 b2 e))) (FO.isIn (a := Lc) (by walk_at "mem")) hoc2
        rw [FO.isIn (a := acc) (.tail _ (.head _)), hrv0]
        have hi0 : i = 0 := by rw [← hrl, hrv0]; rfl
        have hn0 : n = 0 := by (clear hek hlen hv2 hn hitL hn1' hm hin hil hrl; omega)
        rw [hn0]; rfl
      · have hrv0 : 0 < rv.length := by
          rcases Nat.eq_zero_or_pos rv.length with z | z
          · rw [List.length_eq_zero_iff] at z; rw [z] at hb; simp at hb
          · exact z
        refine C_execs_nil ?_
        refine C_execs_cons ?_
        obtain ⟨En, hmap⟩ := Ents.init (u := true) (ks := ks) (vs := vs) (n := n) (by exact Nat.le_trans (Nat.le_of_eq hrl) hin) hent2
        generalize (fun v => rv.idxOf v) = g0 at En hmap
        generalize (fun j : Nat => if true then (j : Int) else -(j : Int)) = o0 at En
        refine C_Expr ?_ FO.inter
        refine wpC_of ?_
        refine K_Call ?_
        refine ldg ‹_› ‹_› (by walk_at "mem") (by walk_at "mem") ?_
        refine K_callf ‹_› (by walk_at "mem") ?_
        refine K_more ?_
        refine ld ‹_› (by walk_at "mem") ?_
        refine spliced_none ?_
        refine And.intro (Fm.sub ‹_›) ?_
        refine heapify_max_walk (K₁ := K2) (lt := ltG (bfU true ks) g0) hBb FO.sub0 (hr.deeper (by decide)) (FO.isIn (a := acc) (by walk_at "mem")) (FO.no0 (a := acc) (by walk_at "mem")) FO.kept (FO.nokey (a := acc) (by walk_at "mem")) (by (clear hek hlen hv1 hv2 hitL hn1' hm hil hgo hrv0; omega)) (fun x hx y hy => En.cmpOk hy hx) ?_
        intro h11 t12 e1 e2
        have FO2 := FO.upd (by walk_at "upd") e1 e2
        have S0 := HpSt.init En hmap
        have hrl0 : (heapifyTo (ltG (bfU true ks) g0) rv (rv.length / 2)).length = rv.length := (heapify_ok (ltG_swo (bfU_sto true ks) g0) rv).2.length_eq
        generalize heapifyTo (ltG (bfU true ks) g0) rv (rv.length / 2) = rv0 at FO2 S0 hrl0
        clear FO En hmap hent2 e1 e2
        have hipos : 0 < i := by exact Nat.lt_of_lt_of_eq hrv0 hrl
        rw [hrl] at hrl0 S0
        clear hrl hb hrv0
        have hrv0 : 0 < rv0.length := by exact Nat.lt_of_lt_of_eq hipos hrl0.symm
        clear rv
        obtain ⟨T0, b0, o0', n0, eT0, hT0⟩ := (S0.en.ents _ (at_mem hrv0)).2
        have hrv00 : rv0[0]? = some (.ref T0) := by rw [List.getElem?_eq_getElem hrv0, ← eT0]; unfold at'; simp [List.getD, hrv0]
        refine C_execs_cons ?_
        refine C_Assign_Name ?_
        refine wpC_of ?_
        refine K_Sub ?_
        refine K_Sub ?_
        refine ld ‹_› (by walk_at "mem") ?_
        refine c_int ?_; intro _ _
        refine gi_l 0 (FO2.isIn (by walk_at "mem")) rfl hrv00 (by (clear hek hlen hv1 hv2 hitL hn1' hm hil hgo hipos hrv0; omega)) ?_ rfl
        refine c_int ?_; intro _ _
        refine gi_tup 0 (FO2.kept _ _ hT0) rfl rfl (by simp) ?_ rfl
        refine wpC_of ?_
        refine stn ‹_› (by walk_at "put") ?_; intro _ _ _
        refine C_execs_cons ?_
        refine C_Assign_Name ?_
        refine C_ofE rfl ?_
        refine ld ‹_› (by walk_at "mem") ?_
        refine wpC_of ?_
        refine stn ‹_› (by walk_at "put") ?_; intro _ _ _
        refine C_execs_cons ?_
        refine C_Assign_Name ?_
        refine C_ofE rfl ?_
        refine ldg ‹_› ‹_› (by walk_at "mem") (by walk_at "mem") ?_
        refine wpC_of ?_
        refine stn ‹_› (by walk_at "put") ?_; intro _ _ _
        refine C_execs_cons ?_
        rename_i h13 t13 F13 h14 t14 F14 h15 t15 F15
        clear FO2 F13 F14
        refine C_for ?_
        refine ld ‹_› (by walk_at "mem") ?_
        refine iter_dead (F15.isIn (.head _)) hio2.cls ?_
        refine C_forLoop (fun m hh => ∀ P : Prop, (∀ (i' : Nat) (io : Obj) (K' : KMap) (rv : List Value) (c : Nat) (g : Value → Nat) (o : Nat → Int) (ord : Int) (tkT tkO : Tok) (v1 v2 v3 v4 : Option Value), m = vs.length - i' → i' ≤ vs.length → LiSt io l vs.length i' → KLe K2 K' → rv.length = i → HpSt K' true ks vs rv g o i' ord → Fm K₀ K' env [Str.ofString "iter", Str.ofString "object", Str.ofString "min", Str.ofString "len", Str.ofString "TypeError", Str.ofString "AttributeError", Str.ofString "sorted", Str.ofString "zip", Str.ofString "range", Str.ofString "_heapify_max", Str.ofString "_heapreplace_max"]
              [vr "n" (.int (n : Nat) tn), vr "iterable" (.ref it), vc "key" ck (.ref f), vr "it" (.ref it), nv "sentinel", vr "result" (.ref acc), nv "size", (Str.ofString "elem", none, v1), vr "top" (.bytes (ks.getD (g (at' rv 0)) []).toArray tkT), vr "order" (.int ord tkO), vr "_heapreplace" (.ref 42), (Str.ofString "_order", none, v2), (Str.ofString "k", none, v3), (Str.ofString "_elem", none, v4)]
              [(it, io), (acc, lst rv c), (Lc, oc2)] hh → P) → P) (vs.length - i)
          (fun _ kk => kk i io2 K2 rv0 c g0 o0 _ _ _ _ _ _ _ rfl hil hio2 (KLe.refl _) hrl0 S0 F15) ?_
        clear F15 S0 hrl0 hrv0 hrv00 hT0 eT0 rv0 hio2 g0 o0 io2
        rintro m h16 t16 B2 hB2 D2 hD2 hEx
        refine hEx _ ?_
        clear hEx
        rintro i' io K' rv c g o ord tkT tkO v1 v2 v3 v4 hm' hil' hio hKK hrl S FJ
        have hKl : K' l = some (lst vs nl) := hKK _ _ hKl2
        have hrv0 : 0 < rv.length := by exact Nat.lt_of_lt_of_eq hipos hrl.symm
        rcases Nat.lt_or_ge i' vs.length with hlt | hge
        · obtain ⟨x, hx⟩ : ∃ x, vs[i']? = some x := ⟨_, List.getElem?_eq_getElem hlt⟩
          have hxg : vs.getD i' .none = x := by rw [List.getD_eq_getElem?_getD, hx]; rfl
          have hk1 : ks[i']? = some (ks.getD i' []) := by rw [List.getElem?_eq_getElem (by exact Nat.lt_of_lt_of_eq hlt hlen.symm)]; simp [List.getD, List.getElem?_eq_getElem (show i' < ks.length by exact Nat.lt_of_lt_of_eq hlt hlen.symm)]
          refine nx_lh FJ (hio.live hlt) (FJ.kept _ _ hKl) hx ?_
          intro io3 h17 hio3 FJ2
          refine wpAny_of_eq (a := ()) rfl ?_
          refine asg FJ2 (by walk_at "put") ?_
          intro h18 t18 FJ3
          clear FJ FJ2
          refine C_execs_cons ?_
          refine C_Assign_Name ?_
          refine C_Call_Name (ld FJ3 (by walk_at "mem") ?_)
          refine C_callr hfd (spliced_more (ld FJ3 (by walk_at "mem") (spliced_none ⟨FJ3.kept _ _ (hKK _ _ (hK2le _ _ (hKle _ _ hf))), ?_⟩)))
          refine (hkv i' x _ hx hk1) (A.deeper env) _ _ s h18 t18 (hr.deeper (by decide)) (fun b o e => FJ3.kept _ _ (hKK _ _ (hK2le _ _ (hKle _ _ e)))) ?_
          intro tk2 h19 t19 hk19
          have FJ4 := FJ3.keeps hk19
          clear FJ3
          refine wpC_of (stn FJ4 (by walk_at "put") ?_)
          intro h20 t20 FJ5
          clear FJ4
          refine C_execs_cons ?_
          refine C_If ?_
          refine K_tcmp ?_
          refine ld ‹_› (by walk_at "mem") ?_
          refine ld ‹_› (by walk_at "mem") ?_
          refine lt_bytes (s := up s h20 t20) ?_
          refine wpAny_truthy_bool ?_
          refine ite_b (fun hb => ?_) (fun hb => ?_)
          · have ht : btU true (ks.getD i' []) (ks.getD (g (at' rv 0)) []) = true := by simpa [btU] using hb
            refine C_execs_cons ?_
            refine C_Expr ?_ FJ5.inter
            refine wpC_of ?_
            refine wpAny_Call_NameR (ld FJ5 (by walk_at "mem") ?_)
            refine callf hBb (by walk_at "mem") (spliced_more (ld FJ5 (by walk_at "mem") (spliced_more ?_)))
            refine mk_tup (spliced_more (ld FJ5 (by walk_at "mem") (spliced_more (ld FJ5 (by walk_at "mem") (spliced_more (ld FJ5 (by walk_at "mem") (spliced_none ?_)))))))
            refine (mk_inT FJ5 (by simp) ?_)
            intro T h21 hTn hTk FJ6
            have hTK := FJ6.nokey (a := T) (.head _)
            have FJ7 := FJ6.freeze
            clear FJ5 FJ6
            have hle : KLe K' (add K' T (tup [.bytes (ks.getD i' []).toArray tk2, .int ord tkO, x] 0)) := le_add hTK
            have hEn : EntAt (add K' T (tup [.bytes (ks.getD i' []).toArray tk2, .int ord tkO, x] 0)) (.ref T) ⟨ks.getD i' [], ord, vs.getD i' .none⟩ := by
              rw [hxg]; exact ⟨T, tk2, tkO, 0, rfl, add_self _ _ _⟩
            have hnv : Value.ref T ∉ rv := fun hm => by
              obtain ⟨_, a1, _, _, _, a5, a6⟩ := S.en.ents _ hm
              cases a5
              rw [hTK] at a6; cases a6
            generalize add K' T (tup [.bytes (ks.getD i' []).toArray tk2, .int ord tkO, x] 0) = K3 at FJ7 hle hEn
            have En2 := (S.en.ge hle).add hnv hEn
            have S2 := (S.ge hle).repl hrv0 hnv hEn ht
            refine spliced_none ⟨FJ7.sub0, ?_⟩
            refine heapreplace_max_walk (K₁ := K3) (lt := ltG (bfU true ks) fun x => if x = Value.ref T then i' else g x) hBb FJ7.sub0 (hr.deeper (by decide)) (FJ7.isIn (a := acc) (by walk_at "mem")) (FJ7.no0 (a := acc) (by walk_at "mem")) FJ7.kept (FJ7.nokey (a := acc) (by walk_at "mem")) (by (clear hek hlen hv1 hv2 hitL hn1' hm hil hgo hipos hm' hil' hrv0 hlt hnv; omega)) hrv0 (fun x hx y hy => En2.cmpOk hy hx) ?_
            intro h22 t22 e1 e2
            have FJ8 := FJ7.upd (by walk_at "upd") e1 e2
            have hrl2 : (siftup (ltG (bfU true ks) fun x => if x = Value.ref T then i' else g x) (rv.set 0 (.ref T)) 0).length = i := by rw [siftup_length, List.length_set]; exact hrl
            clear FJ7 e1 e2 En2
            generalize siftup (ltG (bfU true ks) fun x => if x = Value.ref T then i' else g x) (rv.set 0 (.ref T)) 0 = rv2 at FJ8 S2 hrl2
            generalize (fun x => if x = Value.ref T then i' else g x) = g2 at S2
            generalize (fun j => if j = i' then ord else o j) = o2 at S2
            have hrv2 : 0 < rv2.length := by exact Nat.lt_of_lt_of_eq hipos hrl2.symm
            obtain ⟨T0, b0, o0', n0, eT0, hT0⟩ := (S2.en.ents _ (at_mem hrv2)).2
            have hrv00 : rv2[0]? = some (.ref T0) := by rw [List.getElem?_eq_getElem hrv2, ← eT0]; unfold at'; simp [List.getD, hrv2]
            refine C_execs_cons ?_
            refine wpC_of ?_
            refine assign_tup3 ?_
            refine K_Sub ?_
            refine ld ‹_› (by walk_at "mem") ?_
            refine c_int ?_; intro _ _
            refine gi_l 0 (FJ8.isIn (by walk_at "mem")) rfl hrv00 (by (clear hek hlen hv1 hv2 hitL hn1' hm hil hgo hipos hm' hil' hrl hrv0 hlt hnv hrv2; omega)) ?_ rfl
            refine asg3 hA FJ8 (FJ8.kept _ _ hT0) (by walk_at "put") (by walk_at "put") (by walk_at "put") ?_
            intro h23 t23 FJ9
            clear FJ8
            refine C_execs_cons ?_
            refine wpC_of ?_
            refine K_aug ?_
            refine ldn ‹_› (by walk_at "mem") ?_
            refine c_int ?_; intro _ _
            refine i_add ?_; intro _ _
            refine st ‹_› (by walk_at "put") ?_; intro _ _ _
            refine C_execs_nil ?_
            refine C_execs_nil ?_
            rename_i h24 t24 F24
            exact hB2 _ _ ⟨vs.length - (i' + 1), _, _, rfl, by (clear hek hlen hv1 hv2 hn hitL hn1' hm hin hil hgo hipos hil' hrl hrv0 hnv hrl2 hrv2; omega), fun _ kk => kk (i' + 1) io3 K3 rv2 c g2 o2 (ord + 1) _ _ _ _ _ _ rfl (by exact hlt) (.inl hio3) (hKK.trans hle) hrl2 S2 F24⟩
          · have ht : btU true (ks.getD i' []) (ks.getD (g (at' rv 0)) []) = false := by simpa [btU] using hb
            refine C_execs_nil ?_
            refine C_execs_nil ?_
            exact hB2 _ _ ⟨vs.length - (i' + 1), _, _, rfl, by (clear hek hlen hv1 hv2 hn hitL hn1' hm hin hil hgo hipos hil' hrl hrv0; omega), fun _ kk => kk (i' + 1) io3 K' rv c g o ord _ _ _ _ _ _ rfl (by exact hlt) (.inl hio3) hKK hrl (S.keep hrv0 ht) FJ5⟩
        · obtain rfl : i' = vs.length := by exact Nat.le_antisymm hil' hge
          refine nx_li_end (fun o' => [(it, o'), (acc, lst rv c), (Lc, oc2)]) hA FJ (hio.isEnd hge) (fun _ => .head) (FJ.kept _ _ hKl) ?_
          intro io3 h17 hd FK
          clear FJ
          have FK2 := FK.perm (ws' := [(acc, lst rv c), (it, io3), (Lc, oc2)]) (List.Perm.swap _ _ _)
          clear FK
          refine hD2 _ ?_
          refine C_execs_cons ?_
          refine C_Expr ?_ FK2.inter
          refine wpC_of ?_
          refine wpAny_Call_method0_late rfl rfl (ld FK2 (by walk_at "mem") ?_)
          refine sort_m (lt := fun x y => bfU true ks (g x) (g y)) ((bfU_sto true ks).swo.comap g) FK2 (by (clear hek hlen hv1 hv2 hitL hn1' hm hil hgo hipos hrv0 hm' hil' hge; omega)) (fun x hx y hy => ?_) ?_
          · obtain ⟨e, f', a1, a2, a3, a4⟩ := S.en.cmp hx hy
            exact ⟨e, f', a1, a2, a3, a4.symm⟩
          intro jdx c' h18 j1 j2 FS
          have hdone := (hlen ▸ S : HpSt K' true ks vs rv g o ks.length ord).done hrise j1 j2
          refine C_execs_cons ?_
          refine C_Return ?_
          have hjl : jdx.length = rv.length := by simpa using j1.length_eq
          refine elems_ret (itm := fun v => vs.getD (g v) .none) hA FS (by walk_at "mem") (by simp; (clear hek hlen hv1 hv2 hitL hn1' hm hil hgo hipos hrv0 hm' hil' hge; lia)) (fun v hv => ?_) ?_
          · obtain ⟨a, ha, rfl⟩ := List.mem_map.mp hv
            have : rv.getD a Value.none ∈ rv := by
              have := List.mem_range.mp (j1.mem_iff.mp ha)
              simp [List.getD, this]
            exact ⟨_, (S.en.ents _ this).2, rfl⟩
          · intro L c'' h19 t19 FR
            refine q L c'' h19 t19 oc2 ?_ (fun b o b1 b2 e => FR.kept _ _ (hKK _ _ (hK2le _ _ (hback b o b1 b2 e)))) (FR.isIn (a := Lc) (by walk_at "mem")) hoc2
            rw [FR.isIn (a := L) (.head _), hdone, hrl]
            have hil2 : idx.length = vs.length := by rw [hrise.pm.length_eq, List.length_range, hlen]
            have : idx.take i = idx.take n := by
              by_cases e : i = n
              · rw [e]
              · have : i = vs.length := by (clear hek hlen hv1 hv2 hn hitL hn1' hm hipos hrl hrv0 hm' hil' hge hjl hil2; lia)
                rw [List.take_of_length_le (by (clear hek hlen hv1 hv2 hn hitL hn1' hm hin hil hgo hipos hrl hrv0 hm' hil' hge hjl e; lia)), List.take_of_length_le (by (clear hek hlen hv1 hv2 hn hitL hn1' hm hil hgo hipos hrl hrv0 hm' hil' hge hjl e; lia))]
            rw [this]
end Mine
end
section
open PySem PySem.W PyProof.Rows
set_option Elab.async false
set_option maxRecDepth 100000
set_option maxHeartbeats 2000000
set_option linter.unusedVariables false
open Mine
namespace Mine
theorem C_Try {M : Model} {A : Around} {E : Value → Shared → Prop} {s : Shared} {env : Env} {body orelse : List Stmt} {h₀ : ExceptHandler} {hs : List ExceptHandler} {pos : Pos} {Q : Flow → Shared → Prop}
    (k : wpC M A (execs body env) (fun f s₁ => match f with | .next => wpC M A (execs orelse env) Q E s₁ | f => Q f s₁) (fun _ _ => False) s) : wpC M A (exec (.Try body (h₀ :: hs) orelse [] pos) env) Q E s := by
  rw [arm_exec_Try]
  refine wpC_bind (wpC_standAt ?_)
  unfold tryStmt
  simp only [List.isEmpty_nil, if_true, List.isEmpty_cons, Bool.false_and, Bool.false_eq_true, if_false]
  refine wpC_bind (wpC_attempt (wpC_mono k (fun f s₁ h₁ => ?_) fun e s₁ h₁ => h₁.elim))
  cases f <;> first | exact h₁ | exact wpC_pure h₁
theorem nlargest_walk {prog w A s t h} {K₀ K₁ : KMap} {n : Int} {tn : Tok} {l f : Addr} {fo : Obj} {vs : List Value} {nl : Nat} {ks : List (List UInt8)} {fd : FuncData} {idx : List Nat} {Q : Value → Shared → Prop} {E : Value → Shared → Prop}
    (hB : BaseL K₀) (hs : Sub K₀ h) (hr : Room A 110) (hK1 : Sub K₁ h) (hl : K₁ l = some (lst vs nl)) (hf : K₁ f = some fo) (hfd : fo.data = .func fd)
    (hlen : ks.length = vs.length) (hv1 : 1 ≤ vs.length) (hv2 : vs.length ≤ 20) (hn : -1 ≤ n ∧ n ≤ 50) (hkv : ∀ (i : Nat) x k, vs[i]? = some x → ks[i]? = some k → KeyOk prog w K₁ f x k)
    (hvt : ∀ x ∈ vs, ∃ T o, x = .ref T ∧ K₁ T = some o ∧ o.cls = .type "tuple") (hrise : Rise false ks idx)
    (q : ∀ L c h' t', h'.get? L = some (lst ((idx.take n.toNat).map fun i => vs.getD i .none) c) → Keeps h h' → Q (.ref L) (up s h' t')) :
    wpC (model prog w) A (call (.ref 89) [.int n tn, .ref l] [(Str.ofString "key", .ref f)]) Q E (up s h t) := by
  obtain ⟨pm, hF⟩ := hB.fn (89, 11, 88, .ref 84) (List.mem_append_right _ (.tail _ (.head _)))
  refine wpC_call (enterE hB.base hs hF hr.depth (gs := [Str.ofString "iter", Str.ofString "object", Str.ofString "max", Str.ofString "len", Str.ofString "TypeError", Str.ofString "AttributeError", Str.ofString "sorted", Str.ofString "zip", Str.ofString "range", Str.ofString "heapify", Str.ofString "heapreplace"]) rfl rfl
    (binds := [(Str.ofString "n", .int n tn), (Str.ofString "iterable", .ref l), (Str.ofString "key", .ref f)]) ?_
    (lk := [vr "n" (.int n tn), vr "iterable" (.ref l), vc "key" (h.objs.size + 1) (.ref f), nv "it", nv "sentinel", nv "result", nv "size", nv "elem", nv "top", nv "order", nv "_heapreplace", nv "_order", nv "k", nv "_elem"]) ?_ ?_)
  · intro Q E x
    show wpAny _ _ (seqItems? (.ref 84) >>= _) _ _ _
    refine wpAny_bind (wpAny_seqItems (s := up s h t) (hs _ _ hB.t84) rfl ?_)
    exact wpAny_of_eq rfl x
  · show PutAll [nv "n", nv "iterable", (Str.ofString "key", some (h.objs.size + 1), none), nv "it", nv "sentinel", nv "result", nv "size", nv "elem", nv "top", nv "order", nv "_heapreplace", nv "_order", nv "k", nv "_elem"] _ _
    walk_at "putall"
  intro env h1 t1 henv F0
  clear henv
  have hA : (A.deeper env).handled = none := hr.hd
  have hBb := hB.base
  generalize h.objs.size + 1 = ck at F0 ⊢
  have F := F0
  clear F0
  have hKle : KLe K₁ (hk h) := hK1
  have hback : ∀ b o, h.get? b = some o → hk h b = some o := fun b o e => e
  generalize hk h = K at F hKle hback
  refine C_execs_cons ?_
  refine C_If ?_
  refine K_tcmp ?_
  refine ld ‹_› (by walk_at "mem") ?_
  refine c_int ?_; intro _ _
  refine PyProof.Rows.eq_int ?_
  refine wpAny_truthy_bool ?_
  refine ite_b (fun hn1 => ?_) (fun hn1 => ?_)
  · have hn1' : n = 1 := by
      have := hn1; simp at this; exact this
    refine C_execs_cons ?_
    refine C_Assign_Name ?_
    refine C_ofM (by decide +kernel) ?_
    refine K_Call ?_
    refine ldb ‹_› ‹_› (by walk_at "mem") (by walk_at "mem") ?_
    refine K_callB ?_
    refine K_more ?_
    refine ld ‹_› (by walk_at "mem") ?_
    refine spliced_none ?_
    refine iter_call (iter_l F (F.kept _ _ (hKle _ _ hl)) ?_)
    intro it io h1' hio F1
    clear F
    refine wpC_of (stn F1 (by walk_at "put") ?_)
    intro h2 t2 F2
    clear F1
    refine C_execs_cons ?_
    refine C_Assign_Name ?_
    refine wpC_of ?_
    refine K_Call ?_
    refine ldb ‹_› ‹_› (by walk_at "mem") (by walk_at "mem") ?_
    refine callWith_type0 ?_
    refine obj_new F2 ?_
    intro sa h3 F3
    refine wpC_of (stn F3 (by walk_at "put") ?_)
    intro h4 t4 F4
    refine C_execs_cons ?_
    refine C_Assign_Name ?_
    refine C_Call_NameK (ldb hBb F4 (by walk_at "mem") (by walk_at "mem") ?_)
    refine C_builtinK (spliced_more (ld F4 (by walk_at "mem") (spliced_none ?_)))
    refine kws_cons (ld F4 (by walk_at "mem") (kws_cons (ld F4 (by walk_at "mem") (kws_nil ?_))))
    show wpC _ _ (call (.builtin "max") [.ref it] [(Str.ofString "default", .ref sa), (Str.ofString "key", .ref f)]) _ _ _
    have F5 := F4.perm (ws' := [(it, io), (sa, obo)]) (List.Perm.swap _ _ _)
    refine C_max (hr.deeper (m := 60) (by decide)) (hKle _ _ hl) hlen (by exact hv1) (fun i x k e1 e2 => (hkv i x k e1 e2).mono hKle) F5 hio ?_
    intro x io' h6 t6 hx F6
    refine wpC_of (stn F6 (by walk_at "put") ?_)
    intro h7 t7 F7
    obtain ⟨T, oT, rfl, hT, hTc⟩ := hvt x (List.mem_of_getElem? hx)
    refine C_execs_cons ?_
    refine C_Return ?_
    refine C_ofE rfl ?_
    refine K_IfExp ?_
    refine K_tcmp ?_
    refine ld ‹_› (by walk_at "mem") ?_
    refine ld ‹_› (by walk_at "mem") ?_
    have hTs : T ≠ sa := fun e => by have := F7.nokey (a := sa) (.tail _ (.head _)); rw [← e, hKle _ _ hT] at this; cases this
    refine is_tup_obj (s := up s h7 t7) hTs (F7.kept _ _ (hKle _ _ hT)) (F7.isIn (a := sa) (.tail _ (.head _))) (by simp) ?_
    refine wpAny_truthy_bool ?_
    refine m_ff ?_
    refine mk_list ?_
    refine K_more ?_
    refine ld ‹_› (by walk_at "mem") ?_
    refine spliced_none ?_
    refine mk_inL ‹_› ?_ ?_; (· first | (simp; done) | (simp; omega)); intro _ _ _
    rename_i L h8 F8
    refine q L 0 h8 _ ?_ (fun b o e => F8.kept _ _ (hback b o e))
    rw [F8.isIn (a := L) (.head _), hn1', show (1 : Int).toNat = 1 from rfl, hrise.one (by exact Nat.lt_of_lt_of_eq hv1 hlen.symm) gtB (fun a b => gtB_eq a b)]
    have : vs.getD (pick gtB ks (vs.length - 1)) .none = .ref T := by rw [List.getD_eq_getElem?_getD, hx]; rfl
    rw [hlen]
    simp only [List.map_cons, List.map_nil, this]
  · have hn1' : n ≠ 1 := by
      intro e; rw [e] at hn1; simp at hn1
    refine C_execs_nil ?_
    refine C_execs_cons ?_
    refine C_Try ?_
    refine C_execs_cons ?_
    refine C_Assign_Name ?_
    refine wpC_of ?_
    refine K_Call ?_
    refine ldb ‹_› ‹_› (by walk_at "mem") (by walk_at "mem") ?_
    refine K_callB ?_
    refine K_more ?_
    refine ld ‹_› (by walk_at "mem") ?_
    refine spliced_none ?_
    refine len_l (F.kept _ _ (hKle _ _ hl)) (by exact Nat.lt_of_le_of_lt hv2 (by decide)) ?_
    intro tkz tz
    refine wpC_of (stn F (by walk_at "put") ?_)
    intro h2 t2 F2
    clear F
    refine C_execs_nil ?_
    refine C_execs_cons ?_
    refine C_If ?_
    refine K_tcmp ?_
    refine ld ‹_› (by walk_at "mem") ?_
    refine ld ‹_› (by walk_at "mem") ?_
    refine PyProof.Rows.ge_int ?_
    refine wpAny_truthy_bool ?_
    refine ite_b (fun hge => ?_) (fun hge => ?_)
    · have hge' : (vs.length : Int) ≤ n := by simpa using hge
      refine C_execs_cons ?_
      refine C_Return ?_
      refine C_Subscript ?_
      refine C_Call_NameK (ldb hBb F2 (by walk_at "mem") (by walk_at "mem") ?_)
      refine C_builtinK (spliced_more (ld F2 (by walk_at "mem") (spliced_none ?_)))
      refine kws_cons (ld F2 (by walk_at "mem") (kws_cons (c_bool (kws_nil ?_))))
      show wpC _ _ (call (.builtin "sorted") [.ref l] [(Str.ofString "key", .ref f), (Str.ofString "reverse", .bool true)]) _ _ _
      refine C_sorted ltB_swo (hr.deeper (m := 80) (by decide)) hlen (by exact Nat.lt_of_le_of_lt hv2 (by decide)) (fun i x k e1 e2 => (hkv i x k e1 e2).mono hKle) F2 (hKle _ _ hl) ?_
      intro L jdx c h3 t3 j1 j2 F3
      have hR : Rise false ks jdx := ⟨by rw [hlen]; exact j1, j2.imp fun {a b} hab => sb_bf hab⟩
      obtain rfl := hrise.unique hR
      clear F2
      refine mk_slice (wpAny_evalPart_none (wpAny_evalPart_some (ld F3 (by walk_at "mem") ?_)))
      refine (mk_in F3 ?_)
      intro sl h4 F4
      obtain ⟨N, rfl⟩ : ∃ N : Nat, n = (N : Int) := ⟨n.toNat, by (clear hlen hv2 hn hn1'; lia)⟩
      refine gi_upto (b := N) ⟨_, F4.isIn (a := L) (.tail _ (.head _)), rfl, _, rfl⟩ F4 (by simp; have := j1.length_eq; simp at this; exact Nat.lt_of_le_of_lt (Nat.le_trans (Nat.le_of_eq this) hv2) (by decide)) ?_
      intro L2 h5 F5
      refine q L2 0 h5 _ ?_ (fun b o e => F5.kept _ _ (hback b o e))
      rw [F5.isIn (a := L2) (.head _), Int.toNat_natCast, List.map_take]
    have hlt : n < (vs.length : Int) := by simpa using hge
    refine C_execs_nil ?_
    refine C_execs_nil ?_
    refine C_execs_cons ?_
    refine C_If ?_
    refine K_tcmp ?_
    refine ld ‹_› (by walk_at "mem") ?_
    refine wpAny_Constant_none ?_
    refine is_ref_none ?_
    refine wpAny_truthy_bool ?_
    refine m_ff ?_
    refine C_execs_nil ?_
    refine C_execs_cons ?_
    refine C_Assign_Name ?_
    refine wpC_of ?_
    refine K_Call ?_
    refine ldb ‹_› ‹_› (by walk_at "mem") (by walk_at "mem") ?_
    refine K_callB ?_
    refine K_more ?_
    refine ld ‹_› (by walk_at "mem") ?_
    refine spliced_none ?_
    refine iter_call (iter_l F2 (F2.kept _ _ (hKle _ _ hl)) ?_)
    intro it io h3 hio F3
    clear F2
    refine wpC_of (stn F3 (by walk_at "put") ?_)
    intro h4 t4 F4
    clear F3
    have hkL := F4.kL
    refine C_execs_cons ?_
    refine C_AssignComp [nv "i", nv "elem", vc "key" ck (.ref f)] [] F4 rfl (fun p hp c hc => by
      simp at hp; rcases hp with rfl | rfl | rfl
      · cases hc
      · cases hc
      · cases hc; exact ⟨_, by walk_at "mem"⟩) (v0 := none) (by walk_at "mem") ?_
    refine wpC_of ?_
    refine K_Call ?_
    refine ldb ‹_› ‹_› (by walk_at "mem") (by walk_at "mem") ?_
    refine K_callT ?_
    refine K_more ?_
    refine K_Call ?_
    refine ldb ‹_› ‹_› (by walk_at "mem") (by walk_at "mem") ?_
    refine K_callT ?_
    refine K_more ?_
    refine c_int ?_; intro _ _
    refine K_more ?_
    refine K_UnaryOp ?_
    refine ld ‹_› (by walk_at "mem") ?_
    refine u_neg ?_; intro _ _
    refine K_more ?_
    refine K_UnaryOp ?_
    refine c_int ?_; intro _ _
    refine u_neg ?_; intro _ _
    refine spliced_none ?_
    refine range3 F4 (by decide) (by decide) ?_
    intro r h5 t5 F5
    refine K_more ?_
    refine ld ‹_› (by walk_at "mem") ?_
    refine spliced_none ?_
    refine zip_new F5 (small_of (by decide) (by omega) (.inr rfl)) (.head _) hio ?_
    intro z TI TO ri h6 F6
    rw [show Builtin.Range.rangeSize 0 (-n) (-1) = ((n.toNat : Nat) : Int) by rw [rangeSize_dn]; (clear hlen hv1 hv2 hn hn1' hlt; lia)] at F6
    refine wpC_of (iter_zip (F6.isIn (.head _)) ?_)
    have hloc : ∀ p ∈ ([nv "i", nv "elem", vc "key" ck (.ref f)] : List Var), p.2.1 = none → p.2.2 = none := by
      intro p hp hc
      simp only [List.mem_cons, List.not_mem_nil, or_false] at hp
      rcases hp with rfl | rfl | rfl
      · rfl
      · rfl
      · cases hc
    refine (CompIn.mk _ F6 hloc (List.Perm.refl _) (fun h' t' hk' => iter_zip (hk' _ _ (F6.isIn (.head _))) ⟨rfl, rfl⟩) ?_)
    intro acc LL oL h7 hoL FI
    have hoLd : ∀ vs' n', oL ≠ tup vs' n' := fun vs' n' e => by
      obtain ⟨o', es, ep, e1, e2, _⟩ := F6.nsp
      rw [hoL] at e1; cases e1; rw [e] at e2; cases e2
    clear F6 F5 F4
    replace FI := FI.perm (List.perm_middle (l₁ := [_, _, _, _, _]) (l₂ := [])).symm
    generalize compEnvC _ _ LL env = cenv at FI ⊢
    have hKle2 : KLe K (add K env.locals oL) := le_add hkL
    refine C_compLoop1 (fun m hh => ∀ P : Prop, (∀ (i : Nat) (io : Obj) (K' : KMap) (rv : List Value) (c : Nat) (a b : Value) (v1 v2 : Option Value), m = n.toNat + vs.length + 1 - i → i ≤ n.toNat → i ≤ vs.length → IsLI io l i → KLe (add K env.locals oL) K' → rv.length = i → (∀ j, j < i → EntAt K' (at' rv j) ⟨ks.getD j [], -(j : Int), vs.getD j .none⟩) → Fm K₀ K' cenv [] [(Str.ofString "i", none, v1), (Str.ofString "elem", none, v2), vc "key" ck (.ref f)]
          [(z, zpo .none TI TO), (TI, tup [.ref ri, .ref it] 0), (TO, tup [a, b] 0), (ri, rit (-(i : Int)) ((n.toNat : Int) - (i : Int)) (-1)), (it, io), (acc, lst rv c)] hh → P) → P) (n.toNat + vs.length + 1 - 0)
      (fun _ kk => kk 0 io _ [] 0 .none .none none none rfl (Nat.zero_le _) (Nat.zero_le _) hio (KLe.refl _) rfl (fun j hj => absurd hj (Nat.not_lt_zero _)) (by simpa using FI)) ?_
    clear FI hio io
    rintro m h8 t8 Z1 hZ1 D1 hD1 hEx
    refine hEx _ ?_
    clear hEx
    rintro i io K' rv c a b v1 v2 hm hin hil hio hKK hrl hent FJ
    have hKl : K' l = some (lst vs nl) := hKK _ _ (hKle2 _ _ (hKle _ _ hl))
    by_cases hgo : i < n.toNat ∧ i < vs.length
    · obtain ⟨hi1, hi2⟩ := hgo
      obtain ⟨x, hx⟩ : ∃ x, vs[i]? = some x := ⟨_, List.getElem?_eq_getElem hi2⟩
      have hk1 : ks[i]? = some (ks.getD i []) := by rw [List.getElem?_eq_getElem (by exact Nat.lt_of_lt_of_eq hi2 hlen.symm)]; simp [List.getD, List.getElem?_eq_getElem (show i < ks.length by exact Nat.lt_of_lt_of_eq hi2 hlen.symm)]
      refine nx_zip hA FJ hio hKl hx (by (clear hlen hv1 hv2 hn hn1' hlt hm hin hil hrl hi2; omega)) (fun tk => by walk_at "put") (fun tk => by walk_at "put") ?_
      intro tk io2 h9 t9 hio2 FJ2
      refine C_Tuple (C_spliced_more (C_Call_Name (ld FJ2 (by walk_at "mem") ?_)))
      refine C_callr hfd (spliced_more (ld FJ2 (by walk_at "mem") (spliced_none ⟨FJ2.kept _ _ (hKK _ _ (hKle2 _ _ (hKle _ _ hf))), ?_⟩)))
      refine (hkv i x _ hx hk1) (A.deeper env) _ _ s h9 t9 (hr.deeper (by decide)) (fun b o e => FJ2.kept _ _ (hKK _ _ (hKle2 _ _ (hKle _ _ e)))) ?_
      intro tk2 h10 t10 hk10
      have FJ3 := FJ2.keeps hk10
      refine C_spliced_more (wpC_of (ld FJ3 (by walk_at "mem") ?_))
      refine C_spliced_more (wpC_of (ld FJ3 (by walk_at "mem") ?_))
      refine C_spliced_none ?_
      refine wpC_of (wpAny_newTuple ?_ (by simp; rw [sizeLine_eq]; decide))
      have FJ4 := FJ3.push (tup [.bytes (ks.getD i []).toArray tk2, .int (-(i : Int)) tk, x] 0)
      have hTn := FJ4.nokey (.head _)
      show wpAny _ _ (call (.builtin "list.append") [.ref acc, .ref h10.objs.size]) _ _ (up s (h10.push (tup [.bytes (ks.getD i []).toArray tk2, .int (-(i : Int)) tk, x] 0)) t10)
      generalize h10.push (tup [.bytes (ks.getD i []).toArray tk2, .int (-(i : Int)) tk, x] 0) = h11 at FJ4 ⊢
      generalize h10.objs.size = T at FJ4 hTn ⊢
      refine app_l (pos := default) FJ4 (by walk_at "upd") (by (clear hlen hv1 hn hn1' hlt hm hin hi1 hi2; omega)) ?_
      intro h12 FJ5
      have FJ6 := FJ5.freeze
      rw [show -(i : Int) + -1 = -((i + 1 : Nat) : Int) by (clear hlen hv1 hv2 hn hn1' hlt hm hin hil hrl hi1 hi2; lia), show ((n.toNat : Int) - (i : Int) - 1) = (n.toNat : Int) - ((i + 1 : Nat) : Int) by (clear hlen hv1 hv2 hn hn1' hlt hm hin hil hrl hi1 hi2; lia)] at FJ6
      refine hZ1 _ ⟨n.toNat + vs.length + 1 - (i + 1), _, _, rfl, by (clear hlen hv1 hv2 hn1' hlt hin hrl hi2; omega), fun _ kk => kk (i + 1) io2 _ _ _ _ _ _ _ rfl (by exact hi1) (by exact hi2) hio2 (hKK.trans (le_add hTn)) (by simp [hrl]) (fun j hj => ?_) FJ6⟩
      rcases Nat.lt_or_ge j i with hji | hji
      · rw [at_app_l (by exact Nat.lt_of_lt_of_eq hji hrl.symm)]; exact (hent j hji).mono (le_add hTn)
      · obtain rfl : j = i := by (clear hlen hv1 hv2 hn hn1' hlt hm hin hil hrl hi1 hi2; lia)
        rw [at_app_r (by exact hrl)]
        have hxg : vs.getD j .none = x := by rw [List.getD_eq_getElem?_getD, hx]; rfl
        rw [hxg]
        exact ⟨T, tk2, tk, 0, rfl, add_self _ _ _⟩
    · refine nx_zip_end hA FJ hio hKl (by (clear hlen hv1 hv2 hn hn1' hlt hm hil hrl; omega)) ?_
      intro io2 h9 t9 hio2 FK
      refine hD1 _ (CompOut.mk FK (hKK _ _ (add_self _ _ _)) _ (List.Perm.refl _) ⟨_, by walk_at "put", ?_⟩)
      intro h10 t10 FO
      clear FK FJ hio
      have hK2le : KLe K (drp K' env.locals) := fun b o e => by
        have hb : b ≠ env.locals := fun z => by rw [z, hkL] at e; cases e
        unfold drp; rw [if_neg hb]; exact hKK _ _ (hKle2 _ _ e)
      have hent2 : ∀ j, j < rv.length → EntAt (drp K' env.locals) (at' rv j) ⟨ks.getD j [], if false then (j : Int) else -(j : Int), vs.getD j .none⟩ := fun j hj => by
        obtain ⟨a1, a2, a3, a4, a5, a6⟩ := hent j (by exact Nat.lt_of_lt_of_eq hj hrl)
        refine ⟨a1, a2, a3, a4, a5, ?_⟩
        have hb : a1 ≠ env.locals := fun z => by rw [z, hKK _ _ (add_self _ _ _)] at a6; exact hoLd _ _ (Option.some.inj a6)
        unfold drp; rw [if_neg hb]; exact a6
      clear hent
      generalize drp K' env.locals = K2 at FO hK2le hent2
      have hKl2 : K2 l = some (lst vs nl) := hK2le _ _ (hKle _ _ hl)
      clear hKl hKK hKle2 hoLd hoL
      refine C_execs_cons ?_
      refine C_If ?_
      refine K_not ?_
      refine K_value ?_
      refine ld ‹_› (by walk_at "mem") ?_
      refine tru_l (FO.isIn (by walk_at "mem")) (by (clear hlen hv1 hn hn1' hlt hm hin hgo; omega)) ?_
      intro t11
      refine ite_b (fun hb => ?_) (fun hb => ?_)
      · have hrv0 : rv = [] := by simpa using hb
        refine C_execs_cons ?_
        refine C_Return ?_
        refine C_ofE rfl ?_
        refine ld ‹_› (by walk_at "mem") ?_
        refine q acc c h10 _ ?_ (fun b o e => FO.kept _ _ (hK2le _ _ (hback b o e)))
        rw [FO.isIn (a := acc) (.tail _ (.head _)), hrv0]
        have hi0 : i = 0 := by rw [← hrl, hrv0]; rfl
        have hn0 : n.toNat = 0 := by (clear hlen hv2 hn hn1' hlt hm hil hrl; lia)
        rw [hn0]; rfl
      · have hrv0 : 0 < rv.length := by
          rcases Nat.eq_zero_or_pos rv.length with z | z
          · rw [List.length_eq_zero_iff] at z; rw [z] at hb; simp at hb
          · exact z
        refine C_execs_nil ?_
        refine C_execs_cons ?_
        obtain ⟨En, hmap⟩ := Ents.init (u := false) (ks := ks) (vs := vs) (n := n.toNat) (by exact Nat.le_trans (Nat.le_of_eq hrl) hin) hent2
        generalize (fun v => rv.idxOf v) = g0 at En hmap
        generalize (fun j : Nat => if false then (j : Int) else -(j : Int)) = o0 at En
        refine C_Expr ?_ FO.inter
        refine wpC_of ?_
        refine K_Call ?_
        refine ldg ‹_› ‹_› (by walk_at "mem") (by walk_at "mem") ?_
        refine K_callf ‹_› (by walk_at "mem") ?_
        refine K_more ?_
        refine ld ‹_› (by walk_at "mem") ?_
        refine spliced_none ?_
        refine And.intro (Fm.sub ‹_›) ?_
        refine heapify_walk (K₁ := K2) (lt := ltG (bfU false ks) g0) hBb FO.sub0 (hr.deeper (by decide)) (FO.isIn (a := acc) (by walk_at "mem")) (FO.no0 (a := acc) (by walk_at "mem")) FO.kept (FO.nokey (a := acc) (by walk_at "mem")) (by (clear hlen hv1 hn hn1' hlt hm hin hgo hrv0; omega)) (fun x hx y hy => En.cmpOk hx hy) ?_
        intro h11 t12 e1 e2
        have FO2 := FO.upd (by walk_at "upd") e1 e2
        have S0 := HpSt.init En hmap
        have hrl0 : (heapifyTo (ltG (bfU false ks) g0) rv (rv.length / 2)).length = rv.length := (heapify_ok (ltG_swo (bfU_sto false ks) g0) rv).2.length_eq
        generalize heapifyTo (ltG (bfU false ks) g0) rv (rv.length / 2) = rv0 at FO2 S0 hrl0
        clear FO En hmap hent2 e1 e2
        have hipos : 0 < i := by exact Nat.lt_of_lt_of_eq hrv0 hrl
        rw [hrl] at hrl0 S0
        clear hrl hb hrv0
        have hrv0 : 0 < rv0.length := by exact Nat.lt_of_lt_of_eq hipos hrl0.symm
        clear rv
        replace S0 : HpSt K2 false ks vs rv0 g0 o0 i (-n) := by
          have e : (if false = true then ((n.toNat : Nat) : Int) else -((n.toNat : Nat) : Int)) = -n := by simp; (clear hv1 hv2 hn hn1' hlt hm hil hrl0 hrv0; lia)
          rw [e] at S0; exact S0
        obtain ⟨T0, b0, o0', n0, eT0, hT0⟩ := (S0.en.ents _ (at_mem hrv0)).2
        have hrv00 : rv0[0]? = some (.ref T0) := by rw [List.getElem?_eq_getElem hrv0, ← eT0]; unfold at'; simp [List.getD, hrv0]
        refine C_execs_cons ?_
        refine C_Assign_Name ?_
        refine wpC_of ?_
        refine K_Sub ?_
        refine K_Sub ?_
        refine ld ‹_› (by walk_at "mem") ?_
        refine c_int ?_; intro _ _
        refine gi_l 0 (FO2.isIn (by walk_at "mem")) rfl hrv00 (by (clear hlen hv1 hn hn1' hlt hm hin hgo hipos hrv0; omega)) ?_ rfl
        refine c_int ?_; intro _ _
        refine gi_tup 0 (FO2.kept _ _ hT0) rfl rfl (by simp) ?_ rfl
        refine wpC_of ?_
        refine stn ‹_› (by walk_at "put") ?_; intro _ _ _
        refine C_execs_cons ?_
        refine C_Assign_Name ?_
        refine C_ofE rfl ?_
        refine K_UnaryOp ?_
        refine ld ‹_› (by walk_at "mem") ?_
        refine u_neg ?_; intro _ _
        refine wpC_of ?_
        refine stn ‹_› (by walk_at "put") ?_; intro _ _ _
        refine C_execs_cons ?_
        refine C_Assign_Name ?_
        refine C_ofE rfl ?_
        refine ldg ‹_› ‹_› (by walk_at "mem") (by walk_at "mem") ?_
        refine wpC_of ?_
        refine stn ‹_› (by walk_at "put") ?_; intro _ _ _
        refine C_execs_cons ?_
        rename_i h13 t13 F13 tkq tq h14 t14 F14 h15 t15 F15
        clear FO2 F13 F14
        refine C_for ?_
        refine ld ‹_› (by walk_at "mem") ?_
        refine iter_dead (F15.isIn (.head _)) hio2.cls ?_
        refine C_forLoop (fun m hh => ∀ P : Prop, (∀ (i' : Nat) (io : Obj) (K' : KMap) (rv : List Value) (c : Nat) (g : Value → Nat) (o : Nat → Int) (ord : Int) (tkT tkO : Tok) (v1 v2 v3 v4 : Option Value), m = vs.length - i' → i' ≤ vs.length → LiSt io l vs.length i' → KLe K2 K' → rv.length = i → HpSt K' false ks vs rv g o i' ord → Fm K₀ K' env [Str.ofString "iter", Str.ofString "object", Str.ofString "max", Str.ofString "len", Str.ofString "TypeError", Str.ofString "AttributeError", Str.ofString "sorted", Str.ofString "zip", Str.ofString "range", Str.ofString "heapify", Str.ofString "heapreplace"]
              [vr "n" (.int n tn), vr "iterable" (.ref l), vc "key" ck (.ref f), vr "it" (.ref it), nv "sentinel", vr "result" (.ref acc), vr "size" (.int (vs.length : Nat) tkz), (Str.ofString "elem", none, v1), vr "top" (.bytes (ks.getD (g (at' rv 0)) []).toArray tkT), vr "order" (.int ord tkO), vr "_heapreplace" (.ref 28), (Str.ofString "_order", none, v2), (Str.ofString "k", none, v3), (Str.ofString "_elem", none, v4)]
              [(it, io), (acc, lst rv c)] hh → P) → P) (vs.length - i)
          (fun _ kk => kk i io2 K2 rv0 c g0 o0 _ _ _ _ _ _ _ rfl hil hio2 (KLe.refl _) hrl0 S0 F15) ?_
        clear F15 S0 hrl0 hrv0 hrv00 hT0 eT0 rv0 hio2 g0 o0 io2
        rintro m h16 t16 B2 hB2 D2 hD2 hEx
        refine hEx _ ?_
        clear hEx
        rintro i' io K' rv c g o ord tkT tkO v1 v2 v3 v4 hm' hil' hio hKK hrl S FJ
        have hKl : K' l = some (lst vs nl) := hKK _ _ hKl2
        have hrv0 : 0 < rv.length := by exact Nat.lt_of_lt_of_eq hipos hrl.symm
        rcases Nat.lt_or_ge i' vs.length with hlt | hge
        · obtain ⟨x, hx⟩ : ∃ x, vs[i']? = some x := ⟨_, List.getElem?_eq_getElem hlt⟩
          have hxg : vs.getD i' .none = x := by rw [List.getD_eq_getElem?_getD, hx]; rfl
          have hk1 : ks[i']? = some (ks.getD i' []) := by rw [List.getElem?_eq_getElem (by exact Nat.lt_of_lt_of_eq hlt hlen.symm)]; simp [List.getD, List.getElem?_eq_getElem (show i' < ks.length by exact Nat.lt_of_lt_of_eq hlt hlen.symm)]
          refine nx_lh FJ (hio.live hlt) (FJ.kept _ _ hKl) hx ?_
          intro io3 h17 hio3 FJ2
          refine wpAny_of_eq (a := ()) rfl ?_
          refine asg FJ2 (by walk_at "put") ?_
          intro h18 t18 FJ3
          clear FJ FJ2
          refine C_execs_cons ?_
          refine C_Assign_Name ?_
          refine C_Call_Name (ld FJ3 (by walk_at "mem") ?_)
          refine C_callr hfd (spliced_more (ld FJ3 (by walk_at "mem") (spliced_none ⟨FJ3.kept _ _ (hKK _ _ (hK2le _ _ (hKle _ _ hf))), ?_⟩)))
          refine (hkv i' x _ hx hk1) (A.deeper env) _ _ s h18 t18 (hr.deeper (by decide)) (fun b o e => FJ3.kept _ _ (hKK _ _ (hK2le _ _ (hKle _ _ e)))) ?_
          intro tk2 h19 t19 hk19
          have FJ4 := FJ3.keeps hk19
          clear FJ3
          refine wpC_of (stn FJ4 (by walk_at "put") ?_)
          intro h20 t20 FJ5
          clear FJ4
          refine C_execs_cons ?_
          refine C_If ?_
          refine K_tcmp ?_
          refine ld ‹_› (by walk_at "mem") ?_
          refine ld ‹_› (by walk_at "mem") ?_
          refine lt_bytes (s := up s h20 t20) ?_
          refine wpAny_truthy_bool ?_
          refine ite_b (fun hb => ?_) (fun hb => ?_)
          · have ht : btU false (ks.getD i' []) (ks.getD (g (at' rv 0)) []) = true := by simpa [btU] using hb
            refine C_execs_cons ?_
            refine C_Expr ?_ FJ5.inter
            refine wpC_of ?_
            refine wpAny_Call_NameR (ld FJ5 (by walk_at "mem") ?_)
            refine callf hBb (by walk_at "mem") (spliced_more (ld FJ5 (by walk_at "mem") (spliced_more ?_)))
            refine mk_tup (spliced_more (ld FJ5 (by walk_at "mem") (spliced_more (ld FJ5 (by walk_at "mem") (spliced_more (ld FJ5 (by walk_at "mem") (spliced_none ?_)))))))
            refine (mk_inT FJ5 (by simp) ?_)
            intro T h21 hTn hTk FJ6
            have hTK := FJ6.nokey (a := T) (.head _)
            have FJ7 := FJ6.freeze
            clear FJ5 FJ6
            have hle : KLe K' (add K' T (tup [.bytes (ks.getD i' []).toArray tk2, .int ord tkO, x] 0)) := le_add hTK
            have hEn : EntAt (add K' T (tup [.bytes (ks.getD i' []).toArray tk2, .int ord tkO, x] 0)) (.ref T) ⟨ks.getD i' [], ord, vs.getD i' .none⟩ := by
              rw [hxg]; exact ⟨T, tk2, tkO, 0, rfl, add_self _ _ _⟩
            have hnv : Value.ref T ∉ rv := fun hm => by
              obtain ⟨_, a1, _, _, _, a5, a6⟩ := S.en.ents _ hm
              cases a5
              rw [hTK] at a6; cases a6
            generalize add K' T (tup [.bytes (ks.getD i' []).toArray tk2, .int ord tkO, x] 0) = K3 at FJ7 hle hEn
            have En2 := (S.en.ge hle).add hnv hEn
            have S2 := (S.ge hle).repl hrv0 hnv hEn ht
            refine spliced_none ⟨FJ7.sub0, ?_⟩
            refine heapreplace_walk (K₁ := K3) (lt := ltG (bfU false ks) fun x => if x = Value.ref T then i' else g x) hBb FJ7.sub0 (hr.deeper (by decide)) (FJ7.isIn (a := acc) (by walk_at "mem")) (FJ7.no0 (a := acc) (by walk_at "mem")) FJ7.kept (FJ7.nokey (a := acc) (by walk_at "mem")) (by (clear hlen hv1 hn hn1' hm hin hgo hipos hm' hil' hrv0 hlt hnv; omega)) hrv0 (fun x hx y hy => En2.cmpOk hx hy) ?_
            intro h22 t22 e1 e2
            have FJ8 := FJ7.upd (by walk_at "upd") e1 e2
            have hrl2 : (siftup (ltG (bfU false ks) fun x => if x = Value.ref T then i' else g x) (rv.set 0 (.ref T)) 0).length = i := by rw [siftup_length, List.length_set]; exact hrl
            clear FJ7 e1 e2 En2
            generalize siftup (ltG (bfU false ks) fun x => if x = Value.ref T then i' else g x) (rv.set 0 (.ref T)) 0 = rv2 at FJ8 S2 hrl2
            generalize (fun x => if x = Value.ref T then i' else g x) = g2 at S2
            generalize (fun j => if j = i' then ord else o j) = o2 at S2
            have hrv2 : 0 < rv2.length := by exact Nat.lt_of_lt_of_eq hipos hrl2.symm
            obtain ⟨T0, b0, o0', n0, eT0, hT0⟩ := (S2.en.ents _ (at_mem hrv2)).2
            have hrv00 : rv2[0]? = some (.ref T0) := by rw [List.getElem?_eq_getElem hrv2, ← eT0]; unfold at'; simp [List.getD, hrv2]
            refine C_execs_cons ?_
            refine wpC_of ?_
            refine assign_tup3 ?_
            refine K_Sub ?_
            refine ld ‹_› (by walk_at "mem") ?_
            refine c_int ?_; intro _ _
            refine gi_l 0 (FJ8.isIn (by walk_at "mem")) rfl hrv00 (by (clear hlen hv1 hn hn1' hm hin hgo hipos hm' hil' hrl hrv0 hlt hnv hrv2; omega)) ?_ rfl
            refine asg3 hA FJ8 (FJ8.kept _ _ hT0) (by walk_at "put") (by walk_at "put") (by walk_at "put") ?_
            intro h23 t23 FJ9
            clear FJ8
            refine C_execs_cons ?_
            refine wpC_of ?_
            refine K_aug ?_
            refine ldn ‹_› (by walk_at "mem") ?_
            refine c_int ?_; intro _ _
            refine i_sub ?_
            intro tk24 t24'
            refine st ‹_› (by walk_at "put") ?_; intro _ _ _
            refine C_execs_nil ?_
            refine C_execs_nil ?_
            rename_i h24 t24 F24
            exact hB2 _ _ ⟨vs.length - (i' + 1), _, _, rfl, by (clear hlen hv1 hv2 hn hn1' hm hin hil hgo hipos hil' hrl hrv0 hnv hrl2 hrv2; omega), fun _ kk => kk (i' + 1) io3 K3 rv2 c g2 o2 (ord - 1) _ _ _ _ _ _ rfl (by exact hlt) (.inl hio3) (hKK.trans hle) hrl2 S2 F24⟩
          · have ht : btU false (ks.getD i' []) (ks.getD (g (at' rv 0)) []) = false := by simpa [btU] using hb
            refine C_execs_nil ?_
            refine C_execs_nil ?_
            exact hB2 _ _ ⟨vs.length - (i' + 1), _, _, rfl, by (clear hlen hv1 hv2 hn hn1' hm hin hil hgo hipos hil' hrl hrv0; omega), fun _ kk => kk (i' + 1) io3 K' rv c g o ord _ _ _ _ _ _ rfl (by exact hlt) (.inl hio3) hKK hrl (S.keep hrv0 ht) FJ5⟩
        · obtain rfl : i' = vs.length := by exact Nat.le_antisymm hil' hge
          refine nx_li_end (fun o' => [(it, o'), (acc, lst rv c)]) hA FJ (hio.isEnd hge) (fun _ => .head) (FJ.kept _ _ hKl) ?_
          intro io3 h17 hd FK
          clear FJ
          have FK2 := FK.perm (ws' := [(acc, lst rv c), (it, io3)]) (List.Perm.swap _ _ _)
          clear FK
          refine hD2 _ ?_
          refine C_execs_cons ?_
          refine C_Expr ?_ FK2.inter
          refine wpC_of ?_
          refine meth_kw PySem.F.slot_list_sort PySem.F.type_list_sort (ld FK2 (by walk_at "mem") ⟨_, _, _, rfl, FK2.isIn (.head _), c_bool ?_⟩)
          refine sort_rev_call (lt := fun x y => bfU false ks (g y) (g x)) (ltG_swo (bfU_sto false ks) g) FK2 (by (clear hlen hv1 hn hn1' hlt hm hin hgo hipos hrv0 hm' hil' hge; omega)) (fun x hx y hy => ?_) ?_
          · obtain ⟨e, f', a1, a2, a3, a4⟩ := S.en.cmp hx hy
            exact ⟨e, f', a1, a2, a3, a4.symm⟩
          intro jdx c' h18 j1 j2 FS
          have hdone := (hlen ▸ S : HpSt K' false ks vs rv g o ks.length ord).done hrise j1 j2
          refine C_execs_cons ?_
          refine C_Return ?_
          have hjl : jdx.length = rv.length := by simpa using j1.length_eq
          refine elems_ret (itm := fun v => vs.getD (g v) .none) hA FS (by walk_at "mem") (by simp; (clear hlen hv1 hn hn1' hlt hm hin hgo hipos hrv0 hm' hil' hge; lia)) (fun v hv => ?_) ?_
          · obtain ⟨a, ha, rfl⟩ := List.mem_map.mp hv
            have : rv.getD a Value.none ∈ rv := by
              have := List.mem_range.mp (j1.mem_iff.mp ha)
              simp [List.getD, this]
            exact ⟨_, (S.en.ents _ this).2, rfl⟩
          · intro L c'' h19 t19 FR
            refine q L c'' h19 t19 ?_ (fun b o e => FR.kept _ _ (hKK _ _ (hK2le _ _ (hback b o e))))
            rw [FR.isIn (a := L) (.head _), hdone, hrl]
            have hil2 : idx.length = vs.length := by rw [hrise.pm.length_eq, List.length_range, hlen]
            have : idx.take i = idx.take n.toNat := by
              by_cases e : i = n.toNat
              · rw [e]
              · have : i = vs.length := by (clear hlen hv1 hv2 hn hn1' hlt hm hipos hrl hrv0 hm' hil' hge hjl hil2; lia)
                rw [List.take_of_length_le (by (clear hlen hv1 hv2 hn hn1' hlt hm hin hil hgo hipos hrl hrv0 hm' hil' hge hjl e; lia)), List.take_of_length_le (by (clear hlen hv1 hv2 hn hn1' hlt hm hil hgo hipos hrl hrv0 hm' hil' hge hjl e; lia))]
            rw [this]
end Mine
end
section
open PySem PySem.W PyProof.Rows PySem.SeqAt
set_option Elab.async false
set_option maxRecDepth 100000
set_option linter.unusedVariables false
namespace Mine
section
variable {prog : Program} {w : World} {M : Model} {A : Around} {E : Value → Shared → Prop} {s : Shared} {t : Nat} {K₀ K : KMap} {env : Env} {gs : List Str} {lk : List Var} {ws ws' : List (Addr × Obj)} {h : Heap}
theorem eq_same {a b : Addr} {xs ys : List Value} {n m : Nat} {Q : Value → Shared → Prop} (hu : A.units < cLine) (h1 : h.get? a = some (lst xs n)) (h2 : h.get? b = some (lst ys m)) (hl : xs.length = ys.length) (he : ∀ (j : Nat) x y, xs[j]? = some x → ys[j]? = some y → EqAt A.in1 (up s h t) x y true)
    (q : Q (.bool true) (up s h t)) : wpAny (model prog w) A (compareOp .Eq (.ref a) (.ref b)) Q E (up s h t) := by
  refine richCompare_meets_room (s := up s h t) (op := .Eq) ⟨_, h1, rfl⟩ ⟨_, h2, rfl⟩ PySem.F.slot_list_eq PySem.F.entry_list_eq (PySem.F.args_list_eq_2 _ _) (list_eqAt a b xs.toArray ys.toArray n m none none #[] #[] (by simpa using hl) (fun _ => true)) ?_ hu
  refine ⟨h1, h2, fun j j1 j2 => he j _ _ (by simp at j1; simp [j1]) (by simp at j2; simp [j2]), ?_⟩
  refine ⟨(fun x => nomatch x), ?_⟩
  rw [show ((List.range xs.toArray.size).all fun _ => true) = true by simp]
  exact q
theorem ne_same {a b : Addr} {xs ys : List Value} {n m : Nat} {Q : Value → Shared → Prop} (hu : A.units < cLine) (h1 : h.get? a = some (lst xs n)) (h2 : h.get? b = some (lst ys m)) (hl : xs.length = ys.length) (he : ∀ (j : Nat) x y, xs[j]? = some x → ys[j]? = some y → EqAt A.in1 (up s h t) x y true)
    (q : Q (.bool false) (up s h t)) : wpAny (model prog w) A (compareOp .NotEq (.ref a) (.ref b)) Q E (up s h t) := by
  refine richCompare_meets_room (s := up s h t) (op := .NotEq) ⟨_, h1, rfl⟩ ⟨_, h2, rfl⟩ PySem.F.slot_list_ne PySem.F.entry_list_ne (PySem.F.args_list_ne_2 _ _) (list_neAt a b xs.toArray ys.toArray n m none none #[] #[] (by simpa using hl) (fun _ => true)) ?_ hu
  refine ⟨h1, h2, fun j j1 j2 => he j _ _ (by simp at j1; simp [j1]) (by simp at j2; simp [j2]), ?_⟩
  refine ⟨(fun x => nomatch x), ?_⟩
  rw [show (!(List.range xs.toArray.size).all fun _ => true) = false by simp]
  exact q
end
/-- all that stands, but for the frame's own objects -/
noncomputable def fullK (env : Env) (lk : List Var) (ws : List (Addr × Obj)) (h : Heap) : KMap := fun b => if b ∈ env.locals :: (cellsOf lk ++ ws).map (·.1) then none else h.get? b
theorem Fm.full {K₀ K : KMap} {env : Env} {gs : List Str} {lk : List Var} {ws : List (Addr × Obj)} {h : Heap} (F : Fm K₀ K env gs lk ws h) : Fm K₀ (fullK env lk ws h) env gs lk ws h ∧ KLe K (fullK env lk ws h) := by
  have hno : ∀ b o, K b = some o → b ∉ env.locals :: (cellsOf lk ++ ws).map (·.1) := fun b o e hm => by
    rcases List.mem_cons.mp hm with z | z
    · rw [z, F.kL] at e; cases e
    · obtain ⟨p, hp, rfl⟩ := List.mem_map.mp z
      rw [(F.own p hp).2] at e; cases e
  have hle : KLe K (fullK env lk ws h) := fun b o e => by
    unfold fullK; rw [if_neg (hno b o e)]; exact F.kept b o e
  refine ⟨{ F with base := F.base.trans hle, kept := fun b o e => ?_, kL := ?_, own := fun p hp => ⟨(F.own p hp).1, ?_⟩ }, hle⟩
  · unfold fullK at e; split at e
    · cases e
    · exact e
  · unfold fullK; rw [if_pos (.head _)]
  · unfold fullK; rw [if_pos (.tail _ (List.mem_map_of_mem hp))]
theorem fullK_at {env : Env} {lk : List Var} {ws : List (Addr × Obj)} {h : Heap} {b : Addr} {o : Obj} (e : h.get? b = some o) (hn : b ∉ env.locals :: (cellsOf lk ++ ws).map (·.1)) : fullK env lk ws h b = some o := by
  unfold fullK; rw [if_neg hn]; exact e
/-- what is new since an older heap is none of the frame's own objects -/
theorem Fm.newAt {K₀ K : KMap} {env : Env} {gs : List Str} {lk : List Var} {ws : List (Addr × Obj)} {h h' : Heap} (F : Fm K₀ K env gs lk ws h) {b : Addr} {o : Obj} (hb : h.get? b = none) (e : h'.get? b = some o) : fullK env lk ws h' b = some o := by
  refine fullK_at e fun hm => ?_
  rcases List.mem_cons.mp hm with z | z
  · obtain ⟨x, ex⟩ := F.L_some; rw [← z, hb] at ex; cases ex
  · obtain ⟨p, hp, rfl⟩ := List.mem_map.mp z
    rw [(F.own p hp).1] at hb; cases hb
end Mine
end
section
open PySem PySem.W PyProof.Rows PySem.SeqAt
set_option Elab.async false
set_option maxRecDepth 100000
set_option maxHeartbeats 1000000
set_option linter.unusedVariables false
namespace Mine
theorem cells_frees : ∀ {frees : List Var}, (∀ p ∈ frees, ∃ c v, p = (p.1, some c, some v)) → ∀ p ∈ frees, p.2.1 = none → p.2.2 = none := fun h p hp e => by
  obtain ⟨c, v, z⟩ := h p hp
  rw [z] at e; cases e
def MapEnd (s : Shared) (I : List (Addr × Obj) → List Value → Prop) (K₀ Kc : KMap) (cenv : Env) (gsI : List Str) (lkI : List Var) (p1 p2 : Addr × Obj) (rest : List (Addr × Obj)) (cv : List Value) : Value → Shared → Prop := fun r s' => ∀ P : Prop, (∀ h3 t3 ws3, s' = up s h3 t3 → I ws3 (cv ++ [r]) → Fm K₀ Kc cenv gsI lkI (p1 :: p2 :: (rest ++ ws3)) h3 → P) → P
theorem MapEnd.mk {s : Shared} {I : List (Addr × Obj) → List Value → Prop} {K₀ Kc : KMap} {cenv : Env} {gsI : List Str} {lkI : List Var} {p1 p2 : Addr × Obj} {rest : List (Addr × Obj)} {cv : List Value} {r : Value} {h3 : Heap} {t3 : Nat} (ws3 : List (Addr × Obj)) (hI : I ws3 (cv ++ [r])) (F : Fm K₀ Kc cenv gsI lkI (p1 :: p2 :: (rest ++ ws3)) h3) : MapEnd s I K₀ Kc cenv gsI lkI p1 p2 rest cv r (up s h3 t3) := fun _ k => k _ _ _ rfl hI F
def MapIn (prog : Program) (w : World) (A : Around) (s : Shared) (K₀ : KMap) (env : Env) (gs : List Str) (lk : List Var) (x : Str) (elt : PySem.Expr) (frees : List Var) (rest : List (Addr × Obj)) (gsI : List Str) (I : Nat → List (Addr × Obj) → List Value → Prop) (Q : Value → Shared → Prop) (v : Value) (s₁ : Shared) : Prop := ∀ P : Prop, (∀ l vs n h1 t1 K1 ws1, v = .ref l → s₁ = up s h1 t1 → Fm K₀ K1 env gs lk ws1 h1 → K1 l = some (lst vs n) → vs.length < 1000 → I 0 ws1 [] → (∀ (i : Nat) v cv c ic io acc cenv Kc h2 t2 ws2, vs[i]? = some v → I i ws2 cv → cv.length = i → KLe K1 Kc → Fm K₀ Kc cenv gsI ((x, none, some v) :: frees) ((ic, io) :: (acc, lst cv c) :: (rest ++ ws2)) h2 →
        wpC (model prog w) A (eval elt cenv) (MapEnd s (I (i + 1)) K₀ Kc cenv gsI ((x, none, some v) :: frees) (ic, io) (acc, lst cv c) rest cv) fno (up s h2 t2)) → (∀ acc c cv ws2 h3 t3, I vs.length ws2 cv → cv.length = vs.length → Fm K₀ K1 env gs lk ((acc, lst cv c) :: ws2) h3 → Q (.ref acc) (up s h3 t3)) → P) → P
theorem MapIn.mk {prog : Program} {w : World} {A : Around} {s : Shared} {K₀ : KMap} {env : Env} {gs : List Str} {lk : List Var} {x : Str} {elt : PySem.Expr} {frees : List Var} {rest : List (Addr × Obj)} {gsI : List Str} {I : Nat → List (Addr × Obj) → List Value → Prop} {Q : Value → Shared → Prop} {h1 : Heap} {t1 : Nat} {K1 : KMap} {ws1 : List (Addr × Obj)} (l : Addr) (vs : List Value) (n : Nat) (a0 : Fm K₀ K1 env gs lk ws1 h1) (a1 : K1 l = some (lst vs n)) (a2 : vs.length < 1000) (a3 : I 0 ws1 []) (a4 : (∀ (i : Nat) v cv c ic io acc cenv Kc h2 t2 ws2, vs[i]? = some v → I i ws2 cv → cv.length = i → KLe K1 Kc → Fm K₀ Kc cenv gsI ((x, none, some v) :: frees) ((ic, io) :: (acc, lst cv c) :: (rest ++ ws2)) h2 →
        wpC (model prog w) A (eval elt cenv) (MapEnd s (I (i + 1)) K₀ Kc cenv gsI ((x, none, some v) :: frees) (ic, io) (acc, lst cv c) rest cv) fno (up s h2 t2))) (a5 : (∀ acc c cv ws2 h3 t3, I vs.length ws2 cv → cv.length = vs.length → Fm K₀ K1 env gs lk ((acc, lst cv c) :: ws2) h3 → Q (.ref acc) (up s h3 t3))) : MapIn prog w A s K₀ env gs lk x elt frees rest gsI I Q (.ref l) (up s h1 t1) := fun _ k => k l vs n _ _ _ _ rfl rfl a0 a1 a2 a3 a4 a5
/-- a comprehension over a kept list, turn by turn -/
theorem C_map {prog : Program} {w : World} {A : Around} {E : Value → Shared → Prop} {s : Shared} {t : Nat} {K₀ K : KMap} {env : Env} {gs : List Str} {lk : List Var} {ws : List (Addr × Obj)} {h : Heap} {x : Str} {px pos : Pos} {elt iter : PySem.Expr} {scope : Scope} {Q : Value → Shared → Prop}
    (frees : List Var) (rest : List (Addr × Obj)) (gsI : List Str) (I : Nat → List (Addr × Obj) → List Value → Prop) (hA : A.handled = none) (F : Fm K₀ K env gs lk ws h)
    (ok : innerB scope.names (((x, none, none) :: frees : List Var).map fun p => (p.1, p.2.1.isSome)) gsI = true) (hfr : ∀ p ∈ frees, ∃ c v, p = (p.1, some c, some v)) (hp : (cellsOf lk).Perm (cellsOf frees ++ rest)) (hmem : ∀ p ∈ frees, p ∈ lk)
    (k : wpC (model prog w) A (eval iter env) (MapIn prog w A s K₀ env gs lk x elt frees rest gsI I Q) E (up s h t))
    (hkind : scope.kind = .function := by rfl) (hfs : ∀ x, foldedSetIterable iter env x = pure x := by intro _; rfl) :
    wpC (model prog w) A (eval (.ListComp elt [⟨.Name x px, iter, [], 0⟩] scope pos) env) Q E (up s h t) := by
  refine C_ListComp ((x, none, none) :: frees) gsI F ok (fun p hp' c hc => ?_) ?_ hkind hfs
  · rcases List.mem_cons.mp hp' with rfl | hp'
    · cases hc
    · obtain ⟨c', v', z⟩ := hfr p hp'
      have := hmem p hp'
      rw [z] at hc this; cases hc
      exact ⟨_, this⟩
  refine wpC_mono k (fun v s₁ hv => ?_) fun _ _ e => e
  refine hv _ ?_
  clear hv
  rintro l vs n h1 t1 K1 ws1 rfl rfl F1 hl hlen hI turn fin
  refine wpC_of (iter_l F1 (F1.kept _ _ hl) ?_)
  intro ic io h2 hio F2
  have hkL := F2.kL
  have hp2 : (cellsOf lk ++ (ic, io) :: ws1).Perm (cellsOf ((x, none, none) :: frees : List Var) ++ ((ic, io) :: (rest ++ ws1))) := by
    show (cellsOf lk ++ (ic, io) :: ws1).Perm (cellsOf frees ++ ((ic, io) :: (rest ++ ws1)))
    refine (List.Perm.append_right _ hp).trans ?_
    rw [List.append_assoc]
    exact List.Perm.append_left _ List.perm_middle
  refine (CompIn.mk ((ic, io) :: (rest ++ ws1)) F2 ?_ hp2 (fun h' t' hk' => wpAny_pyIter_listiter (s := up s h' t') ⟨_, hk' _ _ (F2.isIn (.head _)), hio⟩ ⟨rfl, rfl⟩) ?_)
  · intro p hp' hc
    rcases List.mem_cons.mp hp' with rfl | hp'
    · rfl
    · exact cells_frees hfr p hp' hc
  intro acc LL oL h3 hoL FI
  replace FI := FI.perm (List.Perm.swap _ _ _)
  generalize compEnvC _ _ LL env = cenv at FI ⊢
  have hKle : KLe K1 (add K1 env.locals oL) := le_add hkL
  clear F2
  refine C_compLoop1 (fun m hh => ∀ P : Prop, (∀ (i : Nat) (io : Obj) (cv : List Value) (c : Nat) (v : Option Value) (ws2 : List (Addr × Obj)), m = vs.length - i → i ≤ vs.length → IsLI io l i → I i ws2 cv → cv.length = i → Fm K₀ (add K1 env.locals oL) cenv gsI ((x, none, v) :: frees) ((ic, io) :: (acc, lst cv c) :: (rest ++ ws2)) hh → P) → P) (vs.length - 0)
    (fun _ kk => kk 0 io [] 0 none ws1 rfl (Nat.zero_le _) hio hI rfl FI) ?_
  clear FI hio hp2 io
  rintro m h4 t4 Z1 hZ1 D1 hD1 hEx
  refine hEx _ ?_
  clear hEx
  rintro i io cv c v ws2 hm hi hio hIi hcl FJ
  rcases Nat.lt_or_ge i vs.length with hlt | hge
  · obtain ⟨y, hy⟩ : ∃ y, vs[i]? = some y := ⟨_, List.getElem?_eq_getElem hlt⟩
    refine nx_lh FJ hio (FJ.kept _ _ (hKle _ _ hl)) hy ?_
    intro io2 h5 hio2 FJ2
    refine wpAny_of_eq (a := ()) rfl ?_
    refine asg FJ2 .head ?_
    intro h6 t6 FJ3
    refine wpC_mono (turn i y cv c ic io2 acc cenv _ h6 t6 ws2 hy hIi hcl hKle FJ3) (fun r s' hr => ?_) fun _ _ e => e
    refine hr _ ?_
    clear hr
    rintro h7 t7 ws3 rfl hI3 FJ4
    refine app_l (pos := default) FJ4 (.tail .head) (by (clear hm hlt; lia)) ?_
    intro h8 FJ5
    exact hZ1 _ ⟨vs.length - (i + 1), _, _, rfl, by (clear hlen hi hcl; omega), fun _ kk => kk (i + 1) io2 _ _ _ ws3 rfl (by exact hlt) hio2 hI3 (by simp [hcl]) FJ5⟩
  · have hi2 : i = vs.length := by exact Nat.le_antisymm hi hge
    subst hi2
    refine nx_l_end hA FJ hio (FJ.kept _ _ (hKle _ _ hl)) hge ?_
    intro h5 FK
    refine hD1 _ (CompOut.mk FK (add_self _ _ _) ((acc, lst cv c) :: ws2) ?_ ?_)
    · show (cellsOf frees ++ (acc, lst cv c) :: (rest ++ ws2)).Perm (cellsOf lk ++ (acc, lst cv c) :: ws2)
      refine List.Perm.trans ?_ (List.Perm.append_right _ hp.symm)
      rw [List.append_assoc]
      exact List.Perm.append_left _ List.perm_middle.symm
    · intro h6 FO
      rw [drp_add hkL] at FO
      exact fin _ _ _ _ _ _ hIi hcl FO
end Mine
end
section
open PySem PySem.W PyProof.Rows PySem.SeqAt
set_option Elab.async false
set_option maxRecDepth 100000
set_option maxHeartbeats 1000000
set_option linter.unusedVariables false
namespace Mine
abbrev EnX (h : Heap) (e it : Addr) (a : Addr) (f : Bool) (i : Int) (old : Value) : Prop :=
  h.get? e = some { cls := .type "enumerate", dict := none, data := .fields #[rawInt a, .bool f, .ref it, rawInt i, .none, old], slots := #[] }
section
variable {prog : Program} {w : World} {A : Around} {E : Value → Shared → Prop} {s : Shared}
/-- the tuple handed out last still lives: it is not free -/
theorem en_held {e it a : Addr} {f : Bool} {oa : Obj} {i : Int} {old : Value} {Q : Bool → Shared → Prop} (he : EnX s.heap e it a f i old) (ha : s.heap.get? a = some oa)
    (q : ∀ h', EnX h' e it a true i old → Heap.SameBut e s.heap h' → Q false { s with heap := h' }) : wpAny (model prog w) A (Builtin.SmallTypes.ownedTupleIsFree (.ref e)) Q E s := by
  have look : wpAny (model prog w) A (loadIfAlive (Int.toNat (a : Int))) (fun r s' => r = some oa ∧ s' = s) E s := by rw [Int.toNat_natCast]; exact kdx_alive ha ⟨rfl, rfl⟩
  unfold Builtin.SmallTypes.ownedTupleIsFree
  refine wpAny_bind (wpAny_field he rfl rfl (wpAny_bind (wpAny_mono look (fun r s' h' => ?_) fun _ _ x => x)))
  obtain ⟨rfl, rfl⟩ := h'
  cases f
  · exact wpAny_bind (wpAny_field he rfl rfl (wpAny_bind (wpAny_setField_rec he (by simp) fun h' e' s' => wpAny_pure (q h' e' s'))))
  · exact wpAny_bind (wpAny_field he rfl rfl (wpAny_pure (q _ he (.refl _ _))))
/-- what the other objects keep while an enumerate and its iterator go on -/
abbrev But2 (e it : Addr) (h h' : Heap) : Prop := ∀ b o, b ≠ e → b ≠ it → h.get? b = some o → h'.get? b = some o
theorem en_out {e it l a : Addr} {f : Bool} {oa : Obj} {i : Nat} {items : Array Value} {x old : Value} {Q : Option Value → Shared → Prop}
    (he : EnX s.heap e it a f i old) (hit : s.heap.IsListIter it l i) (hl : s.heap.IsList l items) (hx : items[i]? = some x) (hne : e ≠ it) (ha : s.heap.get? a = some oa) (hae : a ≠ e) (hai : a ≠ it)
    (hQ : ∀ h', EnX h' e it a true ((i : Int) + 1) old → h'.IsListIter it l (i + 1) →
      h'.get? s.heap.objs.size = some { cls := .type "tuple", data := .seq #[.int i s.toks, x] } → h'.objs.size = s.heap.objs.size + 1 →
      But2 e it s.heap h' → Q (some (.ref s.heap.objs.size)) { s with heap := h', toks := s.toks + 1 }) :
    wpAny (model prog w) A (pyNext (.ref e)) Q E s := by
  have hT : s.TypeIs (.ref e) "enumerate" := ⟨_, he, rfl⟩
  have top := Heap.lt_size he
  unfold pyNext
  refine wpAny_bind (wpAny_attempt (wpAny_callSpecial?_slot hT F.slot_enumerate_next (wpAny_call_entry F.slot_enumerate_next hT F.entry_enumerate_next ?_ (F.args_enumerate_next_1 _))))
  refine wpAny_bind (wpAny_of_eq rfl (wpAny_bind (wpAny_field he rfl rfl (wpAny_bind (wpAny_nextOf_list_item hit hl hx fun h1 t1 b1 => ?_)))))
  have e1 := (b1.2 e hne).trans he
  refine wpAny_bind (wpAny_field e1 rfl rfl (wpAny_bind (wpAny_field e1 rfl rfl (wpAny_bind (wpAny_mkInt (wpAny_bind (wpAny_setField_rec e1 (by simp) fun h2 e2 b2 => wpAny_bind (wpAny_setField_rec e2 (by simp) fun h3 e3 b3 => wpAny_bind (wpAny_newTuple ?_)))))))))
  have sz : h3.objs.size = s.heap.objs.size := b3.1.trans (b2.1.trans b1.1)
  have k3 : But2 e it s.heap h3 := fun b o n1 n2 g => b3.extBut b o n1 (b2.extBut b o n1 (b1.extBut b o n2 g))
  have t3 : h3.IsListIter it l (i + 1) := (t1.extBut b2.extBut hne.symm).extBut b3.extBut hne.symm
  replace e3 : EnX h3 e it a f ((i : Int) + 1) old := e3
  clear e1 e2 b1 b2 b3 t1
  dsimp only at sz k3 ⊢
  rw [sz]
  have new := Heap.get?_push_size h3 (o := { cls := .type "tuple", data := .seq #[.int i s.toks, x] }) rfl
  have p4 : ∀ b o, h3.get? b = some o → (h3.push { cls := .type "tuple", data := .seq #[.int i s.toks, x] }).get? b = some o := fun b o g => Heap.get?_push_of_some _ g
  have s4 := Heap.size_push h3 { cls := .type "tuple", data := .seq #[.int i s.toks, x] }
  rw [sz] at new s4
  generalize h3.push { cls := .type "tuple", data := .seq #[.int i s.toks, x] } = h4 at new p4 s4
  refine wpAny_bind (en_held (p4 _ _ e3) (p4 _ _ (k3 _ _ hae hai ha)) fun h5 e5 b5 => wpAny_pure ⟨_, rfl, wpAny_pure (hQ h5 e5 ?_ (b5.extBut _ _ (Nat.ne_of_gt top) new) (b5.1.trans s4) fun b o n1 n2 g => b5.extBut b o n1 (p4 _ _ (k3 b o n1 n2 g)))⟩)
  obtain ⟨o, g, r⟩ := t3
  exact ⟨o, b5.extBut _ _ hne.symm (p4 _ _ g), r⟩
theorem en_out_end {e it l a : Addr} {f : Bool} {i : Nat} {items : Array Value} {old : Value} {Q : Option Value → Shared → Prop} (hh : A.handled = none)
    (he : EnX s.heap e it a f i old) (hit : s.heap.IsListIter it l i) (hl : s.heap.IsList l items) (hx : items[i]? = none)
    (q : ∀ h', Heap.ExtBut it s.heap h' → Q none { s with heap := h' }) : wpAny (model prog w) A (pyNext (.ref e)) Q E s := by
  have hT : s.TypeIs (.ref e) "enumerate" := ⟨_, he, rfl⟩
  unfold pyNext
  refine wpAny_bind (wpAny_attempt (wpAny_callSpecial?_slot hT F.slot_enumerate_next (wpAny_call_entry F.slot_enumerate_next hT F.entry_enumerate_next ?_ (F.args_enumerate_next_1 _))))
  refine wpAny_bind (wpAny_of_eq rfl (wpAny_bind (wpAny_field he rfl rfl (wpAny_bind (wpAny_nextOf_list_end hh hit hl hx fun h1 x b1 c1 => ?_)))))
  obtain ⟨o, g, c⟩ := c1
  exact wpAny_bind (wpAny_isInstance ⟨o, g, c⟩ isSubtype_stop (wpAny_pure (q _ b1)))
/-- the enumerate object ahead of item i; S is another object that the tuple handed out is not -/
def EnS (h : Heap) (e it S : Addr) (i : Nat) : Prop := (∃ old, IsEnum h e it i old) ∨ ∃ a f old oa, EnX h e it a f i old ∧ h.get? a = some oa ∧ a ≠ e ∧ a ≠ it ∧ a ≠ S
theorem EnS.keep {h h' : Heap} {e it S : Addr} {i : Nat} (x : EnS h e it S i) (hk : ∀ b o, b ≠ S → h.get? b = some o → h'.get? b = some o) (hI : e ≠ S) : EnS h' e it S i := by
  rcases x with ⟨old, hit⟩ | ⟨a, f, old, oa, hit, ha, h1, h2, h3⟩
  · exact .inl ⟨old, hk _ _ hI hit⟩
  · exact .inr ⟨a, f, old, oa, hk _ _ hI hit, hk _ _ h3 ha, h1, h2, h3⟩
theorem EnS.at {h : Heap} {e it S : Addr} {i : Nat} (x : EnS h e it S i) : ∃ o, h.get? e = some o := by
  rcases x with ⟨old, hit⟩ | ⟨a, f, old, oa, hit, _⟩ <;> exact ⟨_, hit⟩
theorem en_item {e it l S : Addr} {i : Nat} {items : Array Value} {x : Value} {Q : Option Value → Shared → Prop} (hst : EnS s.heap e it S i) (hit : s.heap.IsListIter it l i) (hl : s.heap.IsList l items) (hx : items[i]? = some x) (hne : e ≠ it) (hS : S < s.heap.objs.size)
    (hQ : ∀ h', EnS h' e it S (i + 1) → h'.IsListIter it l (i + 1) → h'.get? s.heap.objs.size = some { cls := .type "tuple", data := .seq #[.int i s.toks, x] } → h'.objs.size = s.heap.objs.size + 1 →
      (∀ b o, b ≠ e → b ≠ it → s.heap.get? b = some o → h'.get? b = some o) → Q (some (.ref s.heap.objs.size)) { s with heap := h', toks := s.toks + 1 }) :
    wpAny (model prog w) A (pyNext (.ref e)) Q E s := by
  have hel : e < s.heap.objs.size := let ⟨_, q⟩ := hst.at; Heap.lt_size q
  have hil : it < s.heap.objs.size := let ⟨_, q, _⟩ := hit; Heap.lt_size q
  rcases hst with ⟨old, he⟩ | ⟨a, f, old, oa, he, ha, h1, h2, h3⟩
  · refine wpAny_pyNext_enum_item he hit hl hx hne fun h' a b c d k => hQ h' (.inr ⟨_, false, x, _, ?_, c, Nat.ne_of_gt hel, Nat.ne_of_gt hil, Nat.ne_of_gt hS⟩) b c d k
    exact a
  · refine en_out he hit hl hx hne ha h1 h2 fun h' a b c d k => hQ h' (.inr ⟨_, true, old, oa, ?_, k _ _ h1 h2 ha, h1, h2, h3⟩) b c d k
    exact a
theorem en_end {e it l S : Addr} {i : Nat} {items : Array Value} {Q : Option Value → Shared → Prop} (hh : A.handled = none) (hst : EnS s.heap e it S i) (hit : s.heap.IsListIter it l i) (hl : s.heap.IsList l items) (hx : items[i]? = none)
    (hQ : ∀ h', Heap.ExtBut it s.heap h' → Q none { s with heap := h' }) : wpAny (model prog w) A (pyNext (.ref e)) Q E s := by
  rcases hst with ⟨old, he⟩ | ⟨a, f, old, oa, he, ha, h1, h2, h3⟩
  · exact wpAny_pyNext_enum_end hh he hit hl hx hQ
  · exact en_out_end hh he hit hl hx hQ
/-- the pairs of places and items -/
def EnPs (vs : List Value) (lo : Addr) (h : Heap) (acc : Array Value) : Prop := ∀ (j : Nat) v, acc[j]? = some v → ∃ a tk x, v = .ref a ∧ vs[j]? = some x ∧ lo ≤ a ∧ h.get? a = some (tup [.int (j : Nat) tk, x] 0)
end
section
variable {prog : Program} {w : World} {A : Around} {s : Shared} {R : Result → Shared → Prop} {vs : List Value}
theorem en_loop {S e it l : Addr} {n lo : Nat} (hh : A.handled = none) (hei : e ≠ it) (hSe : S ≠ e) (hSi : S ≠ it) (hlS : l ≠ S) (hle : l ≠ e) (hli : l ≠ it) (hn : vs.length ≤ sizeLine) (res : Value) {h₁ : Heap} (lS : S < lo) (lE : e < lo) (lI : it < lo)
    (hR : ∀ h' tk acc c, (∀ b o, b ≠ S → b ≠ e → b ≠ it → h₁.get? b = some o → h'.get? b = some o) → h'.get? S = some { cls := .type "list", dict := none, data := .seq acc c, slots := #[] } → acc.size = vs.length → EnPs vs lo h' acc → R (.ok (.ret res)) { s with heap := h', toks := tk }) :
    ∀ (k i : Nat) (h : Heap) (tk c : Nat) (acc : Array Value), vs.length - i = k → i ≤ vs.length → EnS h e it S i → h.IsListIter it l i → h.get? l = some (lst vs n) → (∀ b o, b ≠ S → b ≠ e → b ≠ it → h₁.get? b = some o → h.get? b = some o) →
      h.get? S = some { cls := .type "list", dict := none, data := .seq acc c, slots := #[] } → acc.size = i → EnPs vs lo h acc → lo ≤ h.objs.size →
      codeAny (model prog w) A (.builtin "list.extend.loop" ⟨[.ref S, .ref e, res], []⟩) R { s with heap := h, toks := tk } := by
  intro k
  induction k with
  | zero =>
    intro i h tk c acc hk hi hst hit hl hkeep hS hacc hG hIs
    have hin : i = vs.length := by (clear hei hSe hSi hlS hle hli hn lS lE lI hacc hIs; omega)
    refine codeAny_builtin PySem.F.entry_extend_loop ?_
    rw [Around.under_plainId PySem.F.plain_extend_loop _]
    show wpAny _ A.in1 (pyNext (.ref e) >>= _) _ _ _
    refine wpAny_bind (en_end (s := { s with heap := h, toks := tk }) (A := A.in1) (items := vs.toArray) hh hst hit ⟨_, hl, rfl, _, rfl⟩ (by simp [hin]) fun h' he => ?_)
    refine wpAny_pure (hR h' tk acc c (fun b o h1 h2 h3 e => he b o h3 (hkeep b o h1 h2 h3 e)) (he S _ hSi hS) (by exact hacc.trans hin) fun j v hj => ?_)
    obtain ⟨a, tk', x, e1, e2, e3, e4⟩ := hG j v hj
    exact ⟨a, tk', x, e1, e2, e3, he a _ (Nat.ne_of_gt (Nat.lt_of_lt_of_le lI e3)) e4⟩
  | succ k ih =>
    intro i h tk c acc hk hi hst hit hl hkeep hS hacc hG hIs
    have hlt : i < vs.length := by (clear hei hSe hSi hlS hle hli hn lS lE lI hi hacc hIs; omega)
    obtain ⟨x, hx⟩ : ∃ p, vs[i]? = some p := ⟨vs[i], List.getElem?_eq_getElem hlt⟩
    have hSl : S < h.objs.size := Heap.lt_size hS
    refine codeAny_builtin PySem.F.entry_extend_loop ?_
    rw [Around.under_plainId PySem.F.plain_extend_loop _]
    show wpAny _ A.in1 (pyNext (.ref e) >>= _) _ _ _
    refine wpAny_bind (en_item (s := { s with heap := h, toks := tk }) (S := S) (items := vs.toArray) hst hit ⟨_, hl, rfl, _, rfl⟩ (by simpa using hx) hei hSl fun h' hst' hit' ht hz hkp => ?_)
    dsimp only at ht hz hkp ⊢
    have hS' := hkp S _ hSe hSi hS
    have up : ∀ b o, b ≠ S → h'.get? b = some o → (h'.update S (Obj.mapSeq (·.push (Value.ref h.objs.size)))).get? b = some o := fun b o hb e => (Heap.get?_update_other _ _ (Ne.symm hb)).trans e
    show wpAny _ A.in1 (updateSeq S (·.push (Value.ref h.objs.size)) >>= _) _ _ _
    refine wpAny_bind ?_
    refine wpAny_updateSeq hS' rfl (wpAny_pure ⟨plainId_quiet PySem.F.plain_extend_loop _, ih (i + 1) _ (tk + 1) _ (acc.push (Value.ref h.objs.size)) (by (clear hei hSe hSi hlS hle hli hn lS lE lI hi hacc hIs hSl hz; omega)) hlt (hst'.keep up (Ne.symm hSe))
      (let ⟨o, ho, r⟩ := hit'; ⟨o, up _ _ (Ne.symm hSi) ho, r⟩) (up _ _ hlS (hkp _ _ hle hli hl))
      (fun b o h1 h2 h3 e => up b o h1 (hkp b o h2 h3 (hkeep b o h1 h2 h3 e))) (Heap.get?_update_self _ hS' rfl) (by rw [Array.size_push, hacc]) ?_ ?_⟩) (by rw [hacc]; exact Nat.le_trans hi hn) (by show (acc.push (Value.ref h.objs.size)).size ≤ sizeLine + 1; rw [Array.size_push, hacc]; exact Nat.lt_of_le_of_lt (Nat.le_trans hi hn) (by decide))
    · intro j v hj
      rw [Array.getElem?_push] at hj
      split at hj
      · rename_i ej
        cases hj
        rw [hacc] at ej; subst ej
        exact ⟨_, tk, x, rfl, hx, hIs, up _ _ (Nat.ne_of_gt hSl) ht⟩
      · obtain ⟨a, tk', x', e1, e2, e3, e4⟩ := hG j v hj
        exact ⟨a, tk', x', e1, e2, e3, up a _ (Nat.ne_of_gt (Nat.lt_of_lt_of_le lS e3)) (hkp a _ (Nat.ne_of_gt (Nat.lt_of_lt_of_le lE e3)) (Nat.ne_of_gt (Nat.lt_of_lt_of_le lI e3)) e4)⟩
    · have e : (h'.update S (Obj.mapSeq (·.push (Value.ref h.objs.size)))).get? h.objs.size = _ := up _ _ (Nat.ne_of_gt hSl) ht
      exact Nat.le_of_lt (Nat.lt_of_le_of_lt hIs (Heap.lt_size e))
end
theorem en_nolen : typeLookup (.type "enumerate") "__len__" = pure none := by rw [typeLookup_type, builtinLookup_eq_fast]; kernel_rfl
theorem en_nohint : typeLookup (.type "enumerate") "__length_hint__" = pure none := by rw [typeLookup_type, builtinLookup_eq_fast]; kernel_rfl
section
variable {prog : Program} {w : World} {A : Around} {E : Value → Shared → Prop} {s : Shared} {vs : List Value}
theorem en_call {e it l : Addr} {n : Nat} {old : Value} {Q : Value → Shared → Prop} (hh : A.handled = none) (he : IsEnum s.heap e it 0 old) (hit : s.heap.IsListIter it l 0) (hl : s.heap.get? l = some (lst vs n)) (hei : e ≠ it) (hle : l ≠ e) (hli : l ≠ it) (hn : vs.length ≤ sizeLine)
    (hQ : ∀ h' tk acc c, (∀ b o, b ≠ e → b ≠ it → s.heap.get? b = some o → h'.get? b = some o) → h'.get? s.heap.objs.size = some { cls := .type "list", dict := none, data := .seq acc c, slots := #[] } → acc.size = vs.length → EnPs vs (s.heap.objs.size + 1) h' acc → Q (.ref s.heap.objs.size) { s with heap := h', toks := tk }) :
    wpAny (model prog w) A (call (.type "list") [.ref e]) Q E s := by
  refine callType_codes (Q₁ := fun obj s₁ => obj = .ref s.heap.objs.size ∧ s₁ = { s with heap := s.heap.push { cls := .type "list", data := .seq #[] } }) PySem.F.called_list (PySem.F.typeCall_list_1 _) PySem.F.entry_list_init
    (code_list_new _ ⟨rfl, rfl⟩) fun obj s₁ h₁ => ?_
  obtain ⟨rfl, rfl⟩ := h₁
  have hS : (s.heap.push { cls := .type "list", data := .seq #[] }).get? s.heap.objs.size = some { cls := .type "list", data := .seq #[] } := Heap.get?_push_size _ rfl
  have hel : e < s.heap.objs.size := Heap.lt_size he
  have hil : it < s.heap.objs.size := let ⟨_, q, _⟩ := hit; Heap.lt_size q
  have hll : l < s.heap.objs.size := Heap.lt_size hl
  refine ⟨⟨_, hS, rfl⟩, PySem.F.args_list_init_2 _ _, ?_⟩
  generalize hh1 : s.heap.push { cls := .type "list", data := .seq #[] } = h1 at hS
  have hk1 : ∀ b o, s.heap.get? b = some o → h1.get? b = some o := fun b o e => by rw [← hh1]; exact Heap.get?_push_of_some _ e
  have hz1 : h1.objs.size = s.heap.objs.size + 1 := by rw [← hh1, Heap.size_push]
  clear hh1
  generalize hSS : s.heap.objs.size = S at *
  have hSe : S ≠ e := Nat.ne_of_gt hel
  show wpAny _ _ (do let old ← Builtin.List.listItems (.ref S); Builtin.List.listUpdate (.ref S) (fun _ => #[]); letGo old.toList.reverse; Builtin.List.listExtendWith (.ref S) (.ref e) .none) _ _ _
  refine wpAny_bind ?_
  unfold Builtin.List.listItems
  refine wpAny_bind (wpAny_seqItems hS rfl (wpAny_pure ?_))
  show wpAny _ _ (updateSeq S (fun _ => #[]) >>= fun _ => letGo (#[] : Array Value).toList.reverse >>= fun _ => Builtin.List.listExtendWith (.ref S) (.ref e) .none) _ _ _
  refine wpAny_bind (wpAny_updateSeq hS rfl ?_)
  have hS₂ := Heap.get?_update_self (Obj.mapSeq (fun _ => (#[] : Array Value))) hS rfl
  have oth : ∀ b o, b ≠ S → h1.get? b = some o → (h1.update S (Obj.mapSeq (fun _ => (#[] : Array Value)))).get? b = some o :=
    fun b o hb e => (Heap.get?_update_other _ _ (Ne.symm hb)).trans e
  have hz2 : (h1.update S (Obj.mapSeq (fun _ => (#[] : Array Value)))).objs.size = S + 1 := by rw [(Heap.SameBut.update ..).1, hz1]
  refine wpAny_bind (wpAny_letGo ?_)
  generalize h1.update S (Obj.mapSeq (fun _ => (#[] : Array Value))) = h2 at *
  have he2 : IsEnum h2 e it 0 old := oth _ _ (Ne.symm hSe) (hk1 _ _ he)
  unfold Builtin.List.listExtendWith
  refine wpAny_bind (wpAny_typeOf (T := "enumerate") ⟨_, he2, rfl⟩ ?_)
  have e1 : Builtin.List.listSameRef (.ref S) (.ref e) = false := by simp [Builtin.List.listSameRef, hSe]
  have e2 : (Value.type "enumerate" == Value.type "list") = false := by decide
  have e3 : (Value.type "enumerate" == Value.type "tuple") = false := by decide
  simp only [e1, e2, e3, Bool.or_false, Bool.false_eq_true, if_false]
  refine wpAny_bind (wpAny_pyIter_enum he2 ?_)
  refine wpAny_bind (wpAny_holding ?_)
  unfold Builtin.List.listLengthHint
  refine wpAny_bind (wpAny_specialOf (T := "enumerate") ⟨_, he2, rfl⟩ en_nolen ?_)
  show wpAny _ _ (specialOf (Value.ref e) (Str.ofString "__length_hint__") >>= _) _ _ _
  refine wpAny_bind (wpAny_specialOf (T := "enumerate") ⟨_, he2, rfl⟩ en_nohint ?_)
  refine wpAny_pure ?_
  show wpAny _ _ (rule "list.extend.makes-room" >>= fun _ => Builtin.List.listTouch (.ref S) >>= fun _ => again (.builtin "list.extend.loop" ⟨[.ref S, .ref e, .none], []⟩)) _ _ _
  refine wpAny_bind (wpAny_rule ?_)
  refine wpAny_bind ?_
  show wpAny _ _ (updateSeq S (·.push .none) >>= fun _ => updateSeq S (·.pop)) _ _ _
  refine wpAny_bind (wpAny_updateSeq hS₂ rfl ?_)
  have hS₃ := Heap.get?_update_self (Obj.mapSeq (·.push Value.none)) hS₂ rfl
  refine wpAny_updateSeq (hz := by seq_fits) hS₃ rfl ?_
  have hS₄ := Heap.get?_update_self (Obj.mapSeq (·.pop)) hS₃ rfl
  have oth4 : ∀ b o, b ≠ S → h2.get? b = some o → ((h2.update S (Obj.mapSeq (·.push Value.none))).update S (Obj.mapSeq (·.pop))).get? b = some o := fun b o hb e =>
    (Heap.get?_update_other _ _ (Ne.symm hb)).trans ((Heap.get?_update_other _ _ (Ne.symm hb)).trans e)
  have hz4 : ((h2.update S (Obj.mapSeq (·.push Value.none))).update S (Obj.mapSeq (·.pop))).objs.size = S + 1 := by rw [(Heap.SameBut.update ..).1, (Heap.SameBut.update ..).1, hz2]
  have all : ∀ b o, b ≠ S → s.heap.get? b = some o → ((h2.update S (Obj.mapSeq (·.push Value.none))).update S (Obj.mapSeq (·.pop))).get? b = some o := fun b o hb e => oth4 b o hb (oth b o hb (hk1 b o e))
  refine wpAny_pure ⟨plainId_quiet PySem.F.plain_extend_loop _, ?_⟩
  refine en_loop (A := A.in1) (vs := vs) (s := s) (h₁ := s.heap) (lo := S + 1) (l := l) (n := n) (it := it) hh hei hSe (Nat.ne_of_gt hil) (Nat.ne_of_lt hll) hle hli hn .none (Nat.lt_succ_self _) (Nat.lt_succ_of_lt hel) (Nat.lt_succ_of_lt hil) (fun h' tk acc c hk hS' hsz hG => ?_) vs.length 0 _ _ _ #[] (Nat.sub_zero _) (Nat.zero_le _)
    (.inl ⟨old, all _ _ (Ne.symm hSe) he⟩) (let ⟨o, ho, r⟩ := hit; ⟨o, all _ _ (Nat.ne_of_lt hil) ho, r⟩) (all _ _ (Nat.ne_of_lt hll) hl) (fun b o hb _ _ e => all b o hb e) hS₄ rfl (fun j v hj => by simp at hj) (by rw [hz4]; exact Nat.le_refl _)
  exact ⟨rfl, hQ h' tk acc c (fun b o h2 h3 e => hk b o (fun q => by have z := Heap.lt_size e; rw [q, hSS] at z; exact Nat.lt_irrefl _ z) h2 h3 e) hS' hsz hG⟩
end
section
variable {prog : Program} {w : World} {A : Around} {E : Value → Shared → Prop} {s : Shared} {t : Nat} {K₀ K : KMap} {env : Env} {gs : List Str} {lk : List Var} {ws : List (Addr × Obj)} {h : Heap}
/-- list(enumerate object) -/
theorem list_enum {e it l : Addr} {io : Obj} {vs : List Value} {n : Nat} {Q : Value → Shared → Prop} (hh : A.handled = none) (F : Fm K₀ K env gs lk ((e, eno it 0 .none) :: (it, io) :: ws) h) (hio : IsLI io l 0) (hl : K l = some (lst vs n)) (hn : vs.length < 1000)
    (q : ∀ L tv c h' t', h.get? L = none → tv.length = vs.length → (∀ (j : Nat) v, tv[j]? = some v → ∃ a tk x, v = .ref a ∧ vs[j]? = some x ∧ h.get? a = none ∧ a ≠ L ∧ h'.get? a = some (tup [.int (j : Nat) tk, x] 0)) → Fm K₀ K env gs lk ((L, lst tv c) :: ws) h' → Q (.ref L) (up s h' t')) :
    wpAny (model prog w) A (call (.type "list") [.ref e]) Q E (up s h t) := by
  have hap := F.apart
  simp only [List.map_append, List.map_cons, List.nodup_cons, List.nodup_append, List.mem_cons, not_or] at hap
  have hei : e ≠ it := hap.2.2.1.1.1
  have hle : l ≠ e := fun q => by rw [q, F.nokey (.head _)] at hl; cases hl
  have hli : l ≠ it := fun q => by rw [q, F.nokey (.tail _ (.head _))] at hl; cases hl
  refine en_call (s := up s h t) (vs := vs) hh (F.isIn (.head _)) ⟨io, F.isIn (.tail _ (.head _)), hio.1, hio.2⟩ (F.kept _ _ hl) hei hle hli (by rw [sizeLine_eq]; exact Nat.le_of_lt (Nat.lt_of_lt_of_le hn (by decide))) fun h' tk acc c hk hS hsz hG => ?_
  have hno : ∀ m, h.objs.size ≤ m → h.get? m = none := fun m hm => none_above m hm
  refine q h.objs.size acc.toList c h' tk (hno _ (Nat.le_refl _)) (by simpa using hsz) (fun j v hj => ?_) ?_
  · obtain ⟨a, tk', x, e1, e2, e3, e4⟩ := hG j v (by simpa using hj)
    exact ⟨a, tk', x, e1, e2, hno a (Nat.le_of_lt e3), Nat.ne_of_gt e3, e4⟩
  · have F1 : Fm K₀ K env gs lk ws h := F.drop ((List.sublist_cons_self _ _).trans (List.sublist_cons_self _ _))
    have hkk : ∀ b o, b ≠ e → b ≠ it → h.get? b = some o → h'.get? b = some o := hk
    have F2 : Fm K₀ K env gs lk ws h' := by
      have hKe : K e = none := F.nokey (.head _)
      have hKi : K it = none := F.nokey (.tail _ (.head _))
      have hne : ∀ b ∈ env.locals :: (cellsOf lk ++ ws).map (·.1), b ≠ e ∧ b ≠ it := by
        have hperm : (env.locals :: (cellsOf lk ++ (e, eno it 0 .none) :: (it, io) :: ws).map (·.1)).Perm (e :: it :: env.locals :: (cellsOf lk ++ ws).map (·.1)) := by
          simp only [List.map_append, List.map_cons]
          exact (List.perm_middle (a := e) (l₁ := env.locals :: (cellsOf lk).map (·.1)) (l₂ := it :: ws.map (·.1))).trans (List.Perm.cons _ (List.perm_middle (a := it) (l₁ := env.locals :: (cellsOf lk).map (·.1)) (l₂ := ws.map (·.1))))
        have h1 := hperm.nodup_iff.mp F.apart
        have h2 := List.nodup_cons.mp h1
        have h3 := List.nodup_cons.mp h2.2
        exact fun b hb => ⟨fun e' => h2.1 (.tail _ (e' ▸ hb)), fun e' => h3.1 (e' ▸ hb)⟩
      refine { F1 with nsp := ?_, kept := fun b x e' => hkk b x (fun q => by rw [q, hKe] at e'; cases e') (fun q => by rw [q, hKi] at e'; cases e') (F1.kept b x e'), own := fun p hp => ⟨hkk _ _ (hne _ (.tail _ (List.mem_map_of_mem hp))).1 (hne _ (.tail _ (List.mem_map_of_mem hp))).2 (F1.own p hp).1, (F1.own p hp).2⟩ }
      obtain ⟨o, es, ep, z, r⟩ := F1.nsp
      exact ⟨o, es, ep, hkk _ _ (hne _ (.head _)).1 (hne _ (.head _)).2 z, r⟩
    refine F2.addOwn ?_ ?_ ?_
    · exact hS
    · cases q : K h.objs.size with
      | none => rfl
      | some o => have := F1.kept _ _ q; rw [hno _ (Nat.le_refl _)] at this; cases this
    · intro hm
      rcases List.mem_cons.mp hm with z | z
      · obtain ⟨x, ex⟩ := F1.L_some; rw [← z, hno _ (Nat.le_refl _)] at ex; cases ex
      · obtain ⟨p, hp, z2⟩ := List.mem_map.mp z
        have := (F1.own p hp).1; rw [z2, hno _ (Nat.le_refl _)] at this; cases this
end
end Mine
end
section
open PySem PySem.W PyProof.Rows PySem.SeqAt
set_option Elab.async false
set_option maxRecDepth 100000
set_option maxHeartbeats 1000000
set_option linter.unusedVariables false
namespace Mine
section
variable {M : Model} {A : Around} {E : Value → Shared → Prop} {s : Shared} {env : Env}
theorem C_Compare1 {l op r pos} {Q : Value → Shared → Prop}
    (k : wpC M A (eval l env) (fun a s₁ => wpC M A (eval r env) (fun b s₂ => wpAny M A (compareOp op a b) Q E s₂) E s₁) E s)
    (hm : behindInMarks op r = false := by with_unfolding_all rfl) : wpC M A (eval (.Compare l [op] [r] pos) env) Q E s := fun Γ p hΓ hc => by
  simp only [eval_Compare1, markedBehindIn_of_false hm, Sem.wp_bind', Sem.wp_holding, Sem.wp_cmd_standAt, Sem.wp_operate]
  exact Sem.wp_mono M Γ _ (fun a p₁ s₁ h₁ => Sem.wp_mono M Γ _ (fun b _ s₂ h₂ => h₂ Γ _ hΓ) (fun _ _ _ h' => h') _ _ (h₁ Γ p₁ hΓ hc))
    (fun _ _ _ h' => h') _ _ (k Γ p hΓ hc)
theorem C_isTrue_Compare1 {l op r pos whole} {Q : Bool → Shared → Prop}
    (k : wpC M A (eval l env) (fun a s₁ => wpC M A (eval r env) (fun b s₂ => wpAny M A (compareOp op a b) (fun c s₃ => wpAny M A (truthy c) Q E s₃) E s₂) E s₁) E s)
    (hm : behindInMarks op r = false := by with_unfolding_all rfl) : wpC M A (isTrue (.Compare l [op] [r] pos) env whole) Q E s := fun Γ p hΓ hc => by
  simp only [isTrue_Compare1, markedBehindIn_of_false hm, Sem.wp_bind', Sem.wp_holding, Sem.wp_cmd_standAt, Sem.wp_operate]
  exact Sem.wp_mono M Γ _ (fun a p₁ s₁ h₁ => Sem.wp_mono M Γ _ (fun b _ s₂ h₂ => Sem.wp_mono M Γ _ (fun c p₃ s₃ h₃ => h₃ Γ p₃ hΓ)
    (fun _ _ _ h' => h') _ _ (h₂ Γ _ hΓ)) (fun _ _ _ h' => h') _ _ (h₁ Γ p₁ hΓ hc)) (fun _ _ _ h' => h') _ _ (k Γ p hΓ hc)
theorem C_IfC {test : Expr} {body orelse : List Stmt} {pos : Pos} {Q : Flow → Shared → Prop} (k : wpC M A (isTrue test env (eval test env)) (fun b s₂ => if b = true then wpC M A (execs body env) Q E s₂ else wpC M A (execs orelse env) Q E s₂) E s) :
    wpC M A (exec (.If test body orelse pos) env) Q E s := by
  rw [exec_If]
  refine wpC_bind (wpC_standAt (wpC_bind (wpC_mono k (fun b s₂ h₂ => ?_) fun _ _ x => x)))
  cases b <;> exact h₂
end
section
variable {M : Model} {A : Around} {E : Value → Shared → Prop} {s : Shared} {t : Nat} {K₀ K : KMap} {env : Env} {gs : List Str} {lk : List Var} {ws : List (Addr × Obj)} {h : Heap}
/-- a lambda with one free variable is made -/
theorem mk_lam {params : Arguments} {body : Expr} {scope : Scope} {pos : Pos} {ps : Array Value} {x : Str} {c : Addr} {v : Value} {Q : Value → Shared → Prop} (hM : BaseM K₀) (F : Fm K₀ K env gs lk ((160, tabObj ps) :: ws) h) (hcode : env.code = .ref 162) (hx : (x, some c, some v) ∈ lk)
    (hdef : defaultsOf params env = ([], [])) (hfree : (freeNames scope.names).reverse = [x]) (ht : TriplesOk ps.toList) (hnf : codeAmong pos ps.toList = none)
    (q : ∀ f c' oc ctv pm h' t', h.get? f = none → h.get? c' = none → h'.get? c' = some oc → (∀ h2 : Heap, h2.get? c' = some oc → h2.CodeRec (.ref c') (env.qual ++ "<lambda>")) →
      h'.get? f = some (kla_obj "<lambda>" (env.qual ++ "<lambda>") params body scope [(x, c)] pm c' ctv) → Fm K₀ K env gs lk ((160, tabObj (ps ++ #[rawInt pos.line, rawInt pos.col, .ref c'])) :: ws) h' → Q (.ref f) (up s h' t')) :
    wpAny M A (eval (.Lambda params body scope pos) env) Q E (up s h t) := by
  refine kla_eval hdef ?_
  obtain ⟨mg, hg, hb⟩ := hM.bm h F.sub0
  refine kla_makeFunction (s := up s h t) (closure_of (cl := [(x, c)]) (by rw [hfree]; rfl) fun p hp => ?_) F.gl.1 hg hcode (codeHd_law hM.l F.sub0) (F.isIn (.head _)) ht hnf (by decide) hb ?_
  · obtain rfl := List.mem_singleton.mp hp
    exact (F.kind _ hx).2.1
  intro c' ctv h' tk hext hlo hhi hrec hP
  obtain ⟨c₂, oc, vs, tq, e2, hoc, hdc, hq⟩ := hrec
  cases e2
  have hno : ∀ m, h.objs.size ≤ m → h.get? m = none := fun m hm => none_above m hm
  have hle : h.objs.size ≤ h'.objs.size := Nat.le_trans hlo (Nat.le_of_lt hhi)
  refine q h'.objs.size c' oc ctv _ _ tk (hno _ hle) (hno _ hlo) (Heap.get?_push_of_some _ hoc) (fun h2 e => ⟨c', oc, vs, tq, rfl, e, hdc, hq⟩) (Heap.get?_push_size _ rfl) ?_
  refine (F.upd .head hP fun b x hb e => hext b x hb e).keeps (Keeps.push _ _)
end
end Mine
end
section
open PySem PySem.W PyProof.Rows PySem.SeqAt
set_option Elab.async false
set_option maxRecDepth 100000
set_option maxHeartbeats 1000000
set_option linter.unusedVariables false
namespace Mine
/-! lists are none of the frame's own objects -/
theorem mem_cellsOf : ∀ {lk : List Var} {p : Addr × Obj}, p ∈ cellsOf lk → ∃ v, p.2 = clo v
  | [], p, h => nomatch h
  | (_, none, _) :: r, p, h => mem_cellsOf (lk := r) h
  | (_, some c, v) :: r, p, h => by
    rcases List.mem_cons.mp h with rfl | h
    · exact ⟨_, rfl⟩
    · exact mem_cellsOf (lk := r) h
theorem full_lst {K₀ K : KMap} {env : Env} {gs : List Str} {lk : List Var} {ws : List (Addr × Obj)} {h : Heap} (F : Fm K₀ K env gs lk ws h) (hw : ∀ p ∈ ws, p.2.cls ≠ .type "list") {L : Addr} {vs : List Value} {n : Nat} (e : h.get? L = some (lst vs n)) : fullK env lk ws h L = some (lst vs n) := by
  refine fullK_at e fun hm => ?_
  rcases List.mem_cons.mp hm with z | z
  · obtain ⟨o, es, ep, e1, e2, _⟩ := F.nsp
    rw [← z, e] at e1; cases e1; cases e2
  · obtain ⟨p, hp, z⟩ := List.mem_map.mp z
    have hp1 := (F.own p hp).1
    rw [z, e] at hp1
    rcases List.mem_append.mp hp with hp | hp
    · obtain ⟨v, hv⟩ := mem_cellsOf hp
      rw [hv] at hp1; exact absurd (congrArg Obj.cls (Option.some.inj hp1)) (show ¬ (Value.type "list" = Value.type "cell") by decide)
    · exact hw p hp (by rw [← Option.some.inj hp1])
theorem RowsAt.full {K₀ K : KMap} {env : Env} {gs : List Str} {lk : List Var} {ws : List (Addr × Obj)} {h : Heap} (F : Fm K₀ K env gs lk ws h) (hw : ∀ p ∈ ws, p.2.cls ≠ .type "list") {rv : List Value} {rs : List (List Nat)} (x : RowsAt (hk h) rv rs) : RowsAt (fullK env lk ws h) rv rs := by
  induction x with
  | nil => exact .nil
  | cons a b _ ih => exact .cons (full_lst F hw a) b ih
theorem RowsAt.fullNew {K₀ K : KMap} {env : Env} {gs : List Str} {lk : List Var} {ws : List (Addr × Obj)} {h h' : Heap} (F : Fm K₀ K env gs lk ws h) {rv : List Value} {rs : List (List Nat)} (x : RowsAt (newK h (hk h')) rv rs) : RowsAt (fullK env lk ws h') rv rs := by
  induction x with
  | nil => exact .nil
  | cons a b _ ih =>
    unfold newK at a
    split at a
    · rename_i hn; exact .cons (F.newAt hn a) b ih
    · cases a
theorem RowsAt.drp {K : KMap} {L : Addr} (hL : ∀ vs n, K L ≠ some (lst vs n)) {rv : List Value} {rs : List (List Nat)} (x : RowsAt K rv rs) : RowsAt (drp K L) rv rs := by
  induction x with
  | nil => exact .nil
  | cons a b _ ih => exact .cons (by unfold Mine.drp; rw [if_neg (fun e => hL _ _ (e ▸ a))]; exact a) b ih
theorem WordsAt.drp {K : KMap} {L : Addr} (hL : ∀ vs n, K L ≠ some (lst vs n)) {rv : List Value} {rs : List (List (List Nat))} (x : WordsAt K rv rs) : WordsAt (drp K L) rv rs := by
  induction x with
  | nil => exact .nil
  | cons a b _ ih => exact .cons (by unfold Mine.drp; rw [if_neg (fun e => hL _ _ (e ▸ a))]; exact a) (b.drp hL) ih
theorem kle_drp {K K1 : KMap} {L : Addr} (h : KLe K1 K) (hn : K1 L = none) : KLe K1 (drp K L) := le_drp h hn
def MapEndK (s : Shared) (I : KMap → List Value → Prop) (K₀ Kc : KMap) (cenv : Env) (gsI : List Str) (lkI : List Var) (p1 p2 : Addr × Obj) (ws : List (Addr × Obj)) (cv : List Value) : Value → Shared → Prop := fun r s' => ∀ P : Prop, (∀ h3 t3 K3, s' = up s h3 t3 → KLe Kc K3 → I K3 (cv ++ [r]) → Fm K₀ K3 cenv gsI lkI (p1 :: p2 :: ws) h3 → P) → P
theorem MapEndK.mk {s : Shared} {I : KMap → List Value → Prop} {K₀ Kc K3 : KMap} {cenv : Env} {gsI : List Str} {lkI : List Var} {p1 p2 : Addr × Obj} {ws : List (Addr × Obj)} {cv : List Value} {r : Value} {h3 : Heap} {t3 : Nat} (hk : KLe Kc K3) (hI : I K3 (cv ++ [r])) (F : Fm K₀ K3 cenv gsI lkI (p1 :: p2 :: ws) h3) : MapEndK s I K₀ Kc cenv gsI lkI p1 p2 ws cv r (up s h3 t3) := fun _ k => k _ _ _ rfl hk hI F
def MapInK (prog : Program) (w : World) (A : Around) (s : Shared) (K₀ : KMap) (env : Env) (gs : List Str) (lk : List Var) (x : Str) (elt : PySem.Expr) (frees : List Var) (rest : List (Addr × Obj)) (gsI : List Str) (I : Nat → KMap → List Value → Prop) (Q : Value → Shared → Prop) (v : Value) (s₁ : Shared) : Prop := ∀ P : Prop, (∀ l vs n h1 t1 K1 ws1, v = .ref l → s₁ = up s h1 t1 → Fm K₀ K1 env gs lk ws1 h1 → K1 l = some (lst vs n) → vs.length < 1000 → (∀ K', I 0 K' []) → (∀ (i : Nat) v cv c ic io acc cenv Kc h2 t2, vs[i]? = some v → I i Kc cv → cv.length = i → KLe K1 Kc → Fm K₀ Kc cenv gsI ((x, none, some v) :: frees) ((ic, io) :: (acc, lst cv c) :: (rest ++ ws1)) h2 →
        wpC (model prog w) A (eval elt cenv) (MapEndK s (I (i + 1)) K₀ Kc cenv gsI ((x, none, some v) :: frees) (ic, io) (acc, lst cv c) (rest ++ ws1) cv) fno (up s h2 t2)) → (∀ acc c cv Kc h3 t3, I vs.length Kc cv → cv.length = vs.length → KLe K1 Kc → (∀ zs n, Kc env.locals ≠ some (lst zs n)) → Fm K₀ (drp Kc env.locals) env gs lk ((acc, lst cv c) :: ws1) h3 → Q (.ref acc) (up s h3 t3)) → P) → P
theorem MapInK.mk {prog : Program} {w : World} {A : Around} {s : Shared} {K₀ : KMap} {env : Env} {gs : List Str} {lk : List Var} {x : Str} {elt : PySem.Expr} {frees : List Var} {rest : List (Addr × Obj)} {gsI : List Str} {I : Nat → KMap → List Value → Prop} {Q : Value → Shared → Prop} {h1 : Heap} {t1 : Nat} {K1 : KMap} {ws1 : List (Addr × Obj)} (l : Addr) (vs : List Value) (n : Nat) (a0 : Fm K₀ K1 env gs lk ws1 h1) (a1 : K1 l = some (lst vs n)) (a2 : vs.length < 1000) (a3 : (∀ K', I 0 K' [])) (a4 : (∀ (i : Nat) v cv c ic io acc cenv Kc h2 t2, vs[i]? = some v → I i Kc cv → cv.length = i → KLe K1 Kc → Fm K₀ Kc cenv gsI ((x, none, some v) :: frees) ((ic, io) :: (acc, lst cv c) :: (rest ++ ws1)) h2 →
        wpC (model prog w) A (eval elt cenv) (MapEndK s (I (i + 1)) K₀ Kc cenv gsI ((x, none, some v) :: frees) (ic, io) (acc, lst cv c) (rest ++ ws1) cv) fno (up s h2 t2))) (a5 : (∀ acc c cv Kc h3 t3, I vs.length Kc cv → cv.length = vs.length → KLe K1 Kc → (∀ zs n, Kc env.locals ≠ some (lst zs n)) → Fm K₀ (drp Kc env.locals) env gs lk ((acc, lst cv c) :: ws1) h3 → Q (.ref acc) (up s h3 t3))) : MapInK prog w A s K₀ env gs lk x elt frees rest gsI I Q (.ref l) (up s h1 t1) := fun _ k => k l vs n _ _ _ _ rfl rfl a0 a1 a2 a3 a4 a5
/-- a comprehension over a kept list whose turns keep more and more -/
theorem C_mapK {prog : Program} {w : World} {A : Around} {E : Value → Shared → Prop} {s : Shared} {t : Nat} {K₀ K : KMap} {env : Env} {gs : List Str} {lk : List Var} {ws : List (Addr × Obj)} {h : Heap} {x : Str} {px pos : Pos} {elt iter : PySem.Expr} {scope : Scope} {Q : Value → Shared → Prop}
    (frees : List Var) (rest : List (Addr × Obj)) (gsI : List Str) (I : Nat → KMap → List Value → Prop) (hA : A.handled = none) (F : Fm K₀ K env gs lk ws h)
    (ok : innerB scope.names (((x, none, none) :: frees : List Var).map fun p => (p.1, p.2.1.isSome)) gsI = true) (hfr : ∀ p ∈ frees, ∃ c v, p = (p.1, some c, some v)) (hp : (cellsOf lk).Perm (cellsOf frees ++ rest)) (hmem : ∀ p ∈ frees, p ∈ lk)
    (k : wpC (model prog w) A (eval iter env) (MapInK prog w A s K₀ env gs lk x elt frees rest gsI I Q) E (up s h t))
    (hkind : scope.kind = .function := by rfl) (hfs : ∀ x, foldedSetIterable iter env x = pure x := by intro _; rfl) :
    wpC (model prog w) A (eval (.ListComp elt [⟨.Name x px, iter, [], 0⟩] scope pos) env) Q E (up s h t) := by
  refine C_ListComp ((x, none, none) :: frees) gsI F ok (fun p hp' c hc => ?_) ?_ hkind hfs
  · rcases List.mem_cons.mp hp' with rfl | hp'
    · cases hc
    · obtain ⟨c', v', z⟩ := hfr p hp'
      have := hmem p hp'
      rw [z] at hc this; cases hc
      exact ⟨_, this⟩
  refine wpC_mono k (fun v s₁ hv => ?_) fun _ _ e => e
  refine hv _ ?_
  clear hv
  rintro l vs n h1 t1 K1 ws1 rfl rfl F1 hl hlen hI turn fin
  refine wpC_of (iter_l F1 (F1.kept _ _ hl) ?_)
  intro ic io h2 hio F2
  have hkL := F2.kL
  have hp2 : (cellsOf lk ++ (ic, io) :: ws1).Perm (cellsOf ((x, none, none) :: frees : List Var) ++ ((ic, io) :: (rest ++ ws1))) := by
    show (cellsOf lk ++ (ic, io) :: ws1).Perm (cellsOf frees ++ ((ic, io) :: (rest ++ ws1)))
    refine (List.Perm.append_right _ hp).trans ?_
    rw [List.append_assoc]
    exact List.Perm.append_left _ List.perm_middle
  refine (CompIn.mk ((ic, io) :: (rest ++ ws1)) F2 ?_ hp2 (fun h' t' hk' => wpAny_pyIter_listiter (s := up s h' t') ⟨_, hk' _ _ (F2.isIn (.head _)), hio⟩ ⟨rfl, rfl⟩) ?_)
  · intro p hp' hc
    rcases List.mem_cons.mp hp' with rfl | hp'
    · rfl
    · exact cells_frees hfr p hp' hc
  intro acc LL oL h3 hoL FI
  replace FI := FI.perm (List.Perm.swap _ _ _)
  generalize compEnvC _ _ LL env = cenv at FI ⊢
  have hKle : KLe K1 (add K1 env.locals oL) := le_add hkL
  have hoN : ∀ zs n, oL ≠ lst zs n := fun zs n e => by
    obtain ⟨o, es, ep, e1, e2, _⟩ := F2.nsp
    rw [hoL, e] at e1; cases e1; cases e2
  clear F2
  refine C_compLoop1 (fun m hh => ∀ P : Prop, (∀ (i : Nat) (io : Obj) (cv : List Value) (c : Nat) (v : Option Value) (Kc : KMap), m = vs.length - i → i ≤ vs.length → IsLI io l i → I i Kc cv → cv.length = i → KLe (add K1 env.locals oL) Kc → Fm K₀ Kc cenv gsI ((x, none, v) :: frees) ((ic, io) :: (acc, lst cv c) :: (rest ++ ws1)) hh → P) → P) (vs.length - 0)
    (fun _ kk => kk 0 io [] 0 none _ rfl (Nat.zero_le _) hio (hI _) rfl (fun _ _ e => e) FI) ?_
  clear FI hio hp2 io
  rintro m h4 t4 Z1 hZ1 D1 hD1 hEx
  refine hEx _ ?_
  clear hEx
  rintro i io cv c v Kc hm hi hio hIi hcl hKc FJ
  rcases Nat.lt_or_ge i vs.length with hlt | hge
  · obtain ⟨y, hy⟩ : ∃ y, vs[i]? = some y := ⟨_, List.getElem?_eq_getElem hlt⟩
    refine nx_lh FJ hio (FJ.kept _ _ (hKc _ _ (hKle _ _ hl))) hy ?_
    intro io2 h5 hio2 FJ2
    refine wpAny_of_eq (a := ()) rfl ?_
    refine asg FJ2 .head ?_
    intro h6 t6 FJ3
    refine wpC_mono (turn i y cv c ic io2 acc cenv _ h6 t6 hy hIi hcl (fun b o e => hKc _ _ (hKle _ _ e)) FJ3) (fun r s' hr => ?_) fun _ _ e => e
    refine hr _ ?_
    clear hr
    rintro h7 t7 K3 rfl hK3 hI3 FJ4
    refine app_l (pos := default) FJ4 (.tail .head) (by (clear hm hlt; lia)) ?_
    intro h8 FJ5
    exact hZ1 _ ⟨vs.length - (i + 1), _, _, rfl, by (clear hlen hi hcl; omega), fun _ kk => kk (i + 1) io2 _ _ _ K3 rfl (by exact hlt) hio2 hI3 (by simp [hcl]) (fun b o e => hK3 _ _ (hKc _ _ e)) FJ5⟩
  · have hi2 : i = vs.length := by exact Nat.le_antisymm hi hge
    subst hi2
    refine nx_l_end hA FJ hio (FJ.kept _ _ (hKc _ _ (hKle _ _ hl))) hge ?_
    intro h5 FK
    have hat : Kc env.locals = some oL := hKc _ _ (add_self _ _ _)
    refine hD1 _ (CompOut.mk FK hat ((acc, lst cv c) :: ws1) ?_ ?_)
    · show (cellsOf frees ++ (acc, lst cv c) :: (rest ++ ws1)).Perm (cellsOf lk ++ (acc, lst cv c) :: ws1)
      refine List.Perm.trans ?_ (List.Perm.append_right _ hp.symm)
      rw [List.append_assoc]
      exact List.Perm.append_left _ List.perm_middle.symm
    · intro h6 FO
      exact fin _ _ _ _ _ _ hIi hcl (fun b o e => hKc _ _ (hKle _ _ e)) (fun zs n e => hoN zs n (Option.some.inj (hat.symm.trans e))) FO
/-! the rows' sizes -/
def RowsOk (rs : List (List Nat)) (m : Nat) : Prop := 1 ≤ rs.length ∧ rs.length ≤ m + 1 ∧ ∀ r ∈ rs, r.length ≤ m ∧ ∀ d ∈ r, d < 100000
theorem rowStep_ok {rs : List (List Nat)} {m : Nat} (x : Int) (h : RowsOk rs m) : RowsOk (rowStep rs x) (m + 1) := by
  obtain ⟨h1, h2, h3⟩ := h
  have h3' : ∀ r ∈ rs, r.length ≤ m + 1 ∧ ∀ d ∈ r, d < 100000 := fun r hr => ⟨Nat.le_succ_of_le (h3 r hr).1, (h3 r hr).2⟩
  have hl : (rs.getLastD []).length ≤ m ∧ ∀ d ∈ rs.getLastD [], d < 100000 := by
    rw [List.getLastD_eq_getLast?]
    cases e : rs.getLast? with
    | none => exact ⟨Nat.zero_le _, fun d hd => nomatch hd⟩
    | some r => exact h3 r (List.mem_of_getLast? e)
  unfold rowStep
  split
  · refine ⟨by simp, by simp; exact h2, fun r hr => ?_⟩
    rcases List.mem_append.mp hr with hr | hr
    · exact h3' r hr
    · obtain rfl := List.mem_singleton.mp hr; exact ⟨Nat.zero_le _, fun d hd => nomatch hd⟩
  · split
    · refine ⟨by simp, by simp; exact h2, fun r hr => ?_⟩
      rcases List.mem_append.mp hr with hr | hr
      · exact h3' r hr
      · obtain rfl := List.mem_singleton.mp hr; exact ⟨Nat.le_succ_of_le hl.1, hl.2⟩
    · refine ⟨by simp, by simp; (clear h1 hl; lia), fun r hr => ?_⟩
      rcases List.mem_append.mp hr with hr | hr
      · exact h3' r (List.dropLast_subset _ hr)
      · obtain rfl := List.mem_singleton.mp hr
        refine ⟨by rw [List.length_append]; exact Nat.succ_le_succ hl.1, fun d hd => ?_⟩
        rcases List.mem_append.mp hd with hd | hd
        · exact hl.2 d hd
        · obtain rfl := List.mem_singleton.mp hd; omega
theorem rows_fold_ok (items : List Int) : ∀ (rs : List (List Nat)) (m : Nat), RowsOk rs m → RowsOk (items.foldl rowStep rs) (m + items.length) := by
  induction items with
  | nil => exact fun rs m h => h
  | cons x xs ih =>
    intro rs m h
    have := ih (rowStep rs x) (m + 1) (rowStep_ok x h)
    rw [List.length_cons, show m + (xs.length + 1) = m + 1 + xs.length by lia]
    exact this
theorem rowsN_ok (xs : List Int) : 1 ≤ (rowsN xs).length ∧ (rowsN xs).length ≤ 10 ∧ ∀ r ∈ rowsN xs, r.length ≤ 9 ∧ ∀ d ∈ r, d < 100000 := by
  have h := rows_fold_ok (rowItems xs) [[]] 0 ⟨Nat.le_refl _, Nat.le_refl _, fun r hr => by obtain rfl := List.mem_singleton.mp hr; exact ⟨Nat.le_refl _, fun d hd => nomatch hd⟩⟩
  have hl : (rowItems xs).length ≤ 9 := by unfold rowItems; rw [List.length_take]; exact Nat.min_le_left _ _
  obtain ⟨a, b, c⟩ := h
  exact ⟨a, by have : (rowsN xs).length ≤ 0 + (rowItems xs).length + 1 := b; (clear a b; lia), fun r hr => ⟨by have := (c r hr).1; (clear a b; lia), (c r hr).2⟩⟩
/-- a comprehension bound to a cell is not bound within it -/
theorem no_swap {K₀ K : KMap} {env : Env} {gs : List Str} {lk : List Var} {ws : List (Addr × Obj)} {h : Heap} {x : Str} {c : Addr} {v : Option Value} {elt : PySem.Expr} {gens : List Comprehension} {scope : Scope} {p1 p2 : Pos} {line : Nat} (F : Fm K₀ K env gs lk ws h) (hx : (x, some c, v) ∈ lk) :
    swapsWith (.ListComp elt gens scope p2) (some (.Name x p1)) line env = pure false := by
  show (pure (env.blockKind == .function && env.kindOf x == some .local && p1.line == p2.line && !(scope.names.any fun (n, k) => n == x && (k == .local || k == .cell))) : Sem Bool) = pure false
  have h2 : (env.kindOf x == some .local) = false := by
    rcases (F.kind _ hx).2.2 with e | ⟨e, _⟩ <;> rw [e] <;> rfl
  rw [h2, Bool.and_false]; rfl
end Mine
end
section
open PySem PySem.W PyProof.Rows
set_option Elab.async false
set_option maxRecDepth 100000
set_option maxHeartbeats 1000000
set_option linter.unusedVariables false
open Mine
namespace Mine
theorem IsList.keeps {h h' : Heap} {l : Addr} {vs : Array Value} (x : h.IsList l vs) (k : ∀ b o, h.get? b = some o → h'.get? b = some o) : h'.IsList l vs := by
  obtain ⟨o, a, b⟩ := x; exact ⟨o, k _ _ a, b⟩
theorem rows_walk {prog w A s t h} {K₀ : KMap} {l : Addr} {vs : List Value} {xs : List Int} {Q : Value → Shared → Prop} {E : Value → Shared → Prop}
   (hB : Base K₀) (hs : Sub K₀ h) (hr : Room A 40) (hl : h.IsList l vs.toArray) (hi : IntsAre vs xs) (hn : xs.length ≤ 63)
   (q : ∀ L rv n h' t', Keeps h h' → h'.get? L = some (lst rv n) → RowsAt (hk h') rv (rowsN xs) → Q (.ref L) (up s h' t')) :
   wpAny (model prog w) A (call (.ref 124) [.ref l]) Q E (up s h t) := by
  obtain ⟨pm, hF⟩ := hB.fn (124, 19, 123) (by walk_at "mem")
  refine wpAny_call (enter hB hs hF hr.depth (gs := [Str.ofString "list"]) rfl rfl (binds := [(Str.ofString "script", .ref l)]) rfl
    (lk := [vr "script" (.ref l), nv "rows", nv "x"]) ?_ ?_)
  · show PutAll [nv "script", nv "rows", nv "x"] _ _
    walk_at "putall"
  intro env h1 t1 F
  have hA : (A.deeper env).handled = none := hr.hd
  have hvl := hi.length
  refine K_seq ?_
  refine K_Assign ?_
  refine mk_list ?_
  refine K_more ?_
  refine mk_list ?_
  refine spliced_none ?_
  refine mk_inL ‹_› ?_ ?_; (· first | (simp; done) | (simp; omega)); intro _ _ _
  refine spliced_none ?_
  refine mk_inL ‹_› ?_ ?_; (· first | (simp; done) | (simp; omega)); intro _ _ _
  refine stn ‹_› (by walk_at "put") ?_; intro _ _ _
  refine K_seq ?_
  rename_i ir hir Fir L hL FL hLs tLs FLs
  refine wpAny_For ?_
  refine K_Sub ?_
  refine K_BinOp ?_
  refine K_Sub ?_
  refine ld ‹_› (by walk_at "mem") ?_
  refine mk_slice ?_
  refine wpAny_evalPart_none ?_
  refine wpAny_evalPart_some ?_
  refine c_int ?_; intro _ _
  refine mk_in ‹_› ?_; intro _ _ _
  refine gi_upto (b := 9) (IsList.keeps hl (Fm.kept (by assumption))) (by assumption) (by exact Nat.lt_of_le_of_lt (Nat.le_trans (Nat.le_of_eq hvl) hn) (by decide)) ?_
  intro S9 h9 F9
  refine mk_list ?_
  refine K_more ?_
  refine c_int ?_; intro _ _
  refine K_more ?_
  refine c_int ?_; intro _ _
  refine K_more ?_
  refine c_int ?_; intro _ _
  refine K_more ?_
  refine c_int ?_; intro _ _
  refine K_more ?_
  refine c_int ?_; intro _ _
  refine spliced_none ?_
  refine mk_inL ‹_› ?_ ?_; (· first | (simp; done) | (simp; omega)); intro _ _ _
  rename_i u1 t1 u2 t2 u3 t3 u4 t4 u5 t5 X hX FX
  refine add_l FX (FX.isIn (by walk_at "mem")) (FX.isIn (by walk_at "mem")) (by simp; (clear hn hvl; omega)) ?_
  intro Y hY FY
  refine mk_slice ?_
  refine wpAny_evalPart_none ?_
  refine wpAny_evalPart_some ?_
  refine c_int ?_; intro _ _
  refine mk_in ‹_› ?_; intro _ _ _
  refine gi_upto (b := 9) ⟨_, Fm.isIn (ws := (_, _) :: (Y, _) :: _) (by assumption) (by walk_at "mem"), rfl, _, rfl⟩ (by assumption) (by simp; (clear hn hvl; omega)) ?_
  intro Z hZ FZ
  have hit : IntsAre ((vs.take 9 ++ [Value.int 20 u1, Value.int 1 u2, Value.int 2404 u3, Value.int 6 u4, Value.int 5 u5]).take 9) (rowItems xs) :=
    ((hi.take 9).append (.cons _ _ (.cons _ _ (.cons _ _ (.cons _ _ (.cons _ _ .nil)))))).take 9
  generalize hivs : (vs.take 9 ++ [Value.int 20 u1, Value.int 1 u2, Value.int 2404 u3, Value.int 6 u4, Value.int 5 u5]).take 9 = ivs at *
  have hil := hit.length
  have hl9 : (rowItems xs).length ≤ 9 := by unfold rowItems; simp; exact Nat.min_le_left _ _
  have FZ2 := FZ.freeze.drop (ws' := [(L, lst [Value.ref ir] 0), (ir, lst [] 0)]) (by
    exact ((((List.Sublist.refl _).cons _).cons _).cons _))
  have hKZ : (add (hk h) Z (lst ivs 0)) Z = some (lst ivs 0) := add_self _ _ _
  have hKh : KLe (hk h) (add (hk h) Z (lst ivs 0)) := le_add (FZ.nokey (.head _))
  clear FZ FY FX F9 FLs FL Fir F
  refine iter_l FZ2 (FZ2.kept _ _ hKZ) ?_
  intro it io hI hio FI
  refine for_ (fun m hh => ∀ P : Prop, (∀ (i : Nat) (K : KMap) (oldv : List Value) (olds : List (List Nat)) (al : Addr) (lastv : List Value) (last : List Nat) (n1 n2 : Nat) (io : Obj) (v1 : Option Value), m = ivs.length - i → i ≤ ivs.length → KLe (add (hk h) Z (lst ivs 0)) K → RowsAt K oldv olds → NatsAre lastv last → lastv.length ≤ i → oldv.length ≤ i → olds ++ [last] = ((rowItems xs).take i).foldl rowStep [[]] → IsLI io Z i → Fm K₀ K env [Str.ofString "list"] [vr "script" (.ref l), vr "rows" (.ref L), (Str.ofString "x", none, v1)] [(it, io), (L, lst (oldv ++ [.ref al]) n1), (al, lst lastv n2)] hh → P) → P) (ivs.length - 0)
    (fun _ kk => kk 0 _ [] [] ir [] [] _ _ io _ rfl (Nat.zero_le _) (KLe.refl _) .nil trivial (Nat.le_refl _) (Nat.le_refl _) rfl hio FI) ?_
  clear FI hio io
  rintro m h4 t4 B1 hB1 D1 hD1 hEx
  refine hEx _ ?_
  clear hEx
  rintro i K oldv olds al lastv last n1 n2 io v1 hm hile hK hrows hlast hll hol heq hio F
  have hZl := F.kept _ _ (hK _ _ hKZ)
  rcases Nat.lt_or_ge i ivs.length with hlt | hge
  · have hx1 : (rowItems xs)[i]? = some (rowItems xs)[i] := List.getElem?_eq_getElem (by exact Nat.lt_of_lt_of_eq hlt hil)
    generalize hxx : (rowItems xs)[i] = x at hx1
    obtain ⟨tk, hx⟩ := hit.get _ _ hx1
    have hstep := foldl_take_succ rowStep [[]] (rowItems xs) i hx1
    rw [← heq] at hstep
    refine nx_lh F hio hZl hx ?_
    intro io2 h5 hio2 F5
    refine wpAny_of_eq (a := ()) rfl ?_
    refine asg F5 (by walk_at "put") ?_
    intro h6 t6 F6
    have hkey : K al = none := F6.nokey (by walk_at "mem")
    clear F5 F
    refine K_seq ?_
    refine K_If ?_
    refine K_tcmp ?_
    refine K_BinOp ?_
    refine ld ‹_› (by walk_at "mem") ?_
    refine c_int ?_; intro _ _
    refine b_mod (by omega) ?_; intro _ _
    refine c_int ?_; intro _ _
    refine PyProof.Rows.eq_int ?_
    refine wpAny_truthy_bool ?_
    refine ite_b (fun hb => ?_) (fun hb => ?_)
    · have hb' : x % 6 = 0 := by simpa using hb
      refine K_seq ?_
      refine K_Expr ?_ (Fm.inter ‹_›)
      refine K_meth1 rfl rfl rfl ?_
      refine ld ‹_› (by walk_at "mem") ?_
      refine m_app_l (F6.isIn (by walk_at "mem")) ?_
      refine mk_list ?_
      refine spliced_none ?_
      refine mk_inL ‹_› ?_ ?_; (· first | (simp; done) | (simp; omega)); intro _ _ _
      refine app_l (pos := default) (by assumption) (by walk_at "upd") (by simp; (clear hn hvl hm hll hlt hxx hb'; lia)) ?_
      intro h8 F8
      refine wpAny_execs_nil ?_
      refine wpAny_execs_nil ?_
      rename_i na hna Fna
      have F9 := (F8.perm (List.Perm.swap _ _ _)).perm (List.Perm.cons _ (List.Perm.swap _ _ _))
      have F10 := Fm.freezeAt [_, _, _] F9
      refine hB1 _ _ ⟨ivs.length - (i + 1), _, _, rfl, by (clear hn hvl hil hl9 hile hll hol hxx hb'; omega), fun _ kk => kk (i + 1) (add K al (lst lastv n2)) (oldv ++ [.ref al]) (olds ++ [last]) na [] [] _ _ io2 _ rfl (by exact hlt) (hK.trans (le_add hkey)) ((hrows.mono (le_add hkey)).snoc (add_self _ _ _) hlast) trivial (Nat.zero_le _) (by simp; exact hol) ?_ hio2 F10⟩
      rw [hstep]; simp [rowStep, hb']
    · have hb' : ¬ x % 6 = 0 := by simpa using hb
      refine K_seq ?_
      refine K_If ?_
      refine K_tcmp ?_
      refine K_BinOp ?_
      refine ld ‹_› (by walk_at "mem") ?_
      refine c_int ?_; intro _ _
      refine b_mod (by omega) ?_; intro _ _
      refine c_int ?_; intro _ _
      refine PyProof.Rows.eq_int ?_
      refine wpAny_truthy_bool ?_
      refine ite_b (fun hc => ?_) (fun hc => ?_)
      · have hc' : x % 6 = 1 := by simpa using hc
        refine K_seq ?_
        refine K_Expr ?_ (Fm.inter ‹_›)
        refine K_meth1 rfl rfl rfl ?_
        refine ld ‹_› (by walk_at "mem") ?_
        refine m_app_l (F6.isIn (by walk_at "mem")) ?_
        refine K_Call ?_
        refine ldb ‹_› ‹_› (by walk_at "mem") (by walk_at "mem") ?_
        refine K_callT ?_
        refine K_more ?_
        refine K_Sub ?_
        refine ld ‹_› (by walk_at "mem") ?_
        refine K_UnaryOp ?_
        refine c_int ?_; intro _ _
        refine u_neg ?_; intro _ _
        refine gi_neg (x := .ref al) (F6.isIn (by walk_at "mem")) (by simp) (by simp; (clear hn hvl hm hll hlt hxx hb' hc'; lia)) ?_ rfl
        refine spliced_none ?_
        refine copy_l F6 (F6.isIn (by walk_at "mem")) (by (clear hn hvl hm hol hlt hxx hb' hc'; lia)) ?_
        intro na c h7 F7
        refine app_l (pos := default) F7 (by walk_at "upd") (by simp; (clear hn hvl hm hll hlt hxx hb' hc'; lia)) ?_
        intro h8 F8
        refine wpAny_execs_nil ?_
        refine wpAny_execs_nil ?_
        refine wpAny_execs_nil ?_
        have F9 := (F8.perm (List.Perm.swap _ _ _)).perm (List.Perm.cons _ (List.Perm.swap _ _ _))
        have F10 := Fm.freezeAt [_, _, _] F9
        refine hB1 _ _ ⟨ivs.length - (i + 1), _, _, rfl, by (clear hn hvl hil hl9 hile hll hol hxx hb'; omega), fun _ kk => kk (i + 1) (add K al (lst lastv n2)) (oldv ++ [.ref al]) (olds ++ [last]) na lastv last _ _ io2 _ rfl (by exact hlt) (hK.trans (le_add hkey)) ((hrows.mono (le_add hkey)).snoc (add_self _ _ _) hlast) hlast (by (clear hn hvl hil hl9 hm hile hol hlt hxx hb' hc'; lia)) (by simp; exact hol) ?_ hio2 F10⟩
        rw [hstep]; simp [rowStep, hb', hc']
      · have hc' : ¬ x % 6 = 1 := by simpa using hc
        refine K_seq ?_
        refine K_Expr ?_ (Fm.inter ‹_›)
        refine K_meth1 rfl rfl rfl ?_
        refine K_Sub ?_
        refine ld ‹_› (by walk_at "mem") ?_
        refine K_UnaryOp ?_
        refine c_int ?_; intro _ _
        refine u_neg ?_; intro _ _
        refine gi_neg (x := .ref al) (F6.isIn (by walk_at "mem")) (by simp) (by simp; (clear hn hvl hm hll hlt hxx hb' hc'; lia)) ?_ rfl
        refine m_app_l (F6.isIn (by walk_at "mem")) ?_
        refine K_BinOp ?_
        refine K_BinOp ?_
        refine ld ‹_› (by walk_at "mem") ?_
        refine c_int ?_; intro _ _
        refine b_div (by omega) ?_; intro _ _
        refine c_int ?_; intro _ _
        refine b_mod (by omega) ?_; intro _ _
        refine app_l (pos := default) F6 (by walk_at "upd") (by (clear hn hvl hm hol hlt hxx hb' hc'; lia)) ?_
        intro h8 F8
        refine wpAny_execs_nil ?_
        refine wpAny_execs_nil ?_
        refine wpAny_execs_nil ?_
        rw [show x / 6 % 100000 = (((x / 6 % 100000).toNat : Nat) : Int) by (clear hn hvl hil hl9 hm hile hll hol hlt hxx hb' hc'; lia)] at F8
        refine hB1 _ _ ⟨ivs.length - (i + 1), _, _, rfl, by (clear hn hvl hil hl9 hile hll hol hxx hb' hc'; omega), fun _ kk => kk (i + 1) K oldv olds al _ (last ++ [(x / 6 % 100000).toNat]) _ _ io2 _ rfl (by exact hlt) hK hrows hlast.snoc (by simp; exact hll) (by (clear hn hvl hil hl9 hm hile hll hlt hxx hb' hc'; lia)) ?_ hio2 F8⟩
        rw [hstep]; simp [rowStep, hb', hc']
  · have hii : i = ivs.length := by exact Nat.le_antisymm hile hge
    refine nx_l_end hA F hio hZl (by exact hge) ?_
    intro h5 F5
    refine hD1 _ ?_
    refine K_seq ?_
    refine K_Return ?_
    refine ld ‹_› (by walk_at "mem") ?_
    have F6 := F5.perm (List.Perm.swap _ _ _)
    refine q L (oldv ++ [.ref al]) n1 _ _ (fun b o e => F5.kept _ _ (hK _ _ (hKh _ _ e))) (F5.isIn (by walk_at "mem")) ?_
    have : RowsAt (hk h5) (oldv ++ [.ref al]) (olds ++ [last]) := (hrows.mono F5.kept).snoc (F5.isIn (by walk_at "mem")) hlast
    rw [heq, List.take_of_length_le (by exact Nat.le_trans (Nat.le_of_eq hil.symm) hge)] at this
    exact this
end Mine
end
section
open PySem PySem.W PyProof.Rows
set_option Elab.async false
set_option maxRecDepth 100000
set_option maxHeartbeats 1000000
set_option linter.unusedVariables false
open Mine
namespace Mine
theorem numeral_walk {prog w A s t h} {K₀ : KMap} {N b : Nat} {tn tb : Tok} {Q : Value → Shared → Prop} {E : Value → Shared → Prop}
   (hB : Base K₀) (hs : Sub K₀ h) (hr : Room A 40) (hN : N < 100000) (hb : b < 10000000)
   (q : ∀ L fv n h' t', Keeps h h' → h.get? L = none → h'.get? L = some (lst fv n) → NatsAre fv (figN N b 0) → Q (.ref L) (up s h' t')) :
   wpAny (model prog w) A (call (.ref 131) [.int (N : Nat) tn, .int (b : Nat) tb]) Q E (up s h t) := by
  obtain ⟨pm, hF⟩ := hB.fn (131, 20, 130) (by walk_at "mem")
  refine wpAny_call (enter hB hs hF hr.depth (gs := [Str.ofString "min", Str.ofString "max", Str.ofString "len", Str.ofString "range"]) rfl rfl (binds := [(Str.ofString "number", .int (N : Nat) tn), (Str.ofString "bias", .int (b : Nat) tb)]) rfl
    (lk := [vr "number" (.int (N : Nat) tn), vr "bias" (.int (b : Nat) tb), nv "worths", nv "edges", nv "least", nv "edge", nv "rest", nv "figures", nv "place"]) ?_ ?_)
  · show PutAll [nv "number", nv "bias", nv "worths", nv "edges", nv "least", nv "edge", nv "rest", nv "figures", nv "place"] _ _
    walk_at "putall"
  intro env h1 t1 F
  have hA : (A.deeper env).handled = none := hr.hd
  refine K_seq ?_
  refine K_Assign ?_
  refine mk_list ?_
  refine K_more ?_
  refine c_int ?_; intro _ _
  refine spliced_none ?_
  refine mk_inL ‹_› ?_ ?_; (· first | (simp; done) | (simp; omega)); intro _ _ _
  refine stn ‹_› (by walk_at "put") ?_; intro _ _ _
  refine K_seq ?_
  refine K_Assign ?_
  refine mk_list ?_
  refine spliced_none ?_
  refine mk_inL ‹_› ?_ ?_; (· first | (simp; done) | (simp; omega)); intro _ _ _
  refine stn ‹_› (by walk_at "put") ?_; intro _ _ _
  refine K_seq ?_
  refine K_Assign ?_
  refine c_int ?_; intro _ _
  refine stn ‹_› (by walk_at "put") ?_; intro _ _ _
  refine K_seq ?_
  rename_i u1 _ W hW1 FW1 hW2 tW2 FW2 Eg hE1 FE1 hE2 tE2 FE2 u2 _ hL tL FL
  clear FW1 FW2 FE1 FE2 F
  refine while_ (fun m hh => ∀ P : Prop, (∀ (j : Nat) (wv ev : List Value) (n1 n2 : Nat) (u2 : Tok) (v1 : Option Value), m = N - lf b j → Full N b j → NatsAre wv ((List.range (j + 1)).map (wf b)) → NatsAre ev ((List.range j).map fun i => tN i b) → Fm K₀ (hk h) env [Str.ofString "min", Str.ofString "max", Str.ofString "len", Str.ofString "range"]
      [vr "number" (.int (N : Nat) tn), vr "bias" (.int (b : Nat) tb), vr "worths" (.ref W), vr "edges" (.ref Eg), vr "least" (.int (lf b j : Nat) u2), (Str.ofString "edge", none, v1), nv "rest", nv "figures", nv "place"]
      [(Eg, lst ev n2), (W, lst wv n1)] hh → P) → P) (N - lf b 0) (fun _ kk => kk 0 [.int 1 u1] [] 0 0 u2 none rfl (fun i hi => by (clear hN hb; lia)) ⟨⟨u1, rfl⟩, trivial⟩ trivial FL) ?_
  clear FL
  rintro m h2 t2 B1 hB1 D1 hD1 hEx
  refine hEx _ ?_
  clear hEx
  rintro j wv ev n1 n2 u2 v1 hm hfull hw he F
  have hlf := lf_le hfull
  have hjl := lf_lt b j
  have hwl : wv.length = j + 1 := by rw [hw.length]; simp
  have hel : ev.length = j := by rw [he.length]; simp
  have htr := tN_range j b
  have hwle := wf_le hfull
  have hwp := wf_pos b j
  obtain ⟨tl, hlast⟩ : ∃ tk, wv.getLast? = some (.int (wf b j : Nat) tk) := by
    rw [List.range_succ, List.map_append] at hw; exact hw.last
  refine K_value ?_
  refine c_bool ?_
  refine wpAny_truthy_bool ?_
  refine m_tt ?_
  refine K_seq ?_
  refine K_Assign ?_
  refine K_Call ?_
  refine ldb ‹_› ‹_› (by walk_at "mem") (by walk_at "mem") ?_
  refine K_callB ?_
  refine K_more ?_
  refine c_int ?_; intro _ _
  refine K_more ?_
  refine K_Call ?_
  refine ldb ‹_› ‹_› (by walk_at "mem") (by walk_at "mem") ?_
  refine K_callB ?_
  refine K_more ?_
  refine c_int ?_; intro _ _
  refine K_more ?_
  refine K_BinOp ?_
  refine K_BinOp ?_
  refine c_int ?_; intro _ _
  refine K_Call ?_
  refine ldb ‹_› ‹_› (by walk_at "mem") (by walk_at "mem") ?_
  refine K_callB ?_
  refine K_more ?_
  refine ld ‹_› (by walk_at "mem") ?_
  refine spliced_none ?_
  refine len_l (F.isIn (by walk_at "mem")) (by (clear hb hm hel htr hwle hwp; lia)) ?_; intro _ _
  refine b_mul (by first | exact IntMulOk.of_left (intBits_le_64 (by omega) (by omega)) | exact IntMulOk.of_right (intBits_le_64 (by omega) (by omega))) ?_; intro _ _
  refine ld ‹_› (by walk_at "mem") ?_
  refine b_sub ?_; intro _ _
  refine spliced_none ?_
  refine max2 hA F ?_; intro _ h3 t3 F3
  refine spliced_none ?_
  refine min2 hA F3 ?_; intro u3 h4 t4 F4
  rw [hwl, edge_eq]
  refine stn ‹_› (by walk_at "put") ?_; intro _ _ _
  refine K_seq ?_
  refine K_If ?_
  refine K_tcmp ?_
  refine ld ‹_› (by walk_at "mem") ?_
  refine K_BinOp ?_
  refine ld ‹_› (by walk_at "mem") ?_
  refine K_BinOp ?_
  refine ld ‹_› (by walk_at "mem") ?_
  refine K_Sub ?_
  refine ld ‹_› (by walk_at "mem") ?_
  refine K_UnaryOp ?_
  refine c_int ?_; intro _ _
  refine u_neg ?_; intro _ _
  refine gi_neg (Fm.isIn (by assumption) (by walk_at "mem")) hlast (by (clear hb hm hel htr hwle hwp; lia)) ?_ rfl
  refine b_mul (by first | exact IntMulOk.of_left (intBits_le_64 (by omega) (by omega)) | exact IntMulOk.of_right (intBits_le_64 (by omega) (by omega))) ?_; intro _ _
  refine b_add ?_; intro _ _
  refine PyProof.Rows.lt_int ?_
  refine wpAny_truthy_bool ?_
  refine ite_dec (fun hc => ?_) (fun hc => ?_)
  · have hc' : nf N b j < tN j b := (stop_iff hfull).mp (by exact_mod_cast hc)
    refine K_seq ?_
    refine wpAny_Break ?_
    refine hB1 _ _ ?_
    refine K_seq ?_
    refine K_Expr ?_ (Fm.inter ‹_›)
    refine K_meth1 rfl rfl rfl ?_
    refine ld ‹_› (by walk_at "mem") ?_
    refine m_app_l (Fm.isIn (ws := (Eg, lst ev n2) :: _) (by assumption) (by walk_at "mem")) ?_
    refine c_int ?_; intro _ _
    rename_i u0 tu0
    refine app_l (pos := default) (by assumption) (by walk_at "upd") (by (clear hb hm hwl htr hwle hwp hc hc'; lia)) ?_
    intro h6 F6
    refine K_seq ?_
    refine K_Assign ?_
    refine K_BinOp ?_
    refine ld ‹_› (by walk_at "mem") ?_
    refine ld ‹_› (by walk_at "mem") ?_
    refine b_sub ?_; intro _ _
    refine stn ‹_› (by walk_at "put") ?_; intro _ _ _
    refine K_seq ?_
    refine K_Assign ?_
    refine mk_list ?_
    refine spliced_none ?_
    refine mk_inL ‹_› ?_ ?_; (· first | (simp; done) | (simp; omega)); intro _ _ _
    refine stn ‹_› (by walk_at "put") ?_; intro _ _ _
    refine K_seq ?_
    rename_i ur _ hre tre Fre FG hF1 FF1 hF2 tF2 FF2
    have hev : ∀ tk, NatsAre (ev ++ [.int 0 tk]) ((List.range (j + 1)).map (edgeAt b j)) := fun tk => by
      rw [List.range_succ, List.map_append]
      have : (List.range j).map (edgeAt b j) = (List.range j).map fun i => tN i b := List.map_congr_left fun i hi => by
        have : i < j := List.mem_range.mp hi
        unfold edgeAt; rw [if_neg (by (clear hN hb hm hlf hjl hwl hel htr hwle hwp hc hc'; lia))]
      rw [this, show List.map (edgeAt b j) [j] = [0] by simp [edgeAt]]
      exact he.snoc
    have hrest : ((N : Nat) : Int) - ((lf b j : Nat) : Int) = ((restAt N b j (j + 1) : Nat) : Int) := by
      have := num_split j hfull
      unfold restAt; rw [if_pos rfl]; (clear hN hb hm hwl hel hc'; omega)
    rw [hrest] at FF2
    clear Fre FF1 F6 F3 F4
    refine wpAny_For ?_
    refine K_Call ?_
    refine ldb ‹_› ‹_› (by walk_at "mem") (by walk_at "mem") ?_
    refine K_callT ?_
    refine K_more ?_
    refine K_BinOp ?_
    refine K_Call ?_
    refine ldb ‹_› ‹_› (by walk_at "mem") (by walk_at "mem") ?_
    refine K_callB ?_
    refine K_more ?_
    refine ld ‹_› (by walk_at "mem") ?_
    refine spliced_none ?_
    refine len_l (FF2.isIn (by walk_at "mem")) (by simp; (clear hb hm hwl htr hwle hwp hc hc' hrest; lia)) ?_; intro _ _
    refine c_int ?_; intro _ _
    refine b_sub ?_; intro _ _
    refine K_more ?_
    refine K_UnaryOp ?_
    refine c_int ?_; intro _ _
    refine u_neg ?_; intro _ _
    refine K_more ?_
    refine K_UnaryOp ?_
    refine c_int ?_; intro _ _
    refine u_neg ?_; intro _ _
    refine spliced_none ?_
    refine range3 FF2 (by decide) (by decide) ?_
    intro r h7 t7 F7
    refine iter_range F7 (small_of (by simp; (clear hb hm hwl htr hwle hwp hc hc' hrest; omega)) (by decide) (.inr rfl)) ?_
    intro it h8 F8
    rw [rangeSize_dn, show max 0 (((ev ++ [Value.int 0 _]).length : Int) - 1 - -1) = ((j + 1 : Nat) : Int) by simp; (clear hN hb hm hlf hjl hwl htr hwle hwp hc hc' hrest; lia), show (((ev ++ [Value.int 0 _]).length : Int) - 1) = ((j + 1 : Nat) : Int) - 1 by simp; exact congrArg Int.ofNat hel] at F8
    refine for_ (fun m hh => ∀ P : Prop, (∀ (fv : List Value) (n3 : Nat) (u4 : Tok) (v2 : Option Value), m ≤ j + 1 → NatsAre fv ((((List.range (j + 1)).drop m).reverse).map (figAt N b j)) → Fm K₀ (hk h) env [Str.ofString "min", Str.ofString "max", Str.ofString "len", Str.ofString "range"]
      [vr "number" (.int (N : Nat) tn), vr "bias" (.int (b : Nat) tb), vr "worths" (.ref W), vr "edges" (.ref Eg), vr "least" (.int (lf b j : Nat) u2), vr "edge" (.int (tN j b : Nat) u3), vr "rest" (.int (restAt N b j m : Nat) u4), vr "figures" (.ref FG), (Str.ofString "place", none, v2)]
      [(it, rit ((m : Int) - 1) m (-1)), (FG, lst fv n3), (Eg, lst (ev ++ [.int 0 u0]) (n2 + 1)), (W, lst wv n1)] hh → P) → P) (j + 1) (fun _ kk => kk [] 0 _ _ (Nat.le_refl _) (by rw [List.drop_eq_nil_of_le (by simp)]; trivial) F8) ?_
    clear F7 F8 FF2
    rintro m h9 t9 B2 hB2 D2 hD2 hEx
    refine hEx _ ?_
    clear hEx
    rintro fv n3 u4 v2 hmj hfv F9
    have hfl : fv.length = j + 1 - m := by rw [hfv.length]; simp
    cases m with
    | zero =>
      refine nx_range_end hA F9 (by exact Int.natCast_nonneg _) ?_
      intro h10 F10
      refine hD2 _ ?_
      refine K_seq ?_
      refine K_Return ?_
      refine K_Sub ?_
      refine ld ‹_› (by walk_at "mem") ?_
      refine mk_slice3 ?_
      refine K_UnaryOp ?_
      refine c_int ?_; intro _ _
      refine u_neg ?_; intro _ _
      refine mk_in ‹_› ?_; intro _ _ _
      rename_i sl hsl Fsl
      refine gi_rev (Fsl.isIn (by walk_at "mem")) Fsl (by (clear hb hm hwl hel htr hwle hwp hc hc' hrest hmj; lia)) ?_
      intro L hL2 FL2
      refine q L _ _ _ _ (fun b o e => FL2.kept _ _ e) (FL2.nokey (.head _)) (FL2.isIn (by walk_at "mem")) ?_
      rw [figN_done hfull hc']
      have := hfv.rev
      rw [List.drop_zero, ← List.map_reverse, List.reverse_reverse] at this
      exact this
    | succ k =>
      have hkj : k ≤ j := by exact Nat.le_sub_one_of_lt hmj
      obtain ⟨te, hte⟩ := (hev _).get (i := k) (d := edgeAt b j k) (by simp [List.getElem?_map, List.getElem?_range (show k < j + 1 by exact hmj)])
      obtain ⟨tw, htw⟩ := hw.get (i := k) (d := wf b k) (by simp [List.getElem?_map, List.getElem?_range (show k < j + 1 by lia)])
      have hwk : wf b k ≤ 35 * N + 1 := wf_le fun i hi => hfull i (by lia)
      have hwkp := wf_pos b k
      refine nx_range F9 (by walk_at "upd") (by (clear hwk hwkp; lia)) ?_
      intro tk h10 t10 F10
      refine wpAny_of_eq (a := ()) rfl ?_
      rw [show (((k + 1 : Nat) : Int) - 1) = (k : Int) by (clear hwk hwkp; lia)] at F10 ⊢
      refine asg F10 (by walk_at "put") ?_
      intro h11 t11 F11
      refine K_seq ?_
      refine K_Expr ?_ (Fm.inter ‹_›)
      refine K_meth1 rfl rfl rfl ?_
      refine ld ‹_› (by walk_at "mem") ?_
      refine m_app_l (F11.isIn (by walk_at "mem")) ?_
      refine K_BinOp ?_
      refine K_Sub ?_
      refine ld ‹_› (by walk_at "mem") ?_
      refine ld ‹_› (by walk_at "mem") ?_
      refine gi_l k (F11.isIn (by walk_at "mem")) rfl hte (by simp; (clear hb hm hwl htr hwle hwp hc hc' hrest hmj hfl hkj hwk hwkp; lia)) ?_ rfl
      refine K_BinOp ?_
      refine ld ‹_› (by walk_at "mem") ?_
      refine K_Sub ?_
      refine ld ‹_› (by walk_at "mem") ?_
      refine ld ‹_› (by walk_at "mem") ?_
      refine gi_l k (F11.isIn (by walk_at "mem")) rfl htw (by (clear hb hm hel htr hwle hwp hc hc' hrest hmj hfl hkj hwk hwkp; lia)) ?_ rfl
      refine b_div (by omega) ?_; intro _ _
      refine b_add ?_; intro _ _
      rw [show ((edgeAt b j k : Nat) : Int) + ((restAt N b j (k + 1) : Nat) : Int) / ((wf b k : Nat) : Int) = ((figAt N b j k : Nat) : Int) by rw [← rest_div hkj]; simp]
      refine app_l (pos := default) F11 (by walk_at "upd") (by (clear hb hm hwl hel htr hwp hc hc' hrest hmj hkj hwk hwkp; omega)) ?_
      intro h12 F12
      refine K_seq ?_
      refine K_aug ?_
      refine ldn ‹_› (by walk_at "mem") ?_
      refine K_Sub ?_
      refine ld ‹_› (by walk_at "mem") ?_
      refine ld ‹_› (by walk_at "mem") ?_
      refine gi_l k (F12.isIn (by walk_at "mem")) rfl htw (by (clear hb hm hel htr hwle hwp hc hc' hrest hmj hfl hkj hwk hwkp; lia)) ?_ rfl
      refine i_mod (by exact Int.ofNat_lt.mpr hwkp) ?_; intro _ _
      rw [show ((restAt N b j (k + 1) : Nat) : Int) % ((wf b k : Nat) : Int) = ((restAt N b j k : Nat) : Int) by rw [← rest_mod hkj]; simp]
      refine st ‹_› (by walk_at "put") ?_; intro _ _ _
      refine wpAny_execs_nil ?_
      refine hB2 _ _ ⟨k, _, _, rfl, by exact Nat.le_refl _, fun _ kk => kk _ _ _ _ (by exact Nat.le_of_lt hmj) ?_ (by assumption)⟩
      have hd : (List.range (j + 1)).drop k = k :: (List.range (j + 1)).drop (k + 1) := by
        rw [List.drop_eq_getElem_cons (by simp; exact hmj)]; simp
      rw [hd, List.reverse_cons, List.map_append]
      exact hfv.snoc
  · have hc' : ¬ nf N b j < tN j b := fun x => hc (by exact_mod_cast (stop_iff hfull).mpr x)
    have e1 : ((lf b j : Nat) : Int) + ((tN j b : Nat) : Int) * ((wf b j : Nat) : Int) = ((lf b (j + 1) : Nat) : Int) := by simp [lf]
    have e2 : ((wf b j : Nat) : Int) * (36 - ((tN j b : Nat) : Int)) = ((wf b (j + 1) : Nat) : Int) := by
      show _ = ((wf b j * (36 - tN j b) : Nat) : Int)
      rw [Int.natCast_mul, show ((36 - tN j b : Nat) : Int) = 36 - ((tN j b : Nat) : Int) by (clear hN hb hm hlf hjl hwl hel hwle hwp hc hc' e1; omega)]
    refine wpAny_execs_nil ?_
    refine K_seq ?_
    refine K_aug ?_
    refine ldn ‹_› (by walk_at "mem") ?_
    refine K_BinOp ?_
    refine ld ‹_› (by walk_at "mem") ?_
    refine K_Sub ?_
    refine ld ‹_› (by walk_at "mem") ?_
    refine K_UnaryOp ?_
    refine c_int ?_; intro _ _
    refine u_neg ?_; intro _ _
    refine gi_neg (Fm.isIn (by assumption) (by walk_at "mem")) hlast (by (clear hb hm hel htr hwle hwp hc hc' e1 e2; lia)) ?_ rfl
    refine b_mul (by first | exact IntMulOk.of_left (intBits_le_64 (by omega) (by omega)) | exact IntMulOk.of_right (intBits_le_64 (by omega) (by omega))) ?_; intro _ _
    refine i_add ?_; intro _ _
    refine st ‹_› (by walk_at "put") ?_; intro _ _ _
    refine K_seq ?_
    refine K_Expr ?_ (Fm.inter ‹_›)
    refine K_meth1 rfl rfl rfl ?_
    refine ld ‹_› (by walk_at "mem") ?_
    rename_i h6 t6 F6
    rw [e1] at F6
    refine m_app_l (F6.isIn (by walk_at "mem")) ?_
    refine ld ‹_› (by walk_at "mem") ?_
    refine app_l (pos := default) F6 (by walk_at "upd") (by (clear hb hm hwl htr hwle hwp hc hc' e1 e2; lia)) ?_
    intro h7 F7
    refine K_seq ?_
    refine K_Expr ?_ (Fm.inter ‹_›)
    refine K_meth1 rfl rfl rfl ?_
    refine ld ‹_› (by walk_at "mem") ?_
    refine m_app_l (F7.isIn (by walk_at "mem")) ?_
    refine K_BinOp ?_
    refine K_Sub ?_
    refine ld ‹_› (by walk_at "mem") ?_
    refine K_UnaryOp ?_
    refine c_int ?_; intro _ _
    refine u_neg ?_; intro _ _
    refine gi_neg (F7.isIn (by walk_at "mem")) hlast (by (clear hb hm hel htr hwle hwp hc hc' e1 e2; lia)) ?_ rfl
    refine K_BinOp ?_
    refine c_int ?_; intro _ _
    refine ld ‹_› (by walk_at "mem") ?_
    refine b_sub ?_; intro _ _
    refine b_mul (by first | exact IntMulOk.of_left (intBits_le_64 (by omega) (by omega)) | exact IntMulOk.of_right (intBits_le_64 (by omega) (by omega))) ?_; intro _ _
    rw [e2]
    refine app_l (pos := default) F7 (by walk_at "upd") (by (clear hb hm hel htr hwle hwp hc hc' e1 e2; lia)) ?_
    intro h8 F8
    refine wpAny_execs_nil ?_
    have hfull2 : Full N b (j + 1) := fun i hi => by
      rcases Nat.lt_or_ge i j with h | h
      · exact hfull i h
      · obtain rfl : i = j := by (clear hN hb hm hlf hjl hwl hel htr hwle hwp hc hc' e1 e2; lia)
        exact Nat.not_lt.mp hc'
    have hl2 := lf_le hfull2
    have hl3 : lf b j < lf b (j + 1) := by
      have : 1 * 1 ≤ tN j b * wf b j := Nat.mul_le_mul htr.1 hwp
      show lf b j < lf b j + tN j b * wf b j
      (clear hN hb hm hwl hel hc' e1 e2; omega)
    refine hB1 _ _ ⟨N - lf b (j + 1), _, _, rfl, by (clear hN hb hlf hjl hwl hel htr hwle hwp hc' e2 hl2; omega), fun _ kk => kk (j + 1) _ _ _ _ _ _ rfl hfull2 ?_ ?_ F8⟩
    · rw [List.range_succ, List.map_append]; exact hw.snoc
    · rw [List.range_succ, List.map_append]; exact he.snoc
end Mine
end
section
open PySem PySem.W PyProof.Rows
set_option Elab.async false
set_option maxRecDepth 100000
set_option maxHeartbeats 1000000
set_option linter.unusedVariables false
open Mine
namespace Mine
theorem words_walk {prog w A s t h} {K₀ : KMap} {base : Nat} {ds : List Nat} {vs : List Value} {l : Addr} {n : Nat} {tb : Nat} {Q : Value → Shared → Prop} {E : Value → Shared → Prop}
   (hB : Base K₀) (hs : Sub K₀ h) (hr : Room A 60) (hl : h.get? l = some (lst vs n)) (hv : NatsAre vs ds) (hd : ∀ d ∈ ds, d < 100000) (hlen : ds.length ≤ 100) (hb : base ≤ 100)
   (q : ∀ L wv n h' t', Keeps h h' → h.get? L = none → h'.get? L = some (lst wv n) → RowsAt (newK h (hk h')) wv (wordsN base ds) → Q (.ref L) (up s h' t')) :
   wpC (model prog w) A (call (.ref 136) [.ref l, .int (base : Nat) tb]) Q E (up s h t) := by
  obtain ⟨pm, hF⟩ := hB.fn (136, 21, 135) (by walk_at "mem")
  refine wpC_call (enterC hB hs hF hr.depth (gs := [Str.ofString "range", Str.ofString "len", Str.ofString "_law_numeral"]) rfl rfl (binds := [(Str.ofString "row", .ref l), (Str.ofString "plain", .int (base : Nat) tb)]) (fun _ _ x => wpAny_of_eq rfl x)
    (lk := [vr "row" (.ref l), vr "plain" (.int (base : Nat) tb), nv "words", nv "bias", nv "turn", nv "share", nv "power"]) ?_ ?_)
  · show PutAll [nv "row", nv "plain", nv "words", nv "bias", nv "turn", nv "share", nv "power"] _ _
    walk_at "putall"
  intro env h1 t1 F
  have hA : (A.deeper env).handled = none := hr.hd
  have hvl := hv.length
  refine C_execs_cons ?_
  refine C_Assign_Name ?_
  refine C_ofE rfl ?_
  refine mk_list ?_
  refine spliced_none ?_
  refine mk_inL ‹_› ?_ ?_; (· first | (simp; done) | (simp; omega)); intro _ _ _
  refine wpC_of ?_
  refine stn ‹_› (by walk_at "put") ?_; intro _ _ _
  refine C_execs_cons ?_
  refine C_Assign_Name ?_
  refine C_ofE rfl ?_
  refine c_int ?_; intro _ _
  refine wpC_of ?_
  refine stn ‹_› (by walk_at "put") ?_; intro _ _ _
  refine C_execs_cons ?_
  rename_i W hW1 FW1 hW2 tW2 FW2 ub _ hb1 tb1 Fb1
  refine C_for ?_
  refine K_Call ?_
  refine ldb ‹_› ‹_› (by walk_at "mem") (by walk_at "mem") ?_
  refine K_callT ?_
  refine K_more ?_
  refine K_Call ?_
  refine ldb ‹_› ‹_› (by walk_at "mem") (by walk_at "mem") ?_
  refine K_callB ?_
  refine K_more ?_
  refine ld ‹_› (by walk_at "mem") ?_
  refine spliced_none ?_
  refine len_l (Fb1.kept _ _ hl) (by exact Nat.lt_of_le_of_lt (Nat.le_trans (Nat.le_of_eq hvl) hlen) (by decide)) ?_; intro _ _
  refine spliced_none ?_
  refine range1 Fb1 ?_
  intro r h2 t2 u1 u2 F2
  refine iter_range F2 (small_of (by decide) (by omega) (.inl rfl)) ?_
  intro it h3 F3
  rw [rangeSize_up (by exact Int.natCast_nonneg _)] at F3
  clear F2 Fb1 FW2 FW1 F
  refine C_forLoop (fun m hh => ∀ P : Prop, (∀ (i bias : Nat) (K : KMap) (wv : List Value) (wsn : List (List Nat)) (n1 : Nat) (ub : Tok) (v1 v2 v3 : Option Value), m = ds.length - i → i ≤ ds.length → KLe (hk h) K → RowsAt (newK h K) wv wsn → wsn.length = i → bias ≤ 1000000 → wsn ++ wordsGo base (ds.drop i) i bias = wordsN base ds → Fm K₀ K env [Str.ofString "range", Str.ofString "len", Str.ofString "_law_numeral"] [vr "row" (.ref l), vr "plain" (.int (base : Nat) tb), vr "words" (.ref W), vr "bias" (.int (bias : Nat) ub), (Str.ofString "turn", none, v1), (Str.ofString "share", none, v2), (Str.ofString "power", none, v3)]
      [(it, rit (i : Int) ((vs.length : Int) - (i : Int)) 1), (W, lst wv n1)] hh → P) → P) (ds.length - 0)
    (fun _ kk => kk 0 72 _ [] [] _ _ _ _ _ rfl (Nat.zero_le _) (KLe.refl _) .nil rfl (by decide) rfl (by simpa using F3)) ?_
  clear F3
  rintro m h4 t4 B1 hB1 D1 hD1 hEx
  refine hEx _ ?_
  clear hEx
  rintro i bias K wv wsn n1 ub v1 v2 v3 hm hi hK hrw hwl hbias heq F
  have hwvl := hrw.length
  rcases Nat.lt_or_ge i ds.length with hlt | hge
  · have hd1 : ds[i]? = some ds[i] := List.getElem?_eq_getElem hlt
    generalize hdd : ds[i] = d at *
    obtain ⟨tk, hx⟩ := hv.get hd1
    have hdm : d < 100000 := hd d (List.mem_of_getElem? hd1)
    rw [List.drop_eq_getElem_cons hlt, hdd] at heq
    refine nx_range F (by walk_at "upd") (by (clear hlen hb hm hi hwl hbias hwvl hdd hdm; omega)) ?_
    intro tk2 h5 t5 F5
    refine wpAny_of_eq (a := ()) rfl ?_
    refine asg F5 (by walk_at "put") ?_
    intro h6 t6 F6
    refine C_execs_cons ?_
    refine C_Expr ?_ F6.inter
    refine C_listAppend ?_
    refine ld ‹_› (by walk_at "mem") ?_
    refine ⟨_, _, _, rfl, F6.isIn (by walk_at "mem"), ?_⟩
    refine C_ListComp [nv "figure"] [] F6 rfl (fun p hp c hc => by simp at hp; subst hp; cases hc) ?_
    refine C_ofM (by decide +kernel) ?_
    refine K_Call ?_
    refine ldg ‹_› ‹_› (by walk_at "mem") (by walk_at "mem") ?_
    refine K_callf ‹_› (by walk_at "mem") ?_
    refine K_more ?_
    refine K_Sub ?_
    refine ld ‹_› (by walk_at "mem") ?_
    refine ld ‹_› (by walk_at "mem") ?_
    refine gi_l i (F6.kept _ _ (hK _ _ hl)) rfl hx (by exact Nat.lt_of_le_of_lt (Nat.le_trans (Nat.le_of_eq hvl) hlen) (by decide)) ?_ rfl
    refine K_more ?_
    refine ld ‹_› (by walk_at "mem") ?_
    refine spliced_none ?_
    refine And.intro (Fm.sub ‹_›) ?_
    refine numeral_walk hB F6.sub0 (hr.deeper (by decide)) hdm (by exact Nat.lt_of_le_of_lt hbias (by decide)) ?_
    intro fl fv fn h7 t7 hk7 hfn hfl hfig
    have F7 := F6.newObj hk7 hfl hfn
    refine wpC_of (iter_l F7 (F7.isIn (by walk_at "mem")) ?_)
    intro ic io h8 hio F8
    refine (CompIn.mk _ F8 (fun p hp _ => by simp at hp; subst hp; rfl) (.refl _) (fun h' t' hk' => wpAny_pyIter_listiter (s := up s h' t') ⟨_, hk' _ _ (F8.isIn (.head _)), hio⟩ ⟨rfl, rfl⟩) ?_)
    intro acc Lc oc h9 hoc FI
    have hfvl := hfig.length
    have hfig6 := ggiN_len 5 d bias 0 hdm
    rw [ggiN_fig, List.length_map] at hfig6
    have hkL := F8.kL
    clear F7 F5 F
    replace FI := FI.perm (List.Perm.swap _ _ _)
    generalize compEnvC _ _ Lc env = cenv at FI ⊢
    refine C_compLoop1 (fun m hh => ∀ P : Prop, (∀ (a : Nat) (cv : List Value) (n2 : Nat) (io : Obj) (v : Option Value), m = fv.length - a → a ≤ fv.length → IsLI io fl a → NatsAre cv (((figN d bias 0).take a).map rk) → Fm K₀ (add K env.locals oc) cenv [] [(Str.ofString "figure", none, v)] [(ic, io), (acc, lst cv n2), (fl, lst fv fn), (it, rit ((i : Int) + 1) ((vs.length : Int) - (i : Int) - 1) 1), (W, lst wv n1)] hh → P) → P) (fv.length - 0)
      (fun _ kk => kk 0 [] 0 io none rfl (Nat.zero_le _) hio trivial FI) ?_
    clear FI F8 hio io
    rintro m10 h10 t10 Z2 hZ2 D2 hD2 hEx
    refine hEx _ ?_
    clear hEx
    rintro a cv n2 io v hma hal hio hcv FJ
    have hcvl := hcv.length
    rw [List.length_map, List.length_take] at hcvl
    rcases Nat.lt_or_ge a fv.length with halt | hage
    · have hf1 : (figN d bias 0)[a]? = some (figN d bias 0)[a] := List.getElem?_eq_getElem (by exact Nat.lt_of_lt_of_eq halt hfvl)
      generalize hff : (figN d bias 0)[a] = f at hf1
      obtain ⟨tf, hfx⟩ := hfig.get hf1
      have htake : ((figN d bias 0).take (a + 1)).map rk = ((figN d bias 0).take a).map rk ++ [rk f] := by rw [List.take_add_one, hf1]; simp
      refine nx_lh FJ hio (FJ.isIn (by walk_at "mem")) hfx ?_
      intro io2 h11 hio2 FJ2
      refine wpAny_of_eq (a := ()) rfl ?_
      refine asg FJ2 (by walk_at "put") ?_
      intro h12 t12 FJ3
      refine C_ofE rfl ?_
      refine K_IfExp ?_
      refine K_tcmp ?_
      refine ld ‹_› (by walk_at "mem") ?_
      refine c_int ?_; intro _ _
      refine PyProof.Rows.lt_int ?_
      refine wpAny_truthy_bool ?_
      refine ite_dec (fun hc => ?_) (fun hc => ?_)
      · refine K_BinOp ?_
        refine ld ‹_› (by walk_at "mem") ?_
        refine c_int ?_; intro _ _
        refine b_add ?_; intro _ _
        rw [show ((f : Nat) : Int) + 10 = ((rk f : Nat) : Int) by unfold rk; rw [if_pos (by exact Int.ofNat_lt.mp hc)]; exact rfl]
        refine app_l (pos := default) FJ3 (by walk_at "upd") (by (clear hlen hb hvl hm hi hwl hbias hwvl hlt hdd hdm hfvl hma hal halt hff hc; omega)) ?_
        intro h13 FJ4
        exact hZ2 _ ⟨fv.length - (a + 1), _, _, rfl, by (clear hlen hb hvl hm hi hwl hbias hwvl hlt hdd hdm hfvl hfig6 hal hcvl hff hc; omega), fun _ kk => kk (a + 1) _ _ io2 _ rfl (by exact halt) hio2 (htake ▸ hcv.snoc) FJ4⟩
      · refine K_BinOp ?_
        refine ld ‹_› (by walk_at "mem") ?_
        refine c_int ?_; intro _ _
        refine b_sub ?_; intro _ _
        rw [show ((f : Nat) : Int) - 26 = ((rk f : Nat) : Int) by unfold rk; rw [if_neg (by (clear hlen hb hvl hm hi hwl hbias hwvl hlt hdd hdm hfvl hfig6 hma hal hcvl halt hff; omega))]; (clear hlen hb hvl hm hi hwl hbias hwvl hlt hdd hdm hfvl hfig6 hma hal hcvl halt hff; omega)]
        refine app_l (pos := default) FJ3 (by walk_at "upd") (by (clear hlen hb hvl hm hi hwl hbias hwvl hlt hdd hdm hfvl hma hal halt hff hc; omega)) ?_
        intro h13 FJ4
        exact hZ2 _ ⟨fv.length - (a + 1), _, _, rfl, by (clear hlen hb hvl hm hi hwl hbias hwvl hlt hdd hdm hfvl hfig6 hal hcvl hff hc; omega), fun _ kk => kk (a + 1) _ _ io2 _ rfl (by exact halt) hio2 (htake ▸ hcv.snoc) FJ4⟩
    · refine nx_l_end hA FJ hio (FJ.isIn (by walk_at "mem")) hage ?_
      intro h11 FK
      rw [List.take_of_length_le (by exact Nat.le_trans (Nat.le_of_eq hfvl.symm) hage)] at hcv
      refine hD2 _ (CompOut.mk FK (add_self _ _ _) _ (.refl _) ?_)
      intro h12 FO
      rw [drp_add hkL] at FO
      refine wpC_of (app_l (pos := default) FO (by walk_at "upd") (by (clear hb hvl hm hbias hlt hdd hdm hfvl hfig6 hma hal hcvl hage; lia)) ?_)
      intro h13 FP
      have FQ := (FP.drop (ws' := [(acc, lst cv n2), (it, rit ((i : Int) + 1) ((vs.length : Int) - (i : Int) - 1) 1), (W, lst (wv ++ [.ref acc]) (n1 + 1))]) (by exact (List.Sublist.refl _).cons _ |>.cons_cons _)).freeze
      have hKacc : K acc = none := FP.nokey (.head _)
      have hnacc : h.get? acc = none := by
        cases e : h.get? acc with
        | none => rfl
        | some x => have := hK _ _ e; rw [hKacc] at this; cases this
      have hrw2 : RowsAt (newK h (add K acc (lst cv n2))) (wv ++ [.ref acc]) (wsn ++ [(figN d bias 0).map rk]) := (hrw.mono (newK_mono (le_add hKacc))).snoc (newK_at hnacc (add_self _ _ _)) hcv
      have hK2 : KLe (hk h) (add K acc (lst cv n2)) := hK.trans (le_add hKacc)
      generalize add K acc (lst cv n2) = K2 at FQ hrw2 hK2
      clear FO FP FK FJ F6
      refine C_execs_cons ?_
      refine C_Assign_Name ?_
      refine C_ofE rfl ?_
      refine K_BinOp ?_
      refine K_Sub ?_
      refine ld ‹_› (by walk_at "mem") ?_
      refine ld ‹_› (by walk_at "mem") ?_
      refine gi_l i (FQ.kept _ _ (hK2 _ _ hl)) rfl hx (by exact Nat.lt_of_le_of_lt (Nat.le_trans (Nat.le_of_eq hvl) hlen) (by decide)) ?_ rfl
      refine K_IfExp ?_
      refine K_value ?_
      refine ld ‹_› (by walk_at "mem") ?_
      refine tru_i ?_
      have hfst : ∀ c : Bool, ((i : Int) != 0) = c → (i == 0) = !c := fun c hc => by
        cases i with
        | zero => simpa using hc
        | succ k => have : ((k + 1 : Nat) : Int) ≠ 0 := by (clear hlen hb hvl hbias hwvl hdm hfvl hfig6 hma hal hcvl hage hm hi hwl hlt hdd; omega)
                    simp at hc ⊢; rw [← hc]; simp; exact this
      have hn0 : 0 < base + i + 1 := by exact Nat.succ_pos _
      refine ite_b (fun hc => ?_) (fun hc => ?_) <;> (
        have hfi := hfst _ hc
        refine c_int ?_; intro _ _
        refine b_div (by omega) ?_; intro _ _
        refine wpC_of ?_
        refine stn ‹_› (by walk_at "put") ?_; intro _ _ _
        refine C_execs_cons ?_
        refine wpC_of ?_
        refine K_aug ?_
        refine ldn ‹_› (by walk_at "mem") ?_
        refine K_BinOp ?_
        refine ld ‹_› (by walk_at "mem") ?_
        refine K_BinOp ?_
        refine K_BinOp ?_
        refine ld ‹_› (by walk_at "mem") ?_
        refine ld ‹_› (by walk_at "mem") ?_
        refine b_add ?_; intro _ _
        refine c_int ?_; intro _ _
        refine b_add ?_; intro _ _
        refine b_div (by omega) ?_; intro _ _
        refine i_add ?_; intro _ _
        refine st ‹_› (by walk_at "put") ?_; intro _ _ _
        refine C_execs_cons ?_
        refine C_Assign_Name ?_
        refine C_ofE rfl ?_
        refine c_int ?_; intro _ _
        refine wpC_of ?_
        refine stn ‹_› (by walk_at "put") ?_; intro _ _ _
        refine C_execs_cons ?_
        rename_i us _ hS tS FS up0 _ hP tP FP
        have hsh : ∃ sh : Nat, sh = shN d (i == 0) (base + i + 1) ∧ Fm K₀ K2 env [Str.ofString "range", Str.ofString "len", Str.ofString "_law_numeral"]
            [vr "row" (.ref l), vr "plain" (.int (base : Nat) tb), vr "words" (.ref W), vr "bias" (.int (bias : Nat) ub), vr "turn" (.int (i : Nat) tk2), vr "share" (.int (sh : Nat) us), vr "power" (.int ((0 : Nat) : Int) up0)]
            [(it, rit ((i : Int) + 1) ((vs.length : Int) - (i : Int) - 1) 1), (W, lst (wv ++ [.ref acc]) (n1 + 1))] hP := by
          refine ⟨_, rfl, ?_⟩
          rw [hfi]
          simpa [shN] using FP
        obtain ⟨sh, hshe, FP2⟩ := hsh
        have hshl : sh ≤ 100000 := hshe ▸ shN_le d _ _ hdm hn0
        clear FS FP FQ
        refine C_while (fun m hh => ∀ P : Prop, (∀ (p : Nat) (up1 : Tok), m = 5 - p → p ≤ 5 → adaptLoop (sh / 35 ^ p) (36 * p) = adaptLoop sh 0 → Fm K₀ K2 env [Str.ofString "range", Str.ofString "len", Str.ofString "_law_numeral"]
            [vr "row" (.ref l), vr "plain" (.int (base : Nat) tb), vr "words" (.ref W), vr "bias" (.int (bias : Nat) ub), vr "turn" (.int (i : Nat) tk2), vr "share" (.int (sh : Nat) us), vr "power" (.int (p : Nat) up1)]
            [(it, rit ((i : Int) + 1) ((vs.length : Int) - (i : Int) - 1) 1), (W, lst (wv ++ [.ref acc]) (n1 + 1))] hh → P) → P) 5 (fun _ kk => kk 0 up0 rfl (by exact Nat.zero_le _) (by simp) FP2) ?_
        clear FP2
        rintro m20 h20 t20 B3 hB3 D3 hD3 hEx
        refine hEx _ ?_
        clear hEx
        rintro p up1 hmp hp5 hal2 FR
        have h35 : (35 : Nat) ^ p ≤ 35 ^ 5 := Nat.pow_le_pow_right (by exact Nat.succ_pos _) hp5
        have h35p : 0 < (35 : Nat) ^ p := Nat.pow_pos (by exact Nat.succ_pos _)
        have hc35 : (35 : Int) ^ (p : Int).toNat = ((35 ^ p : Nat) : Int) := by simp
        have hdv : ((sh : Nat) : Int) / ((35 ^ p : Nat) : Int) = ((sh / 35 ^ p : Nat) : Int) := by simp
        have hpw : (Builtin.Int.intBits 35 : Int) * (p : Int) ≤ 2 ^ 27 := by
          have : Builtin.Int.intBits 35 = 6 := by decide +kernel
          rw [this]; (clear hlen hb hm hi hwl hbias hlt hdd hdm hfig6 hma hal hcvl hage hn0 hshe hshl hmp hal2 h35 h35p hc35 hdv this; lia)
        refine K_tcmp ?_
        refine K_BinOp ?_
        refine ld ‹_› (by walk_at "mem") ?_
        refine K_BinOp ?_
        refine c_int ?_; intro _ _
        refine ld ‹_› (by walk_at "mem") ?_
        refine b_pow (by exact Int.natCast_nonneg _) hpw ?_; intro _ _
        rw [hc35]
        refine b_div (by omega) ?_; intro _ _
        refine c_int ?_; intro _ _
        refine PyProof.Rows.gt_int ?_
        refine wpAny_truthy_bool ?_
        rw [hdv]
        refine ite_dec (fun hg => ?_) (fun hg => ?_)
        · have hg' : 455 < sh / 35 ^ p := by exact_mod_cast hg
          have hp4 : p < 5 := by
            rcases Nat.lt_or_ge p 5 with h | h
            · exact h
            · obtain rfl : p = 5 := by exact Nat.le_antisymm hp5 h
              exfalso
              have : sh / 35 ^ 5 = 0 := Nat.div_eq_of_lt (by exact Nat.lt_of_le_of_lt hshl (by decide))
              (clear hlen hb hm hi hwl hbias hlt hdd hdm hfig6 hma hal hcvl hage hn0 hshe hshl hmp hp5 hal2 h35 h35p hc35 hdv hpw hg' h; omega)
          refine C_execs_cons ?_
          refine wpC_of ?_
          refine K_aug ?_
          refine ldn ‹_› (by walk_at "mem") ?_
          refine c_int ?_; intro _ _
          refine i_add ?_; intro _ _
          refine st ‹_› (by walk_at "put") ?_; intro _ _ _
          refine C_execs_nil ?_
          exact hB3 _ _ ⟨5 - (p + 1), _, _, rfl, by (clear hlen hb hvl hm hi hwl hbias hwvl hlt hdd hdm hfvl hfig6 hma hal hcvl hage hn0 hshe hshl hp5 hal2 h35 h35p hc35 hdv hpw hg hg'; omega), fun _ kk => kk (p + 1) _ rfl (by exact hp4) ((adaptLoop_up hg').symm.trans hal2) (by assumption)⟩
        · have hg' : ¬ 455 < sh / 35 ^ p := fun x => hg (by exact_mod_cast x)
          refine hD3 _ ?_
          refine C_execs_cons ?_
          refine C_Assign_Name ?_
          refine C_ofE rfl ?_
          refine K_BinOp ?_
          refine K_BinOp ?_
          refine K_BinOp ?_
          refine c_int ?_; intro _ _
          refine ld ‹_› (by walk_at "mem") ?_
          refine b_mul (by first | exact IntMulOk.of_left (intBits_le_64 (by omega) (by omega)) | exact IntMulOk.of_right (intBits_le_64 (by omega) (by omega))) ?_; intro _ _
          refine c_int ?_; intro _ _
          refine b_add ?_; intro _ _
          refine K_BinOp ?_
          refine K_UnaryOp ?_
          refine c_int ?_; intro _ _
          refine u_neg ?_; intro _ _
          refine K_BinOp ?_
          refine K_BinOp ?_
          refine ld ‹_› (by walk_at "mem") ?_
          refine K_BinOp ?_
          refine c_int ?_; intro _ _
          refine ld ‹_› (by walk_at "mem") ?_
          refine b_pow (by exact Int.natCast_nonneg _) hpw ?_; intro _ _
          rw [hc35]
          refine b_div (by omega) ?_; intro _ _
          refine c_int ?_; intro _ _
          refine b_add ?_; intro _ _
          rw [hdv]
          have hend := adaptLoop_end (k := 36 * p) hg'
          rw [hal2, show adaptLoop sh 0 = adaptN d (i == 0) (base + i + 1) by rw [adaptN_sh, ← hshe]] at hend
          have hble : adaptN d (i == 0) (base + i + 1) ≤ 1000000 := by
            rw [adaptN_sh, ← hshe]; have := adaptLoop_le sh 0; (clear hlen hb hm hi hwl hbias hlt hdd hdm hfig6 hma hal hcvl hage hn0 hshe hmp hp5 hal2 h35 h35p hc35 hdv hpw hg' hend; lia)
          generalize sh / 35 ^ p = x at hg' hend ⊢
          refine b_div ⟨by (clear hlen hb hvl hm hi hwl hbias hwvl hlt hdd hdm hfvl hfig6 hma hal hcvl hage hn0 hshe hshl hmp hp5 hal2 h35 h35p hc35 hdv hpw hg hble hg' hend; omega), by (clear hlen hb hvl hm hi hwl hbias hwvl hlt hdd hdm hfvl hfig6 hma hal hcvl hage hn0 hshe hshl hmp hp5 hal2 h35 h35p hc35 hdv hpw hg hble hend; omega)⟩ ?_; intro _ _
          refine b_add ?_; intro _ _
          rw [show (36 * (p : Int) + 36 + -1368 / ((x : Int) + 38)) = ((adaptN d (i == 0) (base + i + 1) : Nat) : Int) by rw [← hend]; simp]
          refine wpC_of ?_
          refine stn ‹_› (by walk_at "put") ?_; intro _ _ _
          refine C_execs_nil ?_
          rename_i FZ
          rw [show (i : Int) + 1 = ((i + 1 : Nat) : Int) by exact Int.natCast_succ _, show ((vs.length : Int) - (i : Int) - 1) = (vs.length : Int) - ((i + 1 : Nat) : Int) by (clear hlen hb hvl hm hi hwl hbias hwvl hlt hdd hdm hfvl hfig6 hma hal hcvl hage hn0 hshe hshl hmp hp5 hal2 h35 h35p hc35 hdv hpw hg hble hg' hend; lia)] at FZ
          refine hB1 _ _ ⟨ds.length - (i + 1), _, _, rfl, by (clear hlen hb hvl hi hwl hbias hwvl hdd hdm hfvl hfig6 hma hal hcvl hn0 hshe hshl hmp hp5 hal2 h35 h35p hc35 hdv hpw hg hble hg' hend; omega), fun _ kk => kk (i + 1) (adaptN d (i == 0) (base + i + 1)) K2 _ _ _ _ _ _ _ rfl (by exact hlt) hK2 hrw2 (by simp [hwl]) hble ?_ FZ⟩
          rw [← heq, List.append_assoc]; rfl)
  · have hii : i = ds.length := by exact Nat.le_antisymm hi hge
    rw [hii, List.drop_length] at heq
    refine nx_range_end hA F (by (clear hlen hb hm hi hwl hbias hwvl hii; lia)) ?_
    intro h5 F5
    refine hD1 _ ?_
    refine C_execs_cons ?_
    refine C_Return ?_
    refine C_ofE rfl ?_
    refine ld ‹_› (by walk_at "mem") ?_
    refine q W wv n1 _ _ (fun b o e => F5.kept _ _ (hK _ _ e)) (by
      cases e : h.get? W with
      | none => rfl
      | some x => have := hK _ _ e; rw [F5.nokey (a := W) (by walk_at "mem")] at this; cases this) (F5.isIn (by walk_at "mem")) ?_
    rw [← heq, show wordsGo base [] ds.length bias = [] from rfl, List.append_nil]
    exact hrw.mono (newK_mono F5.kept)
end Mine
end
section
open PySem PySem.W PyProof.Rows
set_option Elab.async false
set_option maxRecDepth 100000
set_option maxHeartbeats 1000000
set_option linter.unusedVariables false
open Mine
namespace Mine
/-- an octet of a rank -/
noncomputable def octI (r : Nat) : Nat := if r < 10 then 48 + r else 87 + r
theorem octI_lt {r : Nat} (h : r < 36) : octI r < 256 := by unfold octI; split <;> omega
theorem NatsAre.ints : ∀ {vs : List Value} {ds : List Nat}, NatsAre vs ds → IntsAre vs (ds.map fun d => ((d : Nat) : Int))
  | [], [], _ => .nil
  | v :: vs, d :: ds, h => by
    obtain ⟨⟨tk, rfl⟩, h2⟩ := h
    exact .cons _ _ (NatsAre.ints h2)
theorem octets_walk {prog w A s t h} {K₀ : KMap} {wss : List (List Nat)} {wv : List Value} {l : Addr} {n : Nat} {Q : Value → Shared → Prop} {E : Value → Shared → Prop}
   (hB : Base K₀) (hs : Sub K₀ h) (hr : Room A 60) (hl : h.get? l = some (lst wv n)) (hv : RowsAt (hk h) wv wss) (hd : ∀ r ∈ wss, ∀ d ∈ r, d < 36) (hlen : wss.flatten.length < 100000) (hlen2 : wss.length < 100000)
   (q : ∀ tk h' t', Keeps h h' → Q (.bytes (byteArr (wss.flatten.map fun r => ((octI r : Nat) : Int))) tk) (up s h' t')) :
   wpC (model prog w) A (call (.ref 141) [.ref l]) Q E (up s h t) := by
  obtain ⟨pm, hF⟩ := hB.fn (141, 22, 140) (by walk_at "mem")
  refine wpC_call (enterC hB hs hF hr.depth (gs := [Str.ofString "bytes"]) rfl rfl (binds := [(Str.ofString "words", .ref l)]) (fun _ _ x => wpAny_of_eq rfl x)
    (lk := [vr "words" (.ref l)]) ?_ ?_)
  · show PutAll [nv "words"] _ _
    walk_at "putall"
  intro env h1 t1 F
  have hA : (A.deeper env).handled = none := hr.hd
  have hvl := hv.length
  refine C_execs_cons ?_
  refine C_Return ?_
  refine C_type1 (T := "bytes") ?_
  refine ldb ‹_› ‹_› (by walk_at "mem") (by walk_at "mem") ?_
  refine ⟨rfl, ?_⟩
  refine C_ListComp [nv "word", nv "rank"] [] F rfl (fun p hp c hc => by simp at hp; rcases hp with rfl | rfl <;> cases hc) ?_
  refine C_ofE rfl ?_
  refine ld ‹_› (by walk_at "mem") ?_
  refine wpC_of (iter_l F (F.kept _ _ hl) ?_)
  intro ic io h2 hio F2
  have hkL := F2.kL
  refine (CompIn.mk _ F2 (fun p hp _ => by simp at hp; rcases hp with rfl | rfl <;> rfl) (.refl _) (fun h' t' hk' => wpAny_pyIter_listiter (s := up s h' t') ⟨_, hk' _ _ (F2.isIn (.head _)), hio⟩ ⟨rfl, rfl⟩) ?_)
  intro acc Lc oc h3 hoc FI
  replace FI := FI.perm (List.Perm.swap _ _ _)
  generalize compEnvC _ _ Lc env = cenv at FI ⊢
  refine C_compLoop2 (fun _ => rfl) (fun m hh => ∀ P : Prop, (∀ (a : Nat) (cv : List Value) (n2 : Nat) (io : Obj) (v1 v2 : Option Value), m = wv.length - a → a ≤ wv.length → IsLI io l a → NatsAre cv (((wss.take a).flatten).map octI) → Fm K₀ (add (hk h) env.locals oc) cenv [] [(Str.ofString "word", none, v1), (Str.ofString "rank", none, v2)] [(ic, io), (acc, lst cv n2)] hh → P) → P) (wv.length - 0)
      (fun _ kk => kk 0 [] 0 io none none rfl (Nat.zero_le _) hio trivial FI) ?_
  clear FI F2 hio io
  rintro m10 h10 t10 Z1 hZ1 D1 hD1 hEx
  refine hEx _ ?_
  clear hEx
  rintro a cv n2 io v1 v2 hma hal hio hcv FJ
  have hll := FJ.kept l (lst wv n) (le_add hkL _ _ hl)
  rcases Nat.lt_or_ge a wv.length with halt | hage
  · have hr1 : wss[a]? = some wss[a] := List.getElem?_eq_getElem (by exact Nat.lt_of_lt_of_eq halt hvl)
    generalize hrr : wss[a] = rw0 at hr1
    obtain ⟨wa, wws, wn, hwx, hwK, hwn⟩ := hv.get hr1
    have hwr : ∀ d ∈ rw0, d < 36 := hd _ (List.mem_of_getElem? hr1)
    have hwK2 : (add (hk h) env.locals oc) wa = some (lst wws wn) := le_add hkL _ _ hwK
    have hwl := hwn.length
    have hsplit : wss.flatten.length = ((wss.take a).flatten).length + (rw0.length + ((wss.drop (a + 1)).flatten).length) := by
      conv => lhs; rw [← List.take_append_drop a wss, List.drop_eq_getElem_cons (show a < wss.length by exact Nat.lt_of_lt_of_eq halt hvl), hrr]
      simp
    have htake : (wss.take (a + 1)).flatten = (wss.take a).flatten ++ rw0 := by rw [List.take_add_one, hr1]; simp
    refine nx_lh FJ hio hll hwx ?_
    intro io2 h11 hio2 FJ2
    refine wpAny_of_eq (a := ()) rfl ?_
    refine asg FJ2 (by walk_at "put") ?_
    intro h12 t12 FJ3
    refine C_ofE rfl ?_
    refine ld ‹_› (by walk_at "mem") ?_
    refine wpC_of (iter_l FJ3 (FJ3.kept _ _ hwK2) ?_)
    intro id jo h13 hjo FL
    refine (fun hX => C_compStart rfl (wpC_of (wpAny_pyIter_listiter (s := up s h13 t12) ⟨_, FL.isIn (.head _), hjo⟩ ⟨rfl, hX⟩)) hX) ?_
    refine C_compLoop2b (fun m hh => ∀ P : Prop, (∀ (b : Nat) (cv2 : List Value) (n3 : Nat) (jo : Obj) (v2 : Option Value), m = wws.length - b → b ≤ wws.length → IsLI jo wa b → NatsAre cv2 (((wss.take a).flatten).map octI ++ (rw0.take b).map octI) → Fm K₀ (add (hk h) env.locals oc) cenv [] [vr "word" (.ref wa), (Str.ofString "rank", none, v2)] [(id, jo), (ic, io2), (acc, lst cv2 n3)] hh → P) → P) (wws.length - 0)
        (fun _ kk => kk 0 cv n2 jo v2 rfl (Nat.zero_le _) hjo (by simpa using hcv) FL) ?_
    clear FL hjo jo FJ FJ2 FJ3
    rintro m14 h14 t14 Z2 hZ2 D2 hD2 hEx
    refine hEx _ ?_
    clear hEx
    rintro b cv2 n3 jo v3 hmb hbl hjo hcv2 FM
    have hcl := hcv2.length
    simp only [List.length_append, List.length_map, List.length_take] at hcl
    rcases Nat.lt_or_ge b wws.length with hblt | hbge
    · have hd1 : rw0[b]? = some rw0[b] := List.getElem?_eq_getElem (by exact Nat.lt_of_lt_of_eq hblt hwl)
      generalize hdd : rw0[b] = d at hd1
      have hd36 : d < 36 := hwr d (List.mem_of_getElem? hd1)
      obtain ⟨td, hdx⟩ := hwn.get hd1
      have htk2 : ((wss.take a).flatten).map octI ++ (rw0.take (b + 1)).map octI = (((wss.take a).flatten).map octI ++ (rw0.take b).map octI) ++ [octI d] := by rw [List.take_add_one, hd1]; simp
      refine nx_lh FM hjo (FM.kept _ _ hwK2) hdx ?_
      intro jo2 h15 hjo2 FM2
      refine wpAny_of_eq (a := ()) rfl ?_
      refine asg FM2 (by walk_at "put") ?_
      intro h16 t16 FM3
      refine C_ofE rfl ?_
      refine K_IfExp ?_
      refine K_tcmp ?_
      refine ld ‹_› (by walk_at "mem") ?_
      refine c_int ?_; intro _ _
      refine PyProof.Rows.lt_int ?_
      refine wpAny_truthy_bool ?_
      refine ite_dec (fun hc => ?_) (fun hc => ?_)
      · refine K_BinOp ?_
        refine c_int ?_; intro _ _
        refine ld ‹_› (by walk_at "mem") ?_
        refine b_add ?_; intro _ _
        rw [show (48 : Int) + ((d : Nat) : Int) = ((octI d : Nat) : Int) by unfold octI; rw [if_pos (by exact Int.ofNat_lt.mp hc)]; exact rfl]
        refine app_l (pos := default) FM3 (by walk_at "upd") (by (clear hlen2 hma hal hwl hmb hbl hblt hdd hd36 hc; omega)) ?_
        intro h17 FM4
        exact hZ2 _ ⟨wws.length - (b + 1), _, _, rfl, by (clear hlen hlen2 hma hal hwl hsplit hbl hcl hdd hd36 hc; omega), fun _ kk => kk (b + 1) _ _ jo2 _ rfl (by exact hblt) hjo2 (htk2 ▸ hcv2.snoc) FM4⟩
      · refine K_BinOp ?_
        refine c_int ?_; intro _ _
        refine ld ‹_› (by walk_at "mem") ?_
        refine b_add ?_; intro _ _
        rw [show (87 : Int) + ((d : Nat) : Int) = ((octI d : Nat) : Int) by unfold octI; rw [if_neg (by (clear hlen hlen2 hma hal hwl hsplit hmb hbl hcl hblt hdd hd36; omega))]; exact rfl]
        refine app_l (pos := default) FM3 (by walk_at "upd") (by (clear hlen2 hma hal hwl hmb hbl hblt hdd hd36 hc; omega)) ?_
        intro h17 FM4
        exact hZ2 _ ⟨wws.length - (b + 1), _, _, rfl, by (clear hlen hlen2 hma hal hwl hsplit hbl hcl hdd hd36 hc; omega), fun _ kk => kk (b + 1) _ _ jo2 _ rfl (by exact hblt) hjo2 (htk2 ▸ hcv2.snoc) FM4⟩
    · refine nx_l_end hA FM hjo (FM.kept _ _ hwK2) hbge ?_
      intro h15 FN
      rw [List.take_of_length_le (l := rw0) (by exact Nat.le_trans (Nat.le_of_eq hwl.symm) hbge), ← List.map_append, ← htake] at hcv2
      refine hD2 _ ?_
      exact hZ1 _ ⟨wv.length - (a + 1), _, _, rfl, by (clear hlen hal hwl hsplit hmb hbl hcl; omega), fun _ kk => kk (a + 1) _ _ io2 _ _ rfl (by exact halt) hio2 hcv2 FN⟩
  · refine nx_l_end hA FJ hio hll hage ?_
    intro h11 FK
    rw [List.take_of_length_le (by exact Nat.le_trans (Nat.le_of_eq hvl.symm) hage)] at hcv
    refine hD1 _ (CompOut.mk FK (add_self _ _ _) _ (.refl _) ?_)
    intro h12 FO
    rw [drp_add hkL] at FO
    have hcl := hcv.length
    rw [List.length_map] at hcl
    refine wpC_of (bytes_l hA FO (FO.isIn (by walk_at "mem")) hcv.ints ?_ (by omega) ?_)
    · intro x hx
      simp only [List.map_map, List.mem_map, List.mem_flatten] at hx
      obtain ⟨r, ⟨ws0, hw0, hr0⟩, rfl⟩ := hx
      have := octI_lt (hd _ hw0 _ hr0)
      show (0 : Int) ≤ ((octI r : Nat) : Int) ∧ ((octI r : Nat) : Int) < 256
      omega
    · intro tk h13 t13 FP
      rw [List.map_map]
      exact q _ _ _ FP.kept
end Mine
end
section
open PySem PySem.W PyProof.Rows
set_option Elab.async false
set_option maxRecDepth 100000
set_option maxHeartbeats 1000000
set_option linter.unusedVariables false
open Mine
namespace Mine
theorem ahead_walk {prog w A s t h} {K₀ : KMap} {lr lw : Addr} {rv wv : List Value} {nr nw : Nat} {rs : List (List Nat)} {wss : List (List (List Nat))} {i1 i2 : Nat} {r1 r2 : List Nat} {w1 w2 : List (List Nat)} {u1 u2 : Tok} {Q : Value → Shared → Prop} {E : Value → Shared → Prop}
   (hB : Base K₀) (hs : Sub K₀ h) (hr : Room A 40) (hlr : h.get? lr = some (lst rv nr)) (hrv : RowsAt (hk h) rv rs) (hlw : h.get? lw = some (lst wv nw)) (hwv : WordsAt (hk h) wv wss)
   (e1 : rs[i1]? = some r1) (e2 : rs[i2]? = some r2) (f1 : wss[i1]? = some w1) (f2 : wss[i2]? = some w2) (l1 : w1.length = r1.length) (l2 : w2.length = r2.length) (hn : rs.length < 1000) (hn2 : wss.length < 1000) (b1 : r1.length < 1000) (b2 : r2.length < 1000)
   (q : ∀ h' t', Keeps h h' → Q (.bool (aheadGo r1 r2 w1 w2)) (up s h' t')) :
   wpAny (model prog w) A (call (.ref 148) [.ref lr, .ref lw, .int (i1 : Nat) u1, .int (i2 : Nat) u2]) Q E (up s h t) := by
  obtain ⟨pm, hF⟩ := hB.fn (148, 23, 147) (by walk_at "mem")
  refine wpAny_call (enter hB hs hF hr.depth (gs := [Str.ofString "range", Str.ofString "min", Str.ofString "len"]) rfl rfl (binds := [(Str.ofString "rows", .ref lr), (Str.ofString "words", .ref lw), (Str.ofString "one", .int (i1 : Nat) u1), (Str.ofString "two", .int (i2 : Nat) u2)]) rfl
    (lk := [vr "rows" (.ref lr), vr "words" (.ref lw), vr "one" (.int (i1 : Nat) u1), vr "two" (.int (i2 : Nat) u2), nv "turn"]) ?_ ?_)
  · show PutAll [nv "rows", nv "words", nv "one", nv "two", nv "turn"] _ _
    walk_at "putall"
  intro env h1 t1 F
  have hA : (A.deeper env).handled = none := hr.hd
  have hrl := hrv.length
  have hwl := hwv.length
  obtain ⟨a1, v1, n1, x1, k1, y1⟩ := hrv.get e1
  obtain ⟨a2, v2, n2, x2, k2, y2⟩ := hrv.get e2
  obtain ⟨c1, v3, n3, x3, k3, y3⟩ := hwv.get f1
  obtain ⟨c2, v4, n4, x4, k4, y4⟩ := hwv.get f2
  have m1 := y1.length
  have m2 := y2.length
  have m3 := y3.length
  have m4 := y4.length
  refine wpAny_execs_cons ?_
  refine wpAny_For ?_
  refine K_Call ?_
  refine ldb ‹_› ‹_› (by walk_at "mem") (by walk_at "mem") ?_
  refine K_callT ?_
  refine K_more ?_
  refine K_Call ?_
  refine ldb ‹_› ‹_› (by walk_at "mem") (by walk_at "mem") ?_
  refine K_callB ?_
  refine K_more ?_
  refine K_Call ?_
  refine ldb ‹_› ‹_› (by walk_at "mem") (by walk_at "mem") ?_
  refine K_callB ?_
  refine K_more ?_
  refine K_Sub ?_
  refine ld ‹_› (by walk_at "mem") ?_
  refine ld ‹_› (by walk_at "mem") ?_
  refine gi_l i1 (F.kept _ _ hlr) rfl x1 (by (clear l1 l2 hn2 b1 b2 hwl m1 m2 m3 m4; omega)) ?_ rfl
  refine spliced_none ?_
  refine len_l (F.kept _ _ k1) (by (clear l1 l2 hn hn2 b2 hrl hwl m2 m3 m4; omega)) ?_; intro _ _
  refine K_more ?_
  refine K_Call ?_
  refine ldb ‹_› ‹_› (by walk_at "mem") (by walk_at "mem") ?_
  refine K_callB ?_
  refine K_more ?_
  refine K_Sub ?_
  refine ld ‹_› (by walk_at "mem") ?_
  refine ld ‹_› (by walk_at "mem") ?_
  refine gi_l i2 (F.kept _ _ hlr) rfl x2 (by (clear l1 l2 hn2 b1 b2 hwl m1 m2 m3 m4; omega)) ?_ rfl
  refine spliced_none ?_
  refine len_l (F.kept _ _ k2) (by (clear l1 l2 hn hn2 b1 hrl hwl m1 m3 m4; omega)) ?_; intro _ _
  refine spliced_none ?_
  refine min2 hA F ?_; intro _ h2 t2 F2
  refine spliced_none ?_
  refine range1 F2 ?_
  intro r h3 t3 v5 v6 F3
  refine iter_range F3 (small_of (by decide) (by (clear l1 l2 hn hn2 b2 hrl hwl m2 m3 m4; omega)) (.inl rfl)) ?_
  intro it h4 F4
  rw [rangeSize_up (by (clear l1 l2 hn hn2 b1 b2 hrl hwl m1 m2 m3 m4; lia)), show min ((v1.length : Nat) : Int) ((v2.length : Nat) : Int) = ((min r1.length r2.length : Nat) : Int) by (clear l1 l2 hn hn2 b1 b2 hrl hwl m3 m4; lia)] at F4
  refine for_ (fun m hh => ∀ P : Prop, (∀ (i : Nat) (v : Option Value), m = min r1.length r2.length - i → i ≤ min r1.length r2.length → aheadGo (r1.drop i) (r2.drop i) (w1.drop i) (w2.drop i) = aheadGo r1 r2 w1 w2 → Fm K₀ (hk h) env [Str.ofString "range", Str.ofString "min", Str.ofString "len"] [vr "rows" (.ref lr), vr "words" (.ref lw), vr "one" (.int (i1 : Nat) u1), vr "two" (.int (i2 : Nat) u2), (Str.ofString "turn", none, v)] [(it, rit (i : Int) (((min r1.length r2.length : Nat) : Int) - (i : Int)) 1)] hh → P) → P) (min r1.length r2.length - 0)
    (fun _ kk => kk 0 none rfl (Nat.zero_le _) rfl (by simpa using F4)) ?_
  clear F F2 F3 F4
  rintro m h5 t5 B1 hB1 D1 hD1 hEx
  refine hEx _ ?_
  clear hEx
  rintro i v hm hi heq F
  rcases Nat.lt_or_ge i (min r1.length r2.length) with hlt | hge
  · have g1 : r1[i]? = some r1[i] := List.getElem?_eq_getElem (by (clear l1 l2 hn hn2 b1 b2 hrl hwl m1 m2 m3 m4 hm hi; omega))
    have g2 : r2[i]? = some r2[i] := List.getElem?_eq_getElem (by (clear hn hn2 b1 b2 hrl hwl hm hi; lia))
    have g3 : w1[i]? = some w1[i] := List.getElem?_eq_getElem (by (clear hn hn2 b1 b2 hrl hwl hm hi; lia))
    have g4 : w2[i]? = some w2[i] := List.getElem?_eq_getElem (by (clear hn hn2 b1 b2 hrl hwl hm hi; lia))
    have hstep := aheadGo_step g1 g2 g3 g4
    generalize r1[i]'(by (clear hn hn2 b1 b2 hrl hwl hm hi; lia)) = d1 at g1 hstep
    generalize r2[i]'(by (clear hn hn2 b1 b2 hrl hwl hm hi; lia)) = d2 at g2 hstep
    generalize w1[i]'(by (clear hn hn2 b1 b2 hrl hwl hm hi; lia)) = p1 at g3 hstep
    generalize w2[i]'(by (clear hn hn2 b1 b2 hrl hwl hm hi; lia)) = p2 at g4 hstep
    obtain ⟨tk1, z1⟩ := y1.get g1
    obtain ⟨tk2, z2⟩ := y2.get g2
    obtain ⟨b3, v7, n7, z3, k7, y7⟩ := y3.get g3
    obtain ⟨b4, v8, n8, z4, k8, y8⟩ := y4.get g4
    refine nx_range F (by walk_at "upd") (by (clear l1 l2 hn hn2 b1 b2 hrl hwl m1 m2 m3 m4 hm hi; omega)) ?_
    intro tk h6 t6 F6
    refine wpAny_of_eq (a := ()) rfl ?_
    refine asg F6 (by walk_at "put") ?_
    intro h7 t7 F7
    refine K_seq ?_
    refine K_If ?_
    refine K_tcmp ?_
    refine K_Sub ?_
    refine K_Sub ?_
    refine ld ‹_› (by walk_at "mem") ?_
    refine ld ‹_› (by walk_at "mem") ?_
    refine gi_l i1 (F7.kept _ _ hlr) rfl x1 (by (clear l1 l2 hn2 b1 b2 hwl m1 m2 m3 m4 hm hi hlt; omega)) ?_ rfl
    refine ld ‹_› (by walk_at "mem") ?_
    refine gi_l i (F7.kept _ _ k1) rfl z1 (by (clear l1 l2 hn hn2 b2 hrl hwl m2 m3 m4 hm hi hlt; omega)) ?_ rfl
    refine K_Sub ?_
    refine K_Sub ?_
    refine ld ‹_› (by walk_at "mem") ?_
    refine ld ‹_› (by walk_at "mem") ?_
    refine gi_l i2 (F7.kept _ _ hlr) rfl x2 (by (clear l1 l2 hn2 b1 b2 hwl m1 m2 m3 m4 hm hi hlt; omega)) ?_ rfl
    refine ld ‹_› (by walk_at "mem") ?_
    refine gi_l i (F7.kept _ _ k2) rfl z2 (by (clear l1 l2 hn hn2 b1 hrl hwl m1 m3 m4 hm hi hlt; omega)) ?_ rfl
    refine PyProof.Rows.ne_int ?_
    refine wpAny_truthy_bool ?_
    refine ite_b (fun hb => ?_) (fun hb => ?_)
    · have hb' : ¬ d1 = d2 := fun e => by subst e; simp at hb
      rw [if_neg hb'] at hstep
      refine K_seq ?_
      refine K_Return ?_
      refine K_cmp ?_
      refine K_Sub ?_
      refine K_Sub ?_
      refine ld ‹_› (by walk_at "mem") ?_
      refine ld ‹_› (by walk_at "mem") ?_
      refine gi_l i1 (F7.kept _ _ hlw) rfl x3 (by (clear l1 l2 hn b1 b2 hrl m1 m2 m3 m4 hm hi hlt hb'; omega)) ?_ rfl
      refine ld ‹_› (by walk_at "mem") ?_
      refine gi_l i (F7.kept _ _ k3) rfl z3 (by (clear l2 hn hn2 b2 hrl hwl m1 m2 m4 hm hi hlt hb'; lia)) ?_ rfl
      refine K_Sub ?_
      refine K_Sub ?_
      refine ld ‹_› (by walk_at "mem") ?_
      refine ld ‹_› (by walk_at "mem") ?_
      refine gi_l i2 (F7.kept _ _ hlw) rfl x4 (by (clear l1 l2 hn b1 b2 hrl m1 m2 m3 m4 hm hi hlt hb'; omega)) ?_ rfl
      refine ld ‹_› (by walk_at "mem") ?_
      refine gi_l i (F7.kept _ _ k4) rfl z4 (by (clear l1 hn hn2 b1 hrl hwl m1 m2 m3 hm hi hlt hb'; lia)) ?_ rfl
      refine lt_nats (hr.deeper (m := 39) (by exact Nat.le_refl _)).units (F7.kept _ _ k7) (F7.kept _ _ k8) y7 y8 ?_
      rw [← hstep, heq]
      exact hB1 _ _ (q _ _ F7.kept)
    · have hb' : d1 = d2 := by
        have : ((d1 : Nat) : Int) = ((d2 : Nat) : Int) := by simpa using hb
        exact Int.ofNat.inj this
      rw [if_pos hb'] at hstep
      refine wpAny_execs_nil ?_
      refine wpAny_execs_nil ?_
      rw [show (i : Int) + 1 = ((i + 1 : Nat) : Int) by exact Int.natCast_succ _, show (((min r1.length r2.length : Nat) : Int) - (i : Int) - 1) = ((min r1.length r2.length : Nat) : Int) - ((i + 1 : Nat) : Int) by (clear l1 l2 hn hn2 b1 b2 hrl hwl m1 m2 m3 m4 hm hi hlt hb'; lia)] at F7
      exact hB1 _ _ ⟨min r1.length r2.length - (i + 1), _, _, rfl, by (clear hn hn2 b1 b2 hrl hwl m1 m2 m3 m4 hi hb'; omega), fun _ kk => kk (i + 1) _ rfl (by exact hlt) (hstep ▸ heq) F7⟩
  · refine nx_range_end hA F (by (clear l1 l2 hn hn2 b1 b2 hrl hwl m1 m2 m3 m4 hm hi; lia)) ?_
    intro h6 F6
    refine hD1 _ ?_
    refine K_seq ?_
    refine K_Return ?_
    refine K_cmp ?_
    refine K_Call ?_
    refine ldb ‹_› ‹_› (by walk_at "mem") (by walk_at "mem") ?_
    refine K_callB ?_
    refine K_more ?_
    refine K_Sub ?_
    refine ld ‹_› (by walk_at "mem") ?_
    refine ld ‹_› (by walk_at "mem") ?_
    refine gi_l i1 (F6.kept _ _ hlr) rfl x1 (by (clear l1 l2 hn2 b1 b2 hwl m1 m2 m3 m4 hm hi hge; omega)) ?_ rfl
    refine spliced_none ?_
    refine len_l (F6.kept _ _ k1) (by (clear l1 l2 hn hn2 b2 hrl hwl m2 m3 m4 hm hi hge; omega)) ?_; intro _ _
    refine K_Call ?_
    refine ldb ‹_› ‹_› (by walk_at "mem") (by walk_at "mem") ?_
    refine K_callB ?_
    refine K_more ?_
    refine K_Sub ?_
    refine ld ‹_› (by walk_at "mem") ?_
    refine ld ‹_› (by walk_at "mem") ?_
    refine gi_l i2 (F6.kept _ _ hlr) rfl x2 (by (clear l1 l2 hn2 b1 b2 hwl m1 m2 m3 m4 hm hi hge; omega)) ?_ rfl
    refine spliced_none ?_
    refine len_l (F6.kept _ _ k2) (by (clear l1 l2 hn hn2 b1 hrl hwl m1 m3 m4 hm hi hge; omega)) ?_; intro _ _
    refine PyProof.Rows.lt_int ?_
    rw [show decide (((v1.length : Nat) : Int) < ((v2.length : Nat) : Int)) = aheadGo r1 r2 w1 w2 by rw [← heq, aheadGo_end hge hi, m1, m2]; simp]
    exact q _ _ F6.kept
end Mine
end
section
open PySem PySem.W PyProof.Rows
set_option Elab.async false
set_option maxRecDepth 100000
set_option maxHeartbeats 1000000
set_option linter.unusedVariables false
open Mine
namespace Mine
theorem NatsAre.take : ∀ {vs : List Value} {ds : List Nat}, NatsAre vs ds → ∀ k : Nat, NatsAre (vs.take k) (ds.take k)
  | _, _, _, 0 => by simp [NatsAre]
  | [], [], _, k + 1 => trivial
  | v :: vs, d :: ds, h, k + 1 => ⟨h.1, NatsAre.take h.2 k⟩
theorem NatsAre.drop : ∀ {vs : List Value} {ds : List Nat}, NatsAre vs ds → ∀ k : Nat, NatsAre (vs.drop k) (ds.drop k)
  | _, _, h, 0 => h
  | [], [], _, k + 1 => trivial
  | v :: vs, d :: ds, h, k + 1 => NatsAre.drop h.2 k
theorem NatsAre.append : ∀ {vs us : List Value} {ds es : List Nat}, NatsAre vs ds → NatsAre us es → NatsAre (vs ++ us) (ds ++ es)
  | [], _, [], _, _, h => h
  | v :: vs, us, d :: ds, es, h, g => ⟨h.1, NatsAre.append h.2 g⟩
/-- a place is put behind those that do not come behind it -/
noncomputable def insStep (p : Nat → Nat → Bool) (order : List Nat) (here : Nat) : List Nat :=
  order.take (order.filter fun there => !p here there).length ++ [here] ++ order.drop (order.filter fun there => !p here there).length
theorem rising_walk {prog w A s t h} {K₀ : KMap} {lr lw : Addr} {rv wv : List Value} {nr nw : Nat} {rs : List (List Nat)} {wss : List (List (List Nat))} {Q : Value → Shared → Prop} {E : Value → Shared → Prop}
   (hB : Base K₀) (hs : Sub K₀ h) (hr : Room A 60) (hlr : h.get? lr = some (lst rv nr)) (hrv : RowsAt (hk h) rv rs) (hlw : h.get? lw = some (lst wv nw)) (hwv : WordsAt (hk h) wv wss)
   (hlen : wss.length = rs.length) (hls : ∀ (i : Nat) (r : List Nat) (w0 : List (List Nat)), rs[i]? = some r → wss[i]? = some w0 → w0.length = r.length) (hn : rs.length < 1000) (hb : ∀ r ∈ rs, r.length < 1000)
   (q : ∀ L ov n h' t', Keeps h h' → h'.get? L = some (lst ov n) → NatsAre ov ((List.range rs.length).foldl (insStep (fun a b => aheadGo (rs.getD a []) (rs.getD b []) (wss.getD a []) (wss.getD b []))) []) → Q (.ref L) (up s h' t')) :
   wpC (model prog w) A (call (.ref 153) [.ref lr, .ref lw]) Q E (up s h t) := by
  obtain ⟨pm, hF⟩ := hB.fn (153, 24, 152) (by walk_at "mem")
  refine wpC_call (enterC hB hs hF hr.depth (gs := [Str.ofString "range", Str.ofString "len"]) rfl rfl (binds := [(Str.ofString "rows", .ref lr), (Str.ofString "words", .ref lw)]) (fun _ _ x => wpAny_of_eq rfl x)
    (lk := [vc "rows" (h.objs.size + 1) (.ref lr), vc "words" (h.objs.size + 1 + 1) (.ref lw), nv "order", (Str.ofString "here", some (h.objs.size + 1 + 1 + 1), none), nv "stays"]) ?_ ?_)
  · show PutAll [(Str.ofString "rows", some (h.objs.size + 1), none), (Str.ofString "words", some (h.objs.size + 1 + 1), none), nv "order", (Str.ofString "here", some (h.objs.size + 1 + 1 + 1), none), nv "stays"] _ _
    walk_at "putall"
  intro env h1 t1 F
  have hA : (A.deeper env).handled = none := hr.hd
  have hrl := hrv.length
  have hwl := hwv.length
  generalize h.objs.size + 1 + 1 + 1 = c3 at F ⊢
  generalize h.objs.size + 1 + 1 = c2 at F ⊢
  generalize h.objs.size + 1 = c1 at F ⊢
  refine C_execs_cons ?_
  refine C_Assign_Name ?_
  refine C_ofE rfl ?_
  refine mk_list ?_
  refine spliced_none ?_
  refine mk_inL ‹_› ?_ ?_; (· first | (simp; done) | (simp; omega)); intro _ _ _
  refine wpC_of ?_
  refine stn ‹_› (by walk_at "put") ?_; intro _ _ _
  refine C_execs_cons ?_
  rename_i O hO1 FO1 hO2 tO2 FO2
  refine C_for ?_
  refine K_Call ?_
  refine ldb ‹_› ‹_› (by walk_at "mem") (by walk_at "mem") ?_
  refine K_callT ?_
  refine K_more ?_
  refine K_Call ?_
  refine ldb ‹_› ‹_› (by walk_at "mem") (by walk_at "mem") ?_
  refine K_callB ?_
  refine K_more ?_
  refine ld ‹_› (by walk_at "mem") ?_
  refine spliced_none ?_
  refine len_l (FO2.kept _ _ hlr) (by (clear hlen hwl; omega)) ?_; intro _ _
  refine spliced_none ?_
  refine range1 FO2 ?_
  intro r h2 t2 u1 u2 F2
  refine iter_range F2 (small_of (by decide) (by (clear hlen hwl; omega)) (.inl rfl)) ?_
  intro it h3 F3
  rw [rangeSize_up (by exact Int.natCast_nonneg _), hrl] at F3
  generalize hp : (fun a b => aheadGo (rs.getD a []) (rs.getD b []) (wss.getD a []) (wss.getD b [])) = p at q
  refine C_forLoop (fun m hh => ∀ P : Prop, (∀ (i : Nat) (O : Addr) (ov : List Value) (on : List Nat) (n1 : Nat) (v1 v2 : Option Value), m = rs.length - i → i ≤ rs.length → NatsAre ov on → on.length = i → (∀ x ∈ on, x < rs.length) → on = (List.range i).foldl (insStep p) [] → Fm K₀ (hk h) env [Str.ofString "range", Str.ofString "len"] [vc "rows" c1 (.ref lr), vc "words" c2 (.ref lw), vr "order" (.ref O), (Str.ofString "here", some c3, v1), (Str.ofString "stays", none, v2)]
      [(it, rit (i : Int) ((rs.length : Int) - (i : Int)) 1), (O, lst ov n1)] hh → P) → P) (rs.length - 0)
    (fun _ kk => kk 0 O [] [] 0 none none rfl (Nat.zero_le _) trivial rfl (fun x hx => nomatch hx) rfl (by simpa using F3)) ?_
  clear F3 F2 FO2 FO1 F
  rintro m h4 t4 B1 hB1 D1 hD1 hEx
  refine hEx _ ?_
  clear hEx
  rintro i O ov on n1 v1 v2 hm hi hov honl honb hon F
  have hol := hov.length
  rcases Nat.lt_or_ge i rs.length with hlt | hge
  · have e1 : rs[i]? = some (rs.getD i []) := by rw [List.getElem?_eq_getElem hlt]; simp [List.getD, List.getElem?_eq_getElem hlt]
    have f1 : wss[i]? = some (wss.getD i []) := by rw [List.getElem?_eq_getElem (by exact Nat.lt_of_lt_of_eq hlt hlen.symm)]; simp [List.getD, List.getElem?_eq_getElem (show i < wss.length by exact Nat.lt_of_lt_of_eq hlt hlen.symm)]
    refine nx_range F (by walk_at "upd") (by (clear hlen hn hrl hwl hm hi honl hol; omega)) ?_
    intro tk2 h5 t5 F5
    refine wpAny_of_eq (a := ()) rfl ?_
    refine asg F5 (by walk_at "put") ?_
    intro h6 t6 F6
    refine C_execs_cons ?_
    refine C_Assign_Name ?_
    refine C_builtin1 (id := "len") ?_
    refine ldb ‹_› ‹_› (by walk_at "mem") (by walk_at "mem") ?_
    refine ⟨rfl, ?_⟩
    refine C_ListComp [nv "there", vc "words" c2 (.ref lw), vc "rows" c1 (.ref lr), vc "here" c3 (.int (i : Nat) tk2)] [Str.ofString "_law_ahead"] F6 rfl (fun p hp c hc => by
      simp at hp; rcases hp with rfl | rfl | rfl | rfl
      · cases hc
      · cases hc; exact ⟨_, by walk_at "mem"⟩
      · cases hc; exact ⟨_, by walk_at "mem"⟩
      · cases hc; exact ⟨_, by walk_at "mem"⟩) ?_
    refine C_ofE rfl ?_
    refine ld ‹_› (by walk_at "mem") ?_
    refine wpC_of (iter_l F6 (F6.isIn (by walk_at "mem")) ?_)
    intro ic io h7 hio F7
    have hkL := F7.kL
    have hloc : ∀ p ∈ ([nv "there", vc "words" c2 (.ref lw), vc "rows" c1 (.ref lr), vc "here" c3 (.int (i : Nat) tk2)] : List Var), p.2.1 = none → p.2.2 = none := by
      intro p hp hc
      simp only [List.mem_cons, List.not_mem_nil, or_false] at hp
      rcases hp with rfl | rfl | rfl | rfl
      · rfl
      · cases hc
      · cases hc
      · cases hc
    refine (CompIn.mk _ F7 hloc (List.Perm.swap _ _ _) (fun h' t' hk' => wpAny_pyIter_listiter (s := up s h' t') ⟨_, hk' _ _ (F7.isIn (.head _)), hio⟩ ⟨rfl, rfl⟩) ?_)
    intro acc Lc oc h8 hoc FI
    replace FI := FI.perm (List.Perm.swap _ _ _)
    generalize compEnvC _ _ Lc env = cenv at FI ⊢
    have hKle : KLe (hk h) (add (hk h) env.locals oc) := le_add hkL
    have eat : ∀ k, k < rs.length → rs[k]? = some (rs.getD k []) := fun k hk => by rw [List.getElem?_eq_getElem hk]; simp [List.getD, List.getElem?_eq_getElem hk]
    have fat : ∀ k, k < rs.length → wss[k]? = some (wss.getD k []) := fun k hk => by rw [List.getElem?_eq_getElem (show k < wss.length by exact Nat.lt_of_lt_of_eq hk hlen.symm)]; simp [List.getD, List.getElem?_eq_getElem (show k < wss.length by exact Nat.lt_of_lt_of_eq hk hlen.symm)]
    have hbk : ∀ k, k < rs.length → (rs.getD k []).length < 1000 := fun k hk => hb _ (List.mem_of_getElem? (eat k hk))
    clear F7 F5 F
    refine C_compLoopIf (fun m hh => ∀ P : Prop, (∀ (a : Nat) (cv : List Value) (n2 : Nat) (io : Obj) (v : Option Value), m = ov.length - a → a ≤ ov.length → IsLI io O a → NatsAre cv ((on.take a).filter fun there => !p i there) → Fm K₀ (add (hk h) env.locals oc) cenv [Str.ofString "_law_ahead"] [(Str.ofString "there", none, v), vc "words" c2 (.ref lw), vc "rows" c1 (.ref lr), vc "here" c3 (.int (i : Nat) tk2)]
        [(ic, io), (acc, lst cv n2), (it, rit ((i : Int) + 1) ((rs.length : Int) - (i : Int) - 1) 1), (O, lst ov n1)] hh → P) → P) (ov.length - 0)
      (fun _ kk => kk 0 [] 0 io none rfl (Nat.zero_le _) hio trivial FI) ?_
    clear FI hio io
    rintro m10 h10 t10 Z2 hZ2 D2 hD2 hEx
    refine hEx _ ?_
    clear hEx
    rintro a cv n2 io v hma hal hio hcv FJ
    have hcvl := hcv.length
    have hfl := List.length_filter_le (fun there => !p i there) (on.take a)
    rw [List.length_take] at hfl
    rcases Nat.lt_or_ge a ov.length with halt | hage
    · have hj1 : on[a]? = some on[a] := List.getElem?_eq_getElem (by exact Nat.lt_of_lt_of_eq halt hol)
      generalize hjj : on[a] = j at hj1
      have hjn : j < rs.length := honb j (List.mem_of_getElem? hj1)
      obtain ⟨tj, hjx⟩ := hov.get hj1
      refine nx_lh FJ hio (FJ.isIn (by walk_at "mem")) hjx ?_
      intro io2 h11 hio2 FJ2
      refine wpAny_of_eq (a := ()) rfl ?_
      refine asg FJ2 (by walk_at "put") ?_
      intro h12 t12 FJ3
      refine wpC_of ?_
      refine K_not ?_
      refine K_value ?_
      refine K_Call ?_
      refine ldg ‹_› ‹_› (by walk_at "mem") (by walk_at "mem") ?_
      refine K_callf ‹_› (by walk_at "mem") ?_
      refine K_more ?_
      refine ld ‹_› (by walk_at "mem") ?_
      refine K_more ?_
      refine ld ‹_› (by walk_at "mem") ?_
      refine K_more ?_
      refine ld ‹_› (by walk_at "mem") ?_
      refine K_more ?_
      refine ld ‹_› (by walk_at "mem") ?_
      refine spliced_none ?_
      refine And.intro (Fm.sub ‹_›) ?_
      refine ahead_walk (i1 := i) (i2 := j) hB FJ3.sub0 (hr.deeper (by decide)) (FJ3.kept _ _ (hKle _ _ hlr)) ((hrv.mono hKle).mono FJ3.kept) (FJ3.kept _ _ (hKle _ _ hlw)) ((hwv.mono hKle).mono FJ3.kept) (eat _ (by assumption)) (eat _ (by assumption)) (fat _ (by assumption)) (fat _ (by assumption)) (hls _ _ _ (eat _ (by assumption)) (fat _ (by assumption))) (hls _ _ _ (eat _ (by assumption)) (fat _ (by assumption))) hn (by exact Nat.lt_of_le_of_lt (Nat.le_of_eq hlen) hn) (hbk _ (by assumption)) (hbk _ (by assumption)) ?_
      intro h13 t13 hk13
      have FJ4 := FJ3.keeps hk13
      rw [show aheadGo (rs.getD i []) (rs.getD j []) (wss.getD i []) (wss.getD j []) = p i j by rw [← hp]]
      have htk : (on.take (a + 1)).filter (fun there => !p i there) = (on.take a).filter (fun there => !p i there) ++ (if p i j then [] else [j]) := by
        rw [List.take_add_one, hj1, List.filter_append]
        cases hpp : p i j <;> simp [hpp]
      refine wpAny_truthy_bool ?_
      refine ite_b (fun hc => ?_) (fun hc => ?_)
      · have hc' : p i j = false := by simpa using hc
        rw [hc'] at htk
        refine C_ofE rfl ?_
        refine ld ‹_› (by walk_at "mem") ?_
        refine app_l (pos := default) FJ4 (by walk_at "upd") (by (clear hlen hrl hwl hm hol hlt hma hal halt hjj hjn; omega)) ?_
        intro h14 FJ5
        exact hZ2 _ ⟨ov.length - (a + 1), _, _, rfl, by (clear hlen hn hrl hwl hm hi honl hol hlt hal hcvl hfl hjj hjn; omega), fun _ kk => kk (a + 1) _ _ io2 _ rfl (by exact halt) hio2 (htk ▸ hcv.snoc) FJ5⟩
      · have hc' : p i j = true := by simpa using hc
        rw [hc'] at htk
        exact hZ2 _ ⟨ov.length - (a + 1), _, _, rfl, by (clear hlen hn hrl hwl hm hi honl hol hlt hal hcvl hfl hjj hjn; omega), fun _ kk => kk (a + 1) _ _ io2 _ rfl (by exact halt) hio2 (by rw [htk]; simpa using hcv) FJ4⟩
    · refine nx_l_end hA FJ hio (FJ.isIn (by walk_at "mem")) hage ?_
      intro h11 FK
      rw [List.take_of_length_le (by exact Nat.le_trans (Nat.le_of_eq hol.symm) hage)] at hcv
      refine hD2 _ (CompOut.mk FK (add_self _ _ _) _ (List.Perm.swap _ _ _) ?_)
      intro h12 FO
      rw [drp_add hkL] at FO
      refine wpC_of (len_l (FO.isIn (by walk_at "mem")) (by (clear hlen hrl hwl hm hol hlt hma hal hage; omega)) ?_); intro _ _
      have hkn : cv.length = (on.filter fun there => !p i there).length := hcv.length
      rw [hkn]
      generalize hkk : (on.filter fun there => !p i there).length = k at *
      refine wpC_of ?_
      refine stn ‹_› (by walk_at "put") ?_; intro _ _ _
      refine C_execs_cons ?_
      refine C_Assign_Name ?_
      refine C_ofE rfl ?_
      refine K_BinOp ?_
      refine K_BinOp ?_
      refine K_Sub ?_
      refine ld ‹_› (by walk_at "mem") ?_
      refine mk_slice ?_
      refine wpAny_evalPart_none ?_
      refine wpAny_evalPart_some ?_
      refine ld ‹_› (by walk_at "mem") ?_
      refine mk_in ‹_› ?_; intro _ _ _
      rename_i hS0 tS0 FS0 sl0 hsl0 Fsl0
      refine gi_upto (b := k) ⟨_, Fsl0.isIn (by walk_at "mem"), rfl, _, rfl⟩ Fsl0 (by (clear hlen hrl hwl hm hlt hma hal hcvl hfl hage hkk hkn; lia)) ?_
      intro S1 hS1 FS1
      refine mk_list ?_
      refine K_more ?_
      refine ld ‹_› (by walk_at "mem") ?_
      refine spliced_none ?_
      refine mk_inL ‹_› ?_ ?_; (· first | (simp; done) | (simp; omega)); intro _ _ _
      rename_i S2 hS2 FS2
      refine add_l FS2 (FS2.isIn (by walk_at "mem")) (FS2.isIn (by walk_at "mem")) (by simp; (clear hlen hrl hwl hm hlt hma hal hcvl hfl hage hkk hkn; lia)) ?_
      intro S3 hS3 FS3
      refine K_Sub ?_
      refine ld ‹_› (by walk_at "mem") ?_
      refine mk_slice ?_
      refine wpAny_evalPart_some ?_
      refine ld ‹_› (by walk_at "mem") ?_
      refine wpAny_evalPart_none ?_
      refine mk_in ‹_› ?_; intro _ _ _
      rename_i sl4 hsl4 Fsl4
      refine gi_from (b := k) ⟨_, Fsl4.isIn (ws := (sl4, _) :: (S3, _) :: (S2, _) :: (S1, _) :: (acc, _) :: (it, _) :: (O, _) :: _) (by walk_at "mem"), rfl, _, rfl⟩ Fsl4 (by (clear hlen hrl hwl hm hlt hma hal hcvl hfl hage hkk hkn; lia)) ?_
      intro S5 hS5 FS5
      refine add_l FS5 (FS5.isIn (ws := (S5, _) :: (S3, _) :: _) (by walk_at "mem")) (FS5.isIn (by walk_at "mem")) (by simp; (clear hlen hrl hwl hm hlt hma hal hcvl hfl hage hkk hkn; omega)) ?_
      intro S6 hS6 FS6
      refine wpC_of ?_
      refine stn ‹_› (by walk_at "put") ?_; intro _ _ _
      refine C_execs_nil ?_
      rename_i hS7 tS7 FS7
      have FS8 := FS7.drop (ws' := [(S6, lst (List.take k ov ++ [Value.int (i : Nat) tk2] ++ List.drop k ov) 0), (it, rit ((i : Int) + 1) ((rs.length : Int) - (i : Int) - 1) 1)]) (by
        exact List.Sublist.cons_cons _ (((((((List.Sublist.refl [(it, rit ((i : Int) + 1) ((rs.length : Int) - (i : Int) - 1) 1)]).trans (List.sublist_append_left _ [(O, lst ov n1)])).cons _).cons _).cons _).cons _).cons _))
      have FS9 := FS8.perm (List.Perm.swap _ _ _)
      rw [show (i : Int) + 1 = ((i + 1 : Nat) : Int) by exact Int.natCast_succ _, show ((rs.length : Int) - (i : Int) - 1) = (rs.length : Int) - ((i + 1 : Nat) : Int) by (clear hlen hn hrl hwl hm hi honl hol hlt hma hal hcvl hfl hage hkk hkn; lia)] at FS9
      have hkle : k ≤ on.length := hkk ▸ List.length_filter_le _ _
      have hnat : NatsAre (List.take k ov ++ [Value.int (i : Nat) tk2] ++ List.drop k ov) (insStep p on i) := by
        unfold insStep; rw [hkk]; exact ((hov.take k).snoc).append (hov.drop k)
      refine hB1 _ _ ⟨rs.length - (i + 1), _, _, rfl, by (clear hlen hn hrl hwl hi honl hol hma hcvl hfl hage hkk hkn hkle; omega), fun _ kk => kk (i + 1) S6 _ (insStep p on i) 0 _ _ rfl (by exact hlt) hnat ?_ ?_ ?_ FS9⟩
      · unfold insStep; rw [hkk]; simp; (clear hlen hn hm hi hlt hma hal hcvl hfl hage hkk hkn; lia)
      · intro x hx
        unfold insStep at hx
        simp only [List.mem_append, List.mem_singleton] at hx
        rcases hx with (hx | rfl) | hx
        · exact honb x (List.mem_of_mem_take hx)
        · exact hlt
        · exact honb x (List.mem_of_mem_drop hx)
      · rw [List.range_succ, List.foldl_append, ← hon]; rfl
  · have hii : i = rs.length := by exact Nat.le_antisymm hi hge
    refine nx_range_end hA F (by (clear hlen hn hrl hwl hm hi honl hol hii; lia)) ?_
    intro h5 F5
    refine hD1 _ ?_
    refine C_execs_cons ?_
    refine C_Return ?_
    refine C_ofE rfl ?_
    refine ld ‹_› (by walk_at "mem") ?_
    refine q O ov n1 _ _ F5.kept (F5.isIn (by walk_at "mem")) ?_
    rw [← hii, ← hon]; exact hov
theorem falling_walk {prog w A s t h} {K₀ : KMap} {lr lw : Addr} {rv wv : List Value} {nr nw : Nat} {rs : List (List Nat)} {wss : List (List (List Nat))} {Q : Value → Shared → Prop} {E : Value → Shared → Prop}
   (hB : Base K₀) (hs : Sub K₀ h) (hr : Room A 60) (hlr : h.get? lr = some (lst rv nr)) (hrv : RowsAt (hk h) rv rs) (hlw : h.get? lw = some (lst wv nw)) (hwv : WordsAt (hk h) wv wss)
   (hlen : wss.length = rs.length) (hls : ∀ (i : Nat) (r : List Nat) (w0 : List (List Nat)), rs[i]? = some r → wss[i]? = some w0 → w0.length = r.length) (hn : rs.length < 1000) (hb : ∀ r ∈ rs, r.length < 1000)
   (q : ∀ L ov n h' t', Keeps h h' → h'.get? L = some (lst ov n) → NatsAre ov ((List.range rs.length).foldl (insStep (fun a b => aheadGo (rs.getD b []) (rs.getD a []) (wss.getD b []) (wss.getD a []))) []) → Q (.ref L) (up s h' t')) :
   wpC (model prog w) A (call (.ref 158) [.ref lr, .ref lw]) Q E (up s h t) := by
  obtain ⟨pm, hF⟩ := hB.fn (158, 25, 157) (by walk_at "mem")
  refine wpC_call (enterC hB hs hF hr.depth (gs := [Str.ofString "range", Str.ofString "len"]) rfl rfl (binds := [(Str.ofString "rows", .ref lr), (Str.ofString "words", .ref lw)]) (fun _ _ x => wpAny_of_eq rfl x)
    (lk := [vc "rows" (h.objs.size + 1) (.ref lr), vc "words" (h.objs.size + 1 + 1) (.ref lw), nv "order", (Str.ofString "here", some (h.objs.size + 1 + 1 + 1), none), nv "stays"]) ?_ ?_)
  · show PutAll [(Str.ofString "rows", some (h.objs.size + 1), none), (Str.ofString "words", some (h.objs.size + 1 + 1), none), nv "order", (Str.ofString "here", some (h.objs.size + 1 + 1 + 1), none), nv "stays"] _ _
    walk_at "putall"
  intro env h1 t1 F
  have hA : (A.deeper env).handled = none := hr.hd
  have hrl := hrv.length
  have hwl := hwv.length
  generalize h.objs.size + 1 + 1 + 1 = c3 at F ⊢
  generalize h.objs.size + 1 + 1 = c2 at F ⊢
  generalize h.objs.size + 1 = c1 at F ⊢
  refine C_execs_cons ?_
  refine C_Assign_Name ?_
  refine C_ofE rfl ?_
  refine mk_list ?_
  refine spliced_none ?_
  refine mk_inL ‹_› ?_ ?_; (· first | (simp; done) | (simp; omega)); intro _ _ _
  refine wpC_of ?_
  refine stn ‹_› (by walk_at "put") ?_; intro _ _ _
  refine C_execs_cons ?_
  rename_i O hO1 FO1 hO2 tO2 FO2
  refine C_for ?_
  refine K_Call ?_
  refine ldb ‹_› ‹_› (by walk_at "mem") (by walk_at "mem") ?_
  refine K_callT ?_
  refine K_more ?_
  refine K_Call ?_
  refine ldb ‹_› ‹_› (by walk_at "mem") (by walk_at "mem") ?_
  refine K_callB ?_
  refine K_more ?_
  refine ld ‹_› (by walk_at "mem") ?_
  refine spliced_none ?_
  refine len_l (FO2.kept _ _ hlr) (by (clear hlen hwl; omega)) ?_; intro _ _
  refine spliced_none ?_
  refine range1 FO2 ?_
  intro r h2 t2 u1 u2 F2
  refine iter_range F2 (small_of (by decide) (by (clear hlen hwl; omega)) (.inl rfl)) ?_
  intro it h3 F3
  rw [rangeSize_up (by exact Int.natCast_nonneg _), hrl] at F3
  generalize hp : (fun a b => aheadGo (rs.getD b []) (rs.getD a []) (wss.getD b []) (wss.getD a [])) = p at q
  refine C_forLoop (fun m hh => ∀ P : Prop, (∀ (i : Nat) (O : Addr) (ov : List Value) (on : List Nat) (n1 : Nat) (v1 v2 : Option Value), m = rs.length - i → i ≤ rs.length → NatsAre ov on → on.length = i → (∀ x ∈ on, x < rs.length) → on = (List.range i).foldl (insStep p) [] → Fm K₀ (hk h) env [Str.ofString "range", Str.ofString "len"] [vc "rows" c1 (.ref lr), vc "words" c2 (.ref lw), vr "order" (.ref O), (Str.ofString "here", some c3, v1), (Str.ofString "stays", none, v2)]
      [(it, rit (i : Int) ((rs.length : Int) - (i : Int)) 1), (O, lst ov n1)] hh → P) → P) (rs.length - 0)
    (fun _ kk => kk 0 O [] [] 0 none none rfl (Nat.zero_le _) trivial rfl (fun x hx => nomatch hx) rfl (by simpa using F3)) ?_
  clear F3 F2 FO2 FO1 F
  rintro m h4 t4 B1 hB1 D1 hD1 hEx
  refine hEx _ ?_
  clear hEx
  rintro i O ov on n1 v1 v2 hm hi hov honl honb hon F
  have hol := hov.length
  rcases Nat.lt_or_ge i rs.length with hlt | hge
  · have e1 : rs[i]? = some (rs.getD i []) := by rw [List.getElem?_eq_getElem hlt]; simp [List.getD, List.getElem?_eq_getElem hlt]
    have f1 : wss[i]? = some (wss.getD i []) := by rw [List.getElem?_eq_getElem (by exact Nat.lt_of_lt_of_eq hlt hlen.symm)]; simp [List.getD, List.getElem?_eq_getElem (show i < wss.length by exact Nat.lt_of_lt_of_eq hlt hlen.symm)]
    refine nx_range F (by walk_at "upd") (by (clear hlen hn hrl hwl hm hi honl hol; omega)) ?_
    intro tk2 h5 t5 F5
    refine wpAny_of_eq (a := ()) rfl ?_
    refine asg F5 (by walk_at "put") ?_
    intro h6 t6 F6
    refine C_execs_cons ?_
    refine C_Assign_Name ?_
    refine C_builtin1 (id := "len") ?_
    refine ldb ‹_› ‹_› (by walk_at "mem") (by walk_at "mem") ?_
    refine ⟨rfl, ?_⟩
    refine C_ListComp [nv "there", vc "words" c2 (.ref lw), vc "rows" c1 (.ref lr), vc "here" c3 (.int (i : Nat) tk2)] [Str.ofString "_law_ahead"] F6 rfl (fun p hp c hc => by
      simp at hp; rcases hp with rfl | rfl | rfl | rfl
      · cases hc
      · cases hc; exact ⟨_, by walk_at "mem"⟩
      · cases hc; exact ⟨_, by walk_at "mem"⟩
      · cases hc; exact ⟨_, by walk_at "mem"⟩) ?_
    refine C_ofE rfl ?_
    refine ld ‹_› (by walk_at "mem") ?_
    refine wpC_of (iter_l F6 (F6.isIn (by walk_at "mem")) ?_)
    intro ic io h7 hio F7
    have hkL := F7.kL
    have hloc : ∀ p ∈ ([nv "there", vc "words" c2 (.ref lw), vc "rows" c1 (.ref lr), vc "here" c3 (.int (i : Nat) tk2)] : List Var), p.2.1 = none → p.2.2 = none := by
      intro p hp hc
      simp only [List.mem_cons, List.not_mem_nil, or_false] at hp
      rcases hp with rfl | rfl | rfl | rfl
      · rfl
      · cases hc
      · cases hc
      · cases hc
    refine (CompIn.mk _ F7 hloc (List.Perm.swap _ _ _) (fun h' t' hk' => wpAny_pyIter_listiter (s := up s h' t') ⟨_, hk' _ _ (F7.isIn (.head _)), hio⟩ ⟨rfl, rfl⟩) ?_)
    intro acc Lc oc h8 hoc FI
    replace FI := FI.perm (List.Perm.swap _ _ _)
    generalize compEnvC _ _ Lc env = cenv at FI ⊢
    have hKle : KLe (hk h) (add (hk h) env.locals oc) := le_add hkL
    have eat : ∀ k, k < rs.length → rs[k]? = some (rs.getD k []) := fun k hk => by rw [List.getElem?_eq_getElem hk]; simp [List.getD, List.getElem?_eq_getElem hk]
    have fat : ∀ k, k < rs.length → wss[k]? = some (wss.getD k []) := fun k hk => by rw [List.getElem?_eq_getElem (show k < wss.length by exact Nat.lt_of_lt_of_eq hk hlen.symm)]; simp [List.getD, List.getElem?_eq_getElem (show k < wss.length by exact Nat.lt_of_lt_of_eq hk hlen.symm)]
    have hbk : ∀ k, k < rs.length → (rs.getD k []).length < 1000 := fun k hk => hb _ (List.mem_of_getElem? (eat k hk))
    clear F7 F5 F
    refine C_compLoopIf (fun m hh => ∀ P : Prop, (∀ (a : Nat) (cv : List Value) (n2 : Nat) (io : Obj) (v : Option Value), m = ov.length - a → a ≤ ov.length → IsLI io O a → NatsAre cv ((on.take a).filter fun there => !p i there) → Fm K₀ (add (hk h) env.locals oc) cenv [Str.ofString "_law_ahead"] [(Str.ofString "there", none, v), vc "words" c2 (.ref lw), vc "rows" c1 (.ref lr), vc "here" c3 (.int (i : Nat) tk2)]
        [(ic, io), (acc, lst cv n2), (it, rit ((i : Int) + 1) ((rs.length : Int) - (i : Int) - 1) 1), (O, lst ov n1)] hh → P) → P) (ov.length - 0)
      (fun _ kk => kk 0 [] 0 io none rfl (Nat.zero_le _) hio trivial FI) ?_
    clear FI hio io
    rintro m10 h10 t10 Z2 hZ2 D2 hD2 hEx
    refine hEx _ ?_
    clear hEx
    rintro a cv n2 io v hma hal hio hcv FJ
    have hcvl := hcv.length
    have hfl := List.length_filter_le (fun there => !p i there) (on.take a)
    rw [List.length_take] at hfl
    rcases Nat.lt_or_ge a ov.length with halt | hage
    · have hj1 : on[a]? = some on[a] := List.getElem?_eq_getElem (by exact Nat.lt_of_lt_of_eq halt hol)
      generalize hjj : on[a] = j at hj1
      have hjn : j < rs.length := honb j (List.mem_of_getElem? hj1)
      obtain ⟨tj, hjx⟩ := hov.get hj1
      refine nx_lh FJ hio (FJ.isIn (by walk_at "mem")) hjx ?_
      intro io2 h11 hio2 FJ2
      refine wpAny_of_eq (a := ()) rfl ?_
      refine asg FJ2 (by walk_at "put") ?_
      intro h12 t12 FJ3
      refine wpC_of ?_
      refine K_not ?_
      refine K_value ?_
      refine K_Call ?_
      refine ldg ‹_› ‹_› (by walk_at "mem") (by walk_at "mem") ?_
      refine K_callf ‹_› (by walk_at "mem") ?_
      refine K_more ?_
      refine ld ‹_› (by walk_at "mem") ?_
      refine K_more ?_
      refine ld ‹_› (by walk_at "mem") ?_
      refine K_more ?_
      refine ld ‹_› (by walk_at "mem") ?_
      refine K_more ?_
      refine ld ‹_› (by walk_at "mem") ?_
      refine spliced_none ?_
      refine And.intro (Fm.sub ‹_›) ?_
      refine ahead_walk (i1 := j) (i2 := i) hB FJ3.sub0 (hr.deeper (by decide)) (FJ3.kept _ _ (hKle _ _ hlr)) ((hrv.mono hKle).mono FJ3.kept) (FJ3.kept _ _ (hKle _ _ hlw)) ((hwv.mono hKle).mono FJ3.kept) (eat _ (by assumption)) (eat _ (by assumption)) (fat _ (by assumption)) (fat _ (by assumption)) (hls _ _ _ (eat _ (by assumption)) (fat _ (by assumption))) (hls _ _ _ (eat _ (by assumption)) (fat _ (by assumption))) hn (by exact Nat.lt_of_le_of_lt (Nat.le_of_eq hlen) hn) (hbk _ (by assumption)) (hbk _ (by assumption)) ?_
      intro h13 t13 hk13
      have FJ4 := FJ3.keeps hk13
      rw [show aheadGo (rs.getD j []) (rs.getD i []) (wss.getD j []) (wss.getD i []) = p i j by rw [← hp]]
      have htk : (on.take (a + 1)).filter (fun there => !p i there) = (on.take a).filter (fun there => !p i there) ++ (if p i j then [] else [j]) := by
        rw [List.take_add_one, hj1, List.filter_append]
        cases hpp : p i j <;> simp [hpp]
      refine wpAny_truthy_bool ?_
      refine ite_b (fun hc => ?_) (fun hc => ?_)
      · have hc' : p i j = false := by simpa using hc
        rw [hc'] at htk
        refine C_ofE rfl ?_
        refine ld ‹_› (by walk_at "mem") ?_
        refine app_l (pos := default) FJ4 (by walk_at "upd") (by (clear hlen hrl hwl hm hol hlt hma hal halt hjj hjn; omega)) ?_
        intro h14 FJ5
        exact hZ2 _ ⟨ov.length - (a + 1), _, _, rfl, by (clear hlen hn hrl hwl hm hi honl hol hlt hal hcvl hfl hjj hjn; omega), fun _ kk => kk (a + 1) _ _ io2 _ rfl (by exact halt) hio2 (htk ▸ hcv.snoc) FJ5⟩
      · have hc' : p i j = true := by simpa using hc
        rw [hc'] at htk
        exact hZ2 _ ⟨ov.length - (a + 1), _, _, rfl, by (clear hlen hn hrl hwl hm hi honl hol hlt hal hcvl hfl hjj hjn; omega), fun _ kk => kk (a + 1) _ _ io2 _ rfl (by exact halt) hio2 (by rw [htk]; simpa using hcv) FJ4⟩
    · refine nx_l_end hA FJ hio (FJ.isIn (by walk_at "mem")) hage ?_
      intro h11 FK
      rw [List.take_of_length_le (by exact Nat.le_trans (Nat.le_of_eq hol.symm) hage)] at hcv
      refine hD2 _ (CompOut.mk FK (add_self _ _ _) _ (List.Perm.swap _ _ _) ?_)
      intro h12 FO
      rw [drp_add hkL] at FO
      refine wpC_of (len_l (FO.isIn (by walk_at "mem")) (by (clear hlen hrl hwl hm hol hlt hma hal hage; omega)) ?_); intro _ _
      have hkn : cv.length = (on.filter fun there => !p i there).length := hcv.length
      rw [hkn]
      generalize hkk : (on.filter fun there => !p i there).length = k at *
      refine wpC_of ?_
      refine stn ‹_› (by walk_at "put") ?_; intro _ _ _
      refine C_execs_cons ?_
      refine C_Assign_Name ?_
      refine C_ofE rfl ?_
      refine K_BinOp ?_
      refine K_BinOp ?_
      refine K_Sub ?_
      refine ld ‹_› (by walk_at "mem") ?_
      refine mk_slice ?_
      refine wpAny_evalPart_none ?_
      refine wpAny_evalPart_some ?_
      refine ld ‹_› (by walk_at "mem") ?_
      refine mk_in ‹_› ?_; intro _ _ _
      rename_i hS0 tS0 FS0 sl0 hsl0 Fsl0
      refine gi_upto (b := k) ⟨_, Fsl0.isIn (by walk_at "mem"), rfl, _, rfl⟩ Fsl0 (by (clear hlen hrl hwl hm hlt hma hal hcvl hfl hage hkk hkn; lia)) ?_
      intro S1 hS1 FS1
      refine mk_list ?_
      refine K_more ?_
      refine ld ‹_› (by walk_at "mem") ?_
      refine spliced_none ?_
      refine mk_inL ‹_› ?_ ?_; (· first | (simp; done) | (simp; omega)); intro _ _ _
      rename_i S2 hS2 FS2
      refine add_l FS2 (FS2.isIn (by walk_at "mem")) (FS2.isIn (by walk_at "mem")) (by simp; (clear hlen hrl hwl hm hlt hma hal hcvl hfl hage hkk hkn; lia)) ?_
      intro S3 hS3 FS3
      refine K_Sub ?_
      refine ld ‹_› (by walk_at "mem") ?_
      refine mk_slice ?_
      refine wpAny_evalPart_some ?_
      refine ld ‹_› (by walk_at "mem") ?_
      refine wpAny_evalPart_none ?_
      refine mk_in ‹_› ?_; intro _ _ _
      rename_i sl4 hsl4 Fsl4
      refine gi_from (b := k) ⟨_, Fsl4.isIn (ws := (sl4, _) :: (S3, _) :: (S2, _) :: (S1, _) :: (acc, _) :: (it, _) :: (O, _) :: _) (by walk_at "mem"), rfl, _, rfl⟩ Fsl4 (by (clear hlen hrl hwl hm hlt hma hal hcvl hfl hage hkk hkn; lia)) ?_
      intro S5 hS5 FS5
      refine add_l FS5 (FS5.isIn (ws := (S5, _) :: (S3, _) :: _) (by walk_at "mem")) (FS5.isIn (by walk_at "mem")) (by simp; (clear hlen hrl hwl hm hlt hma hal hcvl hfl hage hkk hkn; omega)) ?_
      intro S6 hS6 FS6
      refine wpC_of ?_
      refine stn ‹_› (by walk_at "put") ?_; intro _ _ _
      refine C_execs_nil ?_
      rename_i hS7 tS7 FS7
      have FS8 := FS7.drop (ws' := [(S6, lst (List.take k ov ++ [Value.int (i : Nat) tk2] ++ List.drop k ov) 0), (it, rit ((i : Int) + 1) ((rs.length : Int) - (i : Int) - 1) 1)]) (by
        exact List.Sublist.cons_cons _ (((((((List.Sublist.refl [(it, rit ((i : Int) + 1) ((rs.length : Int) - (i : Int) - 1) 1)]).trans (List.sublist_append_left _ [(O, lst ov n1)])).cons _).cons _).cons _).cons _).cons _))
      have FS9 := FS8.perm (List.Perm.swap _ _ _)
      rw [show (i : Int) + 1 = ((i + 1 : Nat) : Int) by exact Int.natCast_succ _, show ((rs.length : Int) - (i : Int) - 1) = (rs.length : Int) - ((i + 1 : Nat) : Int) by (clear hlen hn hrl hwl hm hi honl hol hlt hma hal hcvl hfl hage hkk hkn; lia)] at FS9
      have hkle : k ≤ on.length := hkk ▸ List.length_filter_le _ _
      have hnat : NatsAre (List.take k ov ++ [Value.int (i : Nat) tk2] ++ List.drop k ov) (insStep p on i) := by
        unfold insStep; rw [hkk]; exact ((hov.take k).snoc).append (hov.drop k)
      refine hB1 _ _ ⟨rs.length - (i + 1), _, _, rfl, by (clear hlen hn hrl hwl hi honl hol hma hcvl hfl hage hkk hkn hkle; omega), fun _ kk => kk (i + 1) S6 _ (insStep p on i) 0 _ _ rfl (by exact hlt) hnat ?_ ?_ ?_ FS9⟩
      · unfold insStep; rw [hkk]; simp; (clear hlen hn hm hi hlt hma hal hcvl hfl hage hkk hkn; lia)
      · intro x hx
        unfold insStep at hx
        simp only [List.mem_append, List.mem_singleton] at hx
        rcases hx with (hx | rfl) | hx
        · exact honb x (List.mem_of_mem_take hx)
        · exact hlt
        · exact honb x (List.mem_of_mem_drop hx)
      · rw [List.range_succ, List.foldl_append, ← hon]; rfl
  · have hii : i = rs.length := by exact Nat.le_antisymm hi hge
    refine nx_range_end hA F (by (clear hlen hn hrl hwl hm hi honl hol hii; lia)) ?_
    intro h5 F5
    refine hD1 _ ?_
    refine C_execs_cons ?_
    refine C_Return ?_
    refine C_ofE rfl ?_
    refine ld ‹_› (by walk_at "mem") ?_
    refine q O ov n1 _ _ F5.kept (F5.isIn (by walk_at "mem")) ?_
    rw [← hii, ← hon]; exact hov
end Mine
end
section
open PySem PySem.W PyProof.Rows PySem.Builtin
set_option Elab.async false
set_option linter.unusedVariables false
namespace Mine
/-! the numerals' order is the octets' order -/
theorem rk_lt {f : Nat} (h : f < 36) : rk f < 36 := by unfold rk; split <;> omega
theorem rk_inj {f g : Nat} (hf : f < 36) (hg : g < 36) (h : rk f = rk g) : f = g := by unfold rk at h; split at h <;> split at h <;> omega
/-- the octet of a rank -/
noncomputable def octB (r : Nat) : UInt8 := (octI r).toUInt8
theorem octB_nat {r : Nat} (h : r < 36) : (octB r).toNat = octI r := by
  unfold octB; have := octI_lt h; simp; omega
theorem dig_rk : ∀ f, f < 36 → dig f = octB (rk f) := by decide
theorem figN_lt (N : Nat) : ∀ b j, ∀ f ∈ figN N b j, f < 36 := by
  induction N using Nat.strongRecOn with
  | ind N ih =>
    intro b j f hf
    have ht := tN_range j b
    rw [figN_eq] at hf
    split at hf
    · rename_i h; rw [List.mem_singleton] at hf; lia
    · rename_i h
      have h2 : (N - tN j b) / (36 - tN j b) ≤ N - tN j b := Nat.div_le_self _ _
      rcases List.mem_cons.mp hf with e | hf
      · have : (N - tN j b) % (36 - tN j b) < 36 - tN j b := Nat.mod_lt _ (by (clear h h2 e; omega))
        (clear ht h h2; omega)
      · exact ih _ (by omega) b (j + 1) f hf
theorem ltL_nil_r : ∀ a : List Nat, ltL a [] = false
  | [] => rfl
  | _ :: _ => rfl
theorem ltL_app_same (u : List Nat) (x y : List Nat) : ltL (u ++ x) (u ++ y) = ltL x y := by
  induction u with
  | nil => rfl
  | cons a u ih => show (if a = a then ltL (u ++ x) (u ++ y) else decide (a < a)) = _; rw [if_pos rfl, ih]
/-- two numerals of one bias differ ahead of the end of either -/
theorem ltL_figs (N : Nat) : ∀ (M b j : Nat) (x y : List Nat), N ≠ M → ltL ((figN N b j).map rk ++ x) ((figN M b j).map rk ++ y) = ltL ((figN N b j).map rk) ((figN M b j).map rk) := by
  induction N using Nat.strongRecOn with
  | ind N ih =>
    intro M b j x y hne
    have ht := tN_range j b
    have hN : ∀ f r, figN N b j = f :: r → f < 36 := fun f r e => figN_lt N b j f (by rw [e]; exact .head _)
    have hM : ∀ f r, figN M b j = f :: r → f < 36 := fun f r e => figN_lt M b j f (by rw [e]; exact .head _)
    have key : ∀ (f g : Nat) (r r' : List Nat), figN N b j = f :: r → figN M b j = g :: r' → f ≠ g → ltL ((figN N b j).map rk ++ x) ((figN M b j).map rk ++ y) = ltL ((figN N b j).map rk) ((figN M b j).map rk) := by
      intro f g r r' e1 e2 hfg
      have : rk f ≠ rk g := fun z => hfg (rk_inj (hN f r e1) (hM g r' e2) z)
      rw [e1, e2]
      simp only [List.map_cons, List.cons_append, ltL, if_neg this]
    by_cases h1 : N < tN j b
    · have e1 : figN N b j = [N] := by rw [figN_eq, if_pos h1]
      by_cases h2 : M < tN j b
      · exact key N M [] [] e1 (by rw [figN_eq, if_pos h2]) hne
      · exact key N _ [] _ e1 (by rw [figN_eq, if_neg h2]) (by (clear hne ht h2; lia))
    · have e1 : figN N b j = (tN j b + (N - tN j b) % (36 - tN j b)) :: figN ((N - tN j b) / (36 - tN j b)) b (j + 1) := by rw [figN_eq, if_neg h1]
      by_cases h2 : M < tN j b
      · exact key _ M _ [] e1 (by rw [figN_eq, if_pos h2]) (by (clear hne ht h1; lia))
      · have e2 : figN M b j = (tN j b + (M - tN j b) % (36 - tN j b)) :: figN ((M - tN j b) / (36 - tN j b)) b (j + 1) := by rw [figN_eq, if_neg h2]
        by_cases hh : tN j b + (N - tN j b) % (36 - tN j b) = tN j b + (M - tN j b) % (36 - tN j b)
        · have hq : (N - tN j b) / (36 - tN j b) ≠ (M - tN j b) / (36 - tN j b) := fun z => by
            have d1 := Nat.div_add_mod (N - tN j b) (36 - tN j b)
            have d2 := Nat.div_add_mod (M - tN j b) (36 - tN j b)
            rw [z] at d1
            omega
          have hd : (N - tN j b) / (36 - tN j b) ≤ N - tN j b := Nat.div_le_self _ _
          rw [e1, e2, hh]
          simp only [List.map_cons, List.cons_append, ltL, if_pos]
          exact ih _ (by omega) _ b (j + 1) x y hq
        · exact key _ _ _ _ e1 e2 hh
theorem figN_ne (N b j : Nat) : figN N b j ≠ [] := by rw [figN_eq]; split <;> simp
theorem ahead_go (base : Nat) : ∀ (r1 r2 : List Nat) (p b : Nat), aheadGo r1 r2 (wordsGo base r1 p b) (wordsGo base r2 p b) = ltL (wordsGo base r1 p b).flatten (wordsGo base r2 p b).flatten
  | [], [], _, _ => rfl
  | [], d :: r, p, b => by
    show true = ltL [] ((figN d b 0).map rk ++ _)
    cases h : figN d b 0 with
    | nil => exact absurd h (figN_ne _ _ _)
    | cons x y => rfl
  | d :: r, [], p, b => by
    show false = ltL ((figN d b 0).map rk ++ _) []
    rw [ltL_nil_r]
  | d :: r, e :: q, p, b => by
    show (if d = e then aheadGo r q (wordsGo base r (p + 1) (adaptN d (p == 0) (base + p + 1))) (wordsGo base q (p + 1) (adaptN e (p == 0) (base + p + 1))) else ltL ((figN d b 0).map rk) ((figN e b 0).map rk)) =
      ltL ((figN d b 0).map rk ++ (wordsGo base r (p + 1) (adaptN d (p == 0) (base + p + 1))).flatten) ((figN e b 0).map rk ++ (wordsGo base q (p + 1) (adaptN e (p == 0) (base + p + 1))).flatten)
    by_cases h : d = e
    · subst h
      rw [if_pos rfl, ltL_app_same]
      exact ahead_go base r q (p + 1) _
    · rw [if_neg h, ltL_figs _ _ _ _ _ _ h]
theorem words_lt (base : Nat) : ∀ (r : List Nat) (p b : Nat), ∀ f ∈ (wordsGo base r p b).flatten, f < 36
  | [], _, _, f, hf => by cases hf
  | d :: r, p, b, f, hf => by
    have hf : f ∈ (figN d b 0).map rk ++ (wordsGo base r (p + 1) (adaptN d (p == 0) (base + p + 1))).flatten := hf
    rcases List.mem_append.mp hf with hf | hf
    · obtain ⟨g, hg, rfl⟩ := List.mem_map.mp hf
      exact rk_lt (figN_lt _ _ _ g hg)
    · exact words_lt base r _ _ f hf
theorem gi_words (base : Nat) : ∀ (r : List Nat) (p b : Nat), giGo base r p b = (wordsGo base r p b).flatten.map octB
  | [], _, _ => rfl
  | d :: r, p, b => by
    show ggiN d b 0 ++ giGo base r (p + 1) (adaptN d (p == 0) (base + p + 1)) = ((figN d b 0).map rk ++ (wordsGo base r (p + 1) (adaptN d (p == 0) (base + p + 1))).flatten).map octB
    rw [List.map_append, ← gi_words base r, ggiN_fig, List.map_map]
    congr 1
    exact List.map_congr_left fun f hf => dig_rk f (figN_lt _ _ _ f hf)
theorem octB_mono {r q : Nat} (hr : r < 36) (hq : q < 36) : decide ((octB r).toNat < (octB q).toNat) = decide (r < q) ∧ (octB r == octB q) = (r == q) := by
  have e1 := octB_nat hr
  have e2 := octB_nat hq
  constructor
  · rw [e1, e2, decide_eq_decide]; unfold octI; split <;> split <;> (clear hr hq; omega)
  · rw [Bool.eq_iff_iff]
    simp only [beq_iff_eq]
    constructor
    · intro h; rw [h] at e1; rw [e1] at e2; unfold octI at e2; split at e2 <;> split at e2 <;> (clear hr hq e1; lia)
    · intro h; rw [h]
theorem ltB_oct : ∀ (a b : List Nat), (∀ f ∈ a, f < 36) → (∀ f ∈ b, f < 36) → ltB (a.map octB) (b.map octB) = ltL a b
  | [], [], _, _ => rfl
  | [], _ :: _, _, _ => rfl
  | _ :: _, [], _, _ => rfl
  | x :: xs, y :: ys, ha, hb => by
    obtain ⟨m1, m2⟩ := octB_mono (ha x (.head _)) (hb y (.head _))
    rw [List.map_cons, List.map_cons, ltB_cons, m1, m2, ltB_oct xs ys (fun f hf => ha f (.tail _ hf)) (fun f hf => hb f (.tail _ hf))]
    simp only [ltL]
    by_cases h : x = y
    · subst h; simp
    · rw [if_neg h]
      have : (x == y) = false := by simpa using h
      rw [this]; simp
/-- one row ahead of another: its octets are -/
theorem ahead_eq (base : Nat) (r1 r2 : List Nat) : aheadGo r1 r2 (wordsN base r1) (wordsN base r2) = ltB (giN base r1) (giN base r2) := by
  unfold wordsN giN
  rw [ahead_go, gi_words, gi_words, ltB_oct _ _ (words_lt base r1 0 72) (words_lt base r2 0 72)]
/-! insertion -/
theorem filter_pre {α : Type} (P : α → Bool) : ∀ {l : List α}, l.Pairwise (fun x y => P y = true → P x = true) → (∀ x ∈ l.take (l.filter P).length, P x = true) ∧ (∀ x ∈ l.drop (l.filter P).length, P x = false)
  | [], _ => ⟨(fun x hx => nomatch hx), (fun x hx => nomatch hx)⟩
  | a :: r, h => by
    rw [List.pairwise_cons] at h
    obtain ⟨i1, i2⟩ := filter_pre P h.2
    cases ha : P a with
    | true =>
      have e : (a :: r).filter P = a :: r.filter P := by rw [List.filter_cons, if_pos ha]
      rw [e, List.length_cons, List.take_succ_cons, List.drop_succ_cons]
      refine ⟨fun x hx => ?_, i2⟩
      rcases List.mem_cons.mp hx with rfl | hx
      · exact ha
      · exact i1 x hx
    | false =>
      have hall : ∀ x ∈ r, P x = false := fun x hx => by
        cases hp : P x with
        | false => rfl
        | true => have := h.1 x hx hp; rw [ha] at this; cases this
      have e : (a :: r).filter P = [] := by
        rw [List.filter_eq_nil_iff]
        intro x hx
        rcases List.mem_cons.mp hx with rfl | hx
        · rw [ha]; decide
        · rw [hall x hx]; decide
      rw [e]
      refine ⟨(fun x hx => nomatch hx), fun x hx => ?_⟩
      rcases List.mem_cons.mp hx with rfl | hx
      · exact ha
      · exact hall x hx
theorem ins_ok {u : Bool} {ks : List (List UInt8)} {p : Nat → Nat → Bool} {order : List Nat} {here : Nat} (hp : ∀ j ∈ order, p here j = btU u (ks.getD here []) (ks.getD j [])) (hl : ∀ j ∈ order, j < here) (hs : order.Pairwise (bfU u ks · · = true)) :
    (insStep p order here).Pairwise (bfU u ks · · = true) ∧ (insStep p order here).Perm (here :: order) := by
  have hmono : order.Pairwise (fun x y => (!p here y) = true → (!p here x) = true) := by
    refine hs.imp_of_mem fun {x y} hx hy h hy2 => ?_
    rw [hp x hx]; rw [hp y hy] at hy2
    cases hx2 : btU u (ks.getD here []) (ks.getD x []) with
    | false => rfl
    | true =>
      rcases bfU_iff.mp h with ⟨e, _⟩ | h
      · rw [← e, hx2] at hy2; cases hy2
      · rw [btU_tr hx2 h] at hy2; cases hy2
  obtain ⟨f1, f2⟩ := filter_pre (fun j => !p here j) hmono
  unfold insStep
  generalize (order.filter fun there => !p here there).length = s at f1 f2 ⊢
  have hts : ∀ x ∈ order.take s, x ∈ order := fun x hx => List.mem_of_mem_take hx
  have hds : ∀ x ∈ order.drop s, x ∈ order := fun x hx => List.mem_of_mem_drop hx
  have h1 : ∀ x ∈ order.take s, bfU u ks x here = true := fun x hx => by
    have := f1 x hx
    rw [hp x (hts x hx)] at this
    rw [bfU_iff]
    by_cases e : ks.getD x [] = ks.getD here []
    · exact .inl ⟨e, hl x (hts x hx)⟩
    · exact .inr ((btU_tot u e).resolve_right (by intro z; rw [z] at this; cases this))
  have h2 : ∀ y ∈ order.drop s, bfU u ks here y = true := fun y hy => by
    have := f2 y hy
    rw [hp y (hds y hy)] at this
    exact bfU_iff.mpr (.inr (by simpa using this))
  have h3 : ∀ x ∈ order.take s, ∀ y ∈ order.drop s, bfU u ks x y = true := fun x hx y hy => (bfU_sto u ks).tr _ _ _ (h1 x hx) (h2 y hy)
  constructor
  · rw [List.append_assoc, List.pairwise_append]
    refine ⟨hs.sublist (List.take_sublist _ _), ?_, fun x hx y hy => ?_⟩
    · rw [List.singleton_append, List.pairwise_cons]
      exact ⟨h2, hs.sublist (List.drop_sublist _ _)⟩
    · rcases List.mem_append.mp hy with hy | hy
      · rw [List.mem_singleton.mp hy]; exact h1 x hx
      · exact h3 x hx y hy
  · rw [List.append_assoc, List.singleton_append]
    refine List.perm_middle.trans (List.Perm.cons _ ?_)
    rw [List.take_append_drop]
theorem insert_ok {u : Bool} {ks : List (List UInt8)} {p : Nat → Nat → Bool} (hp : ∀ i j, i < ks.length → j < ks.length → p i j = btU u (ks.getD i []) (ks.getD j [])) : ∀ n, n ≤ ks.length → ((List.range n).foldl (insStep p) []).Pairwise (bfU u ks · · = true) ∧ ((List.range n).foldl (insStep p) []).Perm (List.range n)
  | 0, _ => ⟨List.Pairwise.nil, List.Perm.refl _⟩
  | n + 1, hn => by
    obtain ⟨i1, i2⟩ := insert_ok hp n (by exact Nat.le_of_lt hn)
    rw [List.range_succ, List.foldl_append]
    have hl : ∀ j ∈ (List.range n).foldl (insStep p) [], j < n := fun j hj => List.mem_range.mp (i2.mem_iff.mp hj)
    obtain ⟨a, b⟩ := ins_ok (here := n) (fun j hj => hp n j (by exact hn) (by have := hl j hj; lia)) hl i1
    refine ⟨a, b.trans ((List.Perm.cons _ i2).trans ?_)⟩
    exact (List.perm_append_singleton _ _).symm
theorem rise_ok {u : Bool} {ks : List (List UInt8)} {p : Nat → Nat → Bool} (hp : ∀ i j, i < ks.length → j < ks.length → p i j = btU u (ks.getD i []) (ks.getD j [])) : Rise u ks ((List.range ks.length).foldl (insStep p) []) :=
  let ⟨a, b⟩ := insert_ok hp ks.length (Nat.le_refl _)
  ⟨b, a⟩
end Mine
end
section
open PySem PySem.W PyProof.Rows
set_option Elab.async false
set_option linter.unusedVariables false
namespace Mine
noncomputable def vkey : Value → List UInt8
  | .bytes b _ => b.toList
  | _ => []
noncomputable def ltV (x y : Value) : Bool := ltB (vkey x) (vkey y)
theorem ltV_swo : Swo ltV := ⟨fun a b h => ltB_swo.asym _ _ h, fun a b c h1 h2 => ltB_swo.trans _ _ _ h1 h2⟩
theorem KeysAre.keys {vs : List Value} {ks : List (List UInt8)} (h : KeysAre vs ks) : vs.map vkey = ks := by
  induction h with
  | nil => rfl
  | cons h ih => rw [List.map_cons, ih]; simp [vkey]
def Byt (x : Value) : Prop := ∃ b u, x = .bytes b u
theorem KeysAre.byt {vs : List Value} {ks : List (List UInt8)} (h : KeysAre vs ks) : ∀ x ∈ vs, Byt x := by
  induction h with
  | nil => exact fun x hx => nomatch hx
  | cons h ih =>
    intro x hx
    rcases List.mem_cons.mp hx with rfl | hx
    · exact ⟨_, _, rfl⟩
    · exact ih x hx
theorem cmp_byt {prog : Program} {w : World} {K : KMap} {x y : Value} (hx : Byt x) (hy : Byt y) : CmpOk prog w K x y (ltV x y) := by
  obtain ⟨b, u, rfl⟩ := hx
  obtain ⟨c, v, rfl⟩ := hy
  intro A Q E s h t hr hs q
  exact lt_bytes (q _ _ (fun _ _ e => e))
theorem pops_eq {hv pv : List Value} {ks : List (List UInt8)} {idx : List Nat} (P : Popped ltV hv pv []) (hk : (hv.map vkey).Perm ks) (r : Rise true ks idx) : pv.map vkey = idx.map fun i => ks.getD i [] := by
  obtain ⟨a, b⟩ := rise_sorted r
  refine sorted_unique ?_ ?_ a
  · have := P.pm; rw [List.append_nil] at this
    exact ((this.map vkey).trans hk).trans b.symm
  · rw [List.pairwise_map]; exact P.pw
theorem octets_gi (base : Nat) (r : List Nat) : (byteArr ((wordsN base r).flatten.map fun x => ((octI x : Nat) : Int))).toList = giN base r := by
  unfold giN
  rw [gi_words]
  unfold byteArr wordsN
  rw [List.map_map]
  show List.map _ _ = _
  exact List.map_congr_left fun f hf => by simp [octB]
theorem words_len (base : Nat) : ∀ (r : List Nat) (p b : Nat), (wordsGo base r p b).length = r.length
  | [], _, _ => rfl
  | d :: r, p, b => by
    show (_ :: wordsGo base r (p + 1) _).length = _
    rw [List.length_cons, words_len base r, List.length_cons]
end Mine
end
section
open PySem PySem.W PyProof.Rows PySem.SeqAt
set_option Elab.async false
set_option maxRecDepth 100000
set_option maxHeartbeats 2000000
set_option linter.unusedVariables false
open Mine
namespace Mine
theorem room_caller : Room callerA 300 := ⟨rfl, by decide, by decide, rfl⟩
theorem gi_len (base : Nat) : ∀ (r : List Nat) (p b : Nat), (∀ d ∈ r, d < 100000) → (giGo base r p b).length ≤ 6 * r.length
  | [], _, _, _ => Nat.le_refl _
  | d :: r, p, b, h => by
    show (ggiN d b 0 ++ giGo base r (p + 1) (adaptN d (p == 0) (base + p + 1))).length ≤ _
    have h1 := ggiN_len 5 d b 0 (h d (.head _))
    have h2 := gi_len base r (p + 1) (adaptN d (p == 0) (base + p + 1)) fun x hx => h x (.tail _ hx)
    rw [List.length_append, List.length_cons]; omega
theorem flat_len {base : Nat} {r : List Nat} (h : ∀ d ∈ r, d < 100000) : (wordsN base r).flatten.length ≤ 6 * r.length := by
  have := gi_len base r 0 72 h
  rw [gi_words, List.length_map] at this
  exact this
theorem no_tab {ps : Array Value} : ∀ p ∈ [((160 : Addr), tabObj ps)], p.2.cls ≠ .type "list" := fun p hp => by
  obtain rfl := List.mem_singleton.mp hp
  exact (show (tabObj #[]).cls ≠ .type "list" by decide)
theorem full_tup {K₀ K : KMap} {env : Env} {gs : List Str} {lk : List Var} {ws : List (Addr × Obj)} {h : Heap} (F : Fm K₀ K env gs lk ws h) (hw : ∀ p ∈ ws, p.2.cls ≠ .type "tuple") {L : Addr} {vs : List Value} {n : Nat} (e : h.get? L = some (tup vs n)) : fullK env lk ws h L = some (tup vs n) := by
  refine fullK_at e fun hm => ?_
  rcases List.mem_cons.mp hm with z | z
  · obtain ⟨o, es, ep, e1, e2, _⟩ := F.nsp
    rw [← z, e] at e1; cases e1; cases e2
  · obtain ⟨p, hp, z⟩ := List.mem_map.mp z
    have hp1 := (F.own p hp).1
    rw [z, e] at hp1
    rcases List.mem_append.mp hp with hp | hp
    · obtain ⟨v, hv⟩ := mem_cellsOf hp
      rw [hv] at hp1; exact absurd (congrArg Obj.cls (Option.some.inj hp1)) (show ¬ (Value.type "tuple" = Value.type "cell") by decide)
    · exact hw p hp (by rw [← Option.some.inj hp1])
theorem no_tabT {ps : Array Value} : ∀ p ∈ [((160 : Addr), tabObj ps)], p.2.cls ≠ .type "tuple" := fun p hp => by
  obtain rfl := List.mem_singleton.mp hp
  exact (show (tabObj #[]).cls ≠ .type "tuple" by decide)
/-- the frame behind a call that noted something in it -/
theorem Fm.relocal {K₀ K : KMap} {env : Env} {gs : List Str} {lk : List Var} {ws : List (Addr × Obj)} {h h' : Heap} {it : Addr} {io oc oc' : Obj} (F : Fm K₀ K env gs lk ((it, io) :: ws) h) (k : ∀ b o, b ≠ it → b ≠ env.locals → h.get? b = some o → h'.get? b = some o)
    (hc : h.get? env.locals = some oc) (hc' : h'.get? env.locals = some oc') (hd : oc'.data = oc.data) : Fm K₀ K env gs lk ws h' := by
  have hap := F.apart
  have KL := F.kL
  have Kc : K it = none := F.nokey (.head _)
  have hn : ∀ p ∈ cellsOf lk ++ ws, p.1 ≠ env.locals ∧ p.1 ≠ it := by
    intro p hp
    have h2 : (env.locals :: (cellsOf lk ++ (it, io) :: ws).map (·.1)).Perm (it :: env.locals :: (cellsOf lk ++ ws).map (·.1)) := by
      simp only [List.map_append, List.map_cons]
      exact ((List.perm_middle (a := it) (l₁ := env.locals :: (cellsOf lk).map (·.1)) (l₂ := ws.map (·.1))))
    have h3 := h2.nodup_iff.mp hap
    simp only [List.nodup_cons] at h3
    refine ⟨fun x => h3.2.1 (x ▸ List.mem_map_of_mem (f := (·.1)) hp), fun x => h3.1 (x ▸ .tail _ (List.mem_map_of_mem (f := (·.1)) hp))⟩
  have F1 := F.drop (ws' := ws) (List.sublist_cons_self _ _)
  obtain ⟨oL, es, ep, eL, r⟩ := F1.nsp
  rw [hc] at eL; cases eL
  exact { F1 with nsp := ⟨oc', es, ep, hc', hd.trans r.1, r.2⟩, kept := fun b o e => k b o (fun x => by rw [x, Kc] at e; cases e) (fun x => by rw [x, KL] at e; cases e) (F1.kept b o e), own := fun p hp => ⟨k _ _ (hn p hp).2 (hn p hp).1 (F1.own p hp).1, (F1.own p hp).2⟩ }
/-- the lambda's keys -/
theorem lam_keys {prog : Program} {w : World} {K₀ K₁ : KMap} {f c4 c' : Addr} {name qual : Str} {pm ctv : Value} {p p1 p2 p3 p4 p5 p6 : Pos} {base : Nat} {tb : Tok} {tv rv : List Value} {rows : List (List Nat)}
    (hB : Base K₀) (hK : KLe K₀ K₁) (h0 : K₀ c4 = none) (hf : K₁ f = some (kla_obj name qual (lamP p) (lamB p1 p2 p3 p4 p5 p6) lamS [(Str.ofString "plain", c4)] pm c' ctv)) (hcd : ∀ h, Sub K₁ h → h.CodeRec (.ref c') qual)
    (hc : K₁ c4 = some (clo (some (.int (base : Nat) tb)))) (hb : base < 9) (hT : ∀ (j : Nat) v, tv[j]? = some v → ∃ a tk x, v = .ref a ∧ rv[j]? = some x ∧ K₁ a = some (tup [.int (j : Nat) tk, x] 0)) (hrv : RowsAt K₁ rv rows)
    (rk3 : ∀ r ∈ rows, r.length ≤ 9 ∧ ∀ d ∈ r, d < 100000) : ∀ (i : Nat) x k, tv[i]? = some x → (rows.map (giN base))[i]? = some k → KeyOk prog w K₁ f x k := by
  intro i x k hx hk
  obtain ⟨a, tk, y, rfl, hy, ha⟩ := hT i x hx
  rw [List.getElem?_map] at hk
  obtain ⟨r, hr, rfl⟩ := Option.map_eq_some_iff.mp hk
  obtain ⟨b, wsr, nn, hb1, hb2, hb3⟩ := hrv.get hr
  rw [hy] at hb1; cases hb1
  have hrm := List.mem_of_getElem? hr
  exact lam_walk hB hK h0 hf hcd hc (by exact Nat.le_of_lt (Nat.lt_of_lt_of_le hb (by decide))) ha hb2 hb3 (rk3 r hrm).2 (by have := (rk3 r hrm).1; (clear hb; lia))
/-- all but two -/
noncomputable def offK (h : Heap) (L it : Addr) : KMap := fun b => if b = L ∨ b = it then none else h.get? b
theorem offK_at {h : Heap} {L it b : Addr} {o : Obj} (e : h.get? b = some o) (h1 : b ≠ L) (h2 : b ≠ it) : offK h L it b = some o := by unfold offK; rw [if_neg (fun x => x.elim h1 h2)]; exact e
theorem offK_sub (h : Heap) (L it : Addr) : Sub (offK h L it) h := fun b o e => by
  unfold offK at e; split at e
  · cases e
  · exact e
theorem law_end {w : World} {s : Shared} {A : Around} {K₀ K9 : KMap} {env : Env} {l LR LI LT LF LG accW accH c1 c2 c3 c4 : Addr} {xs : List Int} {rv wv tv : List Value} {nr cW cT cG base W : Nat} {tk1 tkw tkb : Tok} {rows : List (List Nat)} {idx2 : List Nat} {ps2 : Array Value} {h h32 : Heap} {t32 : Nat}
    {p1 p2 p3 p4 p5 p6 p7 p8 p9 p10 p11 p12 p13 p14 p15 p16 p17 p18 p19 p20 p21 p22 : Pos} {Q : Flow → Shared → Prop}
    (hB : BaseL K₀) (hr : Room A 290) (hA : A.handled = none) (rk1 : 1 ≤ rows.length) (rk2 : rows.length ≤ 10) (rk3 : ∀ r ∈ rows, r.length ≤ 9 ∧ ∀ d ∈ r, d < 100000) (hrl : rv.length = rows.length) (hWlt : W < rows.length + 2) (htl : tv.length = rv.length)
    (hidx2 : (List.range rows.length).foldl (insStep (fun a b => aheadGo (rows.getD b []) (rows.getD a []) ((rows.map (wordsN base)).getD b []) ((rows.map (wordsN base)).getD a []))) [] = idx2) (hrise2 : Rise false (rows.map (giN base)) idx2)
    (hLT : K9 LT = some (lst tv cT)) (hWv : WordsAt K9 wv (rows.map (wordsN base))) (hrv : RowsAt K9 rv rows) (hLR : K9 LR = some (lst rv nr)) (hLW : K9 accW = some (lst wv cW)) (hK0 : ∀ b o, b ≠ 160 → h.get? b = some o → K9 b = some o)
    (hLG : K9 LG = some (lst ((idx2.take ((rv.length : Int) - W).toNat).map fun i => tv.getD i .none) cG))
    (F32 : Fm K₀ K9 env [Str.ofString "sum", Str.ofString "_law_rows", Str.ofString "_law_rising", Str.ofString "heapify", Str.ofString "len", Str.ofString "list", Str.ofString "enumerate", Str.ofString "nsmallest", Str.ofString "iter", Str.ofString "nlargest", Str.ofString "_law_falling", Str.ofString "max"]
      [vr "script" (.ref l), (Str.ofString "total", none, some (.int xs.sum tk1)), (Str.ofString "rows", none, some (.ref LR)), (Str.ofString "words", some c1, some (.ref accW)), (Str.ofString "rising", none, some (.ref LI)), (Str.ofString "heap", some c2, some (.ref accH)),
       (Str.ofString "wish", none, some (.int (W : Nat) tkw)), (Str.ofString "items", some c3, some (.ref LT)), (Str.ofString "first", none, some (.ref LF)), (Str.ofString "final", none, some (.ref LG)), (Str.ofString "plain", some c4, some (.int (base : Nat) tkb))] [(160, tabObj ps2)] h32)
    (q : ∀ h' t', (∀ b o, b ≠ 160 → h.get? b = some o → h'.get? b = some o) → h'.get? 160 = some (tabObj ps2) → Q (.ret (.bool true)) (up s h' t')) :
    wpC (model P w) A (execs [Stmt.Return (some (Expr.Compare (Expr.Name (Str.ofString "final") p1) [CmpOp.Eq] [Expr.ListComp (Expr.Subscript (Expr.Name (Str.ofString "items") p2) (Expr.Name (Str.ofString "place") p3) p4)
      [{ target := Expr.Name (Str.ofString "place") p5, iter := Expr.Subscript (Expr.Call (Expr.Name (Str.ofString "_law_falling") p6) [Expr.Name (Str.ofString "rows") p7, Expr.Name (Str.ofString "words") p8] [] p9)
          (Expr.Slice none (some (Expr.Call (Expr.Name (Str.ofString "max") p10) [Expr.Constant (Const.int 0) 0 p11, Expr.BinOp (Expr.Call (Expr.Name (Str.ofString "len") p12) [Expr.Name (Str.ofString "rows") p13] [] p14) Operator.Sub (Expr.Name (Str.ofString "wish") p15) p16] [] p17)) none p18) p19, ifs := [], is_async := 0 }]
      { kind := ScopeKind.function, names := [(Str.ofString ".0", NameKind.local), (Str.ofString "place", NameKind.local), (Str.ofString "items", NameKind.free)], isGenerator := false, isCoroutine := false } p20] p21)) p22] env) Q (fun _ _ => False) (up s h32 t32) := by
  have hBb := hB.base
  have hwl : (rows.map (wordsN base)).length = rows.length := List.length_map _
  refine C_execs_cons (C_Return (C_Compare1 ?_))
  refine C_ofE rfl ?_
  refine ld ‹_› (by walk_at "mem") ?_
  refine C_map [vc "items" c3 (.ref LT)] [(c1, clo (some (.ref accW))), (c2, clo (some (.ref accH))), (c4, clo (some (.int (base : Nat) _)))] [] (fun i ws cv => ws = [(160, tabObj ps2)] ∧ cv = ((idx2.take ((rv.length : Int) - W).toNat).take i).map fun j => tv.getD j .none) hA F32 (by rfl) (fun p hp => by
      obtain rfl := List.mem_singleton.mp hp; exact ⟨_, _, rfl⟩) (List.perm_middle (l₁ := [_, _]) (l₂ := [_])) (fun p hp => by
      obtain rfl := List.mem_singleton.mp hp; walk_at "mem") ?_
  refine C_Subscript (C_Call_Name ?_)
  refine ldg ‹_› ‹_› (by walk_at "mem") (by walk_at "mem") ?_
  refine C_callf ‹_› (by walk_at "mem") ?_
  refine K_more ?_
  refine ld ‹_› (by walk_at "mem") ?_
  refine K_more ?_
  refine ld ‹_› (by walk_at "mem") ?_
  refine spliced_none ?_
  refine And.intro (Fm.sub ‹_›) ?_
  refine falling_walk hBb F32.sub0 ⟨hr.hd, by have := hr.dep; (clear rk1 rk2 hrl hWlt htl hwl; omega), by have := hr.un; (clear rk1 rk2 hrl hWlt htl hwl; omega), hr.gd⟩ (F32.kept _ _ hLR) (hrv.mono F32.kept) (F32.kept _ _ hLW) (hWv.mono F32.kept) hwl (fun i r w0 e1 e2 => by
    rw [List.getElem?_map, e1] at e2; cases e2; exact words_len _ _ _ _) (by exact Nat.lt_of_le_of_lt rk2 (by decide)) (fun r hr' => by have := (rk3 r hr').1; omega) ?_
  intro LJ jv nj h33 t33 hkp hLJ hjv
  rw [hidx2] at hjv
  obtain ⟨F33, hle⟩ := (F32.keeps hkp).full
  replace hLJ := full_lst (F32.keeps hkp) no_tab hLJ
  replace hLT := hle _ _ hLT
  replace hLR := hle _ _ hLR
  replace hLG := hle _ _ hLG
  replace hK0 : ∀ b o, b ≠ 160 → h.get? b = some o → fullK _ _ _ h33 b = some o := fun b o hb e => hle _ _ (hK0 b o hb e)
  generalize fullK _ _ _ h33 = K10 at F33 hLT hLR hK0 hLG hLJ
  clear hle hkp F32
  refine mk_slice ?_
  refine wpAny_evalPart_none ?_
  refine wpAny_evalPart_some ?_
  refine K_Call ?_
  refine ldb ‹_› ‹_› (by walk_at "mem") (by walk_at "mem") ?_
  refine K_callB ?_
  refine K_more ?_
  refine c_int ?_; intro _ _
  refine K_more ?_
  refine K_BinOp ?_
  refine K_Call ?_
  refine ldb ‹_› ‹_› (by walk_at "mem") (by walk_at "mem") ?_
  refine K_callB ?_
  refine K_more ?_
  refine ld ‹_› (by walk_at "mem") ?_
  refine spliced_none ?_

  refine len_l (F33.kept _ _ hLR) (by exact Nat.lt_of_le_of_lt (Nat.le_trans (Nat.le_of_eq hrl) rk2) (by decide)) ?_
  intro tkl2 tl2
  refine ld ‹_› (by walk_at "mem") ?_
  refine b_sub ?_; intro _ _
  refine spliced_none ?_
  refine max2 hA F33 ?_
  intro tkm h34 t34 F34
  rw [show max 0 ((rv.length : Int) - W) = ((((rv.length : Int) - W).toNat : Nat) : Int) by (clear rk1 rk2 hrl hWlt htl hwl; lia)]
  refine (mk_in F34 ?_)
  intro sl h35 F35
  refine gi_upto ⟨_, F35.kept _ _ hLJ, rfl, _, rfl⟩ F35 (by have := hjv.length; have := hrise2.pm.length_eq; simp at this; (clear rk1 hrl hWlt htl hwl; omega)) ?_
  intro S2 h36 F36
  have hjl : jv.length = idx2.length := hjv.length
  have hil : idx2.length = rows.length := by have := hrise2.pm.length_eq; simpa using this
  have hidxlt : ∀ j ∈ idx2, j < rows.length := fun j hj => by have := hrise2.pm.mem_iff.mp hj; rw [List.length_map] at this; exact List.mem_range.mp this
  have hgett : ∀ j, j < rows.length → tv[j]? = some (tv.getD j .none) := fun j hj => by rw [List.getD_eq_getElem?_getD, List.getElem?_eq_getElem (by (clear rk1 rk2 hWlt hwl hjl hil; omega))]; rfl
  generalize ((rv.length : Int) - W).toNat = V at *
  have hle36 : KLe K10 (add K10 S2 (lst (jv.take V) 0)) := le_add (F36.nokey (.head _))
  refine (MapIn.mk S2 (jv.take V) 0 F36.freeze (add_self _ _ _) (by rw [List.length_take]; (clear rk1 hrl hWlt htl hwl; omega)) ⟨rfl, rfl⟩ ?_ ?_)
  · intro i v cv c ic io acc cenv Kc h2 t2 ws2 hv' hI hcl hKc FJ
    obtain ⟨rfl, hI⟩ := hI
    obtain ⟨j, hji⟩ : ∃ j, (idx2.take V)[i]? = some j := by
      have : i < (jv.take V).length := (List.getElem?_eq_some_iff.mp hv').1
      exact ⟨_, List.getElem?_eq_getElem (by rw [List.length_take] at this ⊢; (clear rk1 rk2 hrl hWlt htl hwl hil hcl; lia))⟩
    obtain ⟨tj, htj⟩ := (hjv.take V).get hji
    rw [hv'] at htj; cases htj
    have hjlt := hidxlt j (List.mem_of_mem_take (List.mem_of_getElem? hji))
    refine C_ofE rfl ?_
    refine K_Sub ?_
    refine ld ‹_› (by walk_at "mem") ?_
    refine ld ‹_› (by walk_at "mem") ?_
    refine gi_l j (FJ.kept _ _ (hKc _ _ (hle36 _ _ hLT))) rfl (hgett j hjlt) (by (clear rk1 hWlt hwl hjl hil hcl hjlt; lia)) ?_ (by rfl)
    refine (MapEnd.mk _ ⟨rfl, ?_⟩ FJ)
    rw [List.take_add_one (l := idx2.take V), hji, hI]
    rw [List.map_append]
    rfl
  intro accF cFF fv ws2 h37 t37 hI hfl F37
  obtain ⟨rfl, rfl⟩ := hI
  refine eq_same (by have := hr.un; (clear rk1 rk2 hrl hWlt htl hwl hjl hil hfl; omega)) (F37.kept _ _ (hle36 _ _ hLG)) (F37.isIn (.head _)) (by simp [List.length_take]; (clear rk1 rk2 hrl hWlt htl hwl hil hfl; lia)) (fun j x y hx hy => ?_) ?_
  · have e1 : (idx2.take V).take (jv.take V).length = idx2.take V := List.take_of_length_le (by rw [List.length_take, List.length_take]; (clear rk1 rk2 hrl hWlt htl hwl hil hfl; lia))
    rw [e1, hx] at hy; cases hy
    exact EqAt.same _
  exact q _ _ (fun b o hb e => F37.kept _ _ (hle36 _ _ (hK0 b o hb e))) (F37.isIn (.tail _ (.head _)))
end Mine
end
section
open PySem PySem.W PyProof.Rows PySem.SeqAt
set_option Elab.async false
set_option maxRecDepth 100000
set_option maxHeartbeats 4000000
set_option linter.unusedVariables false
open Mine
namespace Mine
theorem law_walk : Walk2 := by
  intro w s K₀ l vs xs hM hs h160 hl hi hn
  have hB := hM.l
  have hBb := hB.base
  obtain ⟨pm, hF⟩ := hB.fn (163, 26, 162, .none) (List.mem_append_right _ (.tail _ (.tail _ (.head _))))
  obtain ⟨h, g, dr, t, os⟩ := s
  show wpC _ _ _ _ _ (up ⟨h, g, dr, t, os⟩ h t)
  generalize hss : (⟨h, g, dr, t, os⟩ : Shared) = s at *
  have hs : Sub K₀ h := by rw [← hss] at hs; exact hs
  refine wpC_call (enterE hBb hs hF room_caller.depth (gs := [Str.ofString "sum", Str.ofString "_law_rows", Str.ofString "_law_rising", Str.ofString "heapify", Str.ofString "len", Str.ofString "list", Str.ofString "enumerate", Str.ofString "nsmallest", Str.ofString "iter", Str.ofString "nlargest", Str.ofString "_law_falling", Str.ofString "max"]) rfl rfl
    (binds := [(Str.ofString "script", .ref l)]) (fun _ _ x => wpAny_of_eq rfl x)
    (lk := [vr "script" (.ref l), nv "total", nv "rows", (Str.ofString "words", some (h.objs.size + 1), none), nv "rising", (Str.ofString "heap", some (h.objs.size + 1 + 1), none), nv "wish", (Str.ofString "items", some (h.objs.size + 1 + 1 + 1), none), nv "first", nv "final", (Str.ofString "plain", some (h.objs.size + 1 + 1 + 1 + 1), none)]) ?_ ?_)
  · show PutAll [nv "script", nv "total", nv "rows", (Str.ofString "words", some (h.objs.size + 1), none), nv "rising", (Str.ofString "heap", some (h.objs.size + 1 + 1), none), nv "wish", (Str.ofString "items", some (h.objs.size + 1 + 1 + 1), none), nv "first", nv "final", (Str.ofString "plain", some (h.objs.size + 1 + 1 + 1 + 1), none)] _ _
    walk_at "putall"
  intro env h1 t1 henv F0
  have hfrm : env.frame = some env.locals := by rw [henv]; rfl
  have hcode : env.code = .ref 162 := by rw [henv]; rfl
  have hqual : env.qual = Str.ofString "law" ++ ".<locals>." := by rw [henv]; rfl
  have hkd : env.scope.kind ≠ .module := by rw [F0.fk]; decide
  have hfrs : (callerA.deeper env).frames = some [env] := Around.frames_deeper rfl
  clear henv
  have hr : Room (callerA.deeper env) 290 := room_caller.deeper (by decide)
  have hA : (callerA.deeper env).handled = none := rfl
  generalize callerA.deeper env = A at *
  have h160' : h.get? 160 = some (tabObj #[]) := by rw [← hss] at h160; exact h160
  have F1 := F0.thaw (a := 160) h160' hM.n160
  have hl' : h.IsList l vs.toArray := by rw [← hss] at hl; exact hl
  have hK0 : ∀ b o, b ≠ 160 → h.get? b = some o → drp (hk h) 160 b = some o := fun b o hb e => by unfold drp; rw [if_neg hb]; exact e
  obtain ⟨ol, e1, e2, nl, e3⟩ := hl'
  have hlK : drp (hk h) 160 l = some ol := hK0 l ol (fun q => by
    rw [q, h160'] at e1; cases e1; exact absurd e2 (by decide)) e1
  have hIs : ∀ {h' : Heap}, h'.get? l = some ol → h'.IsList l vs.toArray := fun e => ⟨ol, e, e2, nl, e3⟩
  clear e1 F0 h160' h160 hl hs hF
  generalize h.objs.size + 1 = c1 at F1
  generalize c1 + 1 = c2 at F1
  generalize c2 + 1 = c3 at F1
  generalize c3 + 1 = c4 at F1
  generalize hKK : drp (hk h) 160 = K1 at F1 hK0 hlK
  clear hKK
  refine C_execs_cons ?_
  refine C_Assign_Name ?_
  refine C_ofM (by decide +kernel) ?_
  refine K_Call ?_
  refine ldb ‹_› ‹_› (by walk_at "mem") (by walk_at "mem") ?_
  refine K_callB ?_
  refine K_more ?_
  refine ld ‹_› (by walk_at "mem") ?_
  refine spliced_none ?_
  refine sum_l hA F1 (hIs (F1.kept _ _ hlK)) hi ?_
  intro tk1 h2 t2 F2
  refine wpC_of ?_
  refine stn ‹_› (by walk_at "put") ?_; intro _ _ _
  refine C_execs_cons ?_
  refine C_Assign_Name ?_
  refine C_ofE rfl ?_
  refine K_BinOp ?_
  refine ld ‹_› (by walk_at "mem") ?_
  refine c_int ?_; intro _ _
  refine b_mod (by omega) ?_; intro _ _
  refine wpC_of ?_
  refine stn ‹_› (by walk_at "put") ?_; intro _ _ _
  refine C_execs_cons ?_
  refine C_Assign_Name ?_
  refine C_ofM (by decide +kernel) ?_
  refine K_Call ?_
  refine ldg ‹_› ‹_› (by walk_at "mem") (by walk_at "mem") ?_
  refine K_callf ‹_› (by walk_at "mem") ?_
  refine K_more ?_
  refine ld ‹_› (by walk_at "mem") ?_
  refine spliced_none ?_
  refine And.intro (Fm.sub ‹_›) ?_
  rename_i F3
  obtain ⟨base, hbase⟩ : ∃ n : Nat, xs.sum % 9 = (n : Int) := ⟨(xs.sum % 9).toNat, by (clear hn hkd; lia)⟩
  rw [hbase] at F3
  have hb9 : base < 9 := by (clear hn hkd; lia)
  refine rows_walk hBb F3.sub0 ⟨hr.hd, by have := hr.dep; (clear hn hkd hbase hb9; omega), by have := hr.un; (clear hn hkd hbase hb9; omega), hr.gd⟩ (hIs (F3.kept _ _ hlK)) hi hn ?_
  intro LR rv nr h4 t4 hkp hLR hrv
  obtain ⟨F5, hle⟩ := (F3.keeps hkp).full
  replace hrv := hrv.full (F3.keeps hkp) no_tab
  replace hLR := full_lst (F3.keeps hkp) no_tab hLR
  replace hK0 : ∀ b o, b ≠ 160 → h.get? b = some o → fullK _ _ _ _ b = some o := fun b o hb e => hle _ _ (hK0 b o hb e)
  generalize fullK _ _ _ h4 = K2 at F5 hrv hLR hK0
  clear hle hkp F3 F2 F1 hlK hIs
  obtain ⟨rk1, rk2, rk3⟩ := rowsN_ok xs
  generalize rowsN xs = rows at *
  refine wpC_of ?_
  refine stn ‹_› (by walk_at "put") ?_; intro _ _ _
  refine C_execs_cons ?_
  rename_i F6
  clear F5
  have hrl : rv.length = rows.length := hrv.length
  refine C_Assign_Name ?_ (no_swap F6 (by walk_at "mem"))
  refine C_mapK [vc "plain" c4 (.int (base : Nat) _)] [(c1, clo none), (c2, clo none), (c3, clo none)] [Str.ofString "_law_words"] (fun i K cv => WordsAt K cv ((rows.take i).map (wordsN base))) hA F6 (by rfl) (fun p hp => by
      obtain rfl := List.mem_singleton.mp hp; exact ⟨_, _, rfl⟩) (List.perm_append_comm (l₁ := [(c1, clo none), (c2, clo none), (c3, clo none)]) (l₂ := [_])) (fun p hp => by
      obtain rfl := List.mem_singleton.mp hp; walk_at "mem") ?_
  refine C_ofE rfl ?_
  refine ld ‹_› (by walk_at "mem") ?_
  refine (MapInK.mk LR rv nr F6 hLR (by exact Nat.lt_of_le_of_lt (Nat.le_trans (Nat.le_of_eq hrl) rk2) (by decide)) (fun _ => .nil) ?_ ?_)
  · intro i v cv c ic io acc cenv Kc h2 t2 hv hI hcl hKc FJ
    obtain ⟨r, hri⟩ : ∃ r, rows[i]? = some r := by
      have : i < rv.length := (List.getElem?_eq_some_iff.mp hv).1
      exact ⟨_, List.getElem?_eq_getElem (hrl ▸ this)⟩
    obtain ⟨a, wsr, nn, ha1, ha2, ha3⟩ := hrv.get hri
    rw [hv] at ha1; cases ha1
    have hrm := List.mem_of_getElem? hri
    refine C_Call_Name ?_
    refine ldg ‹_› ‹_› (by walk_at "mem") (by walk_at "mem") ?_
    refine C_callf ‹_› (by walk_at "mem") ?_
    refine K_more ?_
    refine ld ‹_› (by walk_at "mem") ?_
    refine K_more ?_
    refine ld ‹_› (by walk_at "mem") ?_
    refine spliced_none ?_
    refine And.intro (Fm.sub ‹_›) ?_
    refine words_walk hBb FJ.sub0 ⟨hr.hd, by have := hr.dep; (clear hn hkd hbase hb9 rk1 rk2 hrl hcl; omega), by have := hr.un; (clear hn hkd hbase hb9 rk1 rk2 hrl hcl; omega), hr.gd⟩ (FJ.kept _ _ (hKc _ _ ha2)) ha3 (rk3 r hrm).2 (by have := (rk3 r hrm).1; (clear hn hkd hbase hb9 rk1 rk2 hrl hcl; lia)) (by exact Nat.le_of_lt (Nat.lt_of_lt_of_le hb9 (by decide))) ?_
    intro L wv n' h3 t3 hkp hLn hL hW
    obtain ⟨F7, hle⟩ := (FJ.keeps hkp).full
    refine (MapEndK.mk hle ?_ F7)
    rw [List.take_add_one, hri]
    rw [List.map_append]
    exact (hI.mono hle).snoc (FJ.newAt hLn hL) (hW.fullNew FJ)
  intro accW cW wv Kc h5 t5 hWv hcl hKc hKL FO
  have hWv : WordsAt (drp Kc env.locals) wv (rows.map (wordsN base)) := by
    rw [hrl, List.take_length] at hWv
    exact hWv.drp hKL
  have hKd : KLe K2 (drp Kc env.locals) := le_drp hKc F6.kL
  have FW := FO.freeze
  have hle2 : KLe (drp Kc env.locals) (add (drp Kc env.locals) accW (lst wv cW)) := le_add (FO.nokey (.head _))
  replace hWv := hWv.mono hle2
  replace hrv := hrv.mono fun b o e => hle2 _ _ (hKd _ _ e)
  replace hLR := hle2 _ _ (hKd _ _ hLR)
  have hLW : add (drp Kc env.locals) accW (lst wv cW) accW = some (lst wv cW) := add_self _ _ _
  replace hK0 : ∀ b o, b ≠ 160 → h.get? b = some o → add (drp Kc env.locals) accW (lst wv cW) b = some o := fun b o hb e => hle2 _ _ (hKd _ _ (hK0 b o hb e))
  generalize add (drp Kc env.locals) accW (lst wv cW) = K3 at FW hWv hrv hLR hLW hK0
  clear FO hKd hle2 hKL hKc F6
  refine wpC_of (stn FW (by walk_at "put") ?_)
  intro h6 t6 F6
  clear FW
  have hwl : (rows.map (wordsN base)).length = rows.length := List.length_map _
  refine C_execs_cons (C_Assign_Name (C_Call_Name ?_))
  refine ldg ‹_› ‹_› (by walk_at "mem") (by walk_at "mem") ?_
  refine C_callf ‹_› (by walk_at "mem") ?_
  refine K_more ?_
  refine ld ‹_› (by walk_at "mem") ?_
  refine K_more ?_
  refine ld ‹_› (by walk_at "mem") ?_
  refine spliced_none ?_
  refine And.intro (Fm.sub ‹_›) ?_
  refine rising_walk hBb F6.sub0 ⟨hr.hd, by have := hr.dep; (clear hn hkd hbase hb9 rk1 rk2 hrl hcl hwl; omega), by have := hr.un; (clear hn hkd hbase hb9 rk1 rk2 hrl hcl hwl; omega), hr.gd⟩ (F6.kept _ _ hLR) (hrv.mono F6.kept) (F6.kept _ _ hLW) (hWv.mono F6.kept) hwl (fun i r w0 e1 e2 => by
    rw [List.getElem?_map, e1] at e2; cases e2; exact words_len _ _ _ _) (by exact Nat.lt_of_le_of_lt rk2 (by decide)) (fun r hr' => by have := (rk3 r hr').1; (clear hn hkd hbase hb9 rk1 rk2 hrl hcl hwl; omega)) ?_
  intro LI iv ni h7 t7 hkp hLI hiv
  obtain ⟨F7, hle⟩ := (F6.keeps hkp).full
  replace hLI := full_lst (F6.keeps hkp) no_tab hLI
  replace hWv := hWv.mono hle
  replace hrv := hrv.mono hle
  replace hLR := hle _ _ hLR
  replace hLW := hle _ _ hLW
  replace hK0 : ∀ b o, b ≠ 160 → h.get? b = some o → fullK _ _ _ _ b = some o := fun b o hb e => hle _ _ (hK0 b o hb e)
  generalize fullK _ _ _ h7 = K4 at F7 hLI hWv hrv hLR hLW hK0
  clear hle hkp F6
  -- the keys
  have hksl : (rows.map (giN base)).length = rows.length := List.length_map _
  have hgetr : ∀ i, i < rows.length → rows[i]? = some (rows.getD i []) := fun i hi => by rw [List.getD_eq_getElem?_getD, List.getElem?_eq_getElem hi]; rfl
  have hgetw : ∀ i, i < rows.length → (rows.map (wordsN base)).getD i [] = wordsN base (rows.getD i []) := fun i hi => by rw [List.getD_eq_getElem?_getD, List.getElem?_map, hgetr i hi]; rfl
  have hgetk : ∀ i, i < rows.length → (rows.map (giN base)).getD i [] = giN base (rows.getD i []) := fun i hi => by rw [List.getD_eq_getElem?_getD, List.getElem?_map, hgetr i hi]; rfl
  obtain ⟨idx, hidx⟩ : ∃ idx, (List.range rows.length).foldl (insStep (fun a b => aheadGo (rows.getD a []) (rows.getD b []) ((rows.map (wordsN base)).getD a []) ((rows.map (wordsN base)).getD b []))) [] = idx := ⟨_, rfl⟩
  rw [hidx] at hiv
  have hrise : Rise true (rows.map (giN base)) idx := by
    rw [← hidx, ← hksl]
    refine rise_ok fun i j hi hj => ?_
    rw [hksl] at hi hj
    rw [hgetw i hi, hgetw j hj, hgetk i hi, hgetk j hj, ahead_eq]
    rfl
  clear hidx
  refine wpC_of (stn F7 (by walk_at "put") ?_)
  intro h8 t8 F8
  clear F7
  refine C_execs_cons ?_
  refine C_Assign_Name ?_ (no_swap F8 (by walk_at "mem"))
  refine C_map [vc "plain" c4 (.int (base : Nat) _)] [(c1, clo (some (.ref accW))), (c2, clo none), (c3, clo none)] [Str.ofString "generate_integers"] (fun i ws cv => ws = [(160, tabObj #[])] ∧ KeysAre cv ((rows.take i).map (giN base))) hA F8 (by rfl) (fun p hp => by
      obtain rfl := List.mem_singleton.mp hp; exact ⟨_, _, rfl⟩) (List.perm_append_comm (l₁ := [(c1, clo (some (.ref accW))), (c2, clo none), (c3, clo none)]) (l₂ := [_])) (fun p hp => by
      obtain rfl := List.mem_singleton.mp hp; walk_at "mem") ?_
  refine C_ofE rfl ?_
  refine ld ‹_› (by walk_at "mem") ?_
  refine (MapIn.mk LR rv nr F8 hLR (by exact Nat.lt_of_le_of_lt (Nat.le_trans (Nat.le_of_eq hrl) rk2) (by decide)) ⟨rfl, .nil⟩ ?_ ?_)
  · intro i v cv c ic io acc cenv Kc h2 t2 ws2 hv hI hcl hKc FJ
    obtain ⟨rfl, hI⟩ := hI
    obtain ⟨r, hri⟩ : ∃ r, rows[i]? = some r := by
      have : i < rv.length := (List.getElem?_eq_some_iff.mp hv).1
      exact ⟨_, List.getElem?_eq_getElem (hrl ▸ this)⟩
    obtain ⟨a, wsr, nn, ha1, ha2, ha3⟩ := hrv.get hri
    rw [hv] at ha1; cases ha1
    have hrm := List.mem_of_getElem? hri
    refine C_Call_Name ?_
    refine ldg ‹_› ‹_› (by walk_at "mem") (by walk_at "mem") ?_
    refine C_callf ‹_› (by walk_at "mem") ?_
    refine K_more ?_
    refine ld ‹_› (by walk_at "mem") ?_
    refine K_more ?_
    refine ld ‹_› (by walk_at "mem") ?_
    refine spliced_none ?_
    refine And.intro (Fm.sub ‹_›) ?_
    refine gi_walk hBb FJ.sub0 ⟨hr.hd, by have := hr.dep; (clear hn hkd hbase hb9 rk1 rk2 hrl hwl hksl hcl; lia), by have := hr.un; (clear hn hkd hbase hb9 rk1 rk2 hrl hwl hksl hcl; omega), hr.gd⟩ (FJ.kept _ _ (hKc _ _ ha2)) ha3 (rk3 r hrm).2 (by have := (rk3 r hrm).1; (clear hn hkd hbase hb9 rk1 rk2 hrl hwl hksl hcl; lia)) (by exact Nat.le_of_lt (Nat.lt_of_lt_of_le hb9 (by decide))) ?_
    intro tk h3 t3 hkp
    refine (MapEnd.mk _ ⟨rfl, ?_⟩ (FJ.keeps hkp))
    rw [List.take_add_one, hri]
    rw [List.map_append]
    exact hI.snoc
  intro accH cH hv ws2 h9 t9 hI hhl F9
  obtain ⟨rfl, hkeys⟩ := hI
  rw [hrl, List.take_length] at hkeys
  refine wpC_of ?_
  refine stn ‹_› (by walk_at "put") ?_; intro _ _ _
  refine C_execs_cons ?_
  refine C_Expr ?_ (Fm.inter ‹_›)
  rename_i F10
  clear F9 F8
  refine wpC_of ?_
  refine K_Call ?_
  refine ldg ‹_› ‹_› (by walk_at "mem") (by walk_at "mem") ?_
  refine K_callf ‹_› (by walk_at "mem") ?_
  refine K_more ?_
  refine ld ‹_› (by walk_at "mem") ?_
  refine spliced_none ?_
  refine And.intro (Fm.sub ‹_›) ?_
  refine heapify_walk (lt := ltV) (K₁ := K4) hBb F10.sub0 ⟨hr.hd, by have := hr.dep; (clear hn hkd hbase hb9 rk1 rk2 hrl hcl hwl hksl hhl; omega), by have := hr.un; (clear hn hkd hbase hb9 rk1 rk2 hrl hcl hwl hksl hhl; omega), hr.gd⟩ (F10.isIn (.head _)) (F10.no0 (.head _)) F10.kept (F10.nokey (.head _)) (by (clear hn hkd hbase hb9 rk1 hcl hwl hksl; omega)) (fun x hx y hy => cmp_byt (hkeys.byt x hx) (hkeys.byt y hy)) ?_
  intro h11 t11 hH hHk
  have F11 := F10.upd .head hH hHk
  clear F10 hHk hH
  obtain ⟨hh1, hh2⟩ := heapify_ok ltV_swo hv
  generalize heapifyTo ltV hv (hv.length / 2) = hw at F11 hh1 hh2
  have hwb : ∀ x ∈ hw, Byt x := fun x hx => hkeys.byt x (hh2.mem_iff.mp hx)
  have hwk : (hw.map vkey).Perm (rows.map (giN base)) := by rw [← hkeys.keys]; exact hh2.map _
  have hwlen : hw.length = rows.length := by have := hh2.length_eq; (clear hn hkd hbase hb9 rk1 rk2 hcl hwl hksl; lia)
  refine C_execs_cons (C_IfC (C_isTrue_Compare1 ?_))
  refine C_map [vc "heap" c2 (.ref accH)] [(c1, clo (some (.ref accW))), (c3, clo none), (c4, clo (some (.int (base : Nat) _)))] [Str.ofString "heappop"] (fun i ws cv => ∃ hx c, ws = [(accH, lst hx c), (160, tabObj #[])] ∧ Popped ltV hw cv hx ∧ hx.length + i = rows.length) hA F11 (by rfl) (fun p hp => by
      obtain rfl := List.mem_singleton.mp hp; exact ⟨_, _, rfl⟩) (List.Perm.swap _ _ _) (fun p hp => by
      obtain rfl := List.mem_singleton.mp hp; walk_at "mem") ?_
  refine C_ofE rfl ?_
  refine ld ‹_› (by walk_at "mem") ?_
  refine (MapIn.mk LR rv nr F11 hLR (by exact Nat.lt_of_le_of_lt (Nat.le_trans (Nat.le_of_eq hrl) rk2) (by decide)) ⟨hw, _, rfl, ⟨hh1, List.Perm.refl _, .nil, (fun x hx => nomatch hx)⟩, by exact hwlen⟩ ?_ ?_)
  · intro i v cv c ic io acc cenv Kc h2 t2 ws2 hv' hI hcl hKc FJ
    obtain ⟨hx, c', rfl, hP, hxl⟩ := hI
    have hi' : i < rows.length := by have := (List.getElem?_eq_some_iff.mp hv').1; (clear hn hkd hbase hb9 rk1 rk2 hwl hksl hhl hwlen hcl hxl; lia)
    have hmm : ∀ {o : Obj} {u : Tok}, (accH, o) ∈ ((ic, io) :: (acc, lst cv c) :: ([(c1, clo (some (.ref accW))), (c3, clo none), (c4, clo (some (.int (base : Nat) u)))] ++ [(accH, o), (160, tabObj #[])])) := .tail _ (.tail _ (.tail _ (.tail _ (.tail _ (.head _)))))
    have hxb : ∀ x ∈ hx, Byt x := fun x hm => hwb x (hP.pm.mem_iff.mp (List.mem_append_right _ hm))
    refine wpC_of ?_
    refine K_Call ?_
    refine ldg ‹_› ‹_› (by walk_at "mem") (by walk_at "mem") ?_
    refine K_callf ‹_› (by walk_at "mem") ?_
    refine K_more ?_
    refine ld ‹_› (by walk_at "mem") ?_
    refine spliced_none ?_
    refine And.intro (Fm.sub ‹_›) ?_
    refine heappop_walk (lt := ltV) (K₁ := Kc) hBb FJ.sub0 ⟨hr.hd, by have := hr.dep; (clear hn hkd hbase hb9 rk1 rk2 hrl hwl hksl hhl hwlen hcl hxl hi'; lia), by have := hr.un; (clear hn hkd hbase hb9 rk1 rk2 hrl hwl hksl hhl hwlen hcl hxl hi'; omega), hr.gd⟩ (FJ.isIn hmm) (FJ.no0 hmm) FJ.kept (FJ.nokey hmm) (by (clear hn hkd hbase hb9 rk1 hrl hwl hksl hhl hwlen hcl hi'; omega)) (by (clear hn hkd hbase hb9 rk1 rk2 hrl hwl hksl hhl hwlen hcl; lia)) (fun x hx y hy => cmp_byt (hxb x hx) (hxb y hy)) ?_
    intro h3 t3 hH hHk
    have FJ2 := FJ.upd (.tail (.tail (.tail (.tail (.tail .head))))) hH hHk
    obtain ⟨hP2, hl2⟩ := hP.next ltV_swo (by (clear hn hkd hbase hb9 rk1 rk2 hrl hwl hksl hhl hwlen hcl; lia))
    exact (MapEnd.mk _ ⟨_, _, rfl, hP2, by (clear hn hkd hbase hb9 rk1 rk2 hrl hwl hksl hhl hwlen hcl hi'; lia)⟩ FJ2)
  intro accP cP pv ws2 h12 t12 hI hpl F12
  obtain ⟨hx, c', rfl, hP, hxl⟩ := hI
  obtain rfl : hx = [] := List.eq_nil_of_length_eq_zero (by (clear hn hkd hbase hb9 rk1 rk2 hcl hwl hksl hhl hwlen hpl; lia))
  have hpk := pops_eq hP hwk hrise
  have hpb : ∀ x ∈ pv, Byt x := fun x hm => hwb x (hP.pm.mem_iff.mp (List.mem_append_left _ hm))
  have F13 := F12.freeze.drop (ws' := [(160, tabObj #[])]) (List.sublist_cons_self _ _)
  have hle : KLe K4 (add K4 accP (lst pv cP)) := le_add (F12.nokey (.head _))
  have hLP : add K4 accP (lst pv cP) accP = some (lst pv cP) := add_self _ _ _
  replace hWv := hWv.mono hle
  replace hrv := hrv.mono hle
  replace hLR := hle _ _ hLR
  replace hLW := hle _ _ hLW
  replace hLI := hle _ _ hLI
  replace hK0 : ∀ b o, b ≠ 160 → h.get? b = some o → add K4 accP (lst pv cP) b = some o := fun b o hb e => hle _ _ (hK0 b o hb e)
  generalize add K4 accP (lst pv cP) = K5 at F13 hLP hLI hWv hrv hLR hLW hK0
  clear hle F12 F11 hP
  have hil : idx.length = rows.length := by have := hrise.pm.length_eq; simpa using this
  have hivl : iv.length = idx.length := hiv.length
  have hidxlt : ∀ j ∈ idx, j < rows.length := fun j hj => by have := hrise.pm.mem_iff.mp hj; rw [hksl] at this; exact List.mem_range.mp this
  refine C_map [vc "words" c1 (.ref accW)] [(c2, clo (some (.ref accH))), (c3, clo none), (c4, clo (some (.int (base : Nat) _)))] [Str.ofString "_law_octets"] (fun i ws cv => ws = [(160, tabObj #[])] ∧ KeysAre cv ((idx.take i).map fun j => (rows.map (giN base)).getD j [])) hA F13 (by rfl) (fun p hp => by
      obtain rfl := List.mem_singleton.mp hp; exact ⟨_, _, rfl⟩) (List.Perm.refl _) (fun p hp => by
      obtain rfl := List.mem_singleton.mp hp; walk_at "mem") ?_
  refine C_ofE rfl ?_
  refine ld ‹_› (by walk_at "mem") ?_
  refine (MapIn.mk LI iv ni F13 hLI (by (clear hn hkd hbase hb9 rk1 hrl hcl hwl hksl hhl hwlen hpl hxl; omega)) ⟨rfl, .nil⟩ ?_ ?_)
  · intro i v cv c ic io acc cenv Kc h2 t2 ws2 hv' hI hcl hKc FJ
    obtain ⟨rfl, hI⟩ := hI
    obtain ⟨j, hji⟩ : ∃ j, idx[i]? = some j := by
      have : i < iv.length := (List.getElem?_eq_some_iff.mp hv').1
      exact ⟨_, List.getElem?_eq_getElem (hivl ▸ this)⟩
    obtain ⟨tj, htj⟩ := hiv.get hji
    rw [hv'] at htj; cases htj
    have hjlt := hidxlt j (List.mem_of_getElem? hji)
    have hrj := hgetr j hjlt
    have hrm := List.mem_of_getElem? hrj
    obtain ⟨a, wsr, nn, ha1, ha2, ha3⟩ := hWv.get (i := j) (r := wordsN base (rows.getD j [])) (by rw [List.getElem?_map, hrj]; rfl)
    refine C_Call_Name ?_
    refine ldg ‹_› ‹_› (by walk_at "mem") (by walk_at "mem") ?_
    refine C_callf ‹_› (by walk_at "mem") ?_
    refine K_more ?_
    refine K_Sub ?_
    refine ld ‹_› (by walk_at "mem") ?_
    refine ld ‹_› (by walk_at "mem") ?_
    refine gi_l j (FJ.kept _ _ (hKc _ _ hLW)) rfl ha1 (by have := hWv.length; (clear hn hkd hbase hb9 rk1 hwl hksl hhl hwlen hpl hxl hil hivl hcl hjlt; lia)) ?_ (by rfl)
    refine spliced_none ?_
    refine And.intro (Fm.sub ‹_›) ?_
    refine octets_walk hBb FJ.sub0 ⟨hr.hd, by have := hr.dep; (clear hn hkd hbase hb9 rk1 rk2 hrl hwl hksl hhl hwlen hpl hxl hil hivl hcl hjlt; lia), by have := hr.un; (clear hn hkd hbase hb9 rk1 rk2 hrl hwl hksl hhl hwlen hpl hxl hil hivl hcl hjlt; omega), hr.gd⟩ (FJ.kept _ _ (hKc _ _ ha2)) (ha3.mono fun b o e => FJ.kept _ _ (hKc _ _ e)) (fun r hr' d hd => words_lt base (rows.getD j []) 0 72 d (List.mem_flatten.mpr ⟨r, hr', hd⟩)) (by have := flat_len (base := base) (rk3 _ hrm).2; have := (rk3 _ hrm).1; (clear hn hkd hbase hb9 rk1 rk2 hrl hwl hksl hhl hwlen hpl hxl hil hivl hcl hjlt; lia)) (by
      have h1 : (wordsN base (rows.getD j [])).length = (rows.getD j []).length := words_len _ _ _ _
      have := (rk3 _ hrm).1; (clear hn hkd hbase hb9 rk1 rk2 hrl hwl hksl hhl hwlen hpl hxl hil hivl hcl hjlt; omega)) ?_
    intro tk h3 t3 hkp
    refine (MapEnd.mk _ ⟨rfl, ?_⟩ (FJ.keeps hkp))
    rw [List.take_add_one, hji]
    rw [List.map_append]
    have e : byteArr ((wordsN base (rows.getD j [])).flatten.map fun x => ((octI x : Nat) : Int)) = ((rows.map (giN base)).getD j []).toArray := by
      rw [hgetk j hjlt, ← octets_gi]
    rw [e]
    exact hI.snoc
  intro accO cO ov ws2 h14 t14 hI hol F14
  obtain ⟨rfl, hok⟩ := hI
  rw [hivl, List.take_length] at hok
  have hpl2 : pv.length = ov.length := by (clear hn hkd hbase hb9 rk1 rk2 hcl hwl hksl hhl hwlen hxl; lia)
  refine ne_same (by have := hr.un; (clear hn hkd hbase hb9 rk1 rk2 hrl hcl hwl hksl hhl hwlen hpl hxl hil hivl hol hpl2; omega)) (F14.kept _ _ hLP) (F14.isIn (.head _)) hpl2 (fun j x y hx hy => ?_) ?_
  · obtain ⟨bx, ux, rfl⟩ := hpb x (List.mem_of_getElem? hx)
    obtain ⟨by', uy, rfl⟩ := hok.byt y (List.mem_of_getElem? hy)
    have e1 : (pv.map vkey)[j]? = some bx.toList := by rw [List.getElem?_map, hx]; rfl
    have e2 : (ov.map vkey)[j]? = some by'.toList := by rw [List.getElem?_map, hy]; rfl
    rw [hok.keys, ← hpk, e1] at e2
    have := eqAt_bytes A.in1 (up s h14 t14) bx by' ux uy
    rw [Option.some.inj e2, show (by'.toList == by'.toList) = true from by simp] at this
    exact this
  have F15 := F14.drop (ws' := [(160, tabObj #[])]) (List.sublist_cons_self _ _)
  clear F14 F13
  refine wpAny_truthy_bool ?_
  refine m_ff ?_
  refine C_execs_nil ?_
  refine C_execs_cons ?_
  refine C_Assign_Name ?_
  refine C_ofE rfl ?_
  refine K_BinOp ?_
  refine K_BinOp ?_
  refine K_BinOp ?_
  refine ld ‹_› (by walk_at "mem") ?_
  refine c_int ?_; intro _ _
  refine b_div (by omega) ?_; intro _ _
  refine c_int ?_; intro _ _
  refine b_add ?_; intro _ _
  refine K_BinOp ?_
  refine K_Call ?_
  refine ldb ‹_› ‹_› (by walk_at "mem") (by walk_at "mem") ?_
  refine K_callB ?_
  refine K_more ?_
  refine ld ‹_› (by walk_at "mem") ?_
  refine spliced_none ?_
  refine len_l (F15.kept _ _ hLR) (by exact Nat.lt_of_le_of_lt (Nat.le_trans (Nat.le_of_eq hrl) rk2) (by decide)) ?_
  intro tkl tl
  refine c_int ?_; intro _ _
  refine b_add ?_; intro _ _
  refine b_mod (by omega) ?_; intro _ _
  refine wpC_of ?_
  refine stn ‹_› (by walk_at "put") ?_; intro _ _ _
  refine C_execs_cons ?_
  refine C_Assign_Name ?_
  refine C_ofM (by decide +kernel) ?_
  refine K_Call ?_
  refine ldb ‹_› ‹_› (by walk_at "mem") (by walk_at "mem") ?_
  refine K_callT ?_
  refine K_more ?_
  refine K_Call ?_
  refine ldb ‹_› ‹_› (by walk_at "mem") (by walk_at "mem") ?_
  refine K_callT ?_
  refine K_more ?_
  refine ld ‹_› (by walk_at "mem") ?_
  refine spliced_none ?_
  rename_i F16
  clear F15
  obtain ⟨W, hW⟩ : ∃ n : Nat, (xs.sum / 9 + 2) % ((rv.length : Int) + 2) = (n : Int) := ⟨((xs.sum / 9 + 2) % ((rv.length : Int) + 2)).toNat, by rw [Int.toNat_of_nonneg (Int.emod_nonneg _ (by (clear hn hkd hbase hb9 rk1 rk2 hrl hcl hwl hksl hhl hwlen hpl hxl hil hivl hol hpl2; omega)))]⟩
  have hWlt : W < rows.length + 2 := by
    have := Int.emod_lt_of_pos (xs.sum / 9 + 2) (b := (rv.length : Int) + 2) (by (clear hn hkd hbase hb9 rk1 rk2 hrl hcl hwl hksl hhl hwlen hpl hxl hil hivl hol hpl2 hW; omega))
    rw [hW] at this; (clear hn hkd hbase hb9 rk1 rk2 hcl hwl hksl hhl hwlen hpl hxl hil hivl hol hpl2 hW; omega)
  rw [hW] at F16
  refine enum_l F16 (F16.kept _ _ hLR) ?_
  intro e it io h17 hio F17
  refine spliced_none ?_
  refine list_enum hA F17 hio hLR (by exact Nat.lt_of_le_of_lt (Nat.le_trans (Nat.le_of_eq hrl) rk2) (by decide)) ?_
  intro LT tv cT h18 t18 hLTn htl htv F18
  have F18f := F18.freeze
  obtain ⟨F19, hle⟩ := F18f.full
  have hle5 : KLe K5 (fullK _ _ _ h18) := fun b o e => hle _ _ (le_add (F18.nokey (.head _)) _ _ e)
  have hT : ∀ (j : Nat) v, tv[j]? = some v → ∃ a tk x, v = .ref a ∧ rv[j]? = some x ∧ fullK _ _ _ h18 a = some (tup [.int (j : Nat) tk, x] 0) := fun j v hj => by
    obtain ⟨a, tk, x, e1, e2, e3, e4, e5⟩ := htv j v hj
    exact ⟨a, tk, x, e1, e2, full_tup F18f no_tabT e5⟩
  have hLT := hle _ _ (add_self K5 LT (lst tv cT))
  replace hWv := hWv.mono hle5
  replace hrv := hrv.mono hle5
  replace hLR := hle5 _ _ hLR
  replace hLW := hle5 _ _ hLW
  replace hLI := hle5 _ _ hLI
  replace hK0 : ∀ b o, b ≠ 160 → h.get? b = some o → fullK _ _ _ h18 b = some o := fun b o hb e => hle5 _ _ (hK0 b o hb e)
  generalize fullK _ _ _ h18 = K6 at F19 hT hLT hLI hWv hrv hLR hLW hK0
  clear hle5 hle F18f F18 F17 F16 htv hLP
  refine wpC_of (stn F19 (by walk_at "put") ?_)
  intro h20 t20 F20
  clear F19
  obtain ⟨pm2, hFs⟩ := hB.fn (83, 10, 82, .ref 78) (List.mem_append_right _ (.head _))
  obtain ⟨o83, h83, d83⟩ := hFs.obj
  clear hFs
  refine C_execs_cons (C_Assign_Name (C_Call_NameK ?_))
  refine ldg hBb F20 (by walk_at "mem") (by walk_at "mem") ?_
  refine C_refK d83 ?_
  refine K_more ?_
  refine ld ‹_› (by walk_at "mem") ?_
  refine K_more ?_
  refine K_Call ?_
  refine ldb ‹_› ‹_› (by walk_at "mem") (by walk_at "mem") ?_
  refine K_callB ?_
  refine K_more ?_
  refine ld ‹_› (by walk_at "mem") ?_
  refine spliced_none ?_
  refine iter_call (iter_l F20 (F20.kept _ _ hLT) ?_)
  intro it io2 h21 hio2 F21
  refine spliced_none ?_
  refine kws_cons (mk_lam (x := Str.ofString "plain") (c := c4) hM (F21.perm (List.Perm.swap _ _ _)) hcode (by walk_at "mem") rfl rfl trivial rfl ?_)
  intro f c' oc ctv pm3 h22 t22 hfn hcn hco hrec hfo F22
  refine kws_nil ⟨F22.sub0 _ _ h83, ?_⟩
  replace F22 := F22.perm (List.Perm.swap _ _ _)
  have hit2 := F22.isIn (a := it) (.head _)
  obtain ⟨oL, es, ep, eL, rL⟩ := F22.nsp
  have hKK : KLe K6 (offK h22 env.locals it) := fun b o e => offK_at (F22.kept b o e) (fun x => by rw [x, F22.kL] at e; cases e) (fun x => by rw [x, F22.nokey (.head _)] at e; cases e)
  have hc4m := F22.own (c4, clo (some (.int (base : Nat) _))) (List.mem_append_left _ (.tail _ (.tail _ (.tail _ (.head _)))))
  have hc4L : c4 ≠ env.locals := fun x => by rw [x] at hc4m; rw [eL] at hc4m; cases hc4m.1; cases rL.1
  have hc4i : c4 ≠ it := fun x => by
    rw [x] at hc4m; rw [hit2] at hc4m; have z := hio2.1; rw [Option.some.inj hc4m.1] at z; exact absurd z (show ¬ (Value.type "cell" = Value.type "list_iterator") by decide)
  have hnew : ∀ {b : Addr}, h21.get? b = none → b ≠ env.locals ∧ b ≠ it := fun {b} e => ⟨(fun x => by
    obtain ⟨o, z⟩ := F21.L_some
    rw [x, z] at e; cases e), (fun x => by
    have z := F21.isIn (a := it) (.head _)
    rw [x, z] at e; cases e)⟩
  have hno0 : ∀ {b : Addr}, K6 b = none → K₀ b = none := fun {b} e => by
    cases q : K₀ b with
    | none => rfl
    | some o => rw [F22.base _ _ q] at e; cases e
  have hTv : ∀ x ∈ tv, ∃ a tk y, x = .ref a ∧ K6 a = some (tup [tk, y] 0) := fun x hx => by
    obtain ⟨j, hj⟩ := List.mem_iff_getElem?.mp hx
    obtain ⟨a, tk, y, e1, e2, e3⟩ := hT j x hj
    exact ⟨a, _, y, e1, e3⟩
  refine nsmallest_walk (K₁ := offK h22 env.locals it) (ks := rows.map (giN base)) (idx := idx) hB F22.sub0 ⟨hr.hd, by have := hr.dep; (clear hn hkd hbase hb9 rk1 rk2 hrl hcl hwl hksl hhl hwlen hpl hxl hil hivl hol hpl2 hW hWlt htl rL hc4m hc4L hc4i; omega), by have := hr.un; (clear hn hkd hbase hb9 rk1 rk2 hrl hcl hwl hksl hhl hwlen hpl hxl hil hivl hol hpl2 hW hWlt htl rL hc4m hc4L hc4i; omega), hr.gd⟩ hfrs hkd hfrm eL (fun vs e => by rw [rL.1] at e; cases e) (hno0 F22.kL) hit2 hio2 (hno0 (F22.nokey (.head _))) (offK_sub _ _ _) (by unfold offK; rw [if_pos (.inl rfl)]) (by unfold offK; rw [if_pos (.inr rfl)])
    (hKK _ _ hLT) (offK_at hfo (hnew hfn).1 (hnew hfn).2) rfl (by (clear hn hkd hbase hb9 rk1 rk2 hcl hwl hhl hwlen hpl hxl hil hivl hol hpl2 hW hWlt rL hc4m hc4L hc4i; lia)) (by (clear hn hkd hbase hb9 rk2 hcl hwl hksl hhl hwlen hpl hxl hil hivl hol hpl2 hW hWlt rL hc4m hc4L hc4i; lia)) (by (clear hn hkd hbase hb9 rk1 hcl hwl hksl hhl hwlen hpl hxl hil hivl hol hpl2 hW hWlt rL hc4m hc4L hc4i; lia)) (by (clear hn hkd hbase hb9 rk1 hrl hcl hwl hksl hhl hwlen hpl hxl hil hivl hol hpl2 hW htl rL hc4m hc4L hc4i; lia))
    (lam_keys hBb (fun b o e => hKK _ _ (F22.base _ _ e)) (hno0 hc4m.2) (offK_at hfo (hnew hfn).1 (hnew hfn).2) (fun hh hsub => hrec hh (hsub _ _ (offK_at hco (hnew hcn).1 (hnew hcn).2))) (offK_at hc4m.1 hc4L hc4i) hb9
      (fun j v hj => by
        obtain ⟨a, tk, y, e1, e2, e3⟩ := hT j v hj
        exact ⟨a, tk, y, e1, e2, hKK _ _ e3⟩) (hrv.mono hKK) rk3)
    (fun x hx => by
      obtain ⟨a, tk, y, e1, e3⟩ := hTv x hx
      exact ⟨a, _, e1, hKK _ _ e3, rfl⟩) hrise ?_
  intro LF cF h23 t23 ocF hLF hkeep hLc' hdat
  have F23 := F22.relocal hkeep eL hLc' hdat
  clear F22 hKK hc4m hc4L hc4i hnew hno0 hrec hfo hco hfn hcn hkeep hLc' hdat eL rL hit2 F21 F20
  obtain ⟨F24, hle⟩ := F23.full
  replace hLF := full_lst F23 no_tab hLF
  replace hT : ∀ (j : Nat) v, tv[j]? = some v → ∃ a tk x, v = .ref a ∧ rv[j]? = some x ∧ fullK _ _ _ h23 a = some (tup [.int (j : Nat) tk, x] 0) := fun j v hj => by
    obtain ⟨a, tk, x, e1, e2, e5⟩ := hT j v hj
    exact ⟨a, tk, x, e1, e2, hle _ _ e5⟩
  replace hLT := hle _ _ hLT
  replace hWv := hWv.mono hle
  replace hrv := hrv.mono hle
  replace hLR := hle _ _ hLR
  replace hLW := hle _ _ hLW
  replace hLI := hle _ _ hLI
  replace hK0 : ∀ b o, b ≠ 160 → h.get? b = some o → fullK _ _ _ h23 b = some o := fun b o hb e => hle _ _ (hK0 b o hb e)
  generalize fullK _ _ _ h23 = K7 at F24 hT hLT hLI hWv hrv hLR hLW hK0 hLF
  clear hle F23 hTv
  refine wpC_of (stn F24 (by walk_at "put") ?_)
  intro h25 t25 F25
  clear F24
  refine C_execs_cons (C_IfC (C_isTrue_Compare1 ?_))
  refine C_ofE rfl ?_
  refine ld ‹_› (by walk_at "mem") ?_
  have htvl : tv.length = rows.length := by exact htl.trans hrl
  have hgett : ∀ j, j < rows.length → tv[j]? = some (tv.getD j .none) := fun j hj => by rw [List.getD_eq_getElem?_getD, List.getElem?_eq_getElem (by (clear hn hkd hbase hb9 rk1 rk2 hcl hwl hksl hhl hwlen hpl hxl hil hivl hol hpl2 hW hWlt htvl; lia))]; rfl
  generalize hps : (#[] ++ #[rawInt _, rawInt _, Value.ref c'] : Array Value) = ps at F25
  refine C_map [vc "items" c3 (.ref LT)] [(c1, clo (some (.ref accW))), (c2, clo (some (.ref accH))), (c4, clo (some (.int (base : Nat) _)))] [] (fun i ws cv => ws = [(160, tabObj ps)] ∧ cv = ((idx.take W).take i).map fun j => tv.getD j .none) hA F25 (by rfl) (fun p hp => by
      obtain rfl := List.mem_singleton.mp hp; exact ⟨_, _, rfl⟩) (List.perm_middle (l₁ := [_, _]) (l₂ := [_])) (fun p hp => by
      obtain rfl := List.mem_singleton.mp hp; walk_at "mem") ?_
  refine C_ofE rfl ?_
  refine K_Sub ?_
  refine ld ‹_› (by walk_at "mem") ?_
  refine mk_slice ?_
  refine wpAny_evalPart_none ?_
  refine wpAny_evalPart_some ?_
  refine ld ‹_› (by walk_at "mem") ?_
  refine mk_in ‹_› ?_; intro _ _ _
  rename_i sl hsl Fsl
  refine gi_upto (b := W) ⟨_, Fsl.kept _ _ hLI, rfl, _, rfl⟩ Fsl (by (clear hn hkd hbase hb9 rk1 hrl hcl hwl hksl hhl hwlen hpl hxl hol hpl2 hW hWlt htl htvl; omega)) ?_
  intro S1 h26 F26
  have hle26 : KLe K7 (add K7 S1 (lst (iv.take W) 0)) := le_add (F26.nokey (.head _))
  refine (MapIn.mk S1 (iv.take W) 0 F26.freeze (add_self _ _ _) (by rw [List.length_take]; (clear hn hkd hbase hb9 rk1 hrl hcl hwl hksl hhl hwlen hpl hxl hol hpl2 hW hWlt htvl; omega)) ⟨rfl, rfl⟩ ?_ ?_)
  · intro i v cv c ic io acc cenv Kc h2 t2 ws2 hv' hI hcl hKc FJ
    obtain ⟨rfl, hI⟩ := hI
    obtain ⟨j, hji⟩ : ∃ j, (idx.take W)[i]? = some j := by
      have : i < (iv.take W).length := (List.getElem?_eq_some_iff.mp hv').1
      exact ⟨_, List.getElem?_eq_getElem (by rw [List.length_take] at this ⊢; (clear hn hkd hbase hb9 rk1 rk2 hrl hwl hksl hhl hwlen hpl hxl hil hol hpl2 hW hWlt htl htvl hcl; lia))⟩
    obtain ⟨tj, htj⟩ := (hiv.take W).get hji
    rw [hv'] at htj; cases htj
    have hjlt := hidxlt j (List.mem_of_mem_take (List.mem_of_getElem? hji))
    refine C_ofE rfl ?_
    refine K_Sub ?_
    refine ld ‹_› (by walk_at "mem") ?_
    refine ld ‹_› (by walk_at "mem") ?_
    refine gi_l j (FJ.kept _ _ (hKc _ _ (hle26 _ _ hLT))) rfl (hgett j hjlt) (by (clear hn hkd hbase hb9 rk1 hwl hksl hhl hwlen hpl hxl hil hivl hol hpl2 hW hWlt htvl hcl hjlt; lia)) ?_ (by rfl)
    refine (MapEnd.mk _ ⟨rfl, ?_⟩ FJ)
    rw [List.take_add_one (l := idx.take W), hji, hI]
    rw [List.map_append]
    rfl
  intro accF cFF fv ws2 h27 t27 hI hfl F27
  obtain ⟨rfl, rfl⟩ := hI
  refine ne_same (by have := hr.un; (clear hn hkd hbase hb9 rk1 rk2 hrl hcl hwl hksl hhl hwlen hpl hxl hil hivl hol hpl2 hW hWlt htl htvl hfl; omega)) (F27.kept _ _ (hle26 _ _ hLF)) (F27.isIn (.head _)) (by simp [List.length_take]; (clear hn hkd hbase hb9 rk1 rk2 hrl hcl hwl hksl hxl hil hol hpl2 hWlt htl htvl hfl; lia)) (fun j x y hx hy => ?_) ?_
  · have e1 : (idx.take W).take (iv.take W).length = idx.take W := List.take_of_length_le (by rw [List.length_take, List.length_take]; (clear hn hkd hbase hb9 rk1 rk2 hrl hcl hwl hksl hhl hwlen hpl hxl hil hol hpl2 hW hWlt htl htvl hfl; lia))
    rw [e1, hx] at hy; cases hy
    exact EqAt.same _
  have F28 := F27.drop (ws' := [(160, tabObj ps)]) (List.sublist_cons_self _ _)
  clear F27 F26 F25 Fsl
  replace hT : ∀ (j : Nat) v, tv[j]? = some v → ∃ a tk x, v = .ref a ∧ rv[j]? = some x ∧ add K7 S1 (lst (iv.take W) 0) a = some (tup [.int (j : Nat) tk, x] 0) := fun j v hj => by
    obtain ⟨a, tk, x, e1, e2, e5⟩ := hT j v hj
    exact ⟨a, tk, x, e1, e2, hle26 _ _ e5⟩
  replace hLT := hle26 _ _ hLT
  replace hWv := hWv.mono hle26
  replace hrv := hrv.mono hle26
  replace hLR := hle26 _ _ hLR
  replace hLW := hle26 _ _ hLW
  replace hK0 : ∀ b o, b ≠ 160 → h.get? b = some o → add K7 S1 (lst (iv.take W) 0) b = some o := fun b o hb e => hle26 _ _ (hK0 b o hb e)
  generalize add K7 S1 (lst (iv.take W) 0) = K8 at F28 hT hLT hWv hrv hLR hLW hK0
  clear hle26 hLF hLI
  -- falling
  obtain ⟨idx2, hidx2⟩ : ∃ idx, (List.range rows.length).foldl (insStep (fun a b => aheadGo (rows.getD b []) (rows.getD a []) ((rows.map (wordsN base)).getD b []) ((rows.map (wordsN base)).getD a []))) [] = idx := ⟨_, rfl⟩
  have hrise2 : Rise false (rows.map (giN base)) idx2 := by
    rw [← hidx2, ← hksl]
    refine rise_ok fun i j hi hj => ?_
    rw [hksl] at hi hj
    rw [hgetw i hi, hgetw j hj, hgetk i hi, hgetk j hj, ahead_eq]
    rfl
  obtain ⟨pm4, hFl⟩ := hB.fn (89, 11, 88, .ref 84) (List.mem_append_right _ (.tail _ (.head _)))
  obtain ⟨o89, h89, d89⟩ := hFl.obj
  clear hFl
  refine wpAny_truthy_bool ?_
  refine m_ff ?_
  refine C_execs_nil ?_
  refine C_execs_cons ?_
  refine C_Assign_Name ?_
  refine C_Call_NameK ?_
  refine ldg hBb F28 (by walk_at "mem") (by walk_at "mem") ?_
  refine C_refK d89 ?_
  refine K_more ?_
  refine K_BinOp ?_
  refine K_Call ?_
  refine ldb ‹_› ‹_› (by walk_at "mem") (by walk_at "mem") ?_
  refine K_callB ?_
  refine K_more ?_
  refine ld ‹_› (by walk_at "mem") ?_
  refine spliced_none ?_
  refine len_l (F28.kept _ _ hLR) (by exact Nat.lt_of_le_of_lt (Nat.le_trans (Nat.le_of_eq hrl) rk2) (by decide)) ?_
  intro tkl2 tl2
  refine ld ‹_› (by walk_at "mem") ?_
  refine b_sub ?_; intro _ _
  refine K_more ?_
  refine ld ‹_› (by walk_at "mem") ?_
  refine spliced_none ?_
  refine kws_cons (mk_lam (x := Str.ofString "plain") (c := c4) hM F28 hcode (by walk_at "mem") rfl rfl (by rw [← hps]; trivial) (by rw [← hps]; rfl) ?_)
  intro f2 c2' oc2 ctv2 pm5 h29 t29 hfn hcn hco hrec hfo F29
  refine kws_nil ⟨F29.sub0 _ _ h89, ?_⟩
  have hc4m := F29.own (c4, clo (some (.int (base : Nat) _))) (List.mem_append_left _ (.tail _ (.tail _ (.tail _ (.head _)))))
  have h0c4 : K₀ c4 = none := by
    cases q : K₀ c4 with
    | none => rfl
    | some o => have := F29.base _ _ q; rw [hc4m.2] at this; cases this
  refine nlargest_walk (K₁ := hk h29) (ks := rows.map (giN base)) (idx := idx2) hB F29.sub0 ⟨hr.hd, by have := hr.dep; (clear hn hkd hbase hb9 rk1 rk2 hrl hcl hwl hksl hhl hwlen hpl hxl hil hivl hol hpl2 hW hWlt htl htvl hfl hc4m; omega), by have := hr.un; (clear hn hkd hbase hb9 rk1 rk2 hrl hcl hwl hksl hhl hwlen hpl hxl hil hivl hol hpl2 hW hWlt htl htvl hfl hc4m; omega), hr.gd⟩ (fun _ _ e => e) (F29.kept _ _ hLT) hfo rfl (by (clear hn hkd hbase hb9 rk1 rk2 hcl hwl hhl hwlen hpl hxl hil hivl hol hpl2 hW hWlt htvl hfl hc4m; lia)) (by (clear hn hkd hbase hb9 rk2 hcl hwl hksl hhl hwlen hpl hxl hil hivl hol hpl2 hW hWlt htvl hfl hc4m; lia)) (by (clear hn hkd hbase hb9 rk1 hcl hwl hksl hhl hwlen hpl hxl hil hivl hol hpl2 hW hWlt htvl hfl hc4m; lia)) (by (clear hn hkd hbase hb9 rk1 hcl hwl hksl hhl hwlen hpl hxl hil hivl hol hpl2 hW htl htvl hfl hc4m; lia))
    (lam_keys hBb F29.sub0 h0c4 hfo (fun hh hsub => hrec hh (hsub _ _ hco)) hc4m.1 hb9
      (fun j v hj => by
        obtain ⟨a, tk, y, e1, e2, e3⟩ := hT j v hj
        exact ⟨a, tk, y, e1, e2, F29.kept _ _ e3⟩) (hrv.mono F29.kept) rk3)
    (fun x hx => by
      obtain ⟨j, hj⟩ := List.mem_iff_getElem?.mp hx
      obtain ⟨a, tk, y, e1, e2, e3⟩ := hT j x hj
      exact ⟨a, _, e1, F29.kept _ _ e3, rfl⟩) hrise2 ?_
  intro LG cG h30 t30 hLG hkp30
  have F30 := F29.keeps hkp30
  clear hc4m h0c4 hrec hfo hco hkp30 F29 F28
  obtain ⟨F31, hle⟩ := F30.full
  replace hLG := full_lst F30 no_tab hLG
  replace hLT := hle _ _ hLT
  replace hWv := hWv.mono hle
  replace hrv := hrv.mono hle
  replace hLR := hle _ _ hLR
  replace hLW := hle _ _ hLW
  replace hK0 : ∀ b o, b ≠ 160 → h.get? b = some o → fullK _ _ _ h30 b = some o := fun b o hb e => hle _ _ (hK0 b o hb e)
  generalize fullK _ _ _ h30 = K9 at F31 hLT hWv hrv hLR hLW hK0 hLG
  generalize hps2 : (ps ++ #[rawInt _, rawInt _, Value.ref c2'] : Array Value) = ps2 at F31
  clear hle F30
  refine wpC_of (stn F31 (by walk_at "put") ?_)
  intro h32 t32 F32
  clear F31
  refine law_end hB hr hA rk1 rk2 rk3 hrl hWlt htl hidx2 hrise2 hLT hWv hrv hLR hLW hK0 hLG F32 ?_
  intro h' t' k1 k2
  refine ⟨rfl, ?_, ⟨_, k2⟩, rfl, rfl⟩
  rw [← hss]
  exact k1
end Mine
end
end
theorem PySem.Challenge.cw_nb0257_01_holds : PySem.Challenge.rw_nb0257_01.Holds :=
  Mine.head2 Mine.law_walk
