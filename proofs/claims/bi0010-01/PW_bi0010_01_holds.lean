import PyProof.Rows.All
import OpenK.AllK
import Wide.All
import Wide.FinOn
import PySem.Challenge.RW_bi0010_01
set_option Elab.async false
set_option linter.all false
set_option rowWalk.seconds 0
section
-- Top
open PySem PySem.W PyProof.Rows
namespace Mine
set_option maxRecDepth 100000 in
set_option maxHeartbeats 8000000 in
open_top hd for PySem.Challenge.rw_bi0010_01
end Mine

end
section
-- Top2
open PySem PySem.W PyProof.Rows
namespace Mine
def hdAs : List Addr := [2, 3, 15, 17, 18, 20, 21, 22, 29, 31, 32, 34, 35, 36, 38, 39, 41, 42, 43, 44, 46, 47, 49, 50, 51, 53, 54, 56, 57, 58, 59, 60, 61, 62, 65, 67, 68, 70, 71, 72, 79, 80, 81, 82, 83, 84, 85, 86, 87, 88, 89, 90, 91, 93, 94, 96, 97, 98, 100, 101, 103, 104, 105, 107, 108, 110, 111, 112, 114, 115, 117, 118, 119, 121, 122, 124, 125, 126, 128, 129, 131, 132, 133, 135, 136, 138, 139, 140, 142, 143, 145, 146, 147, 149, 150, 152, 153, 154, 156, 157, 159, 160, 161, 163, 164, 166, 167, 168, 170, 171, 173, 174, 175, 176, 177, 180, 182, 183, 185, 186, 187, 189, 190, 192, 193]
local macro_rules | `(tactic| k_head) => `(tactic| o_head (kmHook Mine.hd.heap_39 [2, 3, 15, 17, 18, 20, 21, 22, 29, 31, 32, 34, 35, 36, 38, 39, 41, 42, 43, 44, 46, 47, 49, 50, 51, 53, 54, 56, 57, 58, 59, 60, 61, 62, 65, 67, 68, 70, 71, 72, 79, 80, 81, 82, 83, 84, 85, 86, 87, 88, 89, 90, 91, 93, 94, 96, 97, 98, 100, 101, 103, 104, 105, 107, 108, 110, 111, 112, 114, 115, 117, 118, 119, 121, 122, 124, 125, 126, 128, 129, 131, 132, 133, 135, 136, 138, 139, 140, 142, 143, 145, 146, 147, 149, 150, 152, 153, 154, 156, 157, 159, 160, 161, 163, 164, 166, 167, 168, 170, 171, 173, 174, 175, 176, 177, 180, 182, 183, 185, 186, 187, 189, 190, 192, 193] (fun _ => by kernel_rfl) [188, 45]))
set_option maxRecDepth 100000 in
set_option maxHeartbeats 8000000 in
open_top hd2 for PySem.Challenge.rw_bi0010_01
end Mine

end
section
-- M0
open PySem PySem.W PyProof.Rows PySem.Calls PySem.Spec
namespace Mine
set_option maxRecDepth 100000
/-- what the law's run leaves, the tables laid aside: enough for the row -/
structure Leaves (tabs : List (Addr × Addr)) (s₁ : Shared) (r : Result) (s' : Shared) : Prop where
  res : r = .ok (.ret (.bool true))
  keep : ∀ b o, (ghostOf s₁.heap tabs).get? b = some o → s'.heap.get? b = some o
  grown : GrownAll tabs s'.heap
  os : s'.os = s₁.os
  bare : AllBare s'.gens
theorem Leaves.good {cw : ClaimW} {cl : PySem.Str → Option Addr} {mean : ExcName → Option Value} {args : List WData} {tabs : List (Addr × Addr)} {s₁ s' : Shared} {r : Result} (hT : TabsAt tabs s₁.heap) (hr : ∀ a x, cw.raises a x = false) (hp : cw.post args (.bool true) args = true)
    (x : Leaves tabs s₁ r s') : GoodWG cw cl mean args s₁ r s' := by
  have keep : ∀ b o, b ∉ tabs.map (·.2) → s₁.heap.get? b = some o → s'.heap.get? b = some o := fun b o hb e => x.keep b o (ghost_ne e hb)
  have grown : ∀ b o, b ∈ tabs.map (·.2) → s₁.heap.get? b = some o → isCodeTable s₁.heap b ∧ o = tabObj #[] ∧ ∃ ps, s'.heap.get? b = some (tabObj ps) := fun b o hb e => by
    obtain ⟨q, hq, rfl⟩ := List.mem_map.mp hb
    have e2 := (hT q hq).2
    rw [e] at e2
    exact ⟨((hT q hq).1.tab (hT q hq).2).isCodeTable, Option.some.inj e2, x.grown.get q hq⟩
  refine ⟨.inl ⟨.bool true, .bool true, [], x.res, fun c => hr _ c, .bool true, hp, fun _ => ⟨List.nodup_nil, nofun⟩⟩, ⟨fun b o e => ?_, fun b o e => ?_⟩, x.os, x.bare⟩
  · by_cases hb : b ∈ tabs.map (·.2)
    · obtain ⟨ht, rfl, ps, hP⟩ := grown b o hb e
      exact .inr (.inl ⟨ht, rfl, #[], ps, rfl, by rw [Array.empty_append]; exact hP⟩)
    · exact .inl (keep b o hb e)
  · by_cases hb : b ∈ tabs.map (·.2)
    · obtain ⟨_, _, ps, hP⟩ := grown b o hb e
      exact ⟨_, hP⟩
    · exact ⟨o, keep b o hb e⟩
end Mine

end
section
-- A0
open PySem
namespace Mine

/-- an item of a name -/
inductive Atom where
  | s (x : PySem.Str)
  | i (n : Int)
  deriving DecidableEq

abbrev Name := List Atom

structure Row where
  asked : Name
  num : Int
  kind : Nat
  name : Name
  sieved : Bool

/-- what stands between two deeds: all generations of rows (the last is the current one), what was heard, the flag -/
structure St where
  gens : List (List Row)
  log : List PyData
  flag : Bool

def encAtom : Atom → PyData
  | .s x => .str x
  | .i n => .int n
def encName (n : Name) : PyData := .tuple (n.map encAtom)
def eAsked (r : Row) (d : PyData) : PyData := .tuple [.int r.num, .str (Str.ofString "asked"), d]
def eHeard (r : Row) (id : Name) (d : PyData) : PyData := .tuple [.int r.num, encName id, d]

def St.cur (σ : St) : Nat := σ.gens.length - 1
def St.say (σ : St) (es : List PyData) : St := { σ with log := σ.log ++ es }
def appLast {α : Type} (x : α) : List (List α) → List (List α)
  | [] => []
  | [l] => [l ++ [x]]
  | l :: r => l :: appLast x r
def St.add (σ : St) (r : Row) : St := { σ with gens := appLast r σ.gens }
def St.forget (σ : St) : St := { σ with gens := σ.gens ++ [[]] }
def Row.child (r : Row) : Row := ⟨r.name, r.num + 100, 0, r.name, false⟩

/-- does the row hear the name -/
def Row.hits (r : Row) (id : Name) : Bool := r.asked.take id.length = id
/-- the sieve's word when the log has n entries, its own among them -/
def passes (n : Nat) : Bool := n % 3 != 0

/-- what is said when the row is called at all -/
def Row.says (r : Row) (id : Name) (d : PyData) : List PyData := (if r.sieved then [eAsked r d] else []) ++ [eHeard r id d]

/-- one loop over the rows of generation g from place p on -/
inductive Loop : Name → PyData → Nat → Nat → St → St → Prop
  | done {id d g p σ rows} : σ.gens[g]? = some rows → rows.length ≤ p → Loop id d g p σ σ
  | skip {id d g p σ σ' rows r} : σ.gens[g]? = some rows → rows[p]? = some r → r.hits id = false → Loop id d g (p + 1) σ σ' → Loop id d g p σ σ'
  | refuse {id d g p σ σ' rows r} : σ.gens[g]? = some rows → rows[p]? = some r → r.hits id = true → r.sieved = true → passes (σ.log.length + 1) = false →
      Loop id d g (p + 1) (σ.say [eAsked r d]) σ' → Loop id d g p σ σ'
  | plain {id d g p σ σ' rows r} : σ.gens[g]? = some rows → rows[p]? = some r → r.hits id = true → (r.sieved = true → passes (σ.log.length + 1) = true) →
      (r.kind = 0 ∨ (r.kind = 2 ∧ σ.flag = true)) → Loop id d g (p + 1) (σ.say (r.says id d)) σ' → Loop id d g p σ σ'
  | adds {id d g p σ σ' rows r} : σ.gens[g]? = some rows → rows[p]? = some r → r.hits id = true → (r.sieved = true → passes (σ.log.length + 1) = true) →
      r.kind = 1 → Loop id d g (p + 1) ((σ.say (r.says id d)).add r.child) σ' → Loop id d g p σ σ'
  | nest {id d g p σ σ₁ σ' rows r} : σ.gens[g]? = some rows → rows[p]? = some r → r.hits id = true → (r.sieved = true → passes (σ.log.length + 1) = true) →
      r.kind = 2 → σ.flag = false → Loop r.name (.int r.num) σ.cur 0 { σ.say (r.says id d) with flag := true } σ₁ →
      Loop id d g (p + 1) { σ₁ with flag := false } σ' → Loop id d g p σ σ'
  | forgets {id d g p σ σ' rows r} : σ.gens[g]? = some rows → rows[p]? = some r → r.hits id = true → (r.sieved = true → passes (σ.log.length + 1) = true) →
      r.kind = 3 → Loop id d g (p + 1) ((σ.say (r.says id d)).forget) σ' → Loop id d g p σ σ'

theorem appLast_length {α : Type} (x : α) : ∀ l : List (List α), (appLast x l).length = l.length
  | [] => rfl
  | [_] => rfl
  | _ :: b :: r => by
    show (appLast x (b :: r)).length + 1 = _
    rw [appLast_length x (b :: r)]; rfl
theorem appLast_get {α : Type} (x : α) : ∀ (l : List (List α)) (g : Nat) (rs : List α), l[g]? = some rs →
    (appLast x l)[g]? = some (if g + 1 = l.length then rs ++ [x] else rs)
  | [], _, _, h => by simp at h
  | [a], 0, rs, h => by simp at h; subst h; simp [appLast]
  | [a], g + 1, rs, h => by simp at h
  | a :: b :: r, 0, rs, h => by simp at h; subst h; simp [appLast]
  | a :: b :: r, g + 1, rs, h => by
    have ih := appLast_get x (b :: r) g rs (by simpa using h)
    show (appLast x (b :: r))[g]? = _
    rw [ih]; simp
end Mine

end
section
-- A1
open PySem
namespace Mine

def nz (rs : List Row) : Nat := (rs.filter fun r => r.kind != 0).length
def St.T (σ : St) : Nat := (σ.gens.map List.length).sum
def St.Z (σ : St) : Nat := (σ.gens.map nz).sum
def Row.ok (r : Row) : Prop := r.kind ≤ 3 ∧ (r.asked ≠ [] ∧ r.asked.length ≤ 4) ∧ (r.name ≠ [] ∧ r.name.length ≤ 4)
def weight (rs : List Row) : Nat := (rs.map (·.asked.length)).sum
def St.Wf (σ : St) : Prop := σ.gens ≠ [] ∧ ∀ rs ∈ σ.gens, ∀ r ∈ rs, r.ok
def Ext (σ σ' : St) : Prop := ∀ (g : Nat) (rs : List Row), σ.gens[g]? = some rs → ∃ ext : List Row, σ'.gens[g]? = some (rs ++ ext) ∧ ∀ r ∈ ext, r.kind = 0
theorem Ext.refl (σ : St) : Ext σ σ := fun _ rs h => ⟨[], by rw [List.append_nil]; exact h, fun _ h => nomatch h⟩
theorem Ext.trans {a b c : St} (x : Ext a b) (y : Ext b c) : Ext a c := fun g rs h => by
  obtain ⟨e1, h1, k1⟩ := x g rs h
  obtain ⟨e2, h2, k2⟩ := y g _ h1
  exact ⟨e1 ++ e2, by rw [← List.append_assoc]; exact h2, fun r hr => (List.mem_append.mp hr).elim (k1 r) (k2 r)⟩
theorem Ext.of_gens {σ σ' : St} (h : σ'.gens = σ.gens) : Ext σ σ' := fun g rs e => ⟨[], by rw [List.append_nil, h]; exact e, fun _ h => nomatch h⟩
theorem nz_append (a b : List Row) : nz (a ++ b) = nz a + nz b := by simp [nz]
theorem nz_zero {a : List Row} (h : ∀ r ∈ a, r.kind = 0) : nz a = 0 := by
  unfold nz
  rw [List.length_eq_zero_iff, List.filter_eq_nil_iff]
  intro r hr; simp [h r hr]
theorem sum_appLast (r : Row) (h0 : r.kind = 0) : ∀ l : List (List Row), l ≠ [] → ((appLast r l).map List.length).sum = (l.map List.length).sum + 1 ∧ ((appLast r l).map nz).sum = (l.map nz).sum
  | [], h => absurd rfl h
  | [a], _ => by
    have : nz [r] = 0 := nz_zero fun x hx => by rw [List.mem_singleton.mp hx]; exact h0
    simp [appLast, nz_append, this]
  | a :: b :: rest, _ => by
    have ih := sum_appLast r h0 (b :: rest) (by simp)
    show ((a :: appLast r (b :: rest)).map List.length).sum = _ ∧ ((a :: appLast r (b :: rest)).map nz).sum = _
    simp only [List.map_cons, List.sum_cons] at ih ⊢
    omega
theorem mem_appLast {r : Row} : ∀ {l : List (List Row)} {rs : List Row}, rs ∈ appLast r l → rs ∈ l ∨ ∃ rs' ∈ l, rs = rs' ++ [r]
  | [], _, h => by simp [appLast] at h
  | [a], rs, h => by simp [appLast] at h; exact .inr ⟨a, by simp, h⟩
  | a :: b :: rest, rs, h => by
    rcases List.mem_cons.mp (show rs ∈ a :: appLast r (b :: rest) from h) with h | h
    · exact .inl (by rw [h]; simp)
    · rcases mem_appLast h with h | ⟨x, hx, e⟩
      · exact .inl (List.mem_cons_of_mem _ h)
      · exact .inr ⟨x, List.mem_cons_of_mem _ hx, e⟩
theorem Ext.add (σ : St) (r : Row) (h0 : r.kind = 0) : Ext σ (σ.add r) := fun g rs h => by
  have := appLast_get r σ.gens g rs h
  by_cases e : g + 1 = σ.gens.length
  · exact ⟨[r], by rw [if_pos e] at this; exact this, fun x hx => by rw [List.mem_singleton.mp hx]; exact h0⟩
  · exact ⟨[], by rw [if_neg e] at this; rw [List.append_nil]; exact this, fun _ h => nomatch h⟩
theorem Ext.forget (σ : St) : Ext σ σ.forget := fun g rs h => by
  refine ⟨[], ?_, fun _ h => nomatch h⟩
  rw [List.append_nil]
  show (σ.gens ++ [[]])[g]? = _
  rw [List.getElem?_append_left (List.getElem?_eq_some_iff.mp h).1]; exact h
theorem nz_le_sum : ∀ {l : List (List Row)} {rs : List Row}, rs ∈ l → nz rs ≤ (l.map nz).sum ∧ rs.length ≤ (l.map List.length).sum
  | a :: l, rs, h => by
    simp only [List.map_cons, List.sum_cons]
    rcases List.mem_cons.mp h with rfl | h
    · omega
    · have := nz_le_sum h; omega

/-- what one loop may add -/
structure Grown (σ σ' : St) (X Y : Nat) : Prop where
  ext : Ext σ σ'
  flag : σ'.flag = σ.flag
  log : σ'.log.length ≤ σ.log.length + X
  T : σ'.T ≤ σ.T + Y
  len : σ'.gens.length ≤ σ.gens.length + Y
  len' : σ.gens.length ≤ σ'.gens.length
  Z : σ'.Z = σ.Z
  wf : σ.Wf → σ'.Wf
theorem Grown.trans {a b c : St} {X Y X' Y' : Nat} (x : Grown a b X Y) (y : Grown b c X' Y') : Grown a c (X + X') (Y + Y') :=
  ⟨x.ext.trans y.ext, y.flag.trans x.flag, by have := x.log; have := y.log; omega, by have := x.T; have := y.T; omega, by have := x.len; have := y.len; omega, by have := x.len'; have := y.len'; omega, y.Z.trans x.Z, fun h => y.wf (x.wf h)⟩
theorem Grown.mono {a b : St} {X Y X' Y' : Nat} (x : Grown a b X Y) (hX : X ≤ X') (hY : Y ≤ Y') : Grown a b X' Y' :=
  ⟨x.ext, x.flag, by have := x.log; omega, by have := x.T; omega, by have := x.len; omega, x.len', x.Z, x.wf⟩
theorem Grown.refl (σ : St) : Grown σ σ 0 0 := ⟨.refl σ, rfl, Nat.le_refl _, Nat.le_refl _, Nat.le_refl _, Nat.le_refl _, rfl, id⟩
theorem Grown.say (σ : St) (es : List PyData) : Grown σ (σ.say es) es.length 0 :=
  ⟨.of_gens rfl, rfl, by simp [St.say], Nat.le_refl _, Nat.le_refl _, Nat.le_refl _, rfl, id⟩
theorem Grown.add (σ : St) (r : Row) (h0 : r.kind = 0) (hok : r.ok) (hne : σ.gens ≠ []) : Grown σ (σ.add r) 0 1 := by
  have s := sum_appLast r h0 σ.gens hne
  refine ⟨.add σ r h0, rfl, Nat.le_refl _, Nat.le_of_eq s.1, ?_, ?_, s.2, fun h => ⟨?_, ?_⟩⟩
  · show (appLast r σ.gens).length ≤ _; rw [appLast_length]; omega
  · show _ ≤ (appLast r σ.gens).length; rw [appLast_length]; exact Nat.le_refl _
  · intro e
    have := congrArg List.length (show appLast r σ.gens = [] from e)
    rw [appLast_length] at this
    exact hne (List.length_eq_zero_iff.mp this)
  · intro rs hrs x hx
    rcases mem_appLast (show rs ∈ appLast r σ.gens from hrs) with h' | ⟨rs', h', rfl⟩
    · exact h.2 rs h' x hx
    · rcases List.mem_append.mp hx with hx | hx
      · exact h.2 rs' h' x hx
      · rw [List.mem_singleton.mp hx]; exact hok
theorem Grown.forget (σ : St) : Grown σ σ.forget 0 1 := by
  refine ⟨.forget σ, rfl, Nat.le_refl _, ?_, ?_, ?_, ?_, fun h => ⟨?_, ?_⟩⟩
  · simp [St.forget, St.T]
  · simp [St.forget]
  · simp [St.forget]
  · simp [St.forget, St.Z, nz]
  · simp [St.forget]
  · intro rs hrs x hx
    rcases List.mem_append.mp (show rs ∈ σ.gens ++ [[]] from hrs) with h' | h'
    · exact h.2 rs h' x hx
    · rw [List.mem_singleton.mp h'] at hx; cases hx
theorem Grown.setFlag {σ σ' : St} {X Y : Nat} (g : Grown { σ with flag := true } σ' X Y) (hf : σ.flag = false) : Grown σ { σ' with flag := false } X Y :=
  ⟨fun g' rs e => g.ext g' rs e, hf.symm, g.log, g.T, g.len, g.len', g.Z, fun h => g.wf h⟩

theorem says_len (r : Row) (id : Name) (d : PyData) : (r.says id d).length ≤ 2 := by
  unfold Row.says; split <;> simp
theorem child_ok {r : Row} (h : r.ok) : r.child.ok := ⟨by simp [Row.child], h.2.2, h.2.2⟩


theorem sum_ext : ∀ (l l' : List (List Row)), (∀ (g : Nat) (rs : List Row), l[g]? = some rs → ∃ ext : List Row, l'[g]? = some (rs ++ ext)) →
    (l.map List.length).sum ≤ (l'.map List.length).sum ∧ ∀ (g : Nat) (rs ext : List Row), l[g]? = some rs → l'[g]? = some (rs ++ ext) → (l.map List.length).sum + ext.length ≤ (l'.map List.length).sum
  | [], l', _ => ⟨by simp, fun g rs ext h => by simp at h⟩
  | a :: l, [], h => by obtain ⟨e, he⟩ := h 0 a rfl; simp at he
  | a :: l, b :: l', h => by
    have ih := sum_ext l l' fun g rs e => by simpa using h (g + 1) rs (by simpa using e)
    obtain ⟨e0, he0⟩ := h 0 a rfl
    simp only [List.getElem?_cons_zero, Option.some.injEq] at he0
    simp only [List.map_cons, List.sum_cons]
    refine ⟨by rw [he0, List.length_append]; omega, fun g rs ext h1 h2 => ?_⟩
    cases g with
    | zero =>
      simp only [List.getElem?_cons_zero, Option.some.injEq] at h1 h2
      subst h1
      rw [h2, List.length_append]; omega
    | succ g =>
      have := ih.2 g rs ext (by simpa using h1) (by simpa using h2)
      rw [he0, List.length_append]; omega
theorem Grown.ext_le {σ σ' : St} {X Y g : Nat} {rs ext : List Row} (G : Grown σ σ' X Y) (h : σ.gens[g]? = some rs) (h' : σ'.gens[g]? = some (rs ++ ext)) : ext.length ≤ Y := by
  have := (sum_ext σ.gens σ'.gens fun g rs e => let ⟨x, hx, _⟩ := G.ext g rs e; ⟨x, hx⟩).2 g rs ext h h'
  have := G.T
  unfold St.T at this
  omega

/-- every loop ends, and what it adds is bounded -/
theorem loop_ends (X Y M Z : Nat) (noNest : Bool) (hn : noNest = false → ∀ (σ : St) nm d', σ.Wf → σ.flag = true → σ.T ≤ M → σ.Z = Z → ∃ σ', Loop nm d' σ.cur 0 σ σ' ∧ Grown σ σ' X Y) :
    ∀ (f : Nat) (id : Name) (d : PyData) (g p : Nat) (σ : St) (rows : List Row), σ.Wf → σ.flag = noNest → σ.gens[g]? = some rows →
      (rows.drop p).length + nz (rows.drop p) * (Y + 1) ≤ f → σ.Z = Z → σ.T + nz (rows.drop p) * (Y + 1) ≤ M →
      ∃ σ', Loop id d g p σ σ' ∧ Grown σ σ' (2 * f + nz (rows.drop p) * X) (nz (rows.drop p) * (Y + 1)) := by
  intro f
  induction f with
  | zero =>
    intro id d g p σ rows hw hnn hg hf hz hM
    have hp : rows.length ≤ p := by
      have h0 : (rows.drop p).length ≤ 0 := Nat.le_trans (Nat.le_add_right _ _) hf
      rw [List.length_drop] at h0; omega
    exact ⟨σ, .done hg hp, (Grown.refl σ).mono (Nat.zero_le _) (Nat.zero_le _)⟩
  | succ f ih =>
    intro id d g p σ rows hw hnn hg hf hz hM
    rcases Nat.lt_or_ge p rows.length with hp | hp
    · have hd : rows.drop p = rows[p] :: rows.drop (p + 1) := List.drop_eq_getElem_cons hp
      have hr : rows[p]? = some rows[p] := List.getElem?_eq_getElem hp
      have hmr : rows[p] ∈ rows := List.getElem_mem _
      generalize rows[p] = r at hd hr hmr
      have hrok : r.ok := hw.2 rows (List.mem_of_getElem? hg) r hmr
      rw [hd] at hf hM ⊢
      have hl : (r :: rows.drop (p + 1)).length = (rows.drop (p + 1)).length + 1 := rfl
      generalize hrest : rows.drop (p + 1) = rest at hf hM hl ⊢
      obtain ⟨b, hb, hb0, hb1⟩ : ∃ b, nz (r :: rest) = b + nz rest ∧ (r.kind = 0 → b = 0) ∧ (r.kind ≠ 0 → b = 1) := by
        unfold nz
        by_cases h0 : r.kind = 0
        · exact ⟨0, by simp [h0], fun _ => rfl, fun h => absurd h0 h⟩
        · exact ⟨1, by simp [h0]; omega, fun h => absurd h h0, fun _ => rfl⟩
      rw [hb, hl] at hf
      rw [hb] at hM ⊢
      have go : ∀ (σ₂ : St) (X₂ k : Nat), Grown σ σ₂ (2 + X₂) k → k ≤ b * (Y + 1) → X₂ ≤ b * X →
          ∃ σ', Loop id d g (p + 1) σ₂ σ' ∧ Grown σ σ' (2 * (f + 1) + (b + nz rest) * X) ((b + nz rest) * (Y + 1)) := by
        intro σ₂ X₂ k G hk hX
        obtain ⟨ext, hg₂, he⟩ := G.ext g rows hg
        have hlx := G.ext_le hg hg₂
        have hdrop : (rows ++ ext).drop (p + 1) = rest ++ ext := by rw [List.drop_append_of_le_length (by omega), hrest]
        have hnz₂ : nz ((rows ++ ext).drop (p + 1)) = nz rest := by rw [hdrop, nz_append, nz_zero he]; rfl
        rw [Nat.add_mul] at hf hM ⊢
        rw [Nat.add_mul]
        obtain ⟨σ', L, G'⟩ := ih id d g (p + 1) σ₂ (rows ++ ext) (G.wf hw) (G.flag.trans hnn) hg₂
          (by rw [hnz₂, hdrop, List.length_append]; omega) (G.Z.trans hz) (by rw [hnz₂]; have := G.T; omega)
        refine ⟨σ', L, (G.trans G').mono ?_ ?_⟩
        · rw [hnz₂]; omega
        · rw [hnz₂]; omega
      by_cases hh : r.hits id = true
      · by_cases hs : r.sieved = true ∧ passes (σ.log.length + 1) = false
        · obtain ⟨σ', L, G⟩ := go (σ.say [eAsked r d]) 0 0 ((Grown.say σ _).mono (by simp) (Nat.le_refl _)) (Nat.zero_le _) (Nat.zero_le _)
          exact ⟨σ', .refuse hg hr hh hs.1 hs.2 L, G⟩
        · have hp' : r.sieved = true → passes (σ.log.length + 1) = true := fun h => by
            cases q : passes (σ.log.length + 1) with
            | true => rfl
            | false => exact absurd ⟨h, q⟩ hs
          have G1 : Grown σ (σ.say (r.says id d)) 2 0 := (Grown.say σ _).mono (says_len r id d) (Nat.le_refl _)
          have hk3 := hrok.1
          rcases (by omega : r.kind = 0 ∨ r.kind = 1 ∨ r.kind = 2 ∨ r.kind = 3) with h0 | h0 | h0 | h0
          · obtain ⟨σ', L, G⟩ := go _ 0 0 G1 (Nat.zero_le _) (Nat.zero_le _)
            exact ⟨σ', .plain hg hr hh hp' (.inl h0) L, G⟩
          · have b1 := hb1 (by omega)
            subst b1
            obtain ⟨σ', L, G⟩ := go _ 0 1 (G1.trans (Grown.add (σ.say (r.says id d)) r.child rfl (child_ok hrok) hw.1)) (by omega) (Nat.zero_le _)
            exact ⟨σ', .adds hg hr hh hp' h0 L, G⟩
          · have b1 := hb1 (by omega)
            subst b1
            cases hfl : σ.flag with
            | true =>
              obtain ⟨σ', L, G⟩ := go _ 0 0 G1 (Nat.zero_le _) (Nat.zero_le _)
              exact ⟨σ', .plain hg hr hh hp' (.inr ⟨h0, hfl⟩) L, G⟩
            | false =>
              obtain ⟨σ₁, L₁, G₁⟩ := hn (hnn.symm.trans hfl) { σ.say (r.says id d) with flag := true } r.name (.int r.num) (show St.Wf σ from hw) rfl (show σ.T ≤ M by omega) hz
              have G₁' : Grown (σ.say (r.says id d)) { σ₁ with flag := false } X Y := G₁.setFlag hfl
              obtain ⟨σ', L, G⟩ := go _ X Y (by simpa using G1.trans G₁') (by omega) (by omega)
              exact ⟨σ', .nest hg hr hh hp' h0 hfl L₁ L, G⟩
          · have b1 := hb1 (by omega)
            subst b1
            obtain ⟨σ', L, G⟩ := go _ 0 1 (G1.trans (Grown.forget (σ.say (r.says id d)))) (by omega) (Nat.zero_le _)
            exact ⟨σ', .forgets hg hr hh hp' h0 L, G⟩
      · obtain ⟨σ', L, G⟩ := go σ 0 0 ((Grown.refl σ).mono (by omega) (Nat.le_refl _)) (Nat.zero_le _) (Nat.zero_le _)
        exact ⟨σ', .skip hg hr (by simpa using hh) L, G⟩
    · exact ⟨σ, .done hg hp, (Grown.refl σ).mono (Nat.zero_le _) (Nat.zero_le _)⟩

theorem cur_get {σ : St} (hw : σ.Wf) : ∃ rows, σ.gens[σ.cur]? = some rows := by
  have : σ.cur < σ.gens.length := by
    unfold St.cur
    have := List.length_pos_iff.mpr hw.1
    omega
  exact ⟨_, List.getElem?_eq_getElem this⟩

/-- an emission within an answer -/
theorem inner_ends {M Z : Nat} (σ : St) (nm : Name) (d : PyData) (hw : σ.Wf) (hf : σ.flag = true) (hT : σ.T ≤ M) (hZ : σ.Z = Z) :
    ∃ σ', Loop nm d σ.cur 0 σ σ' ∧ Grown σ σ' (2 * (M + Z)) Z := by
  obtain ⟨rows, hg⟩ := cur_get hw
  have hl := nz_le_sum (List.mem_of_getElem? hg)
  have e1 : nz rows ≤ Z := hZ ▸ hl.1
  have e2 : rows.length ≤ M := Nat.le_trans hl.2 hT
  obtain ⟨σ', L, G⟩ := loop_ends 0 0 (σ.T + nz rows) Z true (fun h => nomatch h) (rows.length + nz rows) nm d σ.cur 0 σ rows hw hf hg (by simp) hZ (by simp)
  refine ⟨σ', L, G.mono ?_ ?_⟩ <;> simp only [List.drop_zero, Nat.mul_zero, Nat.zero_add, Nat.mul_one, Nat.add_zero] <;> omega

/-- an emission of the script's own -/
theorem outer_ends {M Z : Nat} (σ : St) (nm : Name) (d : PyData) (hw : σ.Wf) (hf : σ.flag = false) (hZ : σ.Z = Z) (hM : σ.T + Z * (Z + 1) ≤ M) :
    ∃ σ', Loop nm d σ.cur 0 σ σ' ∧ Grown σ σ' (2 * M + Z * (2 * (M + Z))) (Z * (Z + 1)) := by
  obtain ⟨rows, hg⟩ := cur_get hw
  have hl := nz_le_sum (List.mem_of_getElem? hg)
  have e1 : nz rows ≤ Z := hZ ▸ hl.1
  have e2 : rows.length ≤ σ.T := hl.2
  have e3 : nz rows * (Z + 1) ≤ Z * (Z + 1) := Nat.mul_le_mul_right _ e1
  have e4 : nz rows * (2 * (M + Z)) ≤ Z * (2 * (M + Z)) := Nat.mul_le_mul_right _ e1
  obtain ⟨σ', L, G⟩ := loop_ends (2 * (M + Z)) Z M Z false (fun _ σ nm d' h1 h2 h3 h4 => inner_ends σ nm d' h1 h2 h3 h4) (rows.length + nz rows * (Z + 1)) nm d σ.cur 0 σ rows hw hf hg (by simp) hZ (by simp; omega)
  refine ⟨σ', L, G.mono ?_ ?_⟩ <;> simp only [List.drop_zero] <;> omega
/-- where no row hears the name nothing happens -/
theorem loop_none {id : Name} {d : PyData} {g p : Nat} {σ σ' : St} (L : Loop id d g p σ σ') : ∀ rows, σ.gens[g]? = some rows → (∀ r ∈ rows, r.hits id = false) → σ' = σ := by
  have no : ∀ {rows rows' : List Row} {p : Nat} {r : Row}, σ.gens[g]? = some rows → σ.gens[g]? = some rows' → rows[p]? = some r → r.hits id = true → (∀ r ∈ rows', r.hits id = false) → False := by
    intro rows rows' p r h1 h2 h3 h4 h5
    rw [h1] at h2; cases h2
    rw [h5 r (List.mem_of_getElem? h3)] at h4; cases h4
  induction L with
  | done => intros; rfl
  | skip hg hr hh L ih => intro rows h1 h2; exact ih (fun a b c d e => no a b c d e) rows h1 h2
  | refuse hg hr hh => intro rows h1 h2; exact (no hg h1 hr hh h2).elim
  | plain hg hr hh => intro rows h1 h2; exact (no hg h1 hr hh h2).elim
  | adds hg hr hh => intro rows h1 h2; exact (no hg h1 hr hh h2).elim
  | nest hg hr hh => intro rows h1 h2; exact (no hg h1 hr hh h2).elim
  | forgets hg hr hh => intro rows h1 h2; exact (no hg h1 hr hh h2).elim
end Mine

end
section
-- A2
open PySem PySem.W PyProof.Rows
namespace Mine
set_option maxRecDepth 100000

def atomIs : Atom → Value → Bool
  | .s x, v => Value.isStrOf x v
  | .i n, v => Value.isInt n v
theorem atomIs_s {x : PySem.Str} {v : Value} (h : atomIs (.s x) v = true) : ∃ t, v = .str x t := Value.isStrOf_shape h
theorem atomIs_i {n : Int} {v : Value} (h : atomIs (.i n) v = true) : ∃ t, v = .int n t := Value.isInt_shape h
section
variable {prog : Program} {w : World} {A : Around} {E : Value → Shared → Prop} {s : Shared}
theorem eqBool_str_int {a : PySem.Str} {b : Int} {t u : Tok} {Q : Bool → Shared → Prop} (h : Q false s) : wpAny (model prog w) A (eqBool (.str a t) (.int b u)) Q E s := by
  unfold eqBool
  refine wpAny_holding ?_
  rw [if_neg (by intro e; exact nomatch (eq_of_beq e))]
  refine wpAny_bind (EqMixed.eq_str_int (wpAny_truthy_bool h))
theorem eqBool_int_str {a : PySem.Str} {b : Int} {t u : Tok} {Q : Bool → Shared → Prop} (h : Q false s) : wpAny (model prog w) A (eqBool (.int b u) (.str a t)) Q E s := by
  unfold eqBool
  refine wpAny_holding ?_
  rw [if_neg (by intro e; exact nomatch (eq_of_beq e))]
  refine wpAny_bind (EqMixed.eq_int_str (wpAny_truthy_bool h))
end
theorem bool_of_dec {Q : Bool → Shared → Prop} {n m : Int} {s : Shared} (h : Q (decide (Atom.i n = Atom.i m)) s) : Q (n == m) s := by
  have e : (n == m) = decide (Atom.i n = Atom.i m) := by
    by_cases q : n = m
    · subst q; simp
    · simp [q]
  rw [e]; exact h
def atomKind (prog : Program) (w : World) : KeyKind prog w Atom where
  is := atomIs
  hash := fun a => match a with | .s x => hashStr w x | .i n => hashInt n
  inj := fun v a b ha hb => by
    cases a with
    | s x =>
      obtain ⟨t, rfl⟩ := atomIs_s ha
      cases b with
      | s y => obtain ⟨u, e⟩ := atomIs_s hb; injection e with e; rw [e]
      | i m => obtain ⟨u, e⟩ := atomIs_i hb; exact nomatch e
    | i n =>
      obtain ⟨t, rfl⟩ := atomIs_i ha
      cases b with
      | s y => obtain ⟨u, e⟩ := atomIs_s hb; exact nomatch e
      | i m => obtain ⟨u, e⟩ := atomIs_i hb; injection e with e; rw [e]
  byValue := fun k v h => by
    cases k with
    | s x => obtain ⟨t, rfl⟩ := atomIs_s h; rfl
    | i n => obtain ⟨t, rfl⟩ := atomIs_i h; rfl
  pyHash := fun {A E s k v Q} hv h => by
    cases k with
    | s x => obtain ⟨t, rfl⟩ := atomIs_s hv; exact wpAny_pyHash_str h
    | i n => obtain ⟨t, rfl⟩ := atomIs_i hv; exact wpAny_pyHash_int h
  eqBool := fun {A E s a b u v Q} hu hv h => by
    cases a with
    | s x =>
      obtain ⟨t, rfl⟩ := atomIs_s hu
      cases b with
      | s y => obtain ⟨u, rfl⟩ := atomIs_s hv; exact wpAny_eqBool_str (by simpa using h)
      | i m => obtain ⟨u, rfl⟩ := atomIs_i hv; exact eqBool_str_int (by simpa using h)
    | i n =>
      obtain ⟨t, rfl⟩ := atomIs_i hu
      cases b with
      | s y => obtain ⟨u, rfl⟩ := atomIs_s hv; exact eqBool_int_str (by simpa using h)
      | i m => obtain ⟨u, rfl⟩ := atomIs_i hv; exact wpAny_eqBool_int (bool_of_dec h)
  «strs» := fun k x t v h => by
    cases k with
    | s y =>
      obtain ⟨u, hu⟩ := atomIs_s h
      injection hu with hx
      subst hx
      cases v <;> rfl
    | i n => obtain ⟨u, e⟩ := atomIs_i h; exact nomatch e
abbrev nameKind (prog : Program) (w : World) : HeapKind prog w Name := tupleKind (atomKind prog w)
end Mine

end
section
-- A3
open PySem PySem.W PyProof.Rows
namespace Mine
set_option maxRecDepth 100000
section
variable {prog : Program} {w : World} {K : Type} [DecidableEq K] {knd : HeapKind prog w K} {A : Around} {E : Value → Shared → Prop} {s : Shared}

theorem dictSetDefault_H {d a : Addr} {xs : List (K × Addr × Value)} {k : K} {dflt : Value} {Q : Value → Shared → Prop} (hu : knd.room A) (hkey : knd.is s.heap k a) (hm : s.heap.DictOfH knd d xs) (hsz : xs.length ≤ sizeLine)
    (h1 : ∀ p, atKey xs k = some p → Q p.2 { s with toks := s.toks + knd.draws k })
    (h2 : atKey xs k = none → ∀ h', h'.DictOfH knd d (xs ++ [(k, a, dflt)]) → Heap.SameBut d s.heap h' → Q dflt { s with heap := h', toks := s.toks + knd.draws k }) :
    wpAny (model prog w) A (dictSetDefault d (.ref a) dflt) Q E s := by
  obtain ⟨o, es, ep, ho, hc, hd, he, his, hn⟩ := hm
  unfold dictSetDefault
  try with_reducible refine wpAny_holding ?_
  refine wpAny_bind (knd.pyHash hu hkey ?_)
  refine wpAny_bind (wpAny_dictFind_heap (s := { s with toks := s.toks + knd.draws k }) hu hkey ho hd he his hn ?_ ?_)
  · intro hno
    have hnot : k ∉ xs.map (·.1) := not_mem_keys_of_get hno
    have hnone := atKey_none_of_get hno
    refine wpAny_bind (wpAny_rule (wpAny_bind (wpAny_updateDictKeys (hz := by have e := size_of_entries he; omega) (s := { s with toks := s.toks + knd.draws k }) ho hd (wpAny_pure (h2 hnone _ ⟨_, _, ep + 1, Heap.get?_update_self _ ho (Obj.isFreed_of_dict (Obj.data_mapDictKeys hd _)),
      hc.mapDictKeys _, Obj.data_mapDictKeys hd _, ?_, ?_, ?_⟩ (Heap.SameBut.update ..))))))
    · simp [he, entryOfKey]
    · intro x hx
      rcases List.mem_append.mp hx with hx | hx
      · exact knd.keeps (his x hx) ho hd (Heap.SameBut.update ..)
      · simp only [List.mem_singleton] at hx
        subst hx
        exact knd.keeps hkey ho hd (Heap.SameBut.update ..)
    · rw [List.map_append, List.nodup_append]
      refine ⟨hn, by simp, ?_⟩
      intro x hx y hy
      simp only [List.map_cons, List.map_nil, List.mem_singleton] at hy
      subst hy
      exact fun e => hnot (e ▸ hx)
  · intro j p hj
    have hp := atKey_of_get hn hj
    refine wpAny_bind (wpAny_dictEntries (s := { s with toks := s.toks + knd.draws k }) ho hd ?_)
    rw [entry_at he j, hj]
    exact wpAny_bind (wpAny_rule (wpAny_pure (h1 p hp)))

theorem meetsH_setdefault (knd : HeapKind prog w K) (d a : Addr) (hd : (d == sysModules) = false) (dflt : Value) :
    MeetsIn prog w (Builtin.«dict.setdefault» ⟨[.ref d, .ref a, dflt], []⟩) (fun A R s => knd.room A.in1 ∧ ∃ k xs, knd.is s.heap k a ∧ s.heap.DictOfH knd d xs ∧ xs.length ≤ sizeLine ∧
      (∀ p, atKey xs k = some p → R (.ok (.ret p.2)) { s with toks := s.toks + knd.draws k }) ∧
      (atKey xs k = none → ∀ h', h'.DictOfH knd d (xs ++ [(k, a, dflt)]) → Heap.SameBut d s.heap h' → R (.ok (.ret dflt)) { s with heap := h', toks := s.toks + knd.draws k })) :=
  .of_wp fun A R s ⟨hu, k, xs, hkey, hm, hz, h1, h2⟩ => by
    unfold Builtin.«dict.setdefault»
    refine wpAny_bind ?_
    unfold Builtin.Dict.keyAndDefault
    refine wpAny_bind (wpAny_notOrdered_dict hm.typeIs ?_)
    show wpAny _ _ (pure (d, Value.ref a, some dflt)) _ _ s
    refine wpAny_pure ?_
    show wpAny _ _ (if (d == sysModules) = true then _ else (dictSetDefault d (.ref a) dflt >>= _)) _ _ s
    rw [if_neg (by rw [hd]; exact Bool.false_ne_true)]
    exact wpAny_bind (dictSetDefault_H hu hkey hm hz (fun p hp => wpAny_pure ⟨p.2, rfl, h1 p hp⟩) fun hn h' hm' hs' => wpAny_pure ⟨dflt, rfl, h2 hn h' hm' hs'⟩)
theorem call_setdefault_H {d a : Addr} {xs : List (K × Addr × Value)} {k : K} {dflt : Value} {Q : Value → Shared → Prop} (hu : knd.room A.in1) (lo : (d == sysModules) = false) (hkey : knd.is s.heap k a) (hm : s.heap.DictOfH knd d xs) (hsz : xs.length ≤ sizeLine)
    (h1 : ∀ p, atKey xs k = some p → Q p.2 { s with toks := s.toks + knd.draws k })
    (h2 : atKey xs k = none → ∀ h', h'.DictOfH knd d (xs ++ [(k, a, dflt)]) → Heap.SameBut d s.heap h' → Q dflt { s with heap := h', toks := s.toks + knd.draws k }) :
    wpAny (model prog w) A (call (.builtin "dict.setdefault") [.ref d, .ref a, dflt]) Q E s :=
  call_meetsIn PySem.F.slot_dict_setdefault hm.typeIs PySem.F.entry_dict_setdefault (PySem.F.args_dict_setdefault_3 _ _ _) (meetsH_setdefault knd d a lo dflt) ⟨hu, k, xs, hkey, hm, hsz, h1, h2⟩
theorem call_get2_H {d a : Addr} {xs : List (K × Addr × Value)} {k : K} {dflt : Value} {Q : Value → Shared → Prop} (hu : knd.room A.in1) (lo : (d == sysModules) = false) (hkey : knd.is s.heap k a) (hm : s.heap.DictOfH knd d xs)
    (h : Q (((atKey xs k).map (·.2)).getD dflt) { s with toks := s.toks + knd.draws k }) :
    wpAny (model prog w) A (call (.builtin "dict.get") [.ref d, .ref a, dflt]) Q E s :=
  call_meetsIn PySem.F.slot_dict_get hm.typeIs PySem.F.entry_dict_get (PySem.F.args_dict_get_3 _ _ _) (meetsH_dict_get_default knd d a lo dflt) ⟨hu, k, xs, hkey, hm, h⟩
end
end Mine

end
section
-- W0
open PySem PySem.W PyProof.Rows PySem.Calls PySem.Spec
namespace Mine
set_option maxRecDepth 100000
abbrev pw : Program := PySem.Challenge.pw_bi0010_01
abbrev PG : Program := PySem.Challenge.rw_bi0010_01.row.prog
def dBody : Stmt → List Stmt | .FunctionDef _ _ b .. => b | _ => []
def dParams : Stmt → Arguments | .FunctionDef _ p .. => p | _ => default
def dScope : Stmt → Scope | .FunctionDef _ _ _ _ _ _ sc .. => sc | _ => default
def dPos : Stmt → Pos | .FunctionDef _ _ _ _ _ _ _ _ _ p => p | _ => default
def dAt (l : List Stmt) (i : Nat) : Stmt := (l[i]?).getD (.Pass default)
def lawD : Stmt := dAt pw.main.body 8
def sieveD : Stmt := dAt (dBody lawD) 4
def letsD : Stmt := dAt (dBody sieveD) 0
def listenerD : Stmt := dAt (dBody lawD) 5
def hearsD : Stmt := dAt (dBody listenerD) 0
def sendD : Stmt := dAt (dBody lawD) 6

abbrev tupO (items : Array Value) (n : Nat) : Obj := { cls := .type "tuple", data := .seq items n }

/-- the addresses that stand fast -/
structure Cx where
  bus : Addr
  dx : Addr
  heard : Addr
  due : Addr
  plain : Addr
  cBus : Addr
  cHeard : Addr
  cDue : Addr
  cPlain : Addr
  cListener : Addr
  cSend : Addr
  fL : Addr
  fS : Addr
  fSend : Addr
  tL : Addr
  tS : Addr

inductive Tag where
  | heard | due | plain | dx | tabL | tabS | tabR
  | rows (g : Nat)
  | dict (g : Nat)
  | lst (g : Nat) (key : Name)
  | tmp (a : Nat)

/-- a tag that one address alone bears -/
def Tag.one : Tag → Prop
  | .tmp _ => False
  | _ => True
abbrev Tags := Addr → Option Tag

/-- what stands fast in the ledger -/
def Lg (news : List (Addr × Obj)) (tg : Tags) (p : Addr × Obj) : Prop := p ∈ news ∧ tg p.1 = none
/-- what stands fast in the ledger, or at the top -/
def Im (K : Frag) (news : List (Addr × Obj)) (tg : Tags) (p : Addr × Obj) : Prop := K.lookup p.1 = some p.2 ∨ (p ∈ news ∧ tg p.1 = none)

abbrev IP := Addr × Obj → Prop

/-- a code object with its table, and the name it bears -/
def CodeOk (oc : Obj) (P : Addr) (q : PySem.Str) : Prop :=
  ∃ vs file tf flags tg inF text tt t, oc.cls = .type "code" ∧ oc.data = .fields vs ∧ vs[11]? = some (.ref P) ∧ vs.getD 11 .none = .ref P ∧ vs.getD 18 .none = .str file tf ∧
    vs.getD 7 .none = .int flags tg ∧ vs.getD 9 .none = .bool inF ∧ vs.getD 10 .none = .int text tt ∧ vs[1]? = some (.str q t)
/-- a code object of which the name alone is asked -/
def CodeNm (oc : Obj) (q : PySem.Str) : Prop := ∃ vs t, oc.data = .fields vs ∧ vs[1]? = some (.str q t)

def CellAt (I : IP) (c : Addr) (v : Value) : Prop := ∃ o, I (c, o) ∧ o.data = .cell (some v)
/-- a made function of the def d with its closure -/
def FnIs (I : IP) (f : Addr) (d : Stmt) (cl : List (PySem.Str × Addr)) (qual : PySem.Str) : Prop :=
  ∃ nm doc pm c' ctv oc, I (f, fnMade nm qual (dParams d) (dBody d) (dScope d) cl doc pm c' ctv) ∧ I (c', oc) ∧ CodeNm oc qual
/-- a made function of the def d, its code's table being P -/
def FnTab (I : IP) (f : Addr) (d : Stmt) (cl : List (PySem.Str × Addr)) (qual : PySem.Str) (P : Addr) : Prop :=
  ∃ nm doc pm c' ctv oc, I (f, fnMade nm qual (dParams d) (dBody d) (dScope d) cl doc pm c' ctv) ∧ I (c', oc) ∧ CodeOk oc P qual

def qListener : PySem.Str := ("law" : PySem.Str) ++ ".<locals>." ++ "listener"
def qHears : PySem.Str := qListener ++ ".<locals>." ++ "hears"
def qSieve : PySem.Str := ("law" : PySem.Str) ++ ".<locals>." ++ "sieve"
def qLets : PySem.Str := qSieve ++ ".<locals>." ++ "lets"
def qSend : PySem.Str := ("law" : PySem.Str) ++ ".<locals>." ++ "send"

variable (w : World)
def NmAt (I : IP) (nm : Name) (v : Value) : Prop := nm ≠ [] ∧ ∃ a items n, v = .ref a ∧ I (a, tupO items n) ∧ ItemsAre (atomKind PG w) nm items.toList

def hearsCl (cx : Cx) (cN cK cNm : Addr) : List (PySem.Str × Addr) :=
  [("plain", cx.cPlain), ("number", cN), ("name", cNm), ("listener", cx.cListener), ("kind", cK), ("heard", cx.cHeard), ("bus", cx.cBus)]
def letsCl (cx : Cx) (cN : Addr) : List (PySem.Str × Addr) := [("number", cN), ("heard", cx.cHeard)]

def FuncAt (I J : IP) (cx : Cx) (num : Int) (kind : Nat) (name : Name) (v : Value) : Prop :=
  ∃ f cN cK cNm tN tK vN, v = .ref f ∧ FnIs J f hearsD (hearsCl cx cN cK cNm) qHears ∧ CellAt J cN (.int num tN) ∧ CellAt J cK (.int kind tK) ∧ CellAt J cNm vN ∧ NmAt w I name vN
def FiltAt (J : IP) (cx : Cx) (num : Int) (v : Value) : Prop :=
  ∃ f cN tN, v = .ref f ∧ FnIs J f letsD (letsCl cx cN) qLets ∧ CellAt J cN (.int num tN)
def PairAt (I J : IP) (cx : Cx) (v : Value) (r : Row) : Prop :=
  ∃ a func filt n, v = .ref a ∧ J (a, tupO #[func, filt] n) ∧ FuncAt w I J cx r.num r.kind r.name func ∧ (if r.sieved then FiltAt J cx r.num filt else filt = .none)
def RowAt (I J : IP) (v : Value) (r : Row) : Prop :=
  ∃ a va t1 t2 vn n, v = .ref a ∧ J (a, tupO #[va, .int r.num t1, .int r.kind t2, vn, .bool r.sieved] n) ∧ NmAt w I r.asked va ∧ NmAt w I r.name vn

/-- a value and its data -/
inductive Rd (I : IP) : Value → PyData → Prop
  | int (i : Int) (t : Tok) : Rd I (.int i t) (.int i)
  | bool (b : Bool) : Rd I (.bool b) (.bool b)
  | none : Rd I .none .none
  | str (x : PySem.Str) (t : Tok) : Rd I (.str x t) (.str x)
  | tup {a : Addr} {items : Array Value} {n : Nat} {ds : List PyData} : I (a, tupO items n) → items.toList.length = ds.length → (∀ (j : Nat) (v : Value) (d : PyData), items.toList[j]? = some v → ds[j]? = some d → Rd I v d) → Rd I (.ref a) (.tuple ds)
  | dict {a : Addr} {o : Obj} {kvs : List (PySem.Str × Value)} {D : List (PyData × PyData)} : I (a, o) → (a == sysModules) = false → o.IsDictOf (strKind PG w) kvs → PyProof.V.FlatPairs PyData.str kvs D → KeqRows D D true → Rd I (.ref a) (.dict D)
def LogAt (I : IP) (vs : List Value) (ds : List PyData) : Prop := vs.length = ds.length ∧ ∀ (j : Nat) (v : Value) (d : PyData), vs[j]? = some v → ds[j]? = some d → Rd w I v d
def All2 {α β : Type} (R : α → β → Prop) (l : List α) (m : List β) : Prop := l.length = m.length ∧ ∀ (j : Nat) (a : α) (b : β), l[j]? = some a → m[j]? = some b → R a b

abbrev dictO (es : Array DictEntry) (ep : Nat) : Obj := { cls := .type "dict", data := .dict es ep }
/-- the dict of one generation -/
structure DictAt (I J : IP) (news : List (Addr × Obj)) (tg : Tags) (cx : Cx) (g : Nat) (rs : List Row) (a : Addr) : Prop where
  tag : tg a = some (.dict g)
  lo : (a == sysModules) = false
  ex : ∃ (es : Array DictEntry) (ep : Nat) (xs : List (Name × Addr × Value)), (a, dictO es ep) ∈ news ∧ es.toList = xs.map (entryOfKey (nameKind PG w)) ∧ (xs.map (·.1)).Nodup ∧
    (∀ x ∈ xs, NmAt w I x.1 (.ref x.2.1)) ∧
    (∀ x ∈ xs, ∃ la items n, x.2.2 = .ref la ∧ (la, listOf items n) ∈ news ∧ tg la = some (.lst g x.1) ∧ All2 (PairAt w I J cx) items.toList (rs.filter (·.hits x.1))) ∧
    (∀ nm, nm ≠ [] → nm ∉ xs.map (·.1) → rs.filter (·.hits nm) = []) ∧ xs.length ≤ weight rs ∧ ∀ b nm, tg b = some (.lst g nm) → nm ∈ xs.map (·.1)
structure RowsAt (I J : IP) (news : List (Addr × Obj)) (tg : Tags) (g : Nat) (rs : List Row) (a : Addr) : Prop where
  tag : tg a = some (.rows g)
  ex : ∃ (items : Array Value) (n : Nat), (a, listOf items n) ∈ news ∧ All2 (RowAt w I J) items.toList rs

/-- the table of a def's code: nothing yet, or the code of the def at pos -/
def TabIs (J : IP) (news : List (Addr × Obj)) (P : Addr) (pos : Pos) (qual : PySem.Str) : Prop :=
  ∃ ps, (P, tabObj ps) ∈ news ∧ TriplesOk ps.toList ∧ (codeAmong pos ps.toList = none ∨ ∃ c' oc, codeAmong pos ps.toList = some (.ref c') ∧ J (c', oc) ∧ CodeNm oc qual)

/-- what is fixed -/
structure Base (cx : Cx) (tg : Tags) (news : List (Addr × Obj)) : Prop where
  inj : ∀ a b t, t.one → tg a = some t → tg b = some t → a = b
  dom : ∀ a t, tg a = some t → ∃ o, (a, o) ∈ news
  tmp : ∀ a J, tg a = some (.tmp J) → J = a
  cellBus : CellAt (Lg news tg) cx.cBus (.ref cx.bus)
  cellHeard : CellAt (Lg news tg) cx.cHeard (.ref cx.heard)
  cellDue : CellAt (Lg news tg) cx.cDue (.ref cx.due)
  cellPlain : CellAt (Lg news tg) cx.cPlain (.ref cx.plain)
  cellListener : CellAt (Lg news tg) cx.cListener (.ref cx.fL)
  cellSend : CellAt (Lg news tg) cx.cSend (.ref cx.fSend)
  bus : Lg news tg (cx.bus, instObj 177 cx.dx)
  fL : FnTab (Lg news tg) cx.fL listenerD [("plain", cx.cPlain), ("listener", cx.cListener), ("heard", cx.cHeard), ("bus", cx.cBus)] qListener cx.tL
  fS : FnTab (Lg news tg) cx.fS sieveD [("heard", cx.cHeard)] qSieve cx.tS
  fSend : FnIs (Lg news tg) cx.fSend sendD [("send", cx.cSend), ("plain", cx.cPlain), ("due", cx.cDue)] qSend

def HeardF (K : Frag) (cx : Cx) (log : List PyData) (tg : Tags) (news : List (Addr × Obj)) : Prop :=
  tg cx.heard = some .heard ∧ ∃ items n, (cx.heard, listOf items n) ∈ news ∧ LogAt w (Im K news tg) items.toList log
def DueF (K : Frag) (cx : Cx) (log : List PyData) (tg : Tags) (news : List (Addr × Obj)) : Prop :=
  tg cx.due = some .due ∧ ∃ items n, (cx.due, listOf items n) ∈ news ∧ LogAt w (Im K news tg) items.toList log
def PlainF (cx : Cx) (g : Nat) (f1 f2 : Bool) (tg : Tags) (news : List (Addr × Obj)) : Prop :=
  tg cx.plain = some .plain ∧ ∃ R n, (cx.plain, listOf #[.ref R, .bool f1, .bool f2] n) ∈ news ∧ tg R = some (.rows g)
def DxF (cx : Cx) (g : Nat) (tg : Tags) (news : List (Addr × Obj)) : Prop :=
  tg cx.dx = some .dx ∧ ∃ D hsh t n, (cx.dx, dictOf [⟨hsh, .str "_listeners" t, .ref D⟩] n) ∈ news ∧ tg D = some (.dict g)
def RowsF (K : Frag) (gens : List (List Row)) (tg : Tags) (news : List (Addr × Obj)) : Prop :=
  ∀ (g : Nat) (rs : List Row), gens[g]? = some rs → ∃ a, RowsAt w (Im K news tg) (Lg news tg) news tg g rs a
def DictF (K : Frag) (cx : Cx) (gens : List (List Row)) (tg : Tags) (news : List (Addr × Obj)) : Prop :=
  ∀ (g : Nat) (rs : List Row), gens[g]? = some rs → ∃ a, DictAt w (Im K news tg) (Lg news tg) news tg cx g rs a
def TabRF (tg : Tags) (news : List (Addr × Obj)) : Prop := tg 45 = some .tabR ∧ ∃ ps, (45, tabObj ps) ∈ news ∧ TriplesOk ps.toList
def TabLF (cx : Cx) (tg : Tags) (news : List (Addr × Obj)) : Prop := tg cx.tL = some .tabL ∧ TabIs (Lg news tg) news cx.tL (dPos hearsD) qHears
def TabSF (cx : Cx) (tg : Tags) (news : List (Addr × Obj)) : Prop := tg cx.tS = some .tabS ∧ TabIs (Lg news tg) news cx.tS (dPos letsD) qLets

/-- the whole: σB is what the bus has come to, σP what the law's own reckoning has come to -/
structure Wd (K : Frag) (cx : Cx) (σB σP : St) (tg : Tags) (news : List (Addr × Obj)) : Prop where
  base : Base cx tg news
  heard : HeardF w K cx σB.log tg news
  due : DueF w K cx σP.log tg news
  plain : PlainF cx σP.cur σP.flag σB.flag tg news
  dx : DxF cx σB.cur tg news
  rows : RowsF w K σP.gens tg news
  dict : DictF w K cx σB.gens tg news
  tabL : TabLF cx tg news
  tabS : TabSF cx tg news
  tabR : TabRF tg news
  wfB : σB.Wf
  wfP : σP.Wf
  tagB : ∀ a g, tg a = some (.dict g) → g < σB.gens.length
  tagP : ∀ a g, tg a = some (.rows g) → g < σP.gens.length
  tagL : ∀ a g nm, tg a = some (.lst g nm) → g < σB.gens.length
end Mine

end
section
-- L0
open PySem PySem.W PyProof.Rows PySem.Calls PySem.Spec
namespace Mine
set_option maxRecDepth 100000

section
variable {h₀ h h' : Heap} {L D : Addr} {m : PySem.Str → Option Value} {news : List (Addr × Obj)} {o o' : Obj}
def setN (D : Addr) (o' : Obj) (news : List (Addr × Obj)) : List (Addr × Obj) := news.map fun p => if p.1 = D then (D, o') else p
theorem mem_setN (hm : (D, o) ∈ news) : (D, o') ∈ setN D o' news := List.mem_map.mpr ⟨(D, o), hm, by simp⟩
theorem keep_setN {p : Addr × Obj} (hp : p ∈ news) (hne : p.1 ≠ D) : p ∈ setN D o' news := List.mem_map.mpr ⟨p, hp, by simp [hne]⟩
theorem of_setN {p : Addr × Obj} (hp : p ∈ setN D o' news) : p = (D, o') ∨ (p ∈ news ∧ p.1 ≠ D) := by
  obtain ⟨q, hq, rfl⟩ := List.mem_map.mp hp
  by_cases e : q.1 = D
  · simp [e]
  · simp [e, hq]
theorem upd (F : Fr h₀ L h m) (N : News h₀ L h news) (hm : (D, o) ∈ news) (hs : Heap.SameBut D h h') (ho : h'.get? D = some o') : Fr h₀ L h' m ∧ News h₀ L h' (setN D o' news) :=
  ⟨F.change hs (N _ hm).2.1 (N _ hm).2.2, N.replace hs ho⟩
end
section
variable {prog : Program} {w : World} {A : Around} {E : Value → Shared → Prop} {s : Shared} {h₀ : Heap} {L : Addr} {m : PySem.Str → Option Value} {news : List (Addr × Obj)}
theorem append_S {D : Addr} {its : Array Value} {n : Nat} {x : Value} {Q : Value → Shared → Prop} (F : Fr h₀ L s.heap m) (N : News h₀ L s.heap news) (hm : (D, listOf its n) ∈ news)
    (h : ∀ h', Fr h₀ L h' m → News h₀ L h' (setN D (listOf (its.push x) (n + 1)) news) → Q .none { s with heap := h' }) (hsz : its.size ≤ sizeLine) :
    wpAny (model prog w) A (call (.builtin "list.append") [.ref D, x]) Q E s :=
  append_at (hsz := hsz) (N _ hm).1 fun h' hs ho' => let ⟨F', N'⟩ := upd F N hm hs ho'; h h' F' N'
end
end Mine

end
section
-- W1
open PySem PySem.W PyProof.Rows PySem.Calls PySem.Spec
namespace Mine
set_option maxRecDepth 100000

/-- how a ledger goes on: what stands fast stays; of the rest what bears a tag of T -/
structure Keeps (tg tg' : Tags) (news news' : List (Addr × Obj)) (T : Tag → Prop) : Prop where
  lg : ∀ p, Lg news tg p → Lg news' tg' p
  mu : ∀ (a : Addr) (o : Obj) (t : Tag), (a, o) ∈ news → tg a = some t → T t → (a, o) ∈ news'
  back : ∀ a t, T t → t.one → tg' a = some t → tg a = some t
  tg : ∀ a t, tg a = some t → tg' a = some t
theorem Keeps.refl {tg : Tags} {news : List (Addr × Obj)} {T : Tag → Prop} : Keeps tg tg news news T := ⟨fun _ h => h, fun _ _ _ h _ _ => h, fun _ _ _ _ h => h, fun _ _ h => h⟩
theorem Keeps.trans {tg tg' tg'' : Tags} {n n' n'' : List (Addr × Obj)} {T : Tag → Prop} (x : Keeps tg tg' n n' T) (y : Keeps tg' tg'' n' n'' T) : Keeps tg tg'' n n'' T :=
  ⟨fun p h => y.lg p (x.lg p h), fun a o t h1 h2 h3 => y.mu a o t (x.mu a o t h1 h2 h3) (x.tg a t h2) h3, fun a t hT h1 h => x.back a t hT h1 (y.back a t hT h1 h), fun a t h => y.tg a t (x.tg a t h)⟩
theorem Keeps.mono {tg tg' : Tags} {n n' : List (Addr × Obj)} {T T' : Tag → Prop} (x : Keeps tg tg' n n' T) (h : ∀ t, T' t → T t) : Keeps tg tg' n n' T' :=
  ⟨x.lg, fun a o t h1 h2 h3 => x.mu a o t h1 h2 (h t h3), fun a t hT h1 e => x.back a t (h t hT) h1 e, x.tg⟩

section
variable {K : Frag} {tg tg' : Tags} {news news' : List (Addr × Obj)} {T : Tag → Prop} {w : World} {cx : Cx}
theorem Keeps.im (k : Keeps tg tg' news news' T) : ∀ p, Im K news tg p → Im K news' tg' p := fun p h => h.imp id (k.lg p)

theorem CellAt.mono {I I' : IP} (h : ∀ p, I p → I' p) {c : Addr} {v : Value} (x : CellAt I c v) : CellAt I' c v := let ⟨o, a, b⟩ := x; ⟨o, h _ a, b⟩
theorem FnIs.mono {I I' : IP} (h : ∀ p, I p → I' p) {f : Addr} {d : Stmt} {cl : List (PySem.Str × Addr)} {q : PySem.Str} (x : FnIs I f d cl q) : FnIs I' f d cl q :=
  let ⟨a, b, c, d, e, f, g, i, j⟩ := x; ⟨a, b, c, d, e, f, h _ g, h _ i, j⟩
theorem FnTab.mono {I I' : IP} (h : ∀ p, I p → I' p) {f : Addr} {d : Stmt} {cl : List (PySem.Str × Addr)} {q : PySem.Str} {P : Addr} (x : FnTab I f d cl q P) : FnTab I' f d cl q P :=
  let ⟨a, b, c, d, e, f, g, i, j⟩ := x; ⟨a, b, c, d, e, f, h _ g, h _ i, j⟩
theorem NmAt.mono {I I' : IP} (h : ∀ p, I p → I' p) {nm : Name} {v : Value} (x : NmAt w I nm v) : NmAt w I' nm v := let ⟨z, a, b, c, d, e, f⟩ := x; ⟨z, a, b, c, d, h _ e, f⟩
theorem FuncAt.mono {I I' J J' : IP} (h : ∀ p, I p → I' p) (k : ∀ p, J p → J' p) {num : Int} {kind : Nat} {name : Name} {v : Value} (x : FuncAt w I J cx num kind name v) : FuncAt w I' J' cx num kind name v :=
  let ⟨f, a, b, c, d, e, g, h1, h2, h3, h4, h5, h6⟩ := x; ⟨f, a, b, c, d, e, g, h1, h2.mono k, h3.mono k, h4.mono k, h5.mono k, h6.mono h⟩
theorem FiltAt.mono {J J' : IP} (k : ∀ p, J p → J' p) {num : Int} {v : Value} (x : FiltAt J cx num v) : FiltAt J' cx num v :=
  let ⟨f, a, b, h1, h2, h3⟩ := x; ⟨f, a, b, h1, h2.mono k, h3.mono k⟩
theorem PairAt.mono {I I' J J' : IP} (h : ∀ p, I p → I' p) (k : ∀ p, J p → J' p) {v : Value} {r : Row} (x : PairAt w I J cx v r) : PairAt w I' J' cx v r := by
  obtain ⟨a, fu, fi, n, h1, h2, h3, h4⟩ := x
  refine ⟨a, fu, fi, n, h1, k _ h2, h3.mono h k, ?_⟩
  split
  · rename_i e; rw [if_pos e] at h4; exact h4.mono k
  · rename_i e; rw [if_neg e] at h4; exact h4
theorem RowAt.mono {I I' J J' : IP} (h : ∀ p, I p → I' p) (k : ∀ p, J p → J' p) {v : Value} {r : Row} (x : RowAt w I J v r) : RowAt w I' J' v r :=
  let ⟨a, va, t1, t2, vn, n, h1, h2, h3, h4⟩ := x; ⟨a, va, t1, t2, vn, n, h1, k _ h2, h3.mono h, h4.mono h⟩
theorem Rd.mono {I I' : IP} (h : ∀ p, I p → I' p) {v : Value} {d : PyData} (x : Rd w I v d) : Rd w I' v d := by
  induction x with
  | int i t => exact .int i t
  | bool b => exact .bool b
  | none => exact .none
  | str x t => exact .str x t
  | tup h1 h2 _ ih => exact .tup (h _ h1) h2 fun j v d e1 e2 => ih j v d e1 e2
  | dict h1 h2 h3 h4 h5 => exact .dict (h _ h1) h2 h3 h4 h5
theorem LogAt.mono {I I' : IP} (h : ∀ p, I p → I' p) {vs : List Value} {ds : List PyData} (x : LogAt w I vs ds) : LogAt w I' vs ds := ⟨x.1, fun j v d e1 e2 => (x.2 j v d e1 e2).mono h⟩
theorem All2.mono {α β : Type} {R R' : α → β → Prop} (h : ∀ a b, R a b → R' a b) {l : List α} {m : List β} (x : All2 R l m) : All2 R' l m := ⟨x.1, fun j a b e1 e2 => h a b (x.2 j a b e1 e2)⟩

theorem HeardF.mono {log : List PyData} (k : Keeps tg tg' news news' T) (hT : T .heard) (x : HeardF w K cx log tg news) : HeardF w K cx log tg' news' :=
  let ⟨a, i, n, b, c⟩ := x; ⟨k.tg _ _ a, i, n, k.mu _ _ _ b a hT, c.mono k.im⟩
theorem DueF.mono {log : List PyData} (k : Keeps tg tg' news news' T) (hT : T .due) (x : DueF w K cx log tg news) : DueF w K cx log tg' news' :=
  let ⟨a, i, n, b, c⟩ := x; ⟨k.tg _ _ a, i, n, k.mu _ _ _ b a hT, c.mono k.im⟩
theorem PlainF.mono {g : Nat} {f1 f2 : Bool} (k : Keeps tg tg' news news' T) (hT : T .plain) (x : PlainF cx g f1 f2 tg news) : PlainF cx g f1 f2 tg' news' :=
  let ⟨a, R, n, b, c⟩ := x; ⟨k.tg _ _ a, R, n, k.mu _ _ _ b a hT, k.tg _ _ c⟩
theorem DxF.mono {g : Nat} (k : Keeps tg tg' news news' T) (hT : T .dx) (x : DxF cx g tg news) : DxF cx g tg' news' :=
  let ⟨a, D, h, t, n, b, c⟩ := x; ⟨k.tg _ _ a, D, h, t, n, k.mu _ _ _ b a hT, k.tg _ _ c⟩
theorem RowsAt.mono {g : Nat} {rs : List Row} {a : Addr} (k : Keeps tg tg' news news' T) (hT : T (.rows g)) (x : RowsAt w (Im K news tg) (Lg news tg) news tg g rs a) : RowsAt w (Im K news' tg') (Lg news' tg') news' tg' g rs a :=
  ⟨k.tg _ _ x.tag, let ⟨i, n, b, c⟩ := x.ex; ⟨i, n, k.mu _ _ _ b x.tag hT, c.mono fun _ _ y => y.mono k.im k.lg⟩⟩
theorem DictAt.mono {g : Nat} {rs : List Row} {a : Addr} (k : Keeps tg tg' news news' T) (hT : T (.dict g)) (hL : ∀ nm, T (.lst g nm)) (x : DictAt w (Im K news tg) (Lg news tg) news tg cx g rs a) :
    DictAt w (Im K news' tg') (Lg news' tg') news' tg' cx g rs a := by
  obtain ⟨t, lo, es, ep, xs, h1, h2, h3, h4, h5, h6, h7, h8⟩ := x
  refine ⟨k.tg _ _ t, lo, es, ep, xs, k.mu _ _ _ h1 t hT, h2, h3, fun y hy => (h4 y hy).mono k.im, fun y hy => ?_, h6, h7, fun b nm e => h8 b nm (k.back _ _ (hL nm) trivial e)⟩
  obtain ⟨la, it, n, e1, e2, e3, e4⟩ := h5 y hy
  exact ⟨la, it, n, e1, k.mu _ _ _ e2 e3 (hL _), k.tg _ _ e3, e4.mono fun _ _ z => z.mono k.im k.lg⟩
theorem RowsF.mono {gens : List (List Row)} (k : Keeps tg tg' news news' T) (hT : ∀ g, T (.rows g)) (x : RowsF w K gens tg news) : RowsF w K gens tg' news' := fun g rs h => let ⟨a, y⟩ := x g rs h; ⟨a, y.mono k (hT g)⟩
theorem DictF.mono {gens : List (List Row)} (k : Keeps tg tg' news news' T) (hT : ∀ g, T (.dict g)) (hL : ∀ g nm, T (.lst g nm)) (x : DictF w K cx gens tg news) : DictF w K cx gens tg' news' :=
  fun g rs h => let ⟨a, y⟩ := x g rs h; ⟨a, y.mono k (hT g) (hL g)⟩
theorem TabRF.mono (k : Keeps tg tg' news news' T) (hT : T .tabR) (x : TabRF tg news) : TabRF tg' news' := let ⟨a, ps, b, c⟩ := x; ⟨k.tg _ _ a, ps, k.mu _ _ _ b a hT, c⟩
theorem TabIs.mono {P : Addr} {t : Tag} {pos : Pos} {q : PySem.Str} (k : Keeps tg tg' news news' T) (ht : tg P = some t) (hT : T t) (x : TabIs (Lg news tg) news P pos q) : TabIs (Lg news' tg') news' P pos q :=
  let ⟨ps, a, b, c⟩ := x; ⟨ps, k.mu _ _ _ a ht hT, b, c.imp id fun ⟨c', oc, e1, e2, e3⟩ => ⟨c', oc, e1, k.lg _ e2, e3⟩⟩
theorem TabLF.mono (k : Keeps tg tg' news news' T) (hT : T .tabL) (x : TabLF cx tg news) : TabLF cx tg' news' := ⟨k.tg _ _ x.1, x.2.mono k x.1 hT⟩
theorem TabSF.mono (k : Keeps tg tg' news news' T) (hT : T .tabS) (x : TabSF cx tg news) : TabSF cx tg' news' := ⟨k.tg _ _ x.1, x.2.mono k x.1 hT⟩
/-- the tags of a ledger are in order -/
structure TagsOk (tg : Tags) (news : List (Addr × Obj)) : Prop where
  inj : ∀ a b t, t.one → tg a = some t → tg b = some t → a = b
  dom : ∀ a t, tg a = some t → ∃ o, (a, o) ∈ news
  tmp : ∀ a J, tg a = some (.tmp J) → J = a
theorem Base.mono (k : Keeps tg tg' news news' T) (ok : TagsOk tg' news') (x : Base cx tg news) : Base cx tg' news' :=
  ⟨ok.inj, ok.dom, ok.tmp, x.cellBus.mono k.lg, x.cellHeard.mono k.lg, x.cellDue.mono k.lg, x.cellPlain.mono k.lg, x.cellListener.mono k.lg, x.cellSend.mono k.lg, k.lg _ x.bus, x.fL.mono k.lg, x.fS.mono k.lg, x.fSend.mono k.lg⟩
theorem Base.ok (x : Base cx tg news) : TagsOk tg news := ⟨x.inj, x.dom, x.tmp⟩
end

section
variable {tg : Tags} {news : List (Addr × Obj)}
/-- a new object onto the ledger, without a tag -/
theorem Keeps.cons {p : Addr × Obj} : Keeps tg tg news (p :: news) fun _ => True := ⟨fun _ h => ⟨.tail _ h.1, h.2⟩, fun _ _ _ h _ _ => .tail _ h, fun _ _ _ _ h => h, fun _ _ h => h⟩
theorem TagsOk.cons {p : Addr × Obj} (x : TagsOk tg news) : TagsOk tg (p :: news) := ⟨x.inj, fun a t h => let ⟨o, ho⟩ := x.dom a t h; ⟨o, .tail _ ho⟩, x.tmp⟩
/-- a tagged object turned -/
theorem Keeps.set {D : Addr} {o' : Obj} {τ : Tag} (hD : tg D = some τ) (ok : TagsOk tg news) : Keeps tg tg news (setN D o' news) fun t => t ≠ τ :=
  ⟨fun p h => ⟨keep_setN h.1 (fun e => by have h2 := h.2; rw [e, hD] at h2; cases h2), h.2⟩, fun a o t h1 h2 h3 => keep_setN h1 (fun e => by rw [show a = D from e, hD] at h2; exact h3 (Option.some.inj h2).symm), fun _ _ _ _ h => h, fun _ _ h => h⟩
theorem TagsOk.set {D : Addr} {o' : Obj} (x : TagsOk tg news) : TagsOk tg (setN D o' news) :=
  ⟨x.inj, fun a t h => by
    obtain ⟨o, ho⟩ := x.dom a t h
    by_cases e : a = D
    · subst e; exact ⟨o', mem_setN ho⟩
    · exact ⟨o, keep_setN ho e⟩, x.tmp⟩
/-- a tag laid upon a new address -/
def putTag (a : Addr) (t : Tag) (tg : Tags) : Tags := fun b => if b = a then some t else tg b
theorem putTag_self (a : Addr) (t : Tag) (tg : Tags) : putTag a t tg a = some t := by simp [putTag]
theorem putTag_ne {a b : Addr} (t : Tag) (tg : Tags) (h : b ≠ a) : putTag a t tg b = tg b := by simp [putTag, h]
theorem Keeps.put {a : Addr} {o : Obj} {t : Tag} (hn : ∀ p ∈ news, p.1 ≠ a) (ok : TagsOk tg news) : Keeps tg (putTag a t tg) news ((a, o) :: news) fun q => q ≠ t :=
  ⟨fun p h => ⟨.tail _ h.1, by rw [putTag_ne _ _ (hn p h.1)]; exact h.2⟩, fun _ _ _ h _ _ => .tail _ h, fun b s hT _ h => by
    unfold putTag at h
    split at h
    · cases h; exact absurd rfl hT
    · exact h, fun b s h => by
    obtain ⟨o', ho'⟩ := ok.dom b s h
    rw [putTag_ne _ _ (hn _ ho')]; exact h⟩
theorem TagsOk.put {a : Addr} {o : Obj} {t : Tag} (hn : ∀ p ∈ news, p.1 ≠ a) (hf : t.one → ∀ b, tg b ≠ some t) (hJ : ∀ J, t = .tmp J → J = a) (x : TagsOk tg news) : TagsOk (putTag a t tg) ((a, o) :: news) := by
  refine ⟨fun b c s h0 h1 h2 => ?_, fun b s h => ?_, fun b J h => ?_⟩
  · unfold putTag at h1 h2
    split at h1 <;> split at h2
    · simp_all
    · cases h1; exact absurd h2 (hf h0 c)
    · cases h2; exact absurd h1 (hf h0 b)
    · exact x.inj b c s h0 h1 h2
  · unfold putTag at h
    split at h
    · rename_i e; subst e; exact ⟨o, .head _⟩
    · obtain ⟨o', ho'⟩ := x.dom b s h; exact ⟨o', .tail _ ho'⟩
  · unfold putTag at h
    split at h
    · rename_i e; subst e; cases h; exact hJ J rfl
    · exact x.tmp b J h
end

section
variable {K : Frag} {tg tg' : Tags} {news news' : List (Addr × Obj)} {T : Tag → Prop} {w : World} {cx : Cx} {σB σP : St}
theorem Wd.keeps (W : Wd w K cx σB σP tg news) (k : Keeps tg tg' news news' fun _ => True) (ok : TagsOk tg' news') : Wd w K cx σB σP tg' news' :=
  ⟨W.base.mono k ok, W.heard.mono k trivial, W.due.mono k trivial, W.plain.mono k trivial, W.dx.mono k trivial, W.rows.mono k fun _ => trivial, W.dict.mono k (fun _ => trivial) fun _ _ => trivial, W.tabL.mono k trivial, W.tabS.mono k trivial, W.tabR.mono k trivial, W.wfB, W.wfP, fun a g h => W.tagB a g (k.back a _ trivial trivial h), fun a g h => W.tagP a g (k.back a _ trivial trivial h), fun a g nm h => W.tagL a g nm (k.back a _ trivial trivial h)⟩
theorem Wd.cons (W : Wd w K cx σB σP tg news) (p : Addr × Obj) : Wd w K cx σB σP tg (p :: news) := W.keeps Keeps.cons W.base.ok.cons
theorem LogAt.push {I : IP} {vs : Array Value} {ds : List PyData} {v : Value} {d : PyData} (x : LogAt w I vs.toList ds) (h : Rd w I v d) : LogAt w I (vs.push v).toList (ds ++ [d]) := by
  have hl : vs.size = ds.length := by have := x.1; rw [Array.length_toList] at this; exact this
  refine ⟨by simp [hl], fun j u e h1 h2 => ?_⟩
  rw [Array.toList_push] at h1
  rcases Nat.lt_or_ge j ds.length with hj | hj
  · rw [List.getElem?_append_left (by rw [Array.length_toList]; omega)] at h1
    rw [List.getElem?_append_left hj] at h2
    exact x.2 j u e h1 h2
  · rw [List.getElem?_append_right (by rw [Array.length_toList]; omega)] at h1
    rw [List.getElem?_append_right hj] at h2
    have e0 : j - ds.length = 0 := by
      rcases Nat.eq_zero_or_pos (j - ds.length) with h | h
      · exact h
      · rw [List.getElem?_eq_none (by simp; omega)] at h2; cases h2
    rw [e0] at h2
    rw [Array.length_toList, hl, e0] at h1
    cases h1; cases h2; exact h
/-- heard is told one thing more -/
theorem Wd.sayB {its : Array Value} {n : Nat} {v : Value} {d : PyData} (W : Wd w K cx σB σP tg news) (hm : (cx.heard, listOf its n) ∈ news) (hl : LogAt w (Im K news tg) its.toList σB.log) (hv : Rd w (Im K news tg) v d) :
    Wd w K cx (σB.say [d]) σP tg (setN cx.heard (listOf (its.push v) (n + 1)) news) := by
  have k := Keeps.set (o' := listOf (its.push v) (n + 1)) W.heard.1 W.base.ok
  exact ⟨W.base.mono k W.base.ok.set, ⟨W.heard.1, _, _, mem_setN hm, (hl.push hv).mono k.im⟩, W.due.mono k nofun, W.plain.mono k nofun, W.dx.mono k nofun, W.rows.mono k fun _ => nofun, W.dict.mono k (fun _ => nofun) fun _ _ => nofun, W.tabL.mono k nofun, W.tabS.mono k nofun, W.tabR.mono k nofun, W.wfB, W.wfP, W.tagB, W.tagP, W.tagL⟩
theorem Wd.sayP {its : Array Value} {n : Nat} {v : Value} {d : PyData} (W : Wd w K cx σB σP tg news) (hm : (cx.due, listOf its n) ∈ news) (hl : LogAt w (Im K news tg) its.toList σP.log) (hv : Rd w (Im K news tg) v d) :
    Wd w K cx σB (σP.say [d]) tg (setN cx.due (listOf (its.push v) (n + 1)) news) := by
  have k := Keeps.set (o' := listOf (its.push v) (n + 1)) W.due.1 W.base.ok
  exact ⟨W.base.mono k W.base.ok.set, W.heard.mono k nofun, ⟨W.due.1, _, _, mem_setN hm, (hl.push hv).mono k.im⟩, W.plain.mono k nofun, W.dx.mono k nofun, W.rows.mono k fun _ => nofun, W.dict.mono k (fun _ => nofun) fun _ _ => nofun, W.tabL.mono k nofun, W.tabS.mono k nofun, W.tabR.mono k nofun, W.wfB, W.wfP, W.tagB, W.tagP, W.tagL⟩
end
end Mine

end
section
-- W2
open PySem PySem.W PyProof.Rows PySem.Calls PySem.Spec
namespace Mine
set_option maxRecDepth 100000

theorem Rd.tup3 {w : World} {I : IP} {a : Addr} {n : Nat} {u v x : Value} {d e f : PyData} (h : I (a, tupO #[u, v, x] n)) (h1 : Rd w I u d) (h2 : Rd w I v e) (h3 : Rd w I x f) : Rd w I (.ref a) (.tuple [d, e, f]) := by
  refine .tup h rfl fun j y z e1 e2 => ?_
  match j, e1, e2 with
  | 0, e1, e2 => cases e1; cases e2; exact h1
  | 1, e1, e2 => cases e1; cases e2; exact h2
  | 2, e1, e2 => cases e1; cases e2; exact h3
  | j + 3, e1, e2 => simp at e2

section
variable {prog : Program} {w : World} {A : Around} {E : Value → Shared → Prop} {s : Shared} {h₀ : Heap} {L : Addr} {m : PySem.Str → Option Value} {news : List (Addr × Obj)} {K : Frag} {cx : Cx} {σB σP : St} {tg : Tags}
theorem tag_fresh {t : Addr} (ok : TagsOk tg news) (hlt : ∀ p ∈ news, p.1 < t) : tg t = none := by
  cases h : tg t with
  | none => rfl
  | some τ =>
    obtain ⟨o, ho⟩ := ok.dom t τ h
    exact absurd (hlt _ ho) (Nat.lt_irrefl _)
theorem appendHeard {t : Addr} {u v x : Value} {n : Nat} {d e f : PyData} {Q : Value → Shared → Prop} (F : Fr h₀ L s.heap m) (N : News h₀ L s.heap ((t, tupO #[u, v, x] n) :: news)) (hlt : ∀ p ∈ news, p.1 < t)
    (W : Wd w K cx σB σP tg news) (hsz : σB.log.length ≤ sizeLine) (h1 : Rd w (Im K news tg) u d) (h2 : Rd w (Im K news tg) v e) (h3 : Rd w (Im K news tg) x f)
    (h : ∀ h' news', Fr h₀ L h' m → News h₀ L h' news' → Wd w K cx (σB.say [.tuple [d, e, f]]) σP tg news' → Keeps tg tg news news' (fun q => q ≠ .heard) → Q .none { s with heap := h' }) :
    wpAny (model prog w) A (call (.builtin "list.append") [.ref cx.heard, .ref t]) Q E s := by
  obtain ⟨_, its, k, hm, hl⟩ := W.heard
  have ht := tag_fresh W.base.ok hlt
  have k1 : Keeps tg tg news ((t, tupO #[u, v, x] n) :: news) fun _ => True := Keeps.cons
  have hr : Rd w (Im K ((t, tupO #[u, v, x] n) :: news) tg) (.ref t) (.tuple [d, e, f]) := Rd.tup3 (.inr ⟨.head _, ht⟩) (h1.mono k1.im) (h2.mono k1.im) (h3.mono k1.im)
  refine append_S F N (.tail _ hm) (fun h' F' N' => ?_) (by have := hl.1; rw [Array.length_toList] at this; omega)
  have W1 := W.cons (t, tupO #[u, v, x] n)
  exact h h' _ F' N' (W1.sayB (.tail _ hm) (hl.mono k1.im) hr) ((k1.mono fun _ _ => trivial).trans (Keeps.set W.heard.1 W1.base.ok))
theorem appendDue {t : Addr} {u v x : Value} {n : Nat} {d e f : PyData} {Q : Value → Shared → Prop} (F : Fr h₀ L s.heap m) (N : News h₀ L s.heap ((t, tupO #[u, v, x] n) :: news)) (hlt : ∀ p ∈ news, p.1 < t)
    (W : Wd w K cx σB σP tg news) (hsz : σP.log.length ≤ sizeLine) (h1 : Rd w (Im K news tg) u d) (h2 : Rd w (Im K news tg) v e) (h3 : Rd w (Im K news tg) x f)
    (h : ∀ h' news', Fr h₀ L h' m → News h₀ L h' news' → Wd w K cx σB (σP.say [.tuple [d, e, f]]) tg news' → Keeps tg tg news news' (fun q => q ≠ .due) → Q .none { s with heap := h' }) :
    wpAny (model prog w) A (call (.builtin "list.append") [.ref cx.due, .ref t]) Q E s := by
  obtain ⟨_, its, k, hm, hl⟩ := W.due
  have ht := tag_fresh W.base.ok hlt
  have k1 : Keeps tg tg news ((t, tupO #[u, v, x] n) :: news) fun _ => True := Keeps.cons
  have hr : Rd w (Im K ((t, tupO #[u, v, x] n) :: news) tg) (.ref t) (.tuple [d, e, f]) := Rd.tup3 (.inr ⟨.head _, ht⟩) (h1.mono k1.im) (h2.mono k1.im) (h3.mono k1.im)
  refine append_S F N (.tail _ hm) (fun h' F' N' => ?_) (by have := hl.1; rw [Array.length_toList] at this; omega)
  have W1 := W.cons (t, tupO #[u, v, x] n)
  exact h h' _ F' N' (W1.sayP (.tail _ hm) (hl.mono k1.im) hr) ((k1.mono fun _ _ => trivial).trans (Keeps.set W.due.1 W1.base.ok))
end
end Mine

end
section
-- B1
open PySem PySem.W PyProof.Rows PySem.Calls PySem.Spec
namespace Mine
set_option maxRecDepth 100000

theorem cellsFrom_acc : ∀ (names : List (Str × NameKind)) (n : Nat) (acc : List (Str × Addr)), cellsFrom n names acc = cellsFrom n names [] ++ acc
  | [], _, _ => rfl
  | (name, kind) :: r, n, acc => by
    unfold cellsFrom
    split
    · rw [cellsFrom_acc r (n + 1) ((name, n) :: acc), cellsFrom_acc r (n + 1) [(name, n)], List.append_assoc]; rfl
    · exact cellsFrom_acc r n acc
theorem lookup_append_of {α : Type} : ∀ {l r : List (Str × α)} {n : Str} {c : α}, l.lookup n = some c → (l ++ r).lookup n = some c
  | [], _, _, _, h => by cases h
  | (k, v) :: t, r, n, c, h => by
    rw [List.lookup_cons] at h
    rw [List.cons_append, List.lookup_cons]
    cases hb : n == k with
    | true => rw [hb] at h; exact h
    | false => rw [hb] at h; exact lookup_append_of h
def bindO : List (Str × Value) → (Str → Option Value) → Str → Option Value
  | [], m => m
  | (n, v) :: r, m => bindO r (fun y => if y = n then some v else m y)

section
variable {M : Model} {A : Around} {E : Value → Shared → Prop} {s₀ s : Shared} {m cm : Str → Option Value} {env : Env} {own cl : List (Str × Addr)}
theorem stOwn {n : Str} {c : Addr} {v : Value} {Q : Unit → Shared → Prop} (x : InCallC s₀ env.locals m own cm s) (hk : env.scope.kind = .function) (hcs : env.cells = own ++ cl) (hl : env.kindOf n = some .cell)
    (hc : own.lookup n = some c)
    (h : ∀ s', InCallC s₀ env.locals m own (fun y => if y = n then some v else cm y) s' → Q () s') : wpAny M A (storeName env n v) Q E s := by
  have hLc := x.above n c (mem_of_lookup hc)
  refine wpAny_storeName_cell hk hl (by rw [hcs]; exact lookup_append_of hc) (x.cell n c hc) fun h' hc' hs' => h _ ⟨⟨?_, x.toInCall.ns.sameBut hs' (Nat.ne_of_lt hLc), fun b o e => ?_, x.toInCall.fresh⟩, fun k c' hk' => ?_, x.apart, x.above⟩
  · obtain ⟨h₁, tk, rfl⟩ := x.toInCall.same
    exact ⟨h', _, rfl⟩
  · exact hs'.extBut b o (Nat.ne_of_lt (Nat.lt_trans (Nat.lt_of_lt_of_le (Heap.lt_size e) x.toInCall.fresh) hLc)) (x.toInCall.keep b o e)
  · by_cases hkn : k = n
    · subst hkn
      rw [hc] at hk'; cases hk'
      simpa using hc'
    · rw [if_neg hkn]
      exact (x.cell k c' hk').sameBut hs' fun e => hkn (name_of_addr x.apart (mem_of_lookup hk') (e ▸ mem_of_lookup hc))
theorem bindOwn (f : Str × Value → PUnit → Sem (ForInStep PUnit)) (hf : ∀ n v u, f (n, v) u = (do storeName env n v; pure (.yield ⟨⟩))) (hk : env.scope.kind = .function) (hcs : env.cells = own ++ cl) :
    ∀ (binds : List (Str × Value)) (cm : Str → Option Value) (s : Shared) (Q : PUnit → Shared → Prop), InCallC s₀ env.locals m own cm s →
      (∀ x ∈ binds, env.kindOf x.1 = some .cell ∧ (own.lookup x.1).isSome = true) →
      (∀ s', InCallC s₀ env.locals m own (bindO binds cm) s' → Q ⟨⟩ s') → wpAny M A (forIn binds ⟨⟩ f) Q E s
  | [], cm, s, Q, x, _, h => by rw [List.forIn_nil]; exact wpAny_pure (h s x)
  | (n, v) :: r, cm, s, Q, x, hkind, h => by
    rw [List.forIn_cons, hf]
    obtain ⟨hl, hc⟩ := hkind (n, v) List.mem_cons_self
    obtain ⟨c, hc⟩ := Option.isSome_iff_exists.mp hc
    exact wpAny_bind (wpAny_bind (stOwn x hk hcs hl hc fun s' x' => wpAny_pure (bindOwn f hf hk hcs r _ s' Q x' (fun y hy => hkind y (List.mem_cons_of_mem _ hy)) fun s'' x'' => h s'' x'')))
end

section
variable {M : Model} {A : Around} {E : Value → Shared → Prop} {s : Shared}
theorem newEnvOwn {scope : Scope} {globals : Addr} {cl : List (Str × Addr)} {binds : List (Str × Value)} {qual : Str} {func : Option Addr} {code : Value} {builtins : Addr} {Q : Env → Shared → Prop}
    (hk : scope.kind = .function)
    (hkind : ∀ n, ∀ x ∈ binds, scope.names.lookup x.1 = some .cell ∧ ((cellsFrom n scope.names []).lookup x.1).isSome = true)
    (hQ : ∀ env, env = newEnv scope s.heap.objs.size globals (cellsFrom (s.heap.objs.size + 1) scope.names [] ++ cl) qual func code none builtins →
      ∀ s', InCallC s env.locals (fun _ => none) (cellsFrom (s.heap.objs.size + 1) scope.names []) (bindO binds fun _ => none) s' → Q env s') :
    wpAny M A (newFunctionEnv scope globals cl binds qual func code none builtins) Q E s := by
  simp only [newFunctionEnv, Option.isSome_none, Bool.false_eq_true, if_false]
  refine wpAny_bind (wpAny_alloc ?_)
  refine wpAny_bind (wpAny_layCells _ (fun name kind cells => by cases hkc : kind == NameKind.cell <;> simp [hkc]) _ _ _ _ ?_)
  have ok := cellsFrom_ok scope.names (s.heap.push { cls := .type "frame", data := .dict #[] }) (s.heap.objs.size + 1) [] ⟨fun _ _ hm => (nomatch hm), List.Pairwise.nil⟩ (by rw [Heap.size_push]; exact Nat.le_refl _)
  rw [Heap.size_push] at ok
  rw [show ({ s with heap := s.heap.push { cls := .type "frame", data := .dict #[] } } : Shared).heap.objs.size = s.heap.objs.size + 1 from Heap.size_push ..]
  rw [cellsFrom_acc]
  refine wpAny_bind (bindOwn (s₀ := s) (own := cellsFrom (s.heap.objs.size + 1) scope.names []) (cl := cl) (env := newEnv scope s.heap.objs.size globals (cellsFrom (s.heap.objs.size + 1) scope.names [] ++ cl) qual func code none builtins)
    _ (fun _ _ _ => rfl) hk rfl binds (fun _ => none) _ _
    ⟨⟨⟨_, _, rfl⟩, (Heap.Ns.new s.heap (.type "frame")).keeps (pushCells_keeps _ _), fun b o e => pushCells_keeps _ _ b o (Heap.get?_push_of_some _ e), Nat.le_refl _⟩,
      fun n c hc => (ok.empty n c (mem_of_lookup hc)).1, ok.apart, fun n c hm => (ok.empty n c hm).2⟩
    (hkind _) fun s' x => wpAny_pure (hQ _ rfl s' x))
end

section
variable {prog : Program} {w : World} {A₀ A : Around} {s : Shared} {base h₀ : Heap} {outer : List Env} {L : Addr} {m : Str → Option Value} {env : Env} {news : List (Addr × Obj)}
  {R : Result → Shared → Prop} {name qual : Str} {params : Arguments} {body : List Stmt} {scope : Scope} {cl : List (Str × Addr)} {dV kV doc pm cdv ct : Value} {an : Option Addr} {fo : Obj} {f : Addr} {args : Args} {binds : List (Str × Value)}
theorem callX_own (B : Below A₀ base outer h₀) (F : Fr h₀ L s.heap m) (N : News h₀ L s.heap news) (hlim : h₀.NoLimit) (hA : A.frames = some (env :: outer)) (hf : env.frame = some L) (hke : env.scope.kind = .function)
    (ho : s.heap.get? f = some fo) (hd : fo.data = .func (fnX name qual params body scope cl dV kV doc pm an cdv ct)) (hcd : s.heap.CodeRec cdv qual) (hroom : A.depth < recursionLimit)
    (hbind : BindsTo s (fnX name qual params body scope cl dV kV doc pm an cdv ct) args binds)
    (hkind : ∀ n, ∀ x ∈ binds, scope.names.lookup x.1 = some .cell ∧ ((cellsFrom n scope.names []).lookup x.1).isSome = true)
    (hnd : ((cellsFrom 0 scope.names []).map (·.1)).Nodup)
    (h : ∀ g L' h₁ tk cells, Fr h₀ L g m → Fr g L' h₁ (fun _ => none) → News g L' h₁ (cells ++ news) →
      CellsAre (bindO binds fun _ => none) (cellsFrom (L' + 1) scope.names []) cells → Below A base (env :: outer) g → h₀.StaysIn g → (∀ p ∈ news, p.1 < L') →
      wpAny (model prog w) (A.deeper (envX qual scope L' f cdv (cellsFrom (L' + 1) scope.names [] ++ cl))) (execs body (envX qual scope L' f cdv (cellsFrom (L' + 1) scope.names [] ++ cl)))
        (fun fl s' => LeaveK h₀ L m g R (match fl with | .ret v => v | _ => .none) s')
        (fun e s' => wpAny (model prog w) (A.deeper (envX qual scope L' f cdv (cellsFrom (L' + 1) scope.names [] ++ cl))) (leaving (envX qual scope L' f cdv (cellsFrom (L' + 1) scope.names [] ++ cl)) e) (fun _ s'' => R (.error e) s'') (fun e' s'' => R (.error e') s'') s')
        { s with heap := h₁, toks := tk })
    (hco : scope.isCoroutine = false := by rfl) (hgen : scope.isGenerator = false := by rfl) (hk : scope.kind = .function := by rfl) : codeAny (model prog w) A (.call (.ref f) args) R s := by
  obtain ⟨FG, BG, st, lv⟩ := groundX (R := R) B F N hA hf hke
  refine codeAny_call_function hroom ho hd hco hgen rfl hcd (hbind _ _ _ _ ?_)
  refine newEnvOwn hk hkind fun env' he s' x => ?_
  subst he
  refine ⟨(hlim.keeps F.keep).keeps x.toInCall.keep, codeAny_func ?_⟩
  obtain ⟨h₁, tk, rfl, _⟩ := x.done
  have hk₁ := x.toInCall.keep
  obtain ⟨cells, NC, Y⟩ := Cl.news (h₀ := s.heap) (Nat.le_refl _) fun n c hm => ⟨x.cell n c (lookup_of_mem_nodup (cellsFrom_names scope.names 0 (s.heap.objs.size + 1) [] [] rfl ▸ hnd) hm), x.above n c hm⟩
  refine wpAny_mono (h _ s.heap.objs.size h₁ tk cells FG ⟨x.toInCall.ns, fun b o e => hk₁ b o (of_hideAll _ e), Nat.le_of_eq (hideAll_size _ _)⟩ (fun p hp => ?_) Y BG st (fun p hp => Heap.lt_size (N p hp).1)) (fun fl s' hl => lv _ _ hl) fun _ _ y => y
  rcases List.mem_append.mp hp with hp | hp
  · refine ⟨(NC p hp).1, (NC p hp).2.1, ?_⟩
    cases q : (hideAll s.heap (news.map (·.1))).get? p.1 with
    | none => rfl
    | some o => have := of_hideAll _ q; rw [(NC p hp).2.2] at this; cases this
  · exact ⟨hk₁ _ _ (N p hp).1, Nat.ne_of_lt (Heap.lt_size (N p hp).1), hideAll_none _ (List.mem_map_of_mem hp)⟩
end

section
variable {M : Model} {A : Around} {E : Value → Shared → Prop} {s : Shared} {name qual : Str} {params : Arguments} {body : List Stmt} {scope : Scope} {env : Env} {c P : Addr} {ps : Array Value} {pos : Pos} {firstLine : Nat} {mg : Str → Option Value}
  {clos : List (Str × Addr)} {Q : Value → Shared → Prop}
theorem makeTail_S (hcl : closureFor scope env = pure clos) (hge0 : env.globals = mainGlobals) (hg : s.heap.Ns mainGlobals mg) (hcode : env.code = .ref c) (C : CodeHd s.heap c P) (hP : s.heap.get? P = some (tabObj ps)) (ht : TriplesOk ps.toList)
    (hnf : codeAmong pos ps.toList = none) (hgP : mainGlobals ≠ P) (hb : s.heap.BuiltinsAt mg P)
    (h : ∀ c' P' ctv doc h' tk, Heap.ExtBut P s.heap h' → s.heap.objs.size ≤ c' → c' < h'.objs.size → s.heap.objs.size ≤ P' → h'.CodeRec (.ref c') qual → CodeHd h' c' P' → h'.get? P' = some (tabObj #[]) → h'.get? P = some (tabObj (ps ++ #[rawInt pos.line, rawInt pos.col, .ref c'])) →
      Q (.ref h'.objs.size) { s with heap := h'.push (fnMade name qual params body scope clos doc ((mg "__name__").getD .none) c' ctv), toks := tk }) :
    wpAny M A (makeTail name qual params (.stmts body) scope env .none .none none pos firstLine) Q E s := by
  obtain ⟨bm, ob, hbm, hne0, _, hneP, hbo, hcls, hdict, hdata⟩ := hb
  unfold makeTail
  rw [hcl, hge0]
  refine wpAny_bind (wpAny_pure ?_)
  cases clos with
  | nil =>
    simp only [List.isEmpty_nil, if_true]
    refine wpAny_bind (wpAny_pure ?_)
    refine wpAny_bind (wpAny_functionCodeX hcode (C.code hP ht) (C.tab hP) hnf fun c' h' tk hx hge hlt _ hrec htb hP' => ?_)
    obtain ⟨P', hP1, hP2, hP3⟩ := hP'
    have hg' := hg.extBut hx hgP
    refine wpAny_bind (wpAny_builtinsFor hg' hbm hne0 (hx _ _ hneP hbo) hcls hdict hdata ?_)
    refine wpAny_bind (wpAny_nsGet hg' ?_)
    cases hdoc : docOf body with
    | none => exact wpAny_bind (wpAny_pure (wpAny_newObj_type (h c' P' .none .none h' tk hx hge hlt hP1 hrec (.of hP2 hP3) hP3.2 htb.2) (by size_fits)))
    | some t => exact wpAny_bind (wpAny_mkText (wpAny_newObj_type (h c' P' .none _ h' _ hx hge hlt hP1 hrec (.of hP2 hP3) hP3.2 htb.2) (by size_fits)))
  | cons q r =>
    simp only [List.isEmpty_cons, Bool.false_eq_true, if_false]
    refine wpAny_bind (wpAny_newTextTuple ?_)
    refine wpAny_bind (wpAny_functionCodeX hcode ((C.keeps fun b o e => Heap.get?_push_of_some _ e).code (Heap.get?_push_of_some _ hP) ht) ((C.keeps fun b o e => Heap.get?_push_of_some _ e).tab (Heap.get?_push_of_some _ hP)) hnf fun c' h' tk hx hge hlt _ hrec htb hP' => ?_)
    obtain ⟨P', hP1, hP2, hP3⟩ := hP'
    have hg' := (hg.push _).extBut hx hgP
    have hx' : Heap.ExtBut P s.heap h' := fun b o hb' e => hx b o hb' (Heap.get?_push_of_some _ e)
    have hge' : s.heap.objs.size ≤ c' := Nat.le_trans (by rw [Heap.size_push]; omega) hge
    have hP1' : s.heap.objs.size ≤ P' := Nat.le_trans (by rw [Heap.size_push]; omega) hP1
    refine wpAny_bind (wpAny_builtinsFor hg' hbm hne0 (hx' _ _ hneP hbo) hcls hdict hdata ?_)
    refine wpAny_bind (wpAny_nsGet hg' ?_)
    cases hdoc : docOf body with
    | none => exact wpAny_bind (wpAny_pure (wpAny_newObj_type (h c' P' _ .none h' tk hx' hge' hlt hP1' hrec (.of hP2 hP3) hP3.2 htb.2) (by size_fits)))
    | some t => exact wpAny_bind (wpAny_mkText (wpAny_newObj_type (h c' P' _ _ h' _ hx' hge' hlt hP1' hrec (.of hP2 hP3) hP3.2 htb.2) (by size_fits)))
end

section
variable {M : Model} {A : Around} {E : Value → Shared → Prop} {s : Shared} {h₀ : Heap} {L a c P : Addr} {m mg mb : Str → Option Value} {cn : Str} {cs : Scope} {ccd : Value} {cl : List (Str × Addr)} {news : List (Addr × Obj)}
  {p : Program} {loose : List Str} {mean : ExcName → Option Value} {name qual : Str} {params : Arguments} {body : List Stmt} {scope : Scope} {ps : Array Value} {pos : Pos} {firstLine : Nat} {clos : List (Str × Addr)}
/-- a def of which the table is in the ledger: the new code with its table -/
theorem nest_S {Q : Value → Shared → Prop} (F : Fr h₀ L s.heap m) (N : News h₀ L s.heap news) (T : Top p loose mean mg mb h₀) (C : CodeHd s.heap c P) (hcd : ccd = .ref c) (hmem : (P, tabObj ps) ∈ news) (ht : TriplesOk ps.toList) (hnf : codeAmong pos ps.toList = none)
    (hcl : closureFor scope (envX cn cs L a ccd cl) = pure clos)
    (h : ∀ f c' P' oc ctv doc h' tk, Fr h₀ L h' m →
      News h₀ L h' ((f, fnMade name qual params body scope clos doc ((mg "__name__").getD .none) c' ctv) :: (c', oc) :: (P', tabObj #[]) :: setN P (tabObj (ps ++ #[rawInt pos.line, rawInt pos.col, .ref c'])) news) →
      CodeOk oc P' qual → (∀ q ∈ news, q.1 < c' ∧ q.1 < P') → c' ≠ P' → c' < f → P' < f → Q (.ref f) { s with heap := h', toks := tk }) :
    wpAny M A (makeFunction name qual params (.stmts body) scope (envX cn cs L a ccd cl) [] [] [] pos firstLine) Q E s := by
  have hm := N (P, tabObj ps) hmem
  have hgs := T.g.keeps F.keep
  obtain ⟨bm, ob, b1, b2, b3, b4, b5, b6⟩ := T.bmain
  have hgP : mainGlobals ≠ P := fun q => by
    obtain ⟨o, es, ep, e, hd, _⟩ := hgs
    rw [q, hm.1] at e; cases e; cases hd
  have hbP : bm ≠ P := fun q => by
    have e := F.keep _ _ b3
    rw [q, hm.1] at e; cases e; cases b4
  have hbG : bm ≠ mainGlobals := fun q => by
    obtain ⟨o, es, ep, e, hd, _⟩ := T.g
    rw [q, e] at b3; cases b3; rw [hd] at b6; cases b6
  rw [makeFunction_eq]
  simp only [List.zip_nil_right, List.filterMap_nil, List.isEmpty_nil, if_true, pure_bind]
  refine makeTail_S (mg := mg) hcl rfl hgs hcd C hm.1 ht hnf hgP ⟨bm, ob, b1, b2, hbG, hbP, F.keep _ _ b3, b4, b5, b6⟩ fun c' P' ctv doc h' tk hx hge hlt hPge hrec hC' hP' htb => ?_
  obtain ⟨c₂, oc, vs, t, e2, hoc, hd, hv⟩ := hrec
  cases e2
  have hcP : c' ≠ P' := by obtain ⟨_, _, _, _, _, _, _, _, _, _, _, _, _, _, _, _, _, _, hne⟩ := hC'; exact hne
  have hok : CodeOk oc P' qual := by
    obtain ⟨o, vs', file, tf, flags, tg, inF, text, tt, e, f1, f2, f3, f4, f5, f6, f7, f8, _⟩ := hC'
    rw [hoc] at e; cases e
    rw [hd] at f2; cases f2
    exact ⟨vs, file, tf, flags, tg, inF, text, tt, t, f1, hd, f3, f4, f5, f6, f7, f8, hv⟩
  have hLs : L < s.heap.objs.size := F.ns.lt
  have hLc : L < c' := Nat.lt_of_lt_of_le hLs hge
  have hLP : L < P' := Nat.lt_of_lt_of_le hLs hPge
  have hPf : P' < h'.objs.size := Heap.lt_size hP'
  have old : ∀ b o, h₀.get? b = some o → h'.get? b = some o := fun b o e => hx b o (fun q => by rw [q, hm.2.2] at e; cases e) (F.keep b o e)
  have fresh : ∀ b, L < b → h₀.get? b = none := fun b hb => Heap.get?_none_of_le (Nat.le_trans F.above (Nat.le_of_lt hb))
  refine h h'.objs.size c' P' oc ctv doc _ tk ⟨(F.ns.extBut hx hm.2.1.symm).push _, fun b o e => Heap.get?_push_of_some _ (old b o e), F.above⟩ (fun q hq => ?_) hok
    (fun q hq => ⟨Nat.lt_of_lt_of_le (Heap.lt_size (N q hq).1) hge, Nat.lt_of_lt_of_le (Heap.lt_size (N q hq).1) hPge⟩) hcP hlt hPf
  rcases List.mem_cons.mp hq with rfl | hq
  · exact ⟨Heap.get?_push_size _ rfl, Nat.ne_of_gt (Nat.lt_trans hLc hlt), fresh _ (Nat.lt_trans hLc hlt)⟩
  · rcases List.mem_cons.mp hq with rfl | hq
    · exact ⟨Heap.get?_push_of_some _ hoc, Nat.ne_of_gt hLc, fresh _ hLc⟩
    · rcases List.mem_cons.mp hq with rfl | hq
      · exact ⟨Heap.get?_push_of_some _ hP', Nat.ne_of_gt hLP, fresh _ hLP⟩
      · rcases of_setN hq with rfl | ⟨hq, hne⟩
        · exact ⟨Heap.get?_push_of_some _ htb, hm.2⟩
        · have n := N q hq
          exact ⟨Heap.get?_push_of_some _ (hx _ _ hne n.1), n.2⟩
theorem nestHit_S {Q : Value → Shared → Prop} {c' : Addr} (F : Fr h₀ L s.heap m) (N : News h₀ L s.heap news) (T : Top p loose mean mg mb h₀) (C : CodeHd s.heap c P) (hcd : ccd = .ref c) (hmem : (P, tabObj ps) ∈ news) (ht : TriplesOk ps.toList) (hf : codeAmong pos ps.toList = some (.ref c'))
    (hcl : closureFor scope (envX cn cs L a ccd cl) = pure clos)
    (h : ∀ f ctv doc h' tk, Fr h₀ L h' m → News h₀ L h' ((f, fnMade name qual params body scope clos doc ((mg "__name__").getD .none) c' ctv) :: news) → (∀ q ∈ news, q.1 < f) → Q (.ref f) { s with heap := h', toks := tk }) :
    wpAny M A (makeFunction name qual params (.stmts body) scope (envX cn cs L a ccd cl) [] [] [] pos firstLine) Q E s := by
  have hm := N (P, tabObj ps) hmem
  have hgs := T.g.keeps F.keep
  obtain ⟨bm, ob, b1, b2, b3, b4, b5, b6⟩ := T.bmain
  have hbP : bm ≠ P := fun q => by
    have e := F.keep _ _ b3
    rw [q, hm.1] at e; cases e; cases b4
  have hbG : bm ≠ mainGlobals := fun q => by
    obtain ⟨o, es, ep, e, hd, _⟩ := T.g
    rw [q, e] at b3; cases b3; rw [hd] at b6; cases b6
  refine makeFunction_hit (mg := mg) hcl rfl hgs hcd C hm.1 ht hf ⟨bm, ob, b1, b2, hbG, hbP, F.keep _ _ b3, b4, b5, b6⟩ fun ctv doc h' tk hk hsz => ?_
  have hLs : L < h'.objs.size := Nat.lt_of_lt_of_le F.ns.lt hsz
  have fresh : ∀ b, L < b → h₀.get? b = none := fun b hb => Heap.get?_none_of_le (Nat.le_trans F.above (Nat.le_of_lt hb))
  refine h h'.objs.size ctv doc _ tk ⟨(F.ns.keeps hk).push _, fun b o e => Heap.get?_push_of_some _ (hk b o (F.keep b o e)), F.above⟩ (fun q hq => ?_) (fun q hq => Nat.lt_of_lt_of_le (Heap.lt_size (N q hq).1) hsz)
  rcases List.mem_cons.mp hq with rfl | hq
  · exact ⟨Heap.get?_push_size _ rfl, Nat.ne_of_gt hLs, fresh _ hLs⟩
  · exact ⟨Heap.get?_push_of_some _ (hk _ _ (N q hq).1), (N q hq).2⟩
theorem CodeOk.hd {oc : Obj} {q : Str} {h : Heap} (x : CodeOk oc P q) (N : News h₀ L h news) (hm : (c, oc) ∈ news) (hP : (P, tabObj ps) ∈ news) : CodeHd h c P := by
  obtain ⟨vs, file, tf, flags, tg, inF, text, tt, t, f1, hd, f3, f4, f5, f6, f7, f8, hv⟩ := x
  refine ⟨oc, vs, file, tf, flags, tg, inF, text, tt, (N _ hm).1, f1, hd, f3, f4, f5, f6, f7, f8, fun e => ?_⟩
  have h1 := (N _ hm).1
  have h2 := (N _ hP).1
  rw [show c = P from e] at h1
  rw [h1] at h2
  rw [show oc = tabObj ps from Option.some.inj h2] at f1
  cases f1
theorem CodeOk.nm {oc : Obj} {q : Str} (x : CodeOk oc P q) : CodeNm oc q := by
  obtain ⟨vs, file, tf, flags, tg, inF, text, tt, t, f1, hd, f3, f4, f5, f6, f7, f8, hv⟩ := x
  exact ⟨vs, t, hd, hv⟩
theorem CodeNm.rec {oc : Obj} {q : Str} {h : Heap} (x : CodeNm oc q) (N : News h₀ L h news) (hm : (c, oc) ∈ news) : h.CodeRec (.ref c) q := by
  obtain ⟨vs, t, e1, e2⟩ := x
  exact codeRec_news N hm e1 e2
end

section
variable {prog : Program} {w : World} {A A₀ : Around} {s : Shared} {K : Frag} {L : Addr} {h₀ base : Heap} {m mg mb : Str → Option Value} {news : List (Addr × Obj)} {p : Program} {loose : List Str} {mean : ExcName → Option Value}
theorem code_own {env : Env} {outer : List Env} {R : Result → Shared → Prop} {name qual : Str} {params : Arguments} {body : List Stmt} {scope : Scope} {cl : List (Str × Addr)} {doc pm ctv : Value} {c' : Addr} {f : Addr} {args : Args} {binds : List (Str × Value)}
    (own all : Nat → List (Str × Addr))
    (B : Below A₀ base outer h₀) (F : Fr h₀ L s.heap m) (X₀ : K.In h₀) (N : News h₀ L s.heap news) (T : Top p loose mean mg mb h₀) (hA : A.frames = some (env :: outer)) (hf : env.frame = some L) (hke : env.scope.kind = .function)
    (ho : (f, fnMade name qual params body scope cl doc pm c' ctv) ∈ news) (hcd : s.heap.CodeRec (.ref c') qual) (hroom : A.depth < recursionLimit)
    (hbind : BindsTo s (fnX name qual params body scope cl .none .none doc pm none (.ref c') ctv) args binds)
    (hown : ∀ n, cellsFrom n scope.names [] = own n) (hall : ∀ n, own n ++ cl = all n)
    (hkind : ∀ n, ∀ x ∈ binds, scope.names.lookup x.1 = some .cell ∧ ((own n).lookup x.1).isSome = true)
    (hnd : ((own 0).map (·.1)).Nodup)
    (h : ∀ g L' h₁ tk cells, Fr h₀ L g m → Fr g L' h₁ (fun _ => none) → News g L' h₁ (cells ++ news) → CellsAre (bindO binds fun _ => none) (own (L' + 1)) cells → Below A base (env :: outer) g → K.In g → Top p loose mean mg mb g → (∀ p ∈ news, p.1 < L') →
      wpAny (model prog w) (A.deeper (envX qual scope L' f (.ref c') (all (L' + 1)))) (execs body (envX qual scope L' f (.ref c') (all (L' + 1))))
        (fun fl s' => LeaveK h₀ L m g R (match fl with | .ret v => v | _ => .none) s')
        (fun e s' => wpAny (model prog w) (A.deeper (envX qual scope L' f (.ref c') (all (L' + 1)))) (leaving (envX qual scope L' f (.ref c') (all (L' + 1))) e) (fun _ s'' => R (.error e) s'') (fun e' s'' => R (.error e') s'') s')
        { s with heap := h₁, toks := tk })
    (hco : scope.isCoroutine = false) (hgen : scope.isGenerator = false) (hk : scope.kind = .function) : codeAny (model prog w) A (.call (.ref f) args) R s := by
  refine callX_own (cl := cl) B F N T.nolimit hA hf hke (N _ ho).1 rfl hcd hroom hbind (fun n => by rw [hown]; exact hkind n) (by rw [hown]; exact hnd) (fun g L' h₁ tk cells FG F' N' Y B' st lt => ?_) hco hgen hk
  rw [hown] at Y ⊢
  rw [hall]
  exact h g L' h₁ tk cells FG F' N' Y B' (X₀.keeps st) (T.keeps st) lt
end
end Mine

end
section
-- B2
open PySem PySem.W PyProof.Rows PySem.Calls PySem.Spec
namespace Mine
set_option maxRecDepth 100000
section
variable {tg tg' : Tags} {news news' : List (Addr × Obj)}
theorem Keeps.app (l : List (Addr × Obj)) : Keeps tg tg news (l ++ news) fun _ => True := ⟨fun _ h => ⟨List.mem_append_right _ h.1, h.2⟩, fun _ _ _ h _ _ => List.mem_append_right _ h, fun _ _ _ _ h => h, fun _ _ h => h⟩
theorem TagsOk.app (x : TagsOk tg news) (l : List (Addr × Obj)) : TagsOk tg (l ++ news) := ⟨x.inj, fun a t h => let ⟨o, ho⟩ := x.dom a t h; ⟨o, List.mem_append_right _ ho⟩, x.tmp⟩
theorem TabIs.hit {J : IP} {P c' : Addr} {ps : Array Value} {pos : Pos} {oc : Obj} {q : Str} (hmem : (P, tabObj (ps ++ #[rawInt pos.line, rawInt pos.col, .ref c'])) ∈ news) (ht : TriplesOk ps.toList) (hnf : codeAmong pos ps.toList = none)
    (hJ : J (c', oc)) (hn : CodeNm oc q) : TabIs J news P pos q := by
  have hl : (ps ++ #[rawInt pos.line, rawInt pos.col, Value.ref c']).toList = ps.toList ++ [rawInt pos.line, rawInt pos.col, .ref c'] := by simp
  refine ⟨_, hmem, ?_, .inr ⟨c', oc, ?_, hJ, hn⟩⟩
  · rw [hl]; exact TriplesOk_snoc _ _ _ _ ht
  · rw [hl, codeAmong_snoc _ ht hnf]
end
section
variable {K : Frag} {tg : Tags} {news : List (Addr × Obj)} {w : World} {cx : Cx} {σB σP : St}
theorem Wd.app (W : Wd w K cx σB σP tg news) (l : List (Addr × Obj)) : Wd w K cx σB σP tg (l ++ news) := W.keeps (Keeps.app l) (W.base.ok.app l)
theorem Wd.setS (W : Wd w K cx σB σP tg news) {ps : Array Value} {pos : Pos} {f c' P' : Addr} {oc oF oP : Obj} (hm : (cx.tS, tabObj ps) ∈ news) (ht : TriplesOk ps.toList) (hpos : dPos letsD = pos) (hnf : codeAmong pos ps.toList = none)
    (hlt : ∀ q ∈ news, q.1 < c') (hn : CodeNm oc qLets) :
    Wd w K cx σB σP tg ((f, oF) :: (c', oc) :: (P', oP) :: setN cx.tS (tabObj (ps ++ #[rawInt pos.line, rawInt pos.col, .ref c'])) news) ∧
      Keeps tg tg news ((f, oF) :: (c', oc) :: (P', oP) :: setN cx.tS (tabObj (ps ++ #[rawInt pos.line, rawInt pos.col, .ref c'])) news) fun q => q ≠ .tabS := by
  subst hpos
  have k := (Keeps.set (o' := tabObj (ps ++ #[rawInt (dPos letsD).line, rawInt (dPos letsD).col, .ref c'])) W.tabS.1 W.base.ok).trans ((Keeps.app [(f, oF), (c', oc), (P', oP)]).mono fun _ _ => trivial)
  have ok := (W.base.ok.set (D := cx.tS) (o' := tabObj (ps ++ #[rawInt (dPos letsD).line, rawInt (dPos letsD).col, .ref c']))).app [(f, oF), (c', oc), (P', oP)]
  have hh : TabIs (Lg ([(f, oF), (c', oc), (P', oP)] ++ setN cx.tS (tabObj (ps ++ #[rawInt (dPos letsD).line, rawInt (dPos letsD).col, .ref c'])) news) tg) ([(f, oF), (c', oc), (P', oP)] ++ setN cx.tS (tabObj (ps ++ #[rawInt (dPos letsD).line, rawInt (dPos letsD).col, .ref c'])) news) cx.tS (dPos letsD) qLets :=
    .hit (List.mem_append_right _ (mem_setN hm)) ht hnf ⟨List.mem_append_left _ (.tail _ (.head _)), tag_fresh W.base.ok hlt⟩ hn
  exact ⟨⟨W.base.mono k ok, W.heard.mono k nofun, W.due.mono k nofun, W.plain.mono k nofun, W.dx.mono k nofun, W.rows.mono k fun _ => nofun, W.dict.mono k (fun _ => nofun) fun _ _ => nofun, W.tabL.mono k nofun, ⟨W.tabS.1, hh⟩, W.tabR.mono k nofun, W.wfB, W.wfP, W.tagB, W.tagP, W.tagL⟩, k⟩
theorem Wd.setL (W : Wd w K cx σB σP tg news) {ps : Array Value} {pos : Pos} {f c' P' : Addr} {oc oF oP : Obj} (hm : (cx.tL, tabObj ps) ∈ news) (ht : TriplesOk ps.toList) (hpos : dPos hearsD = pos) (hnf : codeAmong pos ps.toList = none)
    (hlt : ∀ q ∈ news, q.1 < c') (hn : CodeNm oc qHears) :
    Wd w K cx σB σP tg ((f, oF) :: (c', oc) :: (P', oP) :: setN cx.tL (tabObj (ps ++ #[rawInt pos.line, rawInt pos.col, .ref c'])) news) ∧
      Keeps tg tg news ((f, oF) :: (c', oc) :: (P', oP) :: setN cx.tL (tabObj (ps ++ #[rawInt pos.line, rawInt pos.col, .ref c'])) news) fun q => q ≠ .tabL := by
  subst hpos
  have k := (Keeps.set (o' := tabObj (ps ++ #[rawInt (dPos hearsD).line, rawInt (dPos hearsD).col, .ref c'])) W.tabL.1 W.base.ok).trans ((Keeps.app [(f, oF), (c', oc), (P', oP)]).mono fun _ _ => trivial)
  have ok := (W.base.ok.set (D := cx.tL) (o' := tabObj (ps ++ #[rawInt (dPos hearsD).line, rawInt (dPos hearsD).col, .ref c']))).app [(f, oF), (c', oc), (P', oP)]
  have hh : TabIs (Lg ([(f, oF), (c', oc), (P', oP)] ++ setN cx.tL (tabObj (ps ++ #[rawInt (dPos hearsD).line, rawInt (dPos hearsD).col, .ref c'])) news) tg) ([(f, oF), (c', oc), (P', oP)] ++ setN cx.tL (tabObj (ps ++ #[rawInt (dPos hearsD).line, rawInt (dPos hearsD).col, .ref c'])) news) cx.tL (dPos hearsD) qHears :=
    .hit (List.mem_append_right _ (mem_setN hm)) ht hnf ⟨List.mem_append_left _ (.tail _ (.head _)), tag_fresh W.base.ok hlt⟩ hn
  exact ⟨⟨W.base.mono k ok, W.heard.mono k nofun, W.due.mono k nofun, W.plain.mono k nofun, W.dx.mono k nofun, W.rows.mono k fun _ => nofun, W.dict.mono k (fun _ => nofun) fun _ _ => nofun, ⟨W.tabL.1, hh⟩, W.tabS.mono k nofun, W.tabR.mono k nofun, W.wfB, W.wfP, W.tagB, W.tagP, W.tagL⟩, k⟩
end
end Mine

end
section
-- C1
open PySem PySem.W PyProof.Rows PySem.Calls PySem.Spec
namespace Mine
local macro_rules | `(tactic| walk_at "idle 0") => `(tactic| fail)
local macro_rules | `(tactic| walk_at "idle 1") => `(tactic| fail)
local macro_rules | `(tactic| walk_at "idle 2") => `(tactic| fail)
local macro_rules | `(tactic| walk_at "idle 3") => `(tactic| fail)
local macro_rules | `(tactic| walk_at "idle 4") => `(tactic| fail)
local macro_rules | `(tactic| walk_at "idle 5") => `(tactic| fail)
set_option maxRecDepth 100000
local macro_rules | `(tactic| k_mem) => `(tactic| assumption)
local macro_rules | `(tactic| walk_at "eval Name") => `(tactic| (k_here; kc_free; k_dflt (refine' nameX_F ?N ?c ?m ?d ?_ ?a ?b; (case a => rfl); (case b => rfl); (case N => k_asm); (case c => rfl); (case m => k_mem); (case d => k_asm); k_whole)))

theorem passes_fmod (n : Nat) : (((n : Nat) : Int).fmod 3 != 0) = passes n := by
  have h := Int.fmod_eq_emod_of_nonneg (n : Int) (show (0 : Int) ≤ 3 by decide)
  rw [h]
  unfold passes
  rw [Bool.eq_iff_iff, bne_iff_ne, bne_iff_ne]
  omega

set_option maxHeartbeats 1000000 in
theorem lets_ok {w : World} {cx : Cx} {σB σP : St} {tg : Tags} {num : Int} {fv v : Value} {d : PyData}
    {A₀ : Around} {base h₀ : Heap} {outer : List Env} {env : Env} {L : Addr} {m mg mb : PySem.Str → Option Value} {p : Program} {loose : List PySem.Str} {mean : ExcName → Option Value} {s : Shared} {news : List (Addr × Obj)} {dep un : Nat} {gd : Option (List Code)} {Q : Value → Shared → Prop} {E : Value → Shared → Prop}
    (B : Below A₀ base outer h₀) (X : (hd.heap_39 w.params).In h₀) (T : Top p loose mean mg mb h₀) (hf : env.frame = some L) (hk : env.scope.kind = .function) (hdep : dep + 5 < recursionLimit)
    (F : Fr h₀ L s.heap m) (N : News h₀ L s.heap news)
    (W : Wd w (hd.heap_39 w.params) cx σB σP tg news) (hfilt : FiltAt (Lg news tg) cx num fv) (hv : Rd w (Im (hd.heap_39 w.params) news tg) v d) (hsz : σB.log.length ≤ sizeLine)
    (hQ : ∀ h' tk news', Fr h₀ L h' m → News h₀ L h' news' → Wd w (hd.heap_39 w.params) cx (σB.say [.tuple [.int num, .str (PySem.Str.ofString "asked"), d]]) σP tg news' → Keeps tg tg news news' (fun q => q ≠ .heard) →
      Q (.bool (passes (σB.log.length + 1))) { s with heap := h', toks := tk }) :
    wpAny (model PySem.Challenge.rw_bi0010_01.row.prog w) ⟨none, dep, some (env :: outer), gd, un⟩ (call fv [v]) Q E s := by
  w_top off
  obtain ⟨f, cN, tN, rfl, hfn, hc⟩ := hfilt
  revert X; k_fill; intro X
  have hS : dScope letsD = dScope letsD := rfl
  conv at hS => rhs; whnf
  have hP : dParams letsD = dParams letsD := rfl
  conv at hP => rhs; whnf
  have hB : dBody letsD = dBody letsD := rfl
  conv at hB => rhs; whnf
  obtain ⟨nm, doc, pm, c', ctv, oc, ⟨h1, h1t⟩, ⟨h2, h2t⟩, h3⟩ := hfn
  clear h1t
  rw [hS, hP, hB] at h1
  clear hS hP hB
  unfold letsCl at h1
  obtain ⟨oN, ⟨hoN, hoNt⟩, hdN⟩ := hc
  obtain ⟨oH, ⟨hoH, hoHt⟩, hdH⟩ := W.base.cellHeard
  obtain ⟨_, hits, hn, hhm, hlog⟩ := W.heard
  refine wpAny_call ?_
  refine' code_nest (binds := [("data", v)]) B F X N T rfl hf hk h1 ?c1 ?c2 ?c3 ?c4 ?c5 ?c6 ?c7 ?c8 ?c9
  case c1 =>
    obtain ⟨vs, t, e1, e2⟩ := h3
    exact codeRec_news N h2 e1 e2
  case c2 => show dep < _; omega
  case c3 => exact BindsTo.of_eq rfl
  case c4 => exact locs rfl
  case c6 => rfl
  case c7 => rfl
  case c8 => rfl
  case c9 => decide
  case c5 =>
    clear h1
    intro g' L' h' FG' F' N' B' X' T'
    dsimp only [Around.deeper, Option.map]
    k_fold
    k_steps
    rename_i D' h₂ F₂ N₂ hlt
    refine appendHeard F₂ N₂ hlt W hsz (.int num tN) (.str _ _) hv ?_
    intro h₃ n₃ F₃ N₃ W₃ k₃
    obtain ⟨oH3, ⟨hoH3, _⟩, hdH3⟩ := W₃.base.cellHeard
    obtain ⟨_, its3, hn3, hm3, hl3⟩ := W₃.heard
    k_steps
    have hsz3 : its3.size = σB.log.length + 1 := by have := hl3.1; rw [Array.length_toList] at this; simpa [St.say] using this
    refine Calls.call_len_list (items := its3) ⟨_, (N₃ _ hm3).1, rfl, hn3, rfl⟩ ?_ ?_
    · rw [sizeLine_eq] at hsz; omega
    rw [hsz3]
    k_steps
    rw [passes_fmod]
    refine hQ _ _ _ ?_ ?_ W₃ k₃ <;> assumption
end Mine

end
section
-- C2
open PySem PySem.W PyProof.Rows PySem.Calls PySem.Spec
namespace Mine
local macro_rules | `(tactic| walk_at "idle 0") => `(tactic| fail)
local macro_rules | `(tactic| walk_at "idle 1") => `(tactic| fail)
local macro_rules | `(tactic| walk_at "idle 2") => `(tactic| fail)
local macro_rules | `(tactic| walk_at "idle 3") => `(tactic| fail)
local macro_rules | `(tactic| walk_at "idle 4") => `(tactic| fail)
local macro_rules | `(tactic| walk_at "idle 5") => `(tactic| fail)
local macro_rules | `(tactic| walk_at "idle 6") => `(tactic| fail)
set_option maxRecDepth 100000
local macro_rules | `(tactic| k_mem) => `(tactic| assumption)
local macro_rules | `(tactic| walk_at "eval Name") => `(tactic| (k_here; kc_free; k_dflt (refine' nameX_F ?N ?c ?m ?d ?_ ?a ?b; (case a => rfl); (case b => rfl); (case N => k_asm); (case c => rfl); (case m => k_mem); (case d => k_asm); k_whole)))

set_option maxHeartbeats 1000000 in
theorem sieve_ok {w : World} {cx : Cx} {σB σP : St} {tg : Tags} {num : Int} {tN0 : Tok}
    {A₀ : Around} {base h₀ : Heap} {outer : List Env} {env : Env} {L : Addr} {m mg mb : PySem.Str → Option Value} {p : Program} {loose : List PySem.Str} {mean : ExcName → Option Value} {s : Shared} {news : List (Addr × Obj)} {dep un : Nat} {gd : Option (List Code)} {Q : Value → Shared → Prop} {E : Value → Shared → Prop}
    (B : Below A₀ base outer h₀) (X : (hd.heap_39 w.params).In h₀) (T : Top p loose mean mg mb h₀) (hf : env.frame = some L) (hk : env.scope.kind = .function) (hdep : dep + 5 < recursionLimit)
    (F : Fr h₀ L s.heap m) (N : News h₀ L s.heap news)
    (W : Wd w (hd.heap_39 w.params) cx σB σP tg news)
    (hQ : ∀ h' tk v news', Fr h₀ L h' m → News h₀ L h' news' → Wd w (hd.heap_39 w.params) cx σB σP tg news' → Keeps tg tg news news' (fun q => q ≠ .tabS) → FiltAt (Lg news' tg) cx num v →
      Q v { s with heap := h', toks := tk }) :
    wpAny (model PySem.Challenge.rw_bi0010_01.row.prog w) ⟨none, dep, some (env :: outer), gd, un⟩ (call (.ref cx.fS) [.int num tN0]) Q E s := by
  w_top off
  revert X; k_fill; intro X
  have hS : dScope sieveD = dScope sieveD := rfl
  conv at hS => rhs; whnf
  have hP : dParams sieveD = dParams sieveD := rfl
  conv at hP => rhs; whnf
  have hB : dBody sieveD = dBody sieveD := rfl
  conv at hB => rhs; whnf
  obtain ⟨nm, doc, pm, c', ctv, oc, ⟨h1, h1t⟩, ⟨h2, h2t⟩, h3⟩ := W.base.fS
  clear h1t h2t
  rw [hS, hP, hB] at h1
  clear hS hP hB
  refine wpAny_call ?_
  refine' code_own (binds := [("number", .int num tN0)]) (fun n => [("number", n)]) (fun n => [("number", n), ("heard", cx.cHeard)]) B F X N T rfl hf hk h1 ?c1 ?c2 ?c3 ?c4 ?c5 ?c6 ?c7 ?c8 ?c9 ?c10 ?c11
  case c1 => exact h3.nm.rec N h2
  case c2 => show dep < _; omega
  case c3 => exact BindsTo.of_eq rfl
  case c4 => exact fun n => rfl
  case c5 => exact fun n => rfl
  case c6 =>
    intro n x hx
    rw [List.mem_singleton.mp hx]
    exact ⟨rfl, rfl⟩
  case c7 => decide
  case c9 => rfl
  case c10 => rfl
  case c11 => rfl
  case c8 =>
    clear h1
    intro g' L' h' tk cells FG' F' N' Y B' X' T' hlt
    obtain ⟨oN, rfl, hdN⟩ := Y.one
    simp only [List.cons_append, List.nil_append] at N'
    dsimp only [Around.deeper, Option.map]
    k_fold
    k_steps
    have hD : dPos letsD = dPos letsD := rfl
    conv at hD => rhs; whnf
    have W1 := W.cons (L' + 1, oN)
    have hltN : ∀ q ∈ news, q.1 < L' + 1 := fun q hq => Nat.lt_succ_of_lt (hlt q hq)
    have tN : tg (L' + 1) = none := tag_fresh W.base.ok hltN
    obtain ⟨ps, hps, htr, hcase⟩ := W1.tabS.2
    have h2' := List.mem_cons_of_mem (L' + 1, oN) h2
    refine' nestDef_K ?d0 ?k0 ?a0 ?_
    case d0 => exact rfl
    case k0 => exact rfl
    case a0 => exact rfl
    rw [hD] at hcase
    rcases hcase with hno | ⟨c2, oc2, hyes, ⟨hc2, hc2t⟩, hnm2⟩
    · refine' nest_S F' N' T' (h3.hd N' h2' hps) rfl hps htr hno ?cl ?_
      case cl => exact rfl
      intro f' c2 P2 oc2 ctv2 doc2 h2 tk2 F2 N2 hok hlt2 hne l1 l2
      have hlt3 : ∀ q ∈ ((L' + 1, oN) :: news), q.1 < c2 := fun q hq => (hlt2 q hq).1
      have tF : tg f' = none := tag_fresh W1.base.ok fun q hq => Nat.lt_trans (hlt3 q hq) l1
      have tC : tg c2 = none := tag_fresh W1.base.ok hlt3
      have ⟨W2, k2⟩ := W1.setS (f := f') (P' := P2) (oF := fnMade "lets" qLets (dParams letsD) (dBody letsD) (dScope letsD) [("number", L' + 1), ("heard", cx.cHeard)] doc2 ((mg "__name__").getD .none) c2 ctv2) (oP := tabObj #[]) hps htr hD hno hlt3 hok.nm
      k_steps
      refine hQ _ _ _ _ ?_ ?_ W2 ((Keeps.cons.mono fun _ _ => trivial).trans k2) ⟨f', L' + 1, tN0, rfl, ⟨_, _, _, _, _, _, ⟨.head _, tF⟩, ⟨.tail _ (.head _), tC⟩, hok.nm⟩, ⟨oN, k2.lg (L' + 1, oN) ⟨.head _, tN⟩, hdN⟩⟩ <;> assumption
    · refine' nestHit_S F' N' T' (h3.hd N' h2' hps) rfl hps htr hyes ?cl ?_
      case cl => exact rfl
      intro f' ctv2 doc2 h2 tk2 F2 N2 hlt2
      have tF : tg f' = none := tag_fresh W1.base.ok hlt2
      k_steps
      rename_i hA FA NA kF kN Tc kX
      refine hQ _ _ _ _ kF kN (W1.cons _) ((Keeps.cons.trans Keeps.cons).mono fun _ _ => trivial) ⟨f', L' + 1, tN0, rfl, ⟨_, _, _, _, _, _, ⟨.head _, tF⟩, ⟨.tail _ hc2, hc2t⟩, hnm2⟩, ⟨oN, ⟨.tail _ (.head _), tN⟩, hdN⟩⟩
end Mine

end
section
-- C3
open PySem PySem.W PyProof.Rows PySem.Calls PySem.Spec
namespace Mine
local macro_rules | `(tactic| walk_at "idle 0") => `(tactic| fail)
local macro_rules | `(tactic| walk_at "idle 1") => `(tactic| fail)
local macro_rules | `(tactic| walk_at "idle 2") => `(tactic| fail)
local macro_rules | `(tactic| walk_at "idle 3") => `(tactic| fail)
local macro_rules | `(tactic| walk_at "idle 4") => `(tactic| fail)
set_option maxRecDepth 100000
local macro_rules | `(tactic| k_mem) => `(tactic| assumption)
local macro_rules | `(tactic| walk_at "eval Name") => `(tactic| (k_here; kc_free; k_dflt (refine' nameX_F ?N ?c ?m ?d ?_ ?a ?b; (case a => rfl); (case b => rfl); (case N => k_asm); (case c => rfl); (case m => k_mem); (case d => k_asm); k_whole)))

set_option maxHeartbeats 1000000 in
theorem listener_ok {w : World} {cx : Cx} {σB σP : St} {tg : Tags} {num : Int} {kind : Nat} {name : Name} {tN0 tK0 : Tok} {vN : Value}
    {A₀ : Around} {base h₀ : Heap} {outer : List Env} {env : Env} {L : Addr} {m mg mb : PySem.Str → Option Value} {p : Program} {loose : List PySem.Str} {mean : ExcName → Option Value} {s : Shared} {news : List (Addr × Obj)} {dep un : Nat} {gd : Option (List Code)} {Q : Value → Shared → Prop} {E : Value → Shared → Prop}
    (B : Below A₀ base outer h₀) (X : (hd.heap_39 w.params).In h₀) (T : Top p loose mean mg mb h₀) (hf : env.frame = some L) (hk : env.scope.kind = .function) (hdep : dep + 5 < recursionLimit)
    (F : Fr h₀ L s.heap m) (N : News h₀ L s.heap news)
    (W : Wd w (hd.heap_39 w.params) cx σB σP tg news)
    (hvn : NmAt w (Im (hd.heap_39 w.params) news tg) name vN)
    (hQ : ∀ h' tk v news', Fr h₀ L h' m → News h₀ L h' news' → Wd w (hd.heap_39 w.params) cx σB σP tg news' → Keeps tg tg news news' (fun q => q ≠ .tabL) → FuncAt w (Im (hd.heap_39 w.params) news' tg) (Lg news' tg) cx num kind name v →
      Q v { s with heap := h', toks := tk }) :
    wpAny (model PySem.Challenge.rw_bi0010_01.row.prog w) ⟨none, dep, some (env :: outer), gd, un⟩ (call (.ref cx.fL) [.int num tN0, .int kind tK0, vN]) Q E s := by
  w_top off
  revert X; k_fill; intro X
  have hS : dScope listenerD = dScope listenerD := rfl
  conv at hS => rhs; whnf
  have hP : dParams listenerD = dParams listenerD := rfl
  conv at hP => rhs; whnf
  have hB : dBody listenerD = dBody listenerD := rfl
  conv at hB => rhs; whnf
  obtain ⟨nm, doc, pm, c', ctv, oc, ⟨h1, h1t⟩, ⟨h2, h2t⟩, h3⟩ := W.base.fL
  clear h1t h2t
  rw [hS, hP, hB] at h1
  clear hS hP hB
  refine wpAny_call ?_
  refine' code_own (binds := [("number", .int num tN0), ("kind", .int kind tK0), ("name", vN)]) (fun n => [("name", n + 2), ("kind", n + 1), ("number", n)]) (fun n => [("name", n + 2), ("kind", n + 1), ("number", n), ("plain", cx.cPlain), ("listener", cx.cListener), ("heard", cx.cHeard), ("bus", cx.cBus)]) B F X N T rfl hf hk h1 ?c1 ?c2 ?c3 ?c4 ?c5 ?c6 ?c7 ?c8 ?c9 ?c10 ?c11
  case c1 => exact h3.nm.rec N h2
  case c2 => show dep < _; omega
  case c3 => exact BindsTo.of_eq rfl
  case c4 => exact fun n => rfl
  case c5 => exact fun n => rfl
  case c6 =>
    intro n x hx
    simp only [List.mem_cons, List.not_mem_nil, or_false] at hx
    rcases hx with rfl | rfl | rfl <;> exact ⟨rfl, rfl⟩
  case c7 => decide
  case c9 => rfl
  case c10 => rfl
  case c11 => rfl
  case c8 =>
    clear h1
    intro g' L' h' tk cells FG' F' N' Y B' X' T' hlt
    obtain ⟨oNm, oK, oN, rfl, hdNm, hdK, hdN⟩ := Y.three
    simp only [List.cons_append, List.nil_append] at N'
    dsimp only [Around.deeper, Option.map]
    k_fold
    k_steps
    have hD : dPos hearsD = dPos hearsD := rfl
    conv at hD => rhs; whnf
    have W1 := W.app [(L' + 1 + 2, oNm), (L' + 1 + 1, oK), (L' + 1, oN)]
    have k1 : Keeps tg tg news ([(L' + 1 + 2, oNm), (L' + 1 + 1, oK), (L' + 1, oN)] ++ news) fun q => q ≠ .tabL := (Keeps.app [(L' + 1 + 2, oNm), (L' + 1 + 1, oK), (L' + 1, oN)]).mono fun _ _ => trivial
    have tN : tg (L' + 1) = none := tag_fresh W.base.ok fun q hq => Nat.lt_succ_of_lt (hlt q hq)
    have tK : tg (L' + 1 + 1) = none := tag_fresh W.base.ok fun q hq => Nat.lt_succ_of_lt (Nat.lt_succ_of_lt (hlt q hq))
    have tNm : tg (L' + 1 + 2) = none := tag_fresh W.base.ok fun q hq => Nat.lt_succ_of_lt (Nat.lt_succ_of_lt (Nat.lt_succ_of_lt (hlt q hq)))
    have gN : Lg ([(L' + 1 + 2, oNm), (L' + 1 + 1, oK), (L' + 1, oN)] ++ news) tg (L' + 1, oN) := ⟨.tail _ (.tail _ (.head _)), tN⟩
    have gK : Lg ([(L' + 1 + 2, oNm), (L' + 1 + 1, oK), (L' + 1, oN)] ++ news) tg (L' + 1 + 1, oK) := ⟨.tail _ (.head _), tK⟩
    have gNm : Lg ([(L' + 1 + 2, oNm), (L' + 1 + 1, oK), (L' + 1, oN)] ++ news) tg (L' + 1 + 2, oNm) := ⟨.head _, tNm⟩
    obtain ⟨ps, hps, htr, hcase⟩ := W1.tabL.2
    have h2' := List.mem_append_right [(L' + 1 + 2, oNm), (L' + 1 + 1, oK), (L' + 1, oN)] h2
    refine' nestDef_K ?d0 ?k0 ?a0 ?_
    case d0 => exact rfl
    case k0 => exact rfl
    case a0 => exact rfl
    rw [hD] at hcase
    rcases hcase with hno | ⟨c2, oc2, hyes, ⟨hc2, hc2t⟩, hnm2⟩
    · refine' nest_S F' N' T' (h3.hd N' h2' hps) rfl hps htr hno ?cl ?_
      case cl => exact rfl
      intro f' c2 P2 oc2 ctv2 doc2 h2 tk2 F2 N2 hok hlt2 hne l1 l2
      have hlt3 : ∀ q ∈ ([(L' + 1 + 2, oNm), (L' + 1 + 1, oK), (L' + 1, oN)] ++ news), q.1 < c2 := fun q hq => (hlt2 q hq).1
      have tF : tg f' = none := tag_fresh W1.base.ok fun q hq => Nat.lt_trans (hlt3 q hq) l1
      have tC : tg c2 = none := tag_fresh W1.base.ok hlt3
      have ⟨W2, k2⟩ := W1.setL (f := f') (P' := P2) (oF := fnMade "hears" qHears (dParams hearsD) (dBody hearsD) (dScope hearsD) (hearsCl cx (L' + 1) (L' + 1 + 1) (L' + 1 + 2)) doc2 ((mg "__name__").getD .none) c2 ctv2) (oP := tabObj #[]) hps htr hD hno hlt3 hok.nm
      k_steps
      rename_i hA FA NA kF kN Tc kX
      refine hQ _ _ _ _ kF kN W2 (k1.trans k2) ⟨f', L' + 1, L' + 1 + 1, L' + 1 + 2, tN0, tK0, vN, rfl, ⟨_, _, _, _, _, _, ⟨.head _, tF⟩, ⟨.tail _ (.head _), tC⟩, hok.nm⟩, ⟨oN, k2.lg _ gN, hdN⟩, ⟨oK, k2.lg _ gK, hdK⟩, ⟨oNm, k2.lg _ gNm, hdNm⟩, hvn.mono (k1.trans k2).im⟩
    · refine' nestHit_S F' N' T' (h3.hd N' h2' hps) rfl hps htr hyes ?cl ?_
      case cl => exact rfl
      intro f' ctv2 doc2 h2 tk2 F2 N2 hlt2
      have tF : tg f' = none := tag_fresh W1.base.ok hlt2
      k_steps
      rename_i hA FA NA kF kN Tc kX
      have k2 := fun pp => (Keeps.cons (p := pp) (tg := tg) (news := [(L' + 1 + 2, oNm), (L' + 1 + 1, oK), (L' + 1, oN)] ++ news)).mono (T' := fun q => q ≠ Tag.tabL) fun _ _ => trivial
      refine hQ _ _ _ _ kF kN (W1.cons _) (k1.trans (k2 _)) ⟨f', L' + 1, L' + 1 + 1, L' + 1 + 2, tN0, tK0, vN, rfl, ⟨_, _, _, _, _, _, ⟨.head _, tF⟩, ⟨.tail _ hc2, hc2t⟩, hnm2⟩, ⟨oN, (k2 _).lg _ gN, hdN⟩, ⟨oK, (k2 _).lg _ gK, hdK⟩, ⟨oNm, (k2 _).lg _ gNm, hdNm⟩, hvn.mono (k1.trans (k2 _)).im⟩
end Mine

end
section
-- G0
open PySem PySem.W PyProof.Rows PySem.Calls PySem.Spec
namespace Mine
set_option maxRecDepth 100000
section
variable {prog : Program} {w : World} {A : Around} {E : Value → Shared → Prop} {s : Shared}
theorem adjust_upto (a n : Nat) : Builtin.Slice.sliceAdjust none (some (a : Int)) 1 (n : Int) = (0, ((min a n : Nat) : Int)) := by
  unfold Builtin.Slice.sliceAdjust
  have h1 : ¬ ((1 : Int) < 0) := by omega
  have h2 : ¬ ((a : Int) < 0) := by omega
  simp only [h1, h2, if_false]
  congr 1
  omega
theorem places_upto (k : Nat) : Builtin.Slice.slicePlaces 0 (k : Int) 1 = k := by
  unfold Builtin.Slice.slicePlaces
  have h1 : (1 : Int) > 0 := by omega
  simp only [h1, if_true, Int.ediv_one]
  split <;> omega
theorem sliceApplied_upto {sl : Addr} {a n : Nat} {u : Tok} {Q : Int × Int × Nat → Shared → Prop} (hs : s.heap.IsSliceOf sl .none (.int a u) .none) (h : Q (0, 1, min a n) s) :
    wpAny (model prog w) A (Builtin.Slice.sliceApplied (.ref sl) (pure (n : Int))) Q E s := by
  obtain ⟨os, hos, hcs, hds⟩ := id hs
  unfold Builtin.Slice.sliceApplied Builtin.Slice.sliceFields
  refine wpAny_bind (wpAny_bind (wpAny_field hos hds (x := .none) rfl (wpAny_bind (wpAny_field hos hds (x := .int a u) rfl (wpAny_bind (wpAny_field hos hds (x := .none) rfl (wpAny_pure ?_)))))))
  refine wpAny_bind (slicePart_none ?_)
  show wpAny _ _ (if ((1 : Int) == 0) = true then _ else _) _ _ s
  rw [if_neg (by decide)]
  refine wpAny_bind (slicePart_none (wpAny_bind (slicePart_int (wpAny_bind (wpAny_pure ?_)))))
  show wpAny _ _ (match Builtin.Slice.sliceAdjust none (some (a : Int)) 1 (n : Int) with | (lo, hi) => pure (lo, (1 : Int), Builtin.Slice.slicePlaces lo hi 1)) _ _ s
  rw [adjust_upto a n]
  show wpAny _ _ (pure ((0 : Int), (1 : Int), Builtin.Slice.slicePlaces 0 ((min a n : Nat) : Int) 1)) _ _ s
  rw [places_upto]
  exact wpAny_pure h
theorem pick_upto (xs : Array Value) (k : Nat) : ((List.range k).filterMap fun (j : Nat) => xs[((0 : Int) + (j : Int) * 1).toNat]?).toArray = (xs.toList.take k).toArray := by
  have e : (fun (j : Nat) => xs[((0 : Int) + (j : Int) * 1).toNat]?) = fun j => xs[0 + j]? := by
    funext j
    have : ((0 : Int) + (j : Int) * 1).toNat = 0 + j := by omega
    rw [this]
  rw [e]
  have := pick_run xs 0 k
  rw [List.filterMap_map] at this
  have e2 : ((fun x => xs[x]?) ∘ fun x => 0 + x) = fun k => xs[0 + k]? := rfl
  rw [e2] at this
  rw [this, List.drop_zero]
theorem getItem_upto {t sl : Addr} {items : Array Value} {a : Nat} {u : Tok} {Q : Value → Shared → Prop} (ht : IsTup s.heap t items) (hs : s.heap.IsSliceOf sl .none (.int a u) .none)
    (h1 : items.size ≤ a → Q (.ref t) s)
    (h2 : a < items.size → Q (.ref s.heap.objs.size) { s with heap := s.heap.push { cls := .type "tuple", data := .seq (items.toList.take a).toArray } })
    (hsz : items.size ≤ sizeLine) : wpAny (model prog w) A (getItem (.ref t) (.ref sl)) Q E s := by
  obtain ⟨os, hos, hcs, hds⟩ := id hs
  have hTs : s.TypeIs (.ref sl) "slice" := ⟨os, hos, hcs⟩
  unfold getItem
  try with_reducible refine wpAny_holding ?_
  first | refine wpAny_bind (wpAny_pure ?_) | skip
  refine wpAny_bind (wpAny_sequenceKey ht.typeIs (by decide) ?_)
  refine wpAny_bind (wpAny_callSpecial?_slot (name := Str.ofString "__getitem__") ht.typeIs slot_tuple_getitem
    (wpAny_call_entry slot_tuple_getitem ht.typeIs entry_tuple_getitem ?_ (args_tuple_getitem _ _)))
  show wpAny _ _ (Builtin.Tuple.tupleItemsOf (.ref t) >>= _) _ _ s
  refine wpAny_bind (tupleItemsOf_ ht ?_)
  refine wpAny_bind (wpAny_typeOf hTs ?_)
  rw [if_pos (by decide)]
  refine wpAny_bind (sliceApplied_upto hs ?_)
  show wpAny _ _ (if ((0 : Int) == 0 && (1 : Int) == 1 && (min a items.size) == items.size) = true then _ else _) _ _ s
  by_cases hle : items.size ≤ a
  · have e : min a items.size = items.size := by omega
    rw [e, if_pos (by simp)]
    refine wpAny_bind (wpAny_bind (wpAny_typeOf ht.typeIs ?_))
    refine wpAny_pure ?_
    rw [if_pos (by decide)]
    exact wpAny_bind (wpAny_rule (wpAny_pure ⟨_, rfl, wpAny_pure (h1 hle)⟩))
  · have e : min a items.size = a := by omega
    have hne : (a == items.size) = false := by rw [beq_eq_false_iff_ne]; omega
    rw [e, if_neg (by rw [hne]; simp), pick_upto items a]
    have htake : sizeOk (.seq (items.toList.take a).toArray) := by
      show (items.toList.take a).toArray.size ≤ sizeLine
      rw [List.size_toArray, List.length_take, Array.length_toList]
      omega
    first
      | exact wpAny_bind (m := Builtin.Tuple.tupleExact _) (wpAny_newObj_type (wpAny_pure ⟨_, rfl, wpAny_pure (h2 (by omega))⟩) htake)
      | exact wpAny_bind (m := Builtin.Tuple.tupleExact _) (wpAny_newObj_type (wpAny_bind (wpAny_pure (wpAny_pure ⟨_, rfl, wpAny_pure (h2 (by omega))⟩))) htake)
      | exact wpAny_bind (wpAny_bind (m := Builtin.Tuple.tupleExact _) (wpAny_newObj_type (wpAny_pure (wpAny_pure ⟨_, rfl, wpAny_pure (h2 (by omega))⟩)) htake))
      | exact wpAny_bind (wpAny_bind (m := Builtin.Tuple.tupleExact _) (wpAny_newObj_type (wpAny_pure ⟨_, rfl, wpAny_pure (h2 (by omega))⟩) htake))
end
end Mine

end
section
-- G1
open PySem PySem.W PyProof.Rows PySem.Calls PySem.Spec
open Sem (wp)
namespace Mine
set_option maxRecDepth 100000
abbrev eltE (p1 p2 p3 p4 : Pos) : Expr := .Subscript (.Name "identifier" p1) (.Slice none (some (.Name "i" p2)) none p3) p4
section
variable {prog : Program} {w : World} {A : Around} {E : Value → Shared → Prop} {s : Shared} {cenv : Env} {m : Str → Option Value} {cI tI : Addr} {oCell : Obj} {items : Array Value} {p1 p2 p3 p4 : Pos}
theorem elt_ok {a : Nat} {t : Tok} {Q : Value → Shared → Prop} (hk : cenv.scope.kind = .function) (hid : cenv.kindOf "identifier" = some .free) (hi : cenv.kindOf "i" = some .local) (hc : cenv.cells.lookup ("identifier" : PySem.Str) = some cI)
    (hn : s.heap.Ns cenv.locals m) (hm : m "i" = some (.int a t)) (ho : s.heap.get? cI = some oCell) (hd : oCell.data = .cell (some (.ref tI))) (ht : IsTup s.heap tI items) (hsz : items.size ≤ sizeLine)
    (h1 : ∀ sl, items.size ≤ a → Q (.ref tI) { s with heap := s.heap.push sl })
    (h2 : ∀ sl, a < items.size → Q (.ref (s.heap.push sl).objs.size) { s with heap := (s.heap.push sl).push { cls := .type "tuple", data := .seq (items.toList.take a).toArray } }) :
    wpAny (model prog w) A (eval (eltE p1 p2 p3 p4) cenv) Q E s := by
  refine wpAny_Subscript_Slice slot_tuple_getitem.lookup ?_ (fun o r => rfl)
  refine wpAny_Name (wpAny_loadName_free hk hid hc ⟨oCell, ho, hd⟩ ?_) (by decide)
  refine wpAny_Slice ?_
  refine wpAny_pure ?_
  refine wpAny_Name (wpAny_loadName_local hk hi hn hm ?_) (by decide)
  refine wpAny_pure ?_
  have ht' : ∀ sl, IsTup (s.heap.push sl) tI items := fun sl => ht.keeps fun _ _ e => Heap.get?_push_of_some _ e
  refine ⟨(ht' _).typeIs, getItem_upto (s := ⟨_, _, _, _, _⟩) (ht' _) (Heap.IsSliceOf.new ..) (h1 _) (h2 _) hsz⟩
end

def Yield (tI : Addr) (items : Array Value) (j : Nat) (v : Value) (h0 h : Heap) : Prop :=
  ∃ t, v = .ref t ∧ ((t = tI ∧ items.size ≤ j + 1) ∨ (j + 1 < items.size ∧ h.get? t = some { cls := .type "tuple", data := .seq (items.toList.take (j + 1)).toArray } ∧ ∀ b o, h0.get? b = some o → b < t))
def Foot (C I cI tI : Addr) (h h' : Heap) : Prop := ∀ b ∈ [C, I, cI, tI], ∀ o, h.get? b = some o → h'.get? b = some o
def gProto (C I cI tI : Addr) (items : Array Value) : Protocol := fun m s₀ v s kap =>
  Yield tI items (items.size - 1 - m) v s₀.heap s.heap ∧ GenSince C [I] s₀ s ∧ (∃ oC, s.heap.get? C = some oC) ∧ (∃ oI, s.heap.get? I = some oI) ∧ ∀ s'' : Shared, Foot C I cI tI s.heap s''.heap → kap (.send .none) s''
abbrev gEnd (C I : Addr) : GenEnd := fun n s₀ r s₁ => r = .ok .next ∧ (n = 0 ∧ GenSince C [I] s₀ s₁)

section
variable {prog : Program} {w : World} {A : Around} {cenv : Env} {cI tI I : Addr} {oCell : Obj} {items : Array Value} {p1 p2 p3 p4 : Pos} {iter : Expr} {px : Pos} {scope : Scope} {pos : Pos}
structure GOk (cenv : Env) (I cI tI : Addr) (oCell : Obj) (items : Array Value) : Prop where
  kind : cenv.scope.kind = .function
  co : cenv.scope.isCoroutine = false
  hid : cenv.kindOf "identifier" = some .free
  hi : cenv.kindOf "i" = some .local
  hc : cenv.cells.lookup ("identifier" : PySem.Str) = some cI
  hd : oCell.data = .cell (some (.ref tI))
  hsz : items.size ≤ sizeLine
  n1 : cenv.locals ≠ I
  n2 : cenv.locals ≠ cI
  n3 : cenv.locals ≠ tI
  n4 : I ≠ cI
  n5 : I ≠ tI
theorem seg_loop (hh : A.handled = none) (G : GOk cenv I cI tI oCell items) :
    ∀ (k i : Nat) (s₀ s : Shared) (m : Str → Option Value), items.size - i = k → i ≤ items.size → IsRangeIter s.heap I (1 + (i : Int)) ((items.size : Int) - (i : Int)) 1 → s.heap.Ns cenv.locals m → s.heap.get? cI = some oCell → IsTup s.heap tI items →
      GenSince cenv.locals [I] s₀ s →
      Seg (model prog w) A (gEnd cenv.locals I) (gProto cenv.locals I cI tI items) (items.size - i) s₀
        (.compLoop (.GeneratorExp (eltE p1 p2 p3 p4) [⟨.Name "i" px, iter, [], 0⟩] scope pos) 0 (.ref I) .none cenv)
        ((model prog w).den (.compLoop (.GeneratorExp (eltE p1 p2 p3 p4) [⟨.Name "i" px, iter, [], 0⟩] scope pos) 0 (.ref I) .none cenv)) [] s := by
  have hh' : (A.over (.compLoop (.GeneratorExp (eltE p1 p2 p3 p4) [⟨.Name "i" px, iter, [], 0⟩] scope pos) 0 (.ref I) .none cenv) []).handled = none := hh
  have hp : (cenv.scope.kind == .class || (cenv.scope.kind == .module && cenv.locals != cenv.globals)) = false := by rw [G.kind]; rfl
  intro k
  induction k with
  | zero =>
    intro i s₀ s m hk hi hst hn hcell htup hsince
    have hin : i = items.size := by omega
    subst hin
    show Seg _ A _ _ _ s₀ _ ((compTurn (.GeneratorExp (eltE p1 p2 p3 p4) [⟨.Name "i" px, iter, [], 0⟩] scope pos) 0 (.ref I) .none cenv).onRaise (leaving cenv)) [] s
    rw [compTurn_gen, Sem.onRaise_eq_wrap]
    refine seg_bind_wrap (wpAny_standAt ?_)
    refine seg_bind_wrap (wpAny_pyNext_range_end hh' hst (by omega) fun h' he' => ?_)
    exact seg_end (.ok .next) ⟨rfl, by omega, hsince.step (tk := s.toks) fun b o _ hw e => he' b o (fun q => hw (by simp [q])) e⟩
  | succ k ih =>
    intro i s₀ s m hk hi hst hn hcell htup hsince
    have hlt : i < items.size := by omega
    show Seg _ A _ _ _ s₀ _ ((compTurn (.GeneratorExp (eltE p1 p2 p3 p4) [⟨.Name "i" px, iter, [], 0⟩] scope pos) 0 (.ref I) .none cenv).onRaise (leaving cenv)) [] s
    rw [compTurn_gen, Sem.onRaise_eq_wrap]
    refine seg_bind_wrap (wpAny_standAt ?_)
    refine seg_bind_wrap (wpAny_pyNext_range_item hst (by omega) fun h₁ hit₁ hs₁ => ?_)
    refine seg_bind_wrap (wpAny_of_eq (rfl : letOwnedTupleGo (.Name "i" px) (.ref I) _ = pure ()) ?_)
    refine seg_bind_wrap (wpAny_assign_Name (wpAny_storeName_local G.hi (hn.at' fun o e => hs₁.extBut _ o G.n1 e) (fun h₂ hn₂ hs₂ => ?_) hp))
    have up₂ : ∀ b o, b ≠ cenv.locals → b ≠ I → s.heap.get? b = some o → h₂.get? b = some o := fun b o hbC hbw e => hs₂.extBut b o hbC (hs₁.extBut b o hbw e)
    refine seg_bind_wrap (wpAny_of_eq (rfl : (forIn ([] : List Expr) true _ : Sem Bool) = pure true) ?_)
    simp only [if_true]
    have hy : ∀ v, yieldOut cenv v = yieldValue v := fun v => by simp only [yieldOut, G.co, Bool.false_eq_true, if_false]
    simp only [hy]
    rw [Sem.bind_eq_wrap', Sem.bind_eq_wrap', Sem.wrap_wrap, Sem.wrap_wrap]
    have hit₂ : IsRangeIter h₂ I (1 + ((i + 1 : Nat) : Int)) ((items.size : Int) - ((i + 1 : Nat) : Int)) 1 := by
      have e1 : (1 + ((i + 1 : Nat) : Int)) = 1 + (i : Int) + 1 := by omega
      have e2 : ((items.size : Int) - ((i + 1 : Nat) : Int)) = (items.size : Int) - (i : Int) - 1 := by omega
      rw [e1, e2]
      exact hs₂.extBut _ _ (Ne.symm G.n1) hit₁
    have hc₂ := up₂ cI _ (Ne.symm G.n2) (Ne.symm G.n4) hcell
    have ht₂ : IsTup h₂ tI items := by
      obtain ⟨o, ho, r⟩ := htup
      exact ⟨o, up₂ _ _ (Ne.symm G.n3) (Ne.symm G.n5) ho, r⟩
    have alive : ∀ b o, s₀.heap.get? b = some o → ∃ o', h₂.get? b = some o' := fun b o e => by
      by_cases b1 : b = cenv.locals
      · obtain ⟨o', _, _, ho', _⟩ := hn₂; exact ⟨o', by rw [b1]; exact ho'⟩
      · by_cases b2 : b = I
        · exact ⟨_, by rw [b2]; exact hit₂⟩
        · obtain ⟨hx, tkx, rfl, hkx⟩ := hsince
          exact ⟨o, up₂ _ _ b1 b2 (hkx b o b1 (by simp [b2]) e)⟩
    have e0 : items.size - i = (items.size - (i + 1)) + 1 := by omega
    have nxt : ∀ (h₃ : Heap) (tk₃ : Nat), (∀ b o, h₂.get? b = some o → h₃.get? b = some o) → ∀ s'' : Shared, Foot cenv.locals I cI tI h₃ s''.heap →
        Seg (model prog w) A (gEnd cenv.locals I) (gProto cenv.locals I cI tI items) (items.size - (i + 1)) s''
        (.compLoop (.GeneratorExp (eltE p1 p2 p3 p4) [⟨.Name "i" px, iter, [], 0⟩] scope pos) 0 (.ref I) .none cenv)
        ((model prog w).den (.compLoop (.GeneratorExp (eltE p1 p2 p3 p4) [⟨.Name "i" px, iter, [], 0⟩] scope pos) 0 (.ref I) .none cenv)) [] s'' := by
      intro h₃ tk₃ hk₃ s'' hal
      refine ih (i + 1) s'' s'' _ (by omega) hlt (hal I (by simp) _ (hk₃ _ _ hit₂)) ((hn₂.keeps hk₃).at' fun o e => hal _ (by simp) o e) (hal _ (by simp) _ (hk₃ _ _ hc₂)) ?_ (GenSince.refl _ _ _)
      obtain ⟨o, ho, r⟩ := ht₂
      exact ⟨o, hal _ (by simp) _ (hk₃ _ _ ho), r⟩
    have since : ∀ (h₃ : Heap) (tk₃ : Nat), (∀ b o, h₂.get? b = some o → h₃.get? b = some o) → GenSince cenv.locals [I] s₀ { s with heap := h₃, toks := tk₃ } := fun h₃ tk₃ hk₃ =>
      hsince.step fun b o hbC hbw e => hk₃ b o (up₂ b o hbC (fun q => hbw (by simp [q])) e)
    have oC : ∃ oC, h₂.get? cenv.locals = some oC := by obtain ⟨o', _, _, ho', _⟩ := hn₂; exact ⟨o', ho'⟩
    rw [e0]
    refine seg_wrap (elt_ok (a := i + 1) (t := s.toks) G.kind G.hid G.hi G.hc hn₂ (by simp; omega) hc₂ G.hd ht₂ G.hsz (fun sl hle => ?_) (fun sl hl => ?_))
    · have kk : ∀ b o, h₂.get? b = some o → (h₂.push sl).get? b = some o := fun b o e => Heap.get?_push_of_some _ e
      refine seg_at (seg_yield rfl rfl rfl ⟨⟨tI, rfl, .inl ⟨rfl, by omega⟩⟩, since _ _ kk, ⟨_, kk _ _ oC.choose_spec⟩, ⟨_, kk _ _ hit₂⟩, fun s'' hal => ?_⟩)
      exact seg_again rfl (nxt _ s.toks kk s'' hal)
    · have kk : ∀ b o, h₂.get? b = some o → ((h₂.push sl).push { cls := .type "tuple", data := .seq (items.toList.take (i + 1)).toArray }).get? b = some o := fun b o e => Heap.get?_push_of_some _ (Heap.get?_push_of_some _ e)
      have ei : items.size - 1 - (items.size - (i + 1)) = i := by omega
      refine seg_at (seg_yield rfl rfl rfl ⟨⟨_, rfl, .inr ⟨by omega, ?_, ?_⟩⟩, since _ _ kk, ⟨_, kk _ _ oC.choose_spec⟩, ⟨_, kk _ _ hit₂⟩, fun s'' hal => ?_⟩)
      · rw [ei]; exact Heap.get?_push_size _ rfl
      · intro b o e
        obtain ⟨o', ho'⟩ := alive b o e
        exact Heap.lt_size (Heap.get?_push_of_some sl ho')
      · exact seg_again rfl (nxt _ s.toks kk s'' hal)
end
end Mine

end
section
-- G2
open PySem PySem.W PyProof.Rows PySem.Calls PySem.Spec
open Sem (wp)
namespace Mine
set_option maxRecDepth 100000
section
variable {prog : Program} {w : World} {A : Around} {cenv : Env} {cI tI I : Addr} {oCell : Obj} {items : Array Value} {p1 p2 p3 p4 : Pos} {iter : Expr} {px : Pos} {scope : Scope} {pos : Pos}
theorem seg_start (hh : A.handled = none) (G : GOk cenv I cI tI oCell items) (s₀ s : Shared) (m : Str → Option Value) (hst : IsRangeIter s.heap I 1 (items.size : Int) 1) (hn : s.heap.Ns cenv.locals m) (hcell : s.heap.get? cI = some oCell) (htup : IsTup s.heap tI items)
    (hsince : GenSince cenv.locals [I] s₀ s) :
    Seg (model prog w) A (gEnd cenv.locals I) (gProto cenv.locals I cI tI items) items.size s₀
      (.compStart (.GeneratorExp (eltE p1 p2 p3 p4) [⟨.Name "i" px, iter, [], 0⟩] scope pos) 0 (.ref I) .none cenv)
      ((model prog w).den (.compStart (.GeneratorExp (eltE p1 p2 p3 p4) [⟨.Name "i" px, iter, [], 0⟩] scope pos) 0 (.ref I) .none cenv)) [] s := by
  have loop := seg_loop (prog := prog) (w := w) (p1 := p1) (p2 := p2) (p3 := p3) (p4 := p4) (iter := iter) (px := px) (scope := scope) (pos := pos) hh G items.size 0 s₀ s m (Nat.sub_zero _) (Nat.zero_le _) (by simpa using hst) hn hcell htup hsince
  rw [Nat.sub_zero] at loop
  show Seg _ A _ _ _ s₀ _ ((compStart (.GeneratorExp (eltE p1 p2 p3 p4) [⟨.Name "i" px, iter, [], 0⟩] scope pos) 0 (.ref I) .none cenv).onRaise (leaving cenv)) [] s
  unfold compStart
  rw [Sem.onRaise_eq_wrap]
  show Seg _ A _ _ _ s₀ _ ((ask >>= _).wrap _ _ _ _) [] s
  refine seg_bind_wrap (wpAny_askSetting ?_)
  split
  · exact seg_again rfl loop
  · first
      | exact seg_bind_wrap (wpAny_rule (seg_bind_wrap (wpAny_standAt (seg_bind_wrap (wpAny_pyIter_rangeiter hst (seg_again rfl loop))))))
      | (refine seg_bind_wrap (wpAny_rule ?_); show Seg _ A _ _ _ s₀ _ ((standAt iter.pos >>= _).wrap _ _ _ _) [] s; exact seg_bind_wrap (wpAny_standAt (seg_bind_wrap (wpAny_pyIter_rangeiter hst (seg_again rfl loop)))))
end

def IsGenObj (oG : Obj) (g : Nat) : Prop := ∃ nm qn, oG.cls = .type "generator" ∧ oG.data = .fields #[.int g 0, nm, qn] ∧ oG.slots = #[]
/-- the generator, asleep ahead of its item j -/
def GenL (prog : Program) (w : World) (Ag : Around) (C I cI tI : Addr) (oCell oT oC oI : Obj) (items : Array Value) (g j : Nat) (gens : Array GenState) : Prop :=
  ∃ gs, gens[g]? = some gs ∧ gs.bare = true ∧ ∀ s'' : Shared, s''.heap.get? C = some oC → s''.heap.get? I = some oI → s''.heap.get? cI = some oCell → s''.heap.get? tI = some oT →
    gs.Goes (model prog w) Ag (gEnd C I) (gProto C I cI tI items) (items.size - j) (.send .none) s''

theorem bare_set {gens : Array GenState} {g : Nat} {x : GenState} (h : AllBare gens) (hx : x.bare = true) : AllBare (gens.set! g x) := by
  intro y hy
  rw [Array.set!_eq_setIfInBounds] at hy
  rcases Array.mem_or_eq_of_mem_setIfInBounds hy with h1 | h1
  · exact h y h1
  · rw [h1]; exact hx
section
variable {prog : Program} {w : World} {A : Around} {E : Value → Shared → Prop} {s : Shared} {h₀ : Heap} {L : Addr} {m : Str → Option Value} {news : List (Addr × Obj)} {C I cI tI a g j : Nat} {oCell oT oC oI oG : Obj} {items : Array Value}
theorem gen_next {Q : Option Value → Shared → Prop} (hh : A.handled = none) (hl : s.heap.NoLimit) (hroom : A.depth < recursionLimit) (F : Fr h₀ L s.heap m)
    (N : News h₀ L s.heap ((C, oC) :: (I, oI) :: (a, oG) :: news)) (hG : IsGenObj oG g) (hcell : s.heap.get? cI = some oCell) (htup : s.heap.get? tI = some oT)
    (X : GenL prog w A.in1 C I cI tI oCell oT oC oI items g j s.gens) (hj : j < items.size) (n1 : C ≠ a) (n2 : I ≠ a) (n3 : cI ≠ C) (n4 : cI ≠ I) (n5 : tI ≠ C) (n6 : tI ≠ I) (hd : ∀ p ∈ news, p.1 ≠ C ∧ p.1 ≠ I)
    (h : ∀ h' tk gens' oC' oI' v, Fr h₀ L h' m → News h₀ L h' ((C, oC') :: (I, oI') :: (a, oG) :: news) → (AllBare s.gens → AllBare gens') → GenL prog w A.in1 C I cI tI oCell oT oC' oI' items g (j + 1) gens' →
      Yield tI items j v s.heap h' → Q (some v) { s with heap := h', gens := gens', toks := tk }) :
    wpAny (model prog w) A (pyNext (.ref a)) Q E s := by
  obtain ⟨gs, hgs, hb, hgo⟩ := X
  obtain ⟨k, hk⟩ : ∃ k, items.size - j = k + 1 := ⟨items.size - j - 1, by omega⟩
  rw [hk] at hgo
  obtain ⟨nm, qn, g1, g2, g3⟩ := hG
  have hC := (N _ (.head _)).1
  have hI := (N _ (.tail _ (.head _))).1
  have ha := (N _ (.tail _ (.tail _ (.head _)))).1
  refine wpAny_pyNext_genexpQ (P := fun n s₀ s₁ => n = 0 ∧ GenSince C [I] s₀ s₁) hh hl hroom ⟨oG, nm, qn, ha, g1, g2, g3⟩ hgs (hgo _ hC hI hcell htup) (fun v s₁ gs' hb' hv => ?_) (fun s₁ hp h' hk => ?_)
  · obtain ⟨hY, ⟨h₁, tk₁, rfl, hk₁⟩, ⟨oC', hC'⟩, ⟨oI', hI'⟩, hkap⟩ := hv
    have keep : ∀ b o, b ≠ C → b ≠ I → s.heap.get? b = some o → h₁.get? b = some o := fun b o q1 q2 e => hk₁ b o q1 (by simp [q2]) e
    have ei : items.size - 1 - (k + 1 - 1) = j := by omega
    rw [ei] at hY
    refine h h₁ tk₁ _ oC' oI' v ⟨F.ns.at' fun o e => keep _ _ (Ne.symm (N _ (.head _)).2.1) (Ne.symm (N _ (.tail _ (.head _))).2.1) e, fun b o e => keep b o (fun q => ?_) (fun q => ?_) (F.keep b o e), F.above⟩
      (fun p hp => ?_) (fun hA => ?_) ⟨gs', setGen_self (gs := .running) (setGen_self hgs), hb', fun s'' e1 e2 e3 e4 => ?_⟩ hY
    · have := (N _ (.head _)).2.2; rw [q] at e; rw [this] at e; cases e
    · have := (N _ (.tail _ (.head _))).2.2; rw [q] at e; rw [this] at e; cases e
    · rcases List.mem_cons.mp hp with rfl | hp
      · exact ⟨hC', (N _ (.head _)).2⟩
      · rcases List.mem_cons.mp hp with rfl | hp
        · exact ⟨hI', (N _ (.tail _ (.head _))).2⟩
        · have q := N p (.tail _ (.tail _ hp))
          rcases List.mem_cons.mp hp with rfl | hp
          · exact ⟨keep _ _ (Ne.symm n1) (Ne.symm n2) q.1, q.2⟩
          · exact ⟨keep _ _ (hd p hp).1 (hd p hp).2 q.1, q.2⟩
    · exact bare_set (bare_set hA rfl) hb'
    · have e0 : items.size - (j + 1) = k := by omega
      rw [e0]
      refine hkap s'' fun b hb o e => ?_
      simp only [List.mem_cons, List.not_mem_nil, or_false] at hb
      rcases hb with rfl | rfl | rfl | rfl
      · rw [show h₁.get? b = some oC' from hC'] at e; cases e; exact e1
      · rw [show h₁.get? b = some oI' from hI'] at e; cases e; exact e2
      · rw [keep _ _ n3 n4 hcell] at e; cases e; exact e3
      · rw [keep _ _ n5 n6 htup] at e; cases e; exact e4
  · exact absurd hp.1 (Nat.succ_ne_zero k)
theorem gen_done {Q : Option Value → Shared → Prop} (hh : A.handled = none) (hl : s.heap.NoLimit) (hroom : A.depth < recursionLimit) (F : Fr h₀ L s.heap m)
    (N : News h₀ L s.heap ((C, oC) :: (I, oI) :: (a, oG) :: news)) (hG : IsGenObj oG g) (hcell : s.heap.get? cI = some oCell) (htup : s.heap.get? tI = some oT)
    (X : GenL prog w A.in1 C I cI tI oCell oT oC oI items g items.size s.gens) (hd : ∀ p ∈ news, p.1 ≠ C ∧ p.1 ≠ I)
    (h : ∀ h' tk gens', Fr h₀ L h' m → News h₀ L h' news → (AllBare s.gens → AllBare gens') → Q none { s with heap := h', gens := gens', toks := tk }) :
    wpAny (model prog w) A (pyNext (.ref a)) Q E s := by
  obtain ⟨gs, hgs, hb, hgo⟩ := X
  rw [Nat.sub_self] at hgo
  obtain ⟨nm, qn, g1, g2, g3⟩ := hG
  have hC := (N _ (.head _)).1
  have hI := (N _ (.tail _ (.head _))).1
  have ha := (N _ (.tail _ (.tail _ (.head _)))).1
  refine wpAny_pyNext_genexpQ (P := fun n s₀ s₁ => n = 0 ∧ GenSince C [I] s₀ s₁) hh hl hroom ⟨oG, nm, qn, ha, g1, g2, g3⟩ hgs (hgo _ hC hI hcell htup) (fun v s₁ gs' hb' hv => ?_) (fun s₁ hp h' hk => ?_)
  · obtain ⟨_, _, _, _, hkap⟩ := hv
    exact False.elim (hkap s₁ fun _ _ _ e => e)
  · obtain ⟨_, h₁, tk₁, rfl, hk₁⟩ := hp
    have keep : ∀ b o, b ≠ C → b ≠ I → s.heap.get? b = some o → h'.get? b = some o := fun b o q1 q2 e => hk b o (hk₁ b o q1 (by simp [q2]) e)
    refine h h' tk₁ _ ⟨F.ns.at' fun o e => keep _ _ (Ne.symm (N _ (.head _)).2.1) (Ne.symm (N _ (.tail _ (.head _))).2.1) e, fun b o e => keep b o (fun q => ?_) (fun q => ?_) (F.keep b o e), F.above⟩
      (fun p hp => ?_) (fun hA => bare_set (bare_set hA rfl) rfl)
    · have := (N _ (.head _)).2.2; rw [q] at e; rw [this] at e; cases e
    · have := (N _ (.tail _ (.head _))).2.2; rw [q] at e; rw [this] at e; cases e
    · have q := N p (.tail _ (.tail _ (.tail _ hp)))
      exact ⟨keep _ _ (hd p hp).1 (hd p hp).2 q.1, q.2⟩
end
end Mine

end
section
-- G3
open PySem PySem.W PyProof.Rows PySem.Calls PySem.Spec
open Sem (wp)
namespace Mine
set_option maxRecDepth 100000
section
variable {prog : Program} {w : World} {M : Model} {A : Around} {E : Value → Shared → Prop} {s : Shared} {h₀ : Heap} {L P c : Addr} {m mg mb : PySem.Str → Option Value} {news : List (Addr × Obj)} {ps : Array Value} {pos : Pos} {scope : Scope} {qn : PySem.Str} {env : Env}
  {p : Program} {loose : List PySem.Str} {mean : ExcName → Option Value}
theorem newsSelf {o : Obj} {D : Addr} (N : News h₀ L s.heap news) (hm : (D, o) ∈ news) : News h₀ L s.heap (setN D o news) := fun q hq => by
  rcases of_setN hq with rfl | ⟨hq, _⟩
  · exact N _ hm
  · exact N _ hq
/-- the code of a generator expression: made, or found in the table -/
theorem gencode_S {Q : Value → Shared → Prop} (F : Fr h₀ L s.heap m) (N : News h₀ L s.heap news) (hcode : env.code = .ref c) (C : CodeHd s.heap c P) (hP : (P, tabObj ps) ∈ news) (ht : TriplesOk ps.toList)
    (h : ∀ code h' tk ps', Fr h₀ L h' m → News h₀ L h' (setN P (tabObj ps') news) → TriplesOk ps'.toList → Q code { s with heap := h', toks := tk }) :
    wpAny M A (genexprCode env pos qn scope) Q E s := by
  have hm := N _ hP
  cases hnf : codeAmong pos ps.toList with
  | some cv =>
    obtain ⟨o, vs, file, tf, flags, tg, inF, text, tt, op, ho, hd, h11, h2, h7, h9, h10, hop, hpd, htr, hne⟩ := C.code hm.1 ht
    unfold genexprCode codeAt
    rw [hcode, if_neg (show ¬ ((Value.ref c == Value.none) = true) from Bool.false_ne_true)]
    refine wpAny_bind (wpAny_fieldsOf ho hd ?_)
    rw [h11]
    refine wpAny_bind (wpAny_fieldsOf hop hpd ?_)
    rw [hnf]
    exact wpAny_pure (h cv s.heap s.toks ps F (newsSelf N hP) ht)
  | none =>
    refine wpAny_genexprCodeX hcode (C.code hm.1 ht) (C.tab hm.1) hnf fun c' h' tk hx hge hlt hok _ htb _ => ?_
    refine h _ h' tk (ps ++ #[rawInt pos.line, rawInt pos.col, .ref c']) ⟨F.ns.extBut hx hm.2.1.symm, fun b o e => hx b o (fun q => by rw [q, hm.2.2] at e; cases e) (F.keep b o e), F.above⟩ (fun q hq => ?_) ?_
    · rcases of_setN hq with rfl | ⟨hq, hne⟩
      · exact ⟨htb.2, hm.2⟩
      · exact ⟨hx _ _ hne (N _ hq).1, (N _ hq).2⟩
    · have hl : (ps ++ #[rawInt pos.line, rawInt pos.col, Value.ref c']).toList = ps.toList ++ [rawInt pos.line, rawInt pos.col, .ref c'] := by simp
      rw [hl]; exact TriplesOk_snoc _ _ _ _ ht
end
section
variable {prog : Program} {w : World} {A : Around} {E : Value → Shared → Prop} {s : Shared} {h₀ : Heap} {L P c r cI tI : Addr} {m mg mb : PySem.Str → Option Value} {news : List (Addr × Obj)} {ps : Array Value} {pos : Pos} {scope : Scope} {env : Env} {cl : List (PySem.Str × Addr)}
  {p : Program} {loose : List PySem.Str} {mean : ExcName → Option Value} {oCell oT : Obj} {items : Array Value} {p1 p2 p3 p4 px : Pos} {iter : Expr} {t u v : Tok} {b : Int}
def GenIter (prog : Program) (w : World) (A : Around) (E : Value → Shared → Prop) (p1 p2 p3 p4 px pos : Pos) (iter : Expr) (scope : Scope) (env : Env) (cl : List (PySem.Str × Addr)) (Q : Value → Shared → Prop) (xv : Value) (s : Shared) : Prop :=
    wpAny (model prog w) A (pyIter xv) (fun it s₂ => s₂.heap.NoLimit ∧
      wpAny (model prog w) A (genexprCode env pos (env.qual ++ "<genexpr>") scope) (fun code s₃ => wpAny (model prog w) A (builtinsFor env.globals env.builtins) (fun bi s₄ =>
        ∀ h', h'.Ns s₄.heap.objs.size (fun y => if y = ".0" then some it else none) → Heap.SameBut s₄.heap.objs.size (s₄.heap.push { cls := .type "frame", data := .dict #[] }) h' →
          Q (.ref h'.objs.size) { s₄ with
            gens := s₄.gens.push (.fresh (.compStart (.GeneratorExp (eltE p1 p2 p3 p4) [⟨.Name "i" px, iter, [], 0⟩] scope pos) 0 it .none (genEnv scope cl s₄.heap.objs.size code bi env))),
            toks := s₄.toks + 1 + 1 + 1,
            heap := h'.push { cls := .type "generator", data := .fields #[.int s₄.gens.size 0, .str "<genexpr>" (s₄.toks + 1), .str (env.qual ++ "<genexpr>") (s₄.toks + 1 + 1)] } }) E s₃) E s₂) E s
theorem gen_make {Q : Value → Shared → Prop} (hco : scope.isCoroutine = false) (hclos : closureFor scope env = pure cl) (hcell : ∀ y ∈ scope.names, y.2 ≠ .cell) (h0 : scope.names.lookup (".0" : PySem.Str) = some NameKind.local) (hkind : scope.kind = .function)
    (hroom : A.depth < recursionLimit) (h : wpAny (model prog w) A (eval iter env) (GenIter prog w A E p1 p2 p3 p4 px pos iter scope env cl Q) E s) (hs : ∀ x, genFold iter env x = pure x) :
    wpAny (model prog w) A (eval (.GeneratorExp (eltE p1 p2 p3 p4) [⟨.Name "i" px, iter, [], 0⟩] scope pos) env) Q E s :=
  wpAny_GeneratorExp_make hco hclos hcell h0 hkind hroom h hs
theorem gen_tail {Q : Value → Shared → Prop} (F : Fr h₀ L s.heap m) (N : News h₀ L s.heap news) (T : Top p loose mean mg mb h₀) (hge : env.globals = mainGlobals) (hcode : env.code = .ref c) (C : CodeHd h₀ c P)
    (hP : (P, tabObj ps) ∈ news) (ht : TriplesOk ps.toList)
    (hr : IsRange s.heap r 1 b 1 t u v) (hb : b = (items.size : Int) + 1) (hsz : items.size ≤ sizeLine)
    (hk : scope.kind = .function) (hco : scope.isCoroutine = false) (hid : scope.names.lookup ("identifier" : PySem.Str) = some .free) (hi : scope.names.lookup ("i" : PySem.Str) = some .local) (hcl : cl.lookup ("identifier" : PySem.Str) = some cI)
    (hcell : (cI, oCell) ∈ news) (hcd : oCell.data = .cell (some (.ref tI))) (htup : h₀.get? tI = some oT ∨ (tI, oT) ∈ news) (hot : oT.cls = .type "tuple" ∧ ∃ n, oT.data = .seq items n) 
    (h : ∀ a C I g oG oC oI ps' h' gens' tk, Fr h₀ L h' m → News h₀ L h' ((C, oC) :: (I, oI) :: (a, oG) :: setN P (tabObj ps') news) → TriplesOk ps'.toList → IsGenObj oG g → (AllBare s.gens → AllBare gens') →
      (∀ Ag : Around, Ag.handled = none → GenL prog w Ag C I cI tI oCell oT oC oI items g 0 gens') → (∀ q ∈ news, q.1 < I) → I < C → C < a → tI < I → Q (.ref a) { s with heap := h', gens := gens', toks := tk }) :
    GenIter prog w A E p1 p2 p3 p4 px pos iter scope env cl Q (.ref r) s := by
  subst hb
  have hz := sizeLine_eq
  unfold GenIter
  refine wpAny_pyIter_range hr (small_one (by decide) (by decide) (by omega) (by omega)) ?_
  have e1 : Builtin.Range.rangeSize 1 ((items.size : Int) + 1) 1 = (items.size : Int) := by rw [rangeSize_nat]; omega
  rw [e1]
  have F₁ := F.push { cls := .type "range_iterator", data := .fields #[rawInt 1, rawInt (items.size : Int), rawInt 1] }
  have N₁ := News.push F N { cls := .type "range_iterator", data := .fields #[rawInt 1, rawInt (items.size : Int), rawInt 1] }
  have hIlt : ∀ q ∈ news, q.1 < s.heap.objs.size := fun q hq => Heap.lt_size (N q hq).1
  have hIP : s.heap.objs.size ≠ P := fun e => by have := hIlt _ hP; rw [show P = s.heap.objs.size from e.symm] at this; exact Nat.lt_irrefl _ this
  have htI : tI < s.heap.objs.size := by
    rcases htup with q | q
    · exact Heap.lt_size (F.keep _ _ q)
    · exact hIlt _ q
  generalize hI : s.heap.objs.size = I at *
  have setI : ∀ (o : Obj) (tab : Obj) (l : List (Addr × Obj)), setN P tab ((I, o) :: l) = (I, o) :: setN P tab l := fun o tab l => by
    unfold setN
    rw [List.map_cons, if_neg hIP]
  refine ⟨T.nolimit.keeps F₁.keep, gencode_S (s := ⟨_, _, _, _, _⟩) F₁ N₁ hcode (C.keeps F₁.keep) (.tail _ hP) ht fun code h₂ tk₂ ps' F₂ N₂ ht₂ => ?_⟩
  rw [setI] at N₂
  obtain ⟨bm, ob, b1, b2, b3, b4, b5, b6⟩ := T.bmain
  rw [hge]
  refine wpAny_builtinsFor (T.g.keeps F₂.keep) b1 b2 (F₂.keep _ _ b3) b4 b5 b6 ?_
  intro h₃ hn₃ hs₃
  have keep₃ : ∀ b o, h₂.get? b = some o → h₃.get? b = some o := fun b o e => hs₃.extBut b o (Nat.ne_of_lt (Heap.lt_size e)) (Heap.get?_push_of_some _ e)
  have hsz₃ : h₃.objs.size = h₂.objs.size + 1 := by rw [hs₃.1, Heap.size_push]
  obtain ⟨oC, es, ep, hoC, hCd⟩ := id hn₃
  have hCa : h₂.objs.size < h₃.objs.size := by rw [hsz₃]; exact Nat.lt_succ_self _
  have hLI : L < I := by rw [← hI]; exact F.ns.lt
  have hI₂ : I < h₂.objs.size := Heap.lt_size (N₂ _ (.head _)).1
  have fresh : ∀ b, L < b → h₀.get? b = none := fun b hb => Heap.get?_none_of_le (Nat.le_trans F.above (Nat.le_of_lt hb))
  have F₃ : Fr h₀ L h₃ m := ⟨F₂.ns.keeps keep₃, fun b o e => keep₃ _ _ (F₂.keep b o e), F₂.above⟩
  refine h h₃.objs.size h₂.objs.size I s.gens.size { cls := .type "generator", data := .fields #[.int s.gens.size 0, .str "<genexpr>" (tk₂ + 1), .str (env.qual ++ "<genexpr>") (tk₂ + 1 + 1)] } oC { cls := .type "range_iterator", data := .fields #[rawInt 1, rawInt (items.size : Int), rawInt 1] } ps' _ _ _ (F₃.push _) (fun q hq => ?_) ht₂ ⟨_, _, rfl, rfl, rfl⟩ (fun hA => hA.push rfl) ?_ (fun q hq => hIlt q hq) hI₂ hCa htI
  · rcases List.mem_cons.mp hq with rfl | hq
    · exact ⟨Heap.get?_push_of_some _ hoC, Nat.ne_of_gt (Nat.lt_trans hLI hI₂), fresh _ (Nat.lt_trans hLI hI₂)⟩
    · rcases List.mem_cons.mp hq with rfl | hq
      · exact ⟨Heap.get?_push_of_some _ (keep₃ _ _ (N₂ _ (.head _)).1), Nat.ne_of_gt hLI, fresh _ hLI⟩
      · rcases List.mem_cons.mp hq with rfl | hq
        · exact ⟨Heap.get?_push_size _ rfl, Nat.ne_of_gt (Nat.lt_trans (Nat.lt_trans hLI hI₂) hCa), fresh _ (Nat.lt_trans (Nat.lt_trans hLI hI₂) hCa)⟩
        · have n := N₂ q (.tail _ hq)
          exact ⟨Heap.get?_push_of_some _ (keep₃ _ _ n.1), n.2⟩
  · have hcI : cI < I := hIlt _ hcell
    intro Ag hA
    refine ⟨_, Array.getElem?_push_size .., rfl, fun s'' e1 e2 e3 e4 => ⟨rfl, ?_⟩⟩
    refine seg_start (cenv := genEnv scope cl h₂.objs.size code builtinsNs env) (oCell := oCell) hA ⟨hk, hco, hid, hi, hcl, hcd, hsz, Nat.ne_of_gt hI₂, Nat.ne_of_gt (Nat.lt_trans hcI hI₂), Nat.ne_of_gt (Nat.lt_trans htI hI₂), Nat.ne_of_gt hcI, Nat.ne_of_gt htI⟩
      s'' s'' (fun y => if y = ".0" then some (.ref I) else none) ?_ ⟨oC, es, ep, e1, hCd⟩ e3 ⟨oT, e4, hot.1, hot.2⟩ (GenSince.refl _ _ _)
    exact e2
end
end Mine

end
section
-- R1
open PySem PySem.W PyProof.Rows PySem.Calls PySem.Spec
namespace Mine
set_option maxRecDepth 100000

def Row.cut (r : Row) (j : Nat) : Row := { r with asked := r.asked.take j }
def Row.strip (r : Row) : Int × Nat × Name × Bool := (r.num, r.kind, r.name, r.sieved)
theorem PairAt.congr {w : World} {I J : IP} {cx : Cx} {v : Value} {r r' : Row} (h : r.strip = r'.strip) (x : PairAt w I J cx v r) : PairAt w I J cx v r' := by
  unfold Row.strip at h
  simp only [Prod.mk.injEq] at h
  obtain ⟨h1, h2, h3, h4⟩ := h
  unfold PairAt at x ⊢
  rw [← h1, ← h2, ← h3, ← h4]; exact x
theorem All2.congr {α β γ : Type} {R : α → β → Prop} {f : β → γ} (hR : ∀ a b b', f b = f b' → R a b → R a b') {l : List α} {m m' : List β} (h : m.map f = m'.map f) (x : All2 R l m) : All2 R l m' := by
  have hl : m.length = m'.length := by have := congrArg List.length h; simpa using this
  refine ⟨x.1.trans hl, fun j a b h1 h2 => ?_⟩
  have e : (m.map f)[j]? = (m'.map f)[j]? := by rw [h]
  rw [List.getElem?_map, List.getElem?_map, h2] at e
  cases hm : m[j]? with
  | none => rw [hm] at e; cases e
  | some b' => rw [hm] at e; exact hR a b' b (Option.some.inj e) (x.2 j a b' h1 hm)
theorem All2.push {α β : Type} {R : α → β → Prop} {l : Array α} {m : List β} (x : All2 R l.toList m) {a : α} {b : β} (h : R a b) : All2 R (l.push a).toList (m ++ [b]) := by
  have hl : l.size = m.length := by have := x.1; rw [Array.length_toList] at this; exact this
  refine ⟨by simp [hl], fun j u e h1 h2 => ?_⟩
  rw [Array.toList_push] at h1
  rcases Nat.lt_or_ge j m.length with hj | hj
  · rw [List.getElem?_append_left (by rw [Array.length_toList]; omega)] at h1
    rw [List.getElem?_append_left hj] at h2
    exact x.2 j u e h1 h2
  · rw [List.getElem?_append_right (by rw [Array.length_toList]; omega)] at h1
    rw [List.getElem?_append_right hj] at h2
    have e0 : j - m.length = 0 := by
      rcases Nat.eq_zero_or_pos (j - m.length) with h | h
      · exact h
      · rw [List.getElem?_eq_none (by simp; omega)] at h2; cases h2
    rw [e0] at h2
    rw [Array.length_toList, hl, e0] at h1
    cases h1; cases h2; exact h

/-- rs' is rs with the pair of r added under key -/
structure GrowBy (rs rs' : List Row) (key : Name) (r : Row) : Prop where
  here : (rs'.filter (·.hits key)).map Row.strip = (rs.filter (·.hits key)).map Row.strip ++ [r.strip]
  other : ∀ nm, nm ≠ [] → nm ≠ key → (rs'.filter (·.hits nm)).map Row.strip = (rs.filter (·.hits nm)).map Row.strip
  wt : weight rs + 1 ≤ weight rs'
  ok : (∀ x ∈ rs, x.ok) → ∀ x ∈ rs', x.ok

theorem cut_hits (r : Row) (j : Nat) (nm : Name) (hj : j ≤ r.asked.length) : (r.cut j).hits nm = (decide (nm.length ≤ j) && r.hits nm) := by
  unfold Row.hits Row.cut
  rw [Bool.eq_iff_iff]
  simp only [List.take_take, Bool.and_eq_true, decide_eq_true_eq]
  constructor
  · intro h
    have hl := congrArg List.length h
    rw [List.length_take] at hl
    have : nm.length ≤ j := by omega
    exact ⟨this, by rw [Nat.min_eq_left this] at h; exact h⟩
  · rintro ⟨h1, h2⟩
    rw [Nat.min_eq_left h1]; exact h2
theorem cut_strip (r : Row) (j : Nat) : (r.cut j).strip = r.strip := rfl
theorem hits_take (r : Row) {j : Nat} (hj : j ≤ r.asked.length) : r.hits (r.asked.take j) = true := by
  unfold Row.hits
  rw [List.length_take, Nat.min_eq_left hj]; simp
/-- the rows while r is being registered, j of its names being served -/
def mid (rs : List Row) (r : Row) (j : Nat) : List Row := if j = 0 then rs else rs ++ [r.cut j]
theorem mid_last (rs : List Row) (r : Row) (h : r.asked ≠ []) : mid rs r r.asked.length = rs ++ [r] := by
  unfold mid
  rw [if_neg (by intro e; exact h (List.length_eq_zero_iff.mp e))]
  unfold Row.cut
  rw [List.take_length]
theorem mid_filter (rs : List Row) (r : Row) (j : Nat) (hj : j ≤ r.asked.length) {nm : Name} (hn : nm ≠ []) :
    ((mid rs r j).filter (·.hits nm)).map Row.strip = (rs.filter (·.hits nm)).map Row.strip ++ (if decide (nm.length ≤ j) && r.hits nm then [r.strip] else []) := by
  unfold mid
  by_cases h0 : j = 0
  · rw [if_pos h0]
    have : ¬ nm.length ≤ j := by
      intro h; apply hn; exact List.length_eq_zero_iff.mp (by omega)
    simp [this]
  · rw [if_neg h0, List.filter_append, List.map_append]
    congr 1
    by_cases hh : (decide (nm.length ≤ j) && r.hits nm) = true
    · rw [if_pos hh, List.filter_cons_of_pos (by rw [cut_hits _ _ _ hj]; exact hh)]; rfl
    · rw [if_neg hh, List.filter_cons_of_neg (by rw [cut_hits _ _ _ hj]; exact hh)]; rfl
theorem mid_grow (rs : List Row) (r : Row) (j : Nat) (hj : j < r.asked.length) (hr : r.ok) : GrowBy (mid rs r j) (mid rs r (j + 1)) (r.asked.take (j + 1)) r where
  here := by
    have hl : (r.asked.take (j + 1)).length = j + 1 := by rw [List.length_take]; omega
    have hne : r.asked.take (j + 1) ≠ [] := by intro e; rw [e] at hl; cases hl
    rw [mid_filter _ _ _ hj hne, mid_filter _ _ _ (by omega) hne, hl, hits_take _ hj]
    simp
  other := fun nm hn hne => by
    rw [mid_filter _ _ _ hj hn, mid_filter _ _ _ (by omega) hn]
    congr 1
    have : (decide (nm.length ≤ j + 1) && r.hits nm) = (decide (nm.length ≤ j) && r.hits nm) := by
      by_cases h1 : r.hits nm = true
      · have h2 : nm.length ≠ j + 1 := by
          intro e
          apply hne
          unfold Row.hits at h1
          rw [e] at h1
          exact (of_decide_eq_true h1).symm
        rw [h1]
        by_cases h3 : nm.length ≤ j
        · simp [h3]; omega
        · have : ¬ nm.length ≤ j + 1 := by omega
          simp [h3, this]
      · simp [h1]
    rw [this]
  wt := by
    unfold mid weight
    rw [if_neg (by omega : ¬ j + 1 = 0)]
    by_cases h0 : j = 0
    · subst h0
      simp [Row.cut]; omega
    · rw [if_neg h0]
      simp [Row.cut]; omega
  ok := fun h x hx => by
    unfold mid at h hx
    rw [if_neg (by omega : ¬ j + 1 = 0)] at hx
    rcases List.mem_append.mp hx with hx | hx
    · by_cases h0 : j = 0
      · rw [if_pos h0] at h; exact h x hx
      · rw [if_neg h0] at h; exact h x (List.mem_append_left _ hx)
    · rw [List.mem_singleton.mp hx]
      refine ⟨hr.1, ⟨?_, ?_⟩, hr.2.2⟩
      · show r.asked.take (j + 1) ≠ []
        intro e
        have : (r.asked.take (j + 1)).length = 0 := by rw [e]; rfl
        rw [List.length_take] at this; omega
      · show (r.asked.take (j + 1)).length ≤ 4
        rw [List.length_take]; have := hr.2.1.2; omega
end Mine

end
section
-- R2
open PySem PySem.W PyProof.Rows PySem.Calls PySem.Spec
namespace Mine
set_option maxRecDepth 100000

theorem sub_news {h₀ h : Heap} {L : Addr} {l l' : List (Addr × Obj)} (N : News h₀ L h l) (hs : ∀ p ∈ l', p ∈ l) : News h₀ L h l' := fun p hp => N p (hs p hp)
theorem upd_tail {h₀ h h' : Heap} {L D : Addr} {m : PySem.Str → Option Value} {tmp news : List (Addr × Obj)} {o o' : Obj} (F : Fr h₀ L h m) (N : News h₀ L h (tmp ++ news)) (hm : (D, o) ∈ news) (ht : ∀ p ∈ tmp, p.1 ≠ D) (hs : Heap.SameBut D h h') (ho : h'.get? D = some o') :
    Fr h₀ L h' m ∧ News h₀ L h' (tmp ++ setN D o' news) := by
  obtain ⟨F', N'⟩ := upd F N (List.mem_append_right _ hm) hs ho
  refine ⟨F', sub_news N' fun p hp => ?_⟩
  rcases List.mem_append.mp hp with hp | hp
  · exact keep_setN (List.mem_append_left _ hp) (ht p hp)
  · rcases of_setN hp with rfl | ⟨h1, h2⟩
    · exact mem_setN (List.mem_append_right _ hm)
    · exact keep_setN (List.mem_append_right _ h1) h2

theorem store_cell {M : Model} {A : Around} {E : Value → Shared → Prop} {s : Shared} {h₀ : Heap} {m : PySem.Str → Option Value} {news : List (Addr × Obj)} {env : Env} {L c : Addr} {x : PySem.Str} {v : Value} {v₀ : Option Value} {o : Obj} {Q : Unit → Shared → Prop}
    (F : Fr h₀ L s.heap m) (N : News h₀ L s.heap ((c, o) :: news)) (hk : env.scope.kind = .function) (hx : env.kindOf x = some .cell) (hc : env.cells.lookup x = some c) (hd : o.data = .cell v₀) (hn : ∀ p ∈ news, p.1 ≠ c)
    (h : ∀ h' o', Fr h₀ L h' m → News h₀ L h' ((c, o') :: news) → o'.data = .cell (some v) → Q () { s with heap := h' }) : wpAny M A (storeName env x v) Q E s := by
  have hm := N (c, o) (.head _)
  refine wpAny_storeName_cell hk hx hc ⟨o, hm.1, hd⟩ fun h' hv hs => ?_
  obtain ⟨o', ho', hd'⟩ := hv
  obtain ⟨F', N'⟩ := upd F N (.head _) hs ho'
  refine h h' o' F' (sub_news N' fun p hp => ?_) hd'
  rcases List.mem_cons.mp hp with rfl | hp
  · exact mem_setN (.head _)
  · exact keep_setN (.tail _ hp) (hn p hp)

section
variable {K : Frag} {tg tg' : Tags} {news news' : List (Addr × Obj)} {w : World} {cx : Cx} {σB σP : St} {pre : List (List Row)} {rs rs' : List Row} {key : Name} {r : Row} {D t l la pp : Addr}
/-- what the dict at D holds -/
def DictX (w : World) (I J : IP) (news : List (Addr × Obj)) (tg : Tags) (cx : Cx) (g : Nat) (rs : List Row) (a : Addr) (es : Array DictEntry) (ep : Nat) (xs : List (Name × Addr × Value)) : Prop :=
    (a, dictO es ep) ∈ news ∧ es.toList = xs.map (entryOfKey (nameKind PG w)) ∧ (xs.map (·.1)).Nodup ∧
    (∀ x ∈ xs, NmAt w I x.1 (.ref x.2.1)) ∧
    (∀ x ∈ xs, ∃ la items n, x.2.2 = .ref la ∧ (la, listOf items n) ∈ news ∧ tg la = some (.lst g x.1) ∧ All2 (PairAt w I J cx) items.toList (rs.filter (·.hits x.1))) ∧
    (∀ nm, nm ≠ [] → nm ∉ xs.map (·.1) → rs.filter (·.hits nm) = []) ∧ xs.length ≤ weight rs ∧ ∀ b nm, tg b = some (.lst g nm) → nm ∈ xs.map (·.1)
theorem DictAt.x {I J : IP} {g : Nat} {a : Addr} (h : DictAt w I J news tg cx g rs a) : ∃ es ep xs, DictX w I J news tg cx g rs a es ep xs := h.ex

def St.withLast (σ : St) (pre : List (List Row)) (rs : List Row) : St := { σ with gens := pre ++ [rs] }
theorem Wd.dictAt (W : Wd w K cx σB σP tg news) {g : Nat} (hg : σB.gens[g]? = some rs) (hD : tg D = some (.dict g)) : DictAt w (Im K news tg) (Lg news tg) news tg cx g rs D := by
  obtain ⟨a, h⟩ := W.dict g rs hg
  have e := W.base.inj a D (.dict g) trivial h.tag hD
  subst e; exact h
theorem cur_last (hg : σB.gens = pre ++ [rs]) : σB.cur = pre.length := by
  unfold St.cur; rw [hg]; simp
theorem get_last (hg : σB.gens = pre ++ [rs]) : σB.gens[pre.length]? = some rs := by rw [hg]; simp
theorem Wd.grow (W : Wd w K cx σB σP tg news) (hg : σB.gens = pre ++ [rs]) (k : Keeps tg tg' news news' fun q => q ≠ .dict pre.length ∧ ∀ nm, q ≠ .lst pre.length nm) (ok : TagsOk tg' news') (hbB : ∀ a g, tg' a = some (.dict g) → tg a = some (.dict g)) (hbL : ∀ a g nm, tg' a = some (.lst g nm) → g = pre.length ∨ tg a = some (.lst g nm))
    (hnew : DictAt w (Im K news' tg') (Lg news' tg') news' tg' cx pre.length rs' D) (hok : ∀ x ∈ rs', x.ok) : Wd w K cx (σB.withLast pre rs') σP tg' news' := by
  have e : (σB.withLast pre rs').cur = σB.cur := by rw [cur_last hg]; unfold St.withLast St.cur; simp
  refine ⟨W.base.mono k ok, W.heard.mono k ⟨nofun, nofun⟩, W.due.mono k ⟨nofun, nofun⟩, W.plain.mono k ⟨nofun, nofun⟩, e ▸ W.dx.mono k ⟨nofun, nofun⟩, W.rows.mono k fun _ => ⟨nofun, nofun⟩, ?_, W.tabL.mono k ⟨nofun, nofun⟩, W.tabS.mono k ⟨nofun, nofun⟩, W.tabR.mono k ⟨nofun, nofun⟩,
    ?_, W.wfP, fun a g h => ?_, fun a g h => W.tagP a g (k.back a _ ⟨nofun, nofun⟩ trivial h), fun a g nm h => ?_⟩
  · intro g rs'' h
    rcases Nat.lt_trichotomy g pre.length with q | q | q
    · have h1 : σB.gens[g]? = some rs'' := by
        have h2 : (pre ++ [rs'])[g]? = some rs'' := h
        rw [List.getElem?_append_left q] at h2
        rw [hg, List.getElem?_append_left q]; exact h2
      obtain ⟨a, x⟩ := W.dict g rs'' h1
      exact ⟨a, x.mono k ⟨by intro e; cases e; omega, nofun⟩ fun nm => ⟨nofun, by intro nm' e; cases e; omega⟩⟩
    · subst q
      have h2 : (pre ++ [rs'])[pre.length]? = some rs'' := h
      simp at h2
      subst h2
      exact ⟨D, hnew⟩
    · have h2 : (pre ++ [rs'])[g]? = some rs'' := h
      rw [List.getElem?_eq_none (by simp; omega)] at h2; cases h2
  · refine ⟨by show pre ++ [rs'] ≠ []; simp, fun x hx y hy => ?_⟩
    rcases List.mem_append.mp (show x ∈ pre ++ [rs'] from hx) with h | h
    · exact W.wfB.2 x (by rw [hg]; exact List.mem_append_left _ h) y hy
    · rw [List.mem_singleton.mp h] at hy; exact hok y hy
  · have := W.tagB a g (hbB a g h)
    rw [hg] at this
    show g < (pre ++ [rs']).length
    simpa using this
  · show g < (pre ++ [rs']).length
    rcases hbL a g nm h with e | h
    · simp; omega
    · have := W.tagL a g nm h
      rw [hg] at this
      simpa using this
theorem strip_nil {l m : List Row} (h : l.map Row.strip = m.map Row.strip) (hm : m = []) : l = [] := by
  subst hm; simpa using h
theorem All2.pair {I J : IP} {l : List Value} {m m' : List Row} (h : m.map Row.strip = m'.map Row.strip) (x : All2 (PairAt w I J cx) l m) : All2 (PairAt w I J cx) l m' :=
  All2.congr (f := Row.strip) (fun _ _ _ e z => z.congr e) h x

theorem nodup_key {x y : Name × Addr × Value} : ∀ {l : List (Name × Addr × Value)}, (l.map (·.1)).Nodup → y ∈ l → x ∈ l → y.1 = x.1 → y = x
  | [], _, h, _, _ => nomatch h
  | z :: r, hnd, hy, hx, he => by
    rw [List.map_cons, List.nodup_cons] at hnd
    rcases List.mem_cons.mp hy with h1 | h1
    · rcases List.mem_cons.mp hx with h2 | h2
      · rw [h1, h2]
      · exact absurd (List.mem_map_of_mem (f := (·.1)) h2) (by rw [← he, h1]; exact hnd.1)
    · rcases List.mem_cons.mp hx with h2 | h2
      · exact absurd (List.mem_map_of_mem (f := (·.1)) h1) (by rw [he, h2]; exact hnd.1)
      · exact nodup_key hnd.2 h1 h2 he
theorem All2.of_strip {I J : IP} {l : List Value} {m m' : List Row} {v : Value} {r : Row} {b : Array Value} (hb : b.toList = l) (h : m'.map Row.strip = m.map Row.strip ++ [r.strip]) (x : All2 (PairAt w I J cx) b.toList m) (hv : PairAt w I J cx v r) :
    All2 (PairAt w I J cx) (b.push v).toList m' :=
  (All2.push x hv).pair (by rw [h]; simp)
/-- the pair goes to a list that stood there -/
theorem Wd.growHit {es : Array DictEntry} {ep n np : Nat} {xs : List (Name × Addr × Value)} {its : Array Value} {tup : Obj} {x : Name × Addr × Value} (W : Wd w K cx σB σP tg news) (hg : σB.gens = pre ++ [rs]) (hD : tg D = some (.dict pre.length))
    (X : DictX w (Im K news tg) (Lg news tg) news tg cx pre.length rs D es ep xs) (hx : x ∈ xs) (hxk : x.1 = key) (hxla : x.2.2 = .ref la) (hkn : key ≠ []) (hla : (la, listOf its n) ∈ news) (htl : tg la = some (.lst pre.length key))
    (hA : All2 (PairAt w (Im K news tg) (Lg news tg) cx) its.toList (rs.filter (·.hits key))) (G : GrowBy rs rs' key r) (hlt : ∀ p ∈ news, p.1 < pp)
    (hp : PairAt w (Im K ((pp, tup) :: news) tg) (Lg ((pp, tup) :: news) tg) cx (.ref pp) r) :
    Wd w K cx (σB.withLast pre rs') σP tg (setN la (listOf (its.push (.ref pp)) np) ((pp, tup) :: news)) ∧ Keeps tg tg news (setN la (listOf (its.push (.ref pp)) np) ((pp, tup) :: news)) fun q => q ≠ .lst pre.length key := by
  obtain ⟨h1, h2, h3, h4, h5, h6, h7, h8⟩ := X
  have ok1 := (W.base.ok.cons (p := (pp, tup)))
  have k1 : Keeps tg tg ((pp, tup) :: news) (setN la (listOf (its.push (.ref pp)) np) ((pp, tup) :: news)) fun q => q ≠ .lst pre.length key := Keeps.set htl ok1
  have k0 : Keeps tg tg news ((pp, tup) :: news) fun q => q ≠ .lst pre.length key := Keeps.cons.mono fun _ _ => trivial
  have k := k0.trans k1
  refine ⟨W.grow (D := D) hg (k.mono fun q h => h.2 key) ok1.set (fun _ _ h => h) (fun _ _ _ h => .inr h) ⟨hD, (W.dictAt (get_last hg) hD).lo, es, ep, xs, k.mu _ _ _ h1 hD nofun, h2, h3, fun y hy => (h4 y hy).mono k.im, fun y hy => ?_, fun nm hn hnk => ?_, by have := G.wt; omega, h8⟩ (G.ok (W.wfB.2 rs (by rw [hg]; simp))), k⟩
  · by_cases e : y.1 = key
    · obtain ⟨la', it', n', e1, e2, e3, e4⟩ := h5 y hy
      have exy : y = x := nodup_key h3 hy hx (e.trans hxk.symm)
      subst exy
      refine ⟨la, _, np, hxla, mem_setN (.tail _ hla), by rw [hxk]; exact htl, ?_⟩
      rw [hxk]
      exact All2.of_strip rfl G.here (hA.mono fun _ _ z => z.mono k.im k.lg) (hp.mono k1.im k1.lg)
    · obtain ⟨la', it', n', e1, e2, e3, e4⟩ := h5 y hy
      have hyn : y.1 ≠ [] := (h4 y hy).1
      exact ⟨la', it', n', e1, k.mu _ _ _ e2 e3 (by intro q; cases q; exact e rfl), e3, (e4.pair (G.other y.1 hyn e).symm).mono fun _ _ z => z.mono k.im k.lg⟩
  · have hne : nm ≠ key := fun q => hnk (by rw [q, ← hxk]; exact List.mem_map_of_mem hx)
    exact strip_nil (G.other nm hn hne) (h6 nm hn hnk)
/-- the pair goes to a new list under a new name -/
theorem Wd.growMiss {es es' : Array DictEntry} {ep ep' n : Nat} {xs : List (Name × Addr × Value)} {tup : Obj} (W : Wd w K cx σB σP tg news) (hg : σB.gens = pre ++ [rs]) (hD : tg D = some (.dict pre.length))
    (X : DictX w (Im K news tg) (Lg news tg) news tg cx pre.length rs D es ep xs) (hkey : NmAt w (Im K news tg) key (.ref t)) (hno : key ∉ xs.map (·.1)) (hes : es'.toList = (xs ++ [(key, t, Value.ref l)]).map (entryOfKey (nameKind PG w)))
    (G : GrowBy rs rs' key r) (hlt : ∀ p ∈ news, p.1 < l) (hltp : ∀ p ∈ news, p.1 < pp) (hlp : pp ≠ l)
    (hp : PairAt w (Im K ((pp, tup) :: news) tg) (Lg ((pp, tup) :: news) tg) cx (.ref pp) r) :
    Wd w K cx (σB.withLast pre rs') σP (putTag l (.lst pre.length key) tg) ((l, listOf #[.ref pp] n) :: setN D (dictO es' ep') ((pp, tup) :: news)) ∧
      Keeps tg (putTag l (.lst pre.length key) tg) news ((l, listOf #[.ref pp] n) :: setN D (dictO es' ep') ((pp, tup) :: news)) fun q => q ≠ .dict pre.length ∧ q ≠ .lst pre.length key := by
  obtain ⟨h1, h2, h3, h4, h5, h6, h7, h8⟩ := X
  have ok1 := (W.base.ok.cons (p := (pp, tup)))
  have k0 : Keeps tg tg news ((pp, tup) :: news) fun q => q ≠ .dict pre.length ∧ q ≠ .lst pre.length key := Keeps.cons.mono fun _ _ => trivial
  have k1 : Keeps tg tg ((pp, tup) :: news) (setN D (dictO es' ep') ((pp, tup) :: news)) fun q => q ≠ .dict pre.length ∧ q ≠ .lst pre.length key := (Keeps.set hD ok1).mono fun _ h => h.1
  have ok2 : TagsOk tg (setN D (dictO es' ep') ((pp, tup) :: news)) := ok1.set
  have hnl : ∀ p ∈ setN D (dictO es' ep') ((pp, tup) :: news), p.1 ≠ l := fun p hp' => by
    rcases of_setN hp' with rfl | ⟨h, _⟩
    · obtain ⟨o, ho⟩ := W.base.ok.dom _ _ hD
      exact Nat.ne_of_lt (show D < l from hlt (D, o) ho)
    · rcases List.mem_cons.mp h with rfl | h
      · exact hlp
      · exact Nat.ne_of_lt (hlt _ h)
  have k2 : Keeps tg (putTag l (.lst pre.length key) tg) (setN D (dictO es' ep') ((pp, tup) :: news)) ((l, listOf #[.ref pp] n) :: setN D (dictO es' ep') ((pp, tup) :: news)) fun q => q ≠ .dict pre.length ∧ q ≠ .lst pre.length key :=
    (Keeps.put hnl ok2).mono fun _ h => h.2
  have k := (k0.trans k1).trans k2
  have hDl : D ≠ l := fun e => by
    obtain ⟨o, ho⟩ := W.base.ok.dom _ _ hD
    have := hlt _ ho
    rw [show (D, o).1 = l from e] at this; exact Nat.lt_irrefl _ this
  have hkn : key ≠ [] := hkey.1
  have hkeys : (xs ++ [(key, t, Value.ref l)]).map (·.1) = xs.map (·.1) ++ [key] := by simp
  refine ⟨W.grow (D := D) hg (k.mono fun q h => ⟨h.1, h.2 key⟩) (TagsOk.put hnl (fun _ b hb => hno (h8 b key hb)) nofun ok2) (fun a g h2 => ?_) (fun a g nm h2 => ?_)
    ⟨by rw [putTag_ne _ _ hDl]; exact hD, (W.dictAt (get_last hg) hD).lo, es', ep', xs ++ [(key, t, .ref l)], .tail _ (mem_setN (.tail _ h1)), hes, ?_, fun y hy => ?_, fun y hy => ?_, fun nm hn hnk => ?_, ?_, fun b nm hb => ?_⟩ (G.ok (W.wfB.2 rs (by rw [hg]; simp))), k⟩
  · unfold putTag at h2
    split at h2
    · cases h2
    · exact h2
  · unfold putTag at h2
    split at h2
    · cases h2; exact .inl rfl
    · exact .inr h2
  · rw [hkeys, List.nodup_append]
    refine ⟨h3, by simp, fun a ha b hb => ?_⟩
    rw [List.mem_singleton.mp hb]
    exact fun e => hno (e ▸ ha)
  · rcases List.mem_append.mp hy with hy | hy
    · exact (h4 y hy).mono k.im
    · rw [List.mem_singleton.mp hy]; exact hkey.mono k.im
  · rcases List.mem_append.mp hy with hy | hy
    · obtain ⟨la', it', n', e1, e2, e3, e4⟩ := h5 y hy
      have hyn : y.1 ≠ [] := (h4 y hy).1
      have hne : y.1 ≠ key := fun e => hno (e ▸ List.mem_map_of_mem hy)
      exact ⟨la', it', n', e1, k.mu _ _ _ e2 e3 ⟨nofun, by intro q; cases q; exact hne rfl⟩, k.tg _ _ e3, (e4.pair (G.other y.1 hyn hne).symm).mono fun _ _ z => z.mono k.im k.lg⟩
    · rw [List.mem_singleton.mp hy]
      refine ⟨l, #[.ref pp], n, rfl, .head _, putTag_self .., ?_⟩
      have hnil := h6 key hkn hno
      have kk := k1.trans k2
      have a0 : All2 (PairAt w (Im K ((l, listOf #[.ref pp] n) :: setN D (dictO es' ep') ((pp, tup) :: news)) (putTag l (.lst pre.length key) tg)) (Lg ((l, listOf #[.ref pp] n) :: setN D (dictO es' ep') ((pp, tup) :: news)) (putTag l (.lst pre.length key) tg)) cx) (#[] : Array Value).toList (rs.filter (·.hits key)) := by
        rw [hnil]; exact ⟨rfl, fun j a b h => by simp at h⟩
      exact All2.of_strip (b := #[]) rfl G.here a0 (hp.mono kk.im kk.lg)
  · rw [hkeys] at hnk
    have hne : nm ≠ key := fun q => hnk (by rw [q]; simp)
    exact strip_nil (G.other nm hn hne) (h6 nm hn fun q => hnk (List.mem_append_left _ q))
  · rw [List.length_append]
    have := G.wt
    simp only [List.length_singleton]; omega
  · rw [hkeys]
    unfold putTag at hb
    split at hb
    · cases hb; simp
    · exact List.mem_append_left _ (h8 b nm hb)
theorem NmAt.keyIs {h h₀ : Heap} {L : Addr} {m : PySem.Str → Option Value} (F : Fr h₀ L h m) (X : K.In h₀) (N : News h₀ L h news) {a : Addr} (x : NmAt w (Im K news tg) key (.ref a)) : IsTupleKey (atomKind PG w) h key a := by
  obtain ⟨_, a', items, n, e, hI, hIt⟩ := x
  cases e
  refine ⟨tupO items n, items, n, ?_, rfl, rfl, hIt⟩
  rcases hI with q | ⟨q, _⟩
  · exact F.keep _ _ (X _ _ q)
  · exact (N _ q).1
theorem DictX.ofH {h h₀ : Heap} {L : Addr} {m : PySem.Str → Option Value} {g ep : Nat} {es : Array DictEntry} {xs : List (Name × Addr × Value)} {J : IP} (F : Fr h₀ L h m) (X : K.In h₀) (N : News h₀ L h news)
    (x : DictX w (Im K news tg) J news tg cx g rs D es ep xs) : h.DictOfH (nameKind PG w) D xs :=
  ⟨_, es, ep, (N _ x.1).1, ⟨rfl, rfl, rfl⟩, rfl, x.2.1, fun y hy => (x.2.2.2.1 y hy).keyIs F X N, x.2.2.1⟩
theorem setdefault_S {A : Around} {E : Value → Shared → Prop} {s : Shared} {h₀ : Heap} {L : Addr} {m : PySem.Str → Option Value} {g ep : Nat} {es : Array DictEntry} {xs : List (Name × Addr × Value)} {J : IP} {tmp : List (Addr × Obj)} {dflt : Value} {Q : Value → Shared → Prop}
    (hu : A.units + 1 < cLine) (F : Fr h₀ L s.heap m) (X : K.In h₀) (N : News h₀ L s.heap (tmp ++ news)) (ht : ∀ p ∈ tmp, p.1 ≠ D) (lo : (D == sysModules) = false)
    (hX : DictX w (Im K news tg) J news tg cx g rs D es ep xs) (hkey : NmAt w (Im K news tg) key (.ref t)) (hsz : xs.length ≤ sizeLine)
    (h1 : ∀ x ∈ xs, x.1 = key → ∀ tk, Q x.2.2 { s with toks := tk })
    (h2 : key ∉ xs.map (·.1) → ∀ h' tk es' ep', es'.toList = (xs ++ [(key, t, dflt)]).map (entryOfKey (nameKind PG w)) → Fr h₀ L h' m → News h₀ L h' (tmp ++ setN D (dictO es' ep') news) → Q dflt { s with heap := h', toks := tk }) :
    wpAny (model PG w) A (call (.builtin "dict.setdefault") [.ref D, .ref t, dflt]) Q E s := by
  have N0 : News h₀ L s.heap news := sub_news N fun p hp => List.mem_append_right _ hp
  refine call_setdefault_H (knd := nameKind PG w) (xs := xs) (k := key) hu lo (hkey.keyIs F X N0) (hX.ofH F X N0) hsz (fun p hp => ?_) (fun hno h' hm' hs' => ?_)
  · unfold atKey at hp
    cases hf : xs.find? (fun x => decide (x.1 = key)) with
    | none => rw [hf] at hp; cases hp
    | some x =>
      rw [hf] at hp
      cases hp
      exact h1 x (List.mem_of_find?_eq_some hf) (of_decide_eq_true (List.find?_some (p := fun x : Name × Addr × Value => decide (x.1 = key)) hf)) _
  · have hno' : key ∉ xs.map (·.1) := fun hm => by
      unfold atKey at hno
      obtain ⟨x, hx, e⟩ := List.mem_map.mp hm
      cases hf : xs.find? (fun x => decide (x.1 = key)) with
      | none => exact absurd (List.find?_eq_none.mp hf x hx) (by simp [e])
      | some y => rw [hf] at hno; cases hno
    obtain ⟨o, es', ep', ho, hc, hd, he, _, _⟩ := hm'
    have eo : o = dictO es' ep' := by
      obtain ⟨c, d, dt, sl⟩ := o
      obtain ⟨rfl, rfl, rfl⟩ := hc
      cases hd; rfl
    rw [eo] at ho
    obtain ⟨F', N'⟩ := upd_tail F N hX.1 ht hs' ho
    exact h2 hno' h' _ es' ep' he F' N'
theorem Wd.setR (W : Wd w K cx σB σP tg news) {ps ps' : Array Value} (hm : (45, tabObj ps) ∈ news) (htr : TriplesOk ps'.toList) :
    Wd w K cx σB σP tg (setN 45 (tabObj ps') news) ∧ Keeps tg tg news (setN 45 (tabObj ps') news) fun q => q ≠ .tabR := by
  have k := Keeps.set (o' := tabObj ps') W.tabR.1 W.base.ok
  exact ⟨⟨W.base.mono k W.base.ok.set, W.heard.mono k nofun, W.due.mono k nofun, W.plain.mono k nofun, W.dx.mono k nofun, W.rows.mono k fun _ => nofun, W.dict.mono k (fun _ => nofun) fun _ _ => nofun, W.tabL.mono k nofun, W.tabS.mono k nofun,
    ⟨W.tabR.1, ps', mem_setN hm, htr⟩, W.wfB, W.wfP, W.tagB, W.tagP, W.tagL⟩, k⟩
theorem Fr.congr {h₀ h : Heap} {L : Addr} {m m' : PySem.Str → Option Value} (F : Fr h₀ L h m) (e : m = m') : Fr h₀ L h m' := e ▸ F
end
def regT (g : Nat) : Tag → Prop := fun q => q ≠ .tabR ∧ q ≠ .dict g ∧ ∀ nm, q ≠ .lst g nm
theorem appLast_last {α : Type} (x : α) : ∀ (pre : List (List α)) (rs : List α), appLast x (pre ++ [rs]) = pre ++ [rs ++ [x]]
  | [], _ => rfl
  | [a], rs => rfl
  | a :: b :: r, rs => by
    show a :: appLast x (b :: r ++ [rs]) = _
    rw [appLast_last x (b :: r) rs]; rfl
theorem pre_last {α : Type} {l : List (List α)} (h : l ≠ []) : ∃ pre rs, l = pre ++ [rs] := ⟨_, _, (List.dropLast_concat_getLast h).symm⟩
theorem weight_le : ∀ {rs : List Row}, (∀ x ∈ rs, x.ok) → weight rs ≤ 4 * rs.length
  | [], _ => by simp [weight]
  | x :: r, h => by
    have h1 := (h x (.head _)).2.1.2
    have h2 := weight_le (rs := r) fun y hy => h y (.tail _ hy)
    unfold weight at *
    simp only [List.map_cons, List.sum_cons, List.length_cons]; omega
theorem mid_weight (rs : List Row) (r : Row) (j : Nat) (h : ∀ x ∈ rs, x.ok) (hr : r.ok) : weight (mid rs r j) ≤ 4 * rs.length + 4 := by
  have h1 := weight_le h
  unfold mid
  split
  · omega
  · have : weight (rs ++ [r.cut j]) = weight rs + (r.asked.take j).length := by simp [weight, Row.cut]
    rw [this, List.length_take]
    have := hr.2.1.2; omega
theorem ItemsAre_take {prog : Program} {w : World} : ∀ {x : List Atom} {vs : List Value} (k : Nat), ItemsAre (atomKind prog w) x vs → ItemsAre (atomKind prog w) (x.take k) (vs.take k)
  | _, _, 0, _ => by simp; exact .nil
  | _, _, k + 1, .nil => .nil
  | _, _, k + 1, .cons h r => .cons h (ItemsAre_take k r)
/-- the loop of register_listener, j of its names being served -/
structure RegInv (prog : Program) (w : World) (K : Frag) (Ag : Around) (cx : Cx) (σB σP : St) (pre : List (List Row)) (rs : List Row) (r : Row) (vf vl : Value) (g' : Heap) (L' C I a cI tI : Addr) (oG oId oT : Obj) (items : Array Value) (g : Nat) (tg : Tags) (nb0 : List (Addr × Obj))
    (s : Shared) (j : Nat) (m' : PySem.Str → Option Value) (tg' : Tags) (nb : List (Addr × Obj)) (oC oI : Obj) (h : Heap) (gens : Array GenState) : Prop where
  le : j ≤ items.size
  F : Fr g' L' h m'
  self : m' "self" = some (.ref cx.bus)
  func : m' "func" = some vf
  filt : m' "filter_func" = some vl
  N : News g' L' h ((C, oC) :: (I, oI) :: (a, oG) :: (cI, oId) :: nb)
  bare : AllBare s.gens → AllBare gens
  gen : GenL prog w Ag C I cI tI oId oT oC oI items g j gens
  W : Wd w K cx (σB.withLast pre (mid rs r j)) σP tg' nb
  k : Keeps tg tg' nb0 nb (regT pre.length)
  apart : ∀ q ∈ nb, q.1 ≠ C ∧ q.1 ≠ I ∧ q.1 ≠ a ∧ q.1 ≠ cI
theorem withA {M : Model} {A : Around} {c : Code} {R : Result → Shared → Prop} {s : Shared} (h : ∀ Ag, Ag = A → codeAny M Ag c R s) : codeAny M A c R s := h A rfl
theorem dictMethod_S {prog : Program} {w : World} {A : Around} {E : Value → Shared → Prop} {s : Shared} {h₀ : Heap} {L D : Addr} {news : List (Addr × Obj)} {es : Array DictEntry} {ep : Nat} {name : PySem.Str} {id : String} {pl : Sem Bool} {Q : Value × List Value → Shared → Prop} (N : News h₀ L s.heap news) (hm : (D, dictO es ep) ∈ news) (slot : Slot "dict" name id) (hty : typeOf (.builtin id) = pure (.type "method_descriptor"))
    (h : Q (.builtin id, [.ref D]) s) : wpAny (model prog w) A (getMethod (.ref D) name pl) Q E s :=
  getMethod_builtin ⟨_, (N _ hm).1, rfl⟩ PySem.F.plainAttrs_dict slot hty (fun a e => by cases e; exact ⟨_, (N _ hm).1, rfl⟩) h
theorem allLt_all {d : Addr} {l : List (Addr × Obj)} (h : AllLt d l) : ∀ p ∈ l, p.1 < d := by
  induction l with
  | nil => intro p hp; cases hp
  | cons q r ih =>
    intro p hp
    rcases List.mem_cons.mp hp with e | hp
    · rw [e]; exact h.1
    · exact ih h.2 p hp
section
variable {h₀ h : Heap} {L D : Addr} {news : List (Addr × Obj)} {o o' : Obj}
def others (D : Addr) (news : List (Addr × Obj)) : List (Addr × Obj) := news.filter fun p => decide (p.1 ≠ D)
theorem others_ne : ∀ p ∈ others D news, p.1 ≠ D := fun p hp => of_decide_eq_true (List.mem_filter.mp hp).2
theorem mem_others {p : Addr × Obj} (hp : p ∈ news) (hne : p.1 ≠ D) : p ∈ others D news := List.mem_filter.mpr ⟨hp, decide_eq_true hne⟩
theorem canon (N : News h₀ L h news) (hm : (D, o) ∈ news) : News h₀ L h ((D, o) :: others D news) := fun p hp => by
  rcases List.mem_cons.mp hp with rfl | hp
  · exact N _ hm
  · exact N p (List.mem_filter.mp hp).1
theorem uncanon (N : News h₀ L h ((D, o') :: others D news)) : News h₀ L h (setN D o' news) := fun p hp => by
  rcases of_setN hp with rfl | ⟨hp, hne⟩
  · exact N _ (.head _)
  · exact N p (.tail _ (mem_others hp hne))
end
section
variable {K : Frag} {tg tg' : Tags} {news news' : List (Addr × Obj)} {w : World} {cx : Cx} {σB σP : St} {D d : Addr} {hsh : Int} {tok8 : Tok} {n8 ep : Nat}
theorem Wd.forgetB (W : Wd w K cx σB σP tg news) (hlt : ∀ p ∈ news, p.1 < d) (lo : (d == sysModules) = false) (hdx : (cx.dx, dictOf [⟨hsh, .str "_listeners" tok8, .ref D⟩] n8) ∈ news) :
    Wd w K cx σB.forget σP (putTag d (.dict σB.gens.length) tg) (setN cx.dx (dictOf [⟨hsh, .str "_listeners" tok8, .ref d⟩] n8) ((d, dictO #[] ep) :: news)) ∧
      Keeps tg (putTag d (.dict σB.gens.length) tg) news (setN cx.dx (dictOf [⟨hsh, .str "_listeners" tok8, .ref d⟩] n8) ((d, dictO #[] ep) :: news)) fun q => q ≠ .dx ∧ q ≠ .dict σB.gens.length := by
  have hn : ∀ p ∈ news, p.1 ≠ d := fun p hp => Nat.ne_of_lt (hlt p hp)
  have k0 : Keeps tg (putTag d (.dict σB.gens.length) tg) news ((d, dictO #[] ep) :: news) fun q => q ≠ .dx ∧ q ≠ .dict σB.gens.length := (Keeps.put hn W.base.ok).mono fun _ h => h.2
  have ok0 : TagsOk (putTag d (.dict σB.gens.length) tg) ((d, dictO #[] ep) :: news) := TagsOk.put hn (fun _ b hb => Nat.lt_irrefl _ (W.tagB b _ hb)) nofun W.base.ok
  have tdx := k0.tg _ _ W.dx.1
  have k1 : Keeps (putTag d (.dict σB.gens.length) tg) (putTag d (.dict σB.gens.length) tg) ((d, dictO #[] ep) :: news) (setN cx.dx (dictOf [⟨hsh, .str "_listeners" tok8, .ref d⟩] n8) ((d, dictO #[] ep) :: news)) fun q => q ≠ .dx ∧ q ≠ .dict σB.gens.length := (Keeps.set tdx ok0).mono fun _ h => h.1
  have ok1 := ok0.set (D := cx.dx) (o' := dictOf [⟨hsh, .str "_listeners" tok8, .ref d⟩] n8)
  have k := k0.trans k1
  have hdd : d ≠ cx.dx := Nat.ne_of_gt (hlt _ hdx)
  have back : ∀ a t, putTag d (.dict σB.gens.length) tg a = some t → (a = d ∧ t = .dict σB.gens.length) ∨ tg a = some t := fun a t h => by
    unfold putTag at h
    split at h
    · rename_i e; cases h; exact .inl ⟨e, rfl⟩
    · exact .inr h
  have ec : σB.forget.cur = σB.gens.length := by unfold St.forget St.cur; simp
  refine ⟨⟨W.base.mono k ok1, W.heard.mono k ⟨nofun, nofun⟩, W.due.mono k ⟨nofun, nofun⟩, W.plain.mono k ⟨nofun, nofun⟩, ⟨tdx, d, hsh, tok8, n8, mem_setN (.tail _ hdx), by rw [ec]; exact putTag_self ..⟩, W.rows.mono k fun _ => ⟨nofun, nofun⟩, ?_, W.tabL.mono k ⟨nofun, nofun⟩, W.tabS.mono k ⟨nofun, nofun⟩, W.tabR.mono k ⟨nofun, nofun⟩, ?_, W.wfP, ?_, ?_, ?_⟩, k⟩
  · intro g rs h
    have h' : (σB.gens ++ [[]])[g]? = some rs := h
    rcases Nat.lt_trichotomy g σB.gens.length with q | q | q
    · rw [List.getElem?_append_left q] at h'
      obtain ⟨a, x⟩ := W.dict g rs h'
      exact ⟨a, x.mono k ⟨nofun, by intro e; cases e; exact Nat.lt_irrefl _ q⟩ fun _ => ⟨nofun, nofun⟩⟩
    · subst q
      simp at h'
      subst h'
      refine ⟨d, putTag_self .., lo, #[], ep, [], keep_setN (.head _) hdd, rfl, by simp, nofun, nofun, fun _ _ _ => rfl, Nat.zero_le _, fun b nm hb => ?_⟩
      rcases back b _ hb with ⟨_, e⟩ | h
      · cases e
      · exact absurd (W.tagL b _ nm h) (Nat.lt_irrefl _)
    · rw [List.getElem?_eq_none (by simp; omega)] at h'; cases h'
  · refine ⟨by show σB.gens ++ [[]] ≠ []; simp, fun x hx y hy => ?_⟩
    rcases List.mem_append.mp (show x ∈ σB.gens ++ [[]] from hx) with h | h
    · exact W.wfB.2 x h y hy
    · rw [List.mem_singleton.mp h] at hy; cases hy
  · intro a g h
    show g < (σB.gens ++ [[]]).length
    rw [List.length_append]
    rcases back a _ h with ⟨_, e⟩ | h
    · cases e; simp
    · have := W.tagB a g h; simp; omega
  · intro a g h
    rcases back a _ h with ⟨_, e⟩ | h
    · cases e
    · exact W.tagP a g h
  · intro a g nm h
    show g < (σB.gens ++ [[]]).length
    rw [List.length_append]
    rcases back a _ h with ⟨_, e⟩ | h
    · cases e
    · have := W.tagL a g nm h; simp; omega
end
theorem setItem_S {prog : Program} {w : World} {A : Around} {E : Value → Shared → Prop} {s : Shared} {h₀ : Heap} {L D : Addr} {m : PySem.Str → Option Value} {news : List (Addr × Obj)} {its : Array Value} {n k : Nat} {t : Tok} {v : Value} {Q : Unit → Shared → Prop} (F : Fr h₀ L s.heap m) (N : News h₀ L s.heap news) (hm : (D, listOf its n) ∈ news) (hk : k < its.size) (hsz : its.size ≤ 1000)
    (h : ∀ h', Fr h₀ L h' m → News h₀ L h' (setN D (listOf (its.setIfInBounds k v) n) news) → Q () { s with heap := h' }) : wpAny (model prog w) A (setItem (.ref D) (.int k t) v) Q E s := by
  have z := N _ hm
  refine ki_setAt z.1 (by omega) (by omega) (by omega) ?_
  have e : (((k : Nat) : Int)).toNat = k := Int.toNat_natCast k
  rw [e]
  have q := PySem.IsL.update z.1 (·.setIfInBounds k v)
  rw [if_pos (by simp)] at q
  obtain ⟨F', N'⟩ := upd F N hm (Heap.SameBut.update ..) q
  exact h _ F' N'
section
variable {K : Frag} {tg : Tags} {news : List (Addr × Obj)} {w : World} {cx : Cx} {σB σP : St} {R : Addr} {n : Nat}
theorem Wd.flagB (W : Wd w K cx σB σP tg news) (b : Bool) (hm : (cx.plain, listOf #[.ref R, .bool σP.flag, .bool σB.flag] n) ∈ news) (hR : tg R = some (.rows σP.cur)) :
    Wd w K cx { σB with flag := b } σP tg (setN cx.plain (listOf #[.ref R, .bool σP.flag, .bool b] n) news) ∧ Keeps tg tg news (setN cx.plain (listOf #[.ref R, .bool σP.flag, .bool b] n) news) fun q => q ≠ .plain := by
  have k := Keeps.set (o' := listOf #[.ref R, .bool σP.flag, .bool b] n) W.plain.1 W.base.ok
  exact ⟨⟨W.base.mono k W.base.ok.set, W.heard.mono k nofun, W.due.mono k nofun, ⟨W.plain.1, R, n, mem_setN hm, hR⟩, W.dx.mono k nofun, W.rows.mono k fun _ => nofun, W.dict.mono k (fun _ => nofun) fun _ _ => nofun, W.tabL.mono k nofun, W.tabS.mono k nofun,
    W.tabR.mono k nofun, W.wfB, W.wfP, W.tagB, W.tagP, W.tagL⟩, k⟩
theorem Wd.flagP (W : Wd w K cx σB σP tg news) (b : Bool) (hm : (cx.plain, listOf #[.ref R, .bool σP.flag, .bool σB.flag] n) ∈ news) (hR : tg R = some (.rows σP.cur)) :
    Wd w K cx σB { σP with flag := b } tg (setN cx.plain (listOf #[.ref R, .bool b, .bool σB.flag] n) news) ∧ Keeps tg tg news (setN cx.plain (listOf #[.ref R, .bool b, .bool σB.flag] n) news) fun q => q ≠ .plain := by
  have k := Keeps.set (o' := listOf #[.ref R, .bool b, .bool σB.flag] n) W.plain.1 W.base.ok
  exact ⟨⟨W.base.mono k W.base.ok.set, W.heard.mono k nofun, W.due.mono k nofun, ⟨W.plain.1, R, n, mem_setN hm, hR⟩, W.dx.mono k nofun, W.rows.mono k fun _ => nofun, W.dict.mono k (fun _ => nofun) fun _ _ => nofun, W.tabL.mono k nofun, W.tabS.mono k nofun,
    W.tabR.mono k nofun, W.wfB, W.wfP, W.tagB, W.tagP, W.tagL⟩, k⟩
end
end Mine

end
section
-- C4
open PySem PySem.W PyProof.Rows PySem.Calls PySem.Spec
namespace Mine
local macro_rules | `(tactic| walk_at "idle 0") => `(tactic| fail)
local macro_rules | `(tactic| walk_at "idle 1") => `(tactic| fail)
local macro_rules | `(tactic| walk_at "idle 2") => `(tactic| fail)
local macro_rules | `(tactic| walk_at "idle 3") => `(tactic| fail)
local macro_rules | `(tactic| walk_at "idle 4") => `(tactic| fail)
local macro_rules | `(tactic| walk_at "idle 5") => `(tactic| fail)
local macro_rules | `(tactic| walk_at "idle 6") => `(tactic| fail)
set_option maxRecDepth 100000
local macro_rules | `(tactic| k_mem) => `(tactic| assumption)

def NmIn (w : World) (I : IP) (nm : Name) (v : Value) : Prop := NmAt w I nm v ∨ ∃ x t, nm = [.s x] ∧ v = .str x t

set_option maxHeartbeats 1000000 in
theorem toTuple_ok {w : World} {tg : Tags} {nm : Name} {va : Value}
    {A₀ : Around} {base h₀ : Heap} {outer : List Env} {env : Env} {L : Addr} {m mg mb : PySem.Str → Option Value} {p : Program} {loose : List PySem.Str} {mean : ExcName → Option Value} {s : Shared} {news : List (Addr × Obj)} {dep un : Nat} {gd : Option (List Code)} {Q : Value → Shared → Prop} {E : Value → Shared → Prop}
    (B : Below A₀ base outer h₀) (X : (hd.heap_39 w.params).In h₀) (T : Top p loose mean mg mb h₀) (hf : env.frame = some L) (hk : env.scope.kind = .function) (hdep : dep + 5 < recursionLimit)
    (F : Fr h₀ L s.heap m) (N : News h₀ L s.heap news) (hva : NmIn w (Im (hd.heap_39 w.params) news tg) nm va) 
    (hQ : ∀ h' tk v nw, Fr h₀ L h' m → News h₀ L h' (nw ++ news) → (∀ p ∈ nw, ∀ q ∈ news, q.1 < p.1) → NmAt w (fun p => Im (hd.heap_39 w.params) news tg p ∨ p ∈ nw) nm v → Q v { s with heap := h', toks := tk }) :
    wpAny (model PySem.Challenge.rw_bi0010_01.row.prog w) ⟨none, dep, some (env :: outer), gd, un⟩ (call (.ref 71) [va]) Q E s := by
  w_top off
  revert X; k_fill; intro X
  refine wpAny_call ?_
  refine' code_def (binds := [("tuple_or_not", va)]) B F X N T rfl hf hk ?k6 ?k7 ?k8 ?k9 ?kB ?_ ?c2 ?c3 ?c4 ?c5
  case k6 => k_is
  case k7 => k_is
  case k8 => show dep < _; omega
  case k9 => exact BindsTo.of_eq rfl
  case kB => exact locs rfl
  case c2 => rfl
  case c3 => rfl
  case c4 => rfl
  case c5 => decide
  intro g' L' h' FG' F' N' B' X' T'
  dsimp only [Around.deeper, Option.map]
  try k_fold
  rcases hva with ⟨hne, a, items, n, rfl, hI, hIt⟩ | ⟨x, t, rfl, rfl⟩
  · have hT : h'.get? a = some (tupO items n) := by
      rcases hI with q | ⟨q, _⟩
      · exact F'.keep _ _ (X' _ _ q)
      · exact (N' _ q).1
    k_steps
    refine IsiPair.tuple_tuple (o := tupO items n) hT rfl ?_
    k_steps
    rename_i kF kN Tc kX
    exact hQ _ _ _ [] kF kN (fun _ h => nomatch h) ⟨hne, a, items, n, rfl, .inl hI, hIt⟩
  · k_steps
    rename_i D' hA FA NA hlt kF kN Tc kX
    exact hQ _ _ _ [_] kF kN (fun p hp q hq => by rw [List.mem_singleton.mp hp]; exact hlt q hq) ⟨by simp, _, #[.str x t], _, rfl, .inr (.head _), .cons (strKind_is PG w x t) .nil⟩
end Mine

end
section
-- C5
open PySem PySem.W PyProof.Rows PySem.Calls PySem.Spec
namespace Mine
local macro_rules | `(tactic| walk_at "idle 0") => `(tactic| fail)
local macro_rules | `(tactic| walk_at "idle 1") => `(tactic| fail)
local macro_rules | `(tactic| walk_at "idle 2") => `(tactic| fail)
local macro_rules | `(tactic| walk_at "idle 3") => `(tactic| fail)
local macro_rules | `(tactic| walk_at "idle 4") => `(tactic| fail)
local macro_rules | `(tactic| walk_at "idle 5") => `(tactic| fail)
local macro_rules | `(tactic| walk_at "idle 6") => `(tactic| fail)
local macro_rules | `(tactic| walk_at "idle 7") => `(tactic| fail)
set_option maxRecDepth 100000
local macro_rules | `(tactic| k_mem) => `(tactic| assumption)

set_option maxHeartbeats 1000000 in
theorem unreg_ok {w : World} {cx : Cx} {σB σP : St} {tg : Tags}
    {A₀ : Around} {base h₀ : Heap} {outer : List Env} {env : Env} {L : Addr} {m mg mb : PySem.Str → Option Value} {p : Program} {loose : List PySem.Str} {mean : ExcName → Option Value} {s : Shared} {news : List (Addr × Obj)} {dep un : Nat} {gd : Option (List Code)} {Q : Value → Shared → Prop} {E : Value → Shared → Prop}
    (B : Below A₀ base outer h₀) (X : (hd.heap_39 w.params).In h₀) (T : Top p loose mean mg mb h₀) (hf : env.frame = some L) (hk : env.scope.kind = .function) (hdep : dep + 5 < recursionLimit)
    (F : Fr h₀ L s.heap m) (N : News h₀ L s.heap news) (W : Wd w (hd.heap_39 w.params) cx σB σP tg news)
    (hQ : ∀ h' tk tg' news', Fr h₀ L h' m → News h₀ L h' news' → Wd w (hd.heap_39 w.params) cx σB.forget σP tg' news' → Keeps tg tg' news news' (fun q => q ≠ .dx ∧ q ≠ .dict σB.gens.length) → Q .none { s with heap := h', toks := tk }) :
    wpAny (model PySem.Challenge.rw_bi0010_01.row.prog w) ⟨none, dep, some (env :: outer), gd, un⟩ (call (.ref 57) [.ref cx.bus]) Q E s := by
  w_top off
  revert X; k_fill; intro X
  refine wpAny_call ?_
  refine' code_def (binds := [("self", .ref cx.bus)]) B F X N T rfl hf hk ?k6 ?k7 ?k8 ?k9 ?kB ?_ ?c2 ?c3 ?c4 ?c5
  case k6 => k_is
  case k7 => k_is
  case k8 => show dep < _; omega
  case k9 => exact BindsTo.of_eq rfl
  case kB => exact locs rfl
  case c2 => rfl
  case c3 => rfl
  case c4 => rfl
  case c5 => decide
  intro g' L' h' FG' F' N' B' X' T'
  dsimp only [Around.deeper, Option.map]
  try k_fold
  obtain ⟨tdx, D, hsh, tok8, n8, hdx, tD⟩ := W.dx
  have hbus := W.base.bus.1
  k_steps
  rename_i d h₁ oD F₁ N₁ hltd lod isS fS isI fI
  have hbd : cx.bus ≠ cx.dx := fun e => by have h1 := W.base.bus.2; rw [show (cx.bus, instObj 177 cx.dx).1 = cx.dx from e, tdx] at h1; cases h1
  have N₂ := canon N₁ (.tail _ hdx)
  have hb2 : (cx.bus, instObj 177 cx.dx) ∈ (cx.dx, dictOf [⟨hsh, .str "_listeners" tok8, .ref D⟩] n8) :: others cx.dx ((d, oD) :: news) := .tail _ (mem_others (.tail _ hbus) hbd)
  have hd2 : (cx.dx, dictOf [⟨hsh, .str "_listeners" tok8, .ref D⟩] n8) ∈ (cx.dx, dictOf [⟨hsh, .str "_listeners" tok8, .ref D⟩] n8) :: others cx.dx ((d, oD) :: news) := .head _
  clear N₁
  refine' set_dict (es' := [⟨hsh, .str "_listeners" tok8, .ref d⟩]) (n' := n8) ?k1 ?k2 ?k3 ?k4 ?k5 ?k6 ?k7 ?k8 ?k9 ?k10 ?k11 ?k12 ?k13 ?_
  case k1 => k_asm
  case k2 => k_asm
  case k3 => k_asm
  case k4 => k_inst
  case k5 => exact rfl
  case k6 => k_is
  case k7 => k_is
  case k8 => k_is
  case k9 => k_is
  case k10 => k_get
  case k11 => exact rfl
  case k12 => exact .head others_ne
  case k13 => exact Nat.le_of_ble_eq_true rfl
  k_whole
  intro h₂ F₂ N₃
  have N₄ := uncanon N₃
  clear N₃ N₂ hb2 hd2
  obtain ⟨ep, rfl⟩ : ∃ ep, oD = dictO #[] ep := by
    obtain ⟨es, ep, ⟨e1, e2, e3⟩, e4, _, hp, _⟩ := isS
    obtain ⟨c, dd, dt, sl⟩ := oD
    simp only at e1 e2 e3 e4
    subst e1 e2 e3 e4
    have : es = #[] := by cases es with | mk l => cases hp; rfl
    subst this
    exact ⟨ep, rfl⟩
  have ⟨W₂, k₂⟩ := W.forgetB (ep := ep) hltd lod hdx
  k_steps
  rename_i kF kN Tc kX
  exact hQ _ _ _ _ kF kN W₂ k₂
end Mine

end
section
-- R3
open PySem PySem.W PyProof.Rows PySem.Calls PySem.Spec
namespace Mine
local macro_rules | `(tactic| walk_at "idle 0") => `(tactic| fail)
local macro_rules | `(tactic| walk_at "idle 1") => `(tactic| fail)
local macro_rules | `(tactic| walk_at "idle 2") => `(tactic| fail)
local macro_rules | `(tactic| walk_at "idle 3") => `(tactic| fail)
set_option maxRecDepth 100000
local macro_rules | `(tactic| k_mem) => `(tactic| assumption)
local macro_rules | `(tactic| walk_at "eval Name") => `(tactic| (k_here; kc_free; k_dflt (refine' nameX_F ?N ?c ?m ?d ?_ ?a ?b; (case a => rfl); (case b => rfl); (case N => k_asm); (case c => rfl); (case m => k_mem); (case d => k_asm); k_whole)))

local macro_rules | `(tactic| walk_at "eval Name") => `(tactic| (k_here; k_dflt (refine' nameX_L ?F ?v ?_ ?a ?b; (case F => k_asm); (case v => first | assumption | exact (if_neg (by decide)).trans (by assumption)); (case a => rfl); (case b => rfl); k_whole)))

set_option maxHeartbeats 2000000 in
theorem reg_ok {w : World} {cx : Cx} {σB σP : St} {tg : Tags} {r : Row} {va vf vl : Value}
    {A₀ : Around} {base h₀ : Heap} {outer : List Env} {env : Env} {L : Addr} {m mg mb : PySem.Str → Option Value} {p : Program} {loose : List PySem.Str} {mean : ExcName → Option Value} {s : Shared} {news : List (Addr × Obj)} {dep un : Nat} {gd : Option (List Code)} {Q : Value → Shared → Prop} {E : Value → Shared → Prop}
    (B : Below A₀ base outer h₀) (X : (hd.heap_39 w.params).In h₀) (T : Top p loose mean mg mb h₀) (hf : env.frame = some L) (hk : env.scope.kind = .function) (hdep : dep + 20 < recursionLimit) (hun : un + 100 < cLine)
    (F : Fr h₀ L s.heap m) (N : News h₀ L s.heap news)
    (W : Wd w (hd.heap_39 w.params) cx σB σP tg news) (hva : NmIn w (Im (hd.heap_39 w.params) news tg) r.asked va) (hr : r.ok) (hfn : FuncAt w (Im (hd.heap_39 w.params) news tg) (Lg news tg) cx r.num r.kind r.name vf) (hfl : if r.sieved then FiltAt (Lg news tg) cx r.num vl else vl = .none) (hT : σB.T ≤ 100000)
    (hQ : ∀ h' tk gens' tg' news', Fr h₀ L h' m → News h₀ L h' news' → (AllBare s.gens → AllBare gens') → Wd w (hd.heap_39 w.params) cx (σB.add r) σP tg' news' → Keeps tg tg' news news' (regT σB.cur) → Q .none { s with heap := h', toks := tk, gens := gens' })
    {as : List Value} (has : as = [.ref cx.bus, va, vf, vl] ∨ (as = [.ref cx.bus, va, vf] ∧ vl = .none)) :
    wpAny (model PySem.Challenge.rw_bi0010_01.row.prog w) ⟨none, dep, some (env :: outer), gd, un⟩ (call (.ref 50) as) Q E s := by
  w_top off
  revert X; k_fill; intro X
  refine wpAny_call ?_
  refine' code_defC (binds := [("self", .ref cx.bus), ("identifier", va), ("func", vf), ("filter_func", vl)]) B F X N T rfl hf hk ?k6 ?k7 ?k8 ?k9 ?kB ?kD ?_ ?c2 ?c3 ?c4
  case k6 => k_is
  case k7 => k_is
  case k8 => show dep < _; omega
  case k9 =>
    rcases has with rfl | ⟨rfl, rfl⟩
    · exact binds_K (by k_in) rfl (by k_is) rfl rfl rfl
    · exact binds_K (by k_in) rfl (by k_is) rfl rfl rfl
  case kB => exact rfl
  case kD => decide +kernel
  case c2 => rfl
  case c3 => rfl
  case c4 => rfl
  intro g' L' h' tk' cells' FG' F' N' Y' B' X' T' l1
  obtain ⟨oId, rfl, hdId⟩ := CellsAre.one Y'
  replace hdId : oId.data = .cell (some va) := hdId
  clear Y'
  simp only [List.cons_append, List.nil_append] at N'
  dsimp only [Around.deeper, Option.map]

  try k_fold
  k_steps
  have k0 : Keeps tg tg news ((L' + 1, oId) :: news) fun _ => True := Keeps.cons
  refine toTuple_ok B' X' T' rfl rfl (by omega) F' N' (tg := tg) (nm := r.asked) ?hv ?_
  case hv =>
    rcases hva with h | h
    · exact .inl (h.mono k0.im)
    · exact .inr h
  intro h₁ tk₁ v₁ nw F₁ N₁ hnw hv₁
  have N₁' : News g' L' h₁ ((L' + 1, oId) :: (nw ++ news)) := sub_news N₁ (by grind)
  clear N₁
  have hnc : ∀ p ∈ nw ++ news, p.1 ≠ L' + 1 := fun p hp => by
    rcases List.mem_append.mp hp with hp | hp
    · exact Nat.ne_of_gt (hnw p hp _ (.head _))
    · exact Nat.ne_of_lt (Nat.lt_succ_of_lt (l1 p hp))
  refine store_cell F₁ N₁' rfl rfl rfl hdId hnc ?_
  intro h₂ oId2 F₂ N₂ hdId2
  clear F₁ N₁' F' N'
  obtain ⟨hne, tI, items, nI, rfl, hI, hIt⟩ := hv₁
  have hT₂ : h₂.get? tI = some (tupO items nI) := by
    rcases hI with (q | ⟨q, _⟩) | q
    · exact F₂.keep _ _ (X' _ _ q)
    · rcases List.mem_cons.mp q with e | q
      · cases e; cases hdId
      · exact (N₂ _ (.tail _ (List.mem_append_right _ q))).1
    · exact (N₂ _ (.tail _ (List.mem_append_left _ q))).1
  have hlen : items.size = r.asked.length := by
    have := hIt.length
    rw [Array.length_toList] at this
    exact this.symm
  have hsz : items.size ≤ sizeLine := by rw [sizeLine_eq, hlen]; have := hr.2.1.2; omega
  k_steps
  refine gen_make (cl := [("identifier", L' + 1)]) rfl rfl ?hcell rfl rfl ?hroom ?h (fun _ => rfl)
  case hcell => decide
  case hroom => show dep + 1 < _; omega
  case h =>
    k_steps
    refine PyProof.Rows.len_tuple (items := items) ⟨_, hT₂, rfl, nI, rfl⟩ ?_ ?_
    · rw [sizeLine_eq] at hsz; omega
    k_steps
    obtain ⟨ps, hps, htr⟩ := W.tabR.2
    rename_i hR FA NA hKp
    have C49 : CodeHd g' 49 45 := ⟨_, _, _, _, _, _, _, _, _, X' 49 _ (by k_is), rfl, rfl, rfl, rfl, rfl, rfl, rfl, rfl, by decide⟩
    refine' gen_tail (s := ⟨_, _, _, _, _⟩) (P := 45) (ps := ps) (cl := [("identifier", L' + 1)]) (cI := L' + 1) (tI := tI) (oCell := oId2) (oT := tupO items nI) (items := items) FA NA T' ?q1 ?q2 C49 (.tail _ (List.mem_append_right _ hps)) htr hR ?q3 hsz ?q4 ?q5 ?q6 ?q7 ?q8 (.head _) hdId2 ?q9 ⟨rfl, nI, rfl⟩ ?_
    case q1 => rfl
    case q2 => rfl
    case q3 => rfl
    case q4 => rfl
    case q5 => rfl
    case q6 => rfl
    case q7 => rfl
    case q8 => rfl
    case q9 =>
      rcases hI with (q | ⟨q, _⟩) | q
      · exact .inl (X' _ _ q)
      · refine .inr ?_
        rcases List.mem_cons.mp q with e | q
        · cases e; cases hdId
        · exact .tail _ (List.mem_append_right _ q)
      · exact .inr (.tail _ (List.mem_append_left _ q))
    intro a C I g oG oC oI ps' h₃ gens₃ tk₃ F₃ N₃ htr₃ hG₃ hAB₃ hGen₃ hltI hIC hCa htI
    clear FA NA hKp hR
    have h45 : (45 : Nat) ≠ L' + 1 := fun e => by
      have h : (45 : Nat) < L' := l1 (45, tabObj ps) hps
      rw [e] at h
      exact Nat.lt_irrefl _ (Nat.lt_of_succ_lt h)
    have W₁ := W.app nw
    have kA := (Keeps.app (tg := tg) (news := news) nw)
    have ⟨W₃, k₃⟩ := W₁.setR (ps' := ps') (List.mem_append_right nw hps) htr₃
    have N₄ : News g' L' h₃ ([(C, oC), (I, oI), (a, oG), (L' + 1, oId2)] ++ setN 45 (tabObj ps') (nw ++ news)) := sub_news N₃ fun p hp => by
      have e : setN 45 (tabObj ps') ((L' + 1, oId2) :: (nw ++ news)) = (L' + 1, oId2) :: setN 45 (tabObj ps') (nw ++ news) := by
        unfold setN; rw [List.map_cons, if_neg (Ne.symm h45)]
      rw [e]; simpa using hp
    clear N₃
    obtain ⟨pre, rs, hpre⟩ := pre_last W.wfB.1
    have hrok : ∀ x ∈ rs, x.ok := W.wfB.2 rs (by rw [hpre]; simp)
    have hrl : rs.length ≤ σB.T := (nz_le_sum (by rw [hpre]; simp)).2
    k_steps
    rename_i h₅ F₅ N₅
    refine wpAny_For ?_ (fun _ => rfl)
    k_steps
    obtain ⟨gnm, gqn, gg1, gg2, gg3⟩ := id hG₃
    have ha₅ := (N₅ (a, oG) (by simp)).1
    refine wpAny_pyIter_gen ⟨oG, gnm, gqn, ha₅, gg1, gg2, gg3⟩ ?_
    have e0 : σB.withLast pre (mid rs r 0) = σB := by
      unfold St.withLast mid
      rw [if_pos rfl, ← hpre]
    have kB : Keeps tg tg (nw ++ news) (setN 45 (tabObj ps') (nw ++ news)) (regT pre.length) := k₃.mono fun _ h => h.1
    have ap₀ : ∀ q ∈ setN 45 (tabObj ps') (nw ++ news), q.1 ≠ C ∧ q.1 ≠ I ∧ q.1 ≠ a ∧ q.1 ≠ L' + 1 := by
      have key : ∀ q ∈ nw ++ news, q.1 < I ∧ q.1 ≠ L' + 1 := fun q hq => ⟨hltI q (.tail _ hq), hnc q hq⟩
      intro q hq
      have : q.1 < I ∧ q.1 ≠ L' + 1 := by
        rcases of_setN hq with rfl | ⟨hq, _⟩
        · exact key (45, tabObj ps) (List.mem_append_right _ hps)
        · exact key q hq
      exact ⟨Nat.ne_of_lt (Nat.lt_trans this.1 hIC), Nat.ne_of_lt this.1, Nat.ne_of_lt (Nat.lt_trans (Nat.lt_trans this.1 hIC) hCa), this.2⟩
    have hcI : L' + 1 < I := hltI (L' + 1, oId2) (.head _)
    have hI0 : Im (hd.heap_39 w.params) (nw ++ news) tg (tI, tupO items nI) := by
      rcases hI with (q | ⟨q, q2⟩) | q
      · exact .inl q
      · refine .inr ⟨?_, q2⟩
        rcases List.mem_cons.mp q with e | q
        · cases e; cases hdId
        · exact List.mem_append_right _ q
      · refine .inr ⟨List.mem_append_left _ q, ?_⟩
        exact tag_fresh W.base.ok fun p hp => hnw _ q _ (.tail _ hp)
    generalize hM : (fun y => if y = PySem.Str.ofString "substrings" then some (Value.ref a) else _) = M₅ at F₅
    have m1 : M₅ "self" = some (.ref cx.bus) := by subst hM; rfl
    have m2 : M₅ "func" = some vf := by subst hM; rfl
    have m3 : M₅ "filter_func" = some vl := by subst hM; rfl
    clear hM
    refine withA fun Ag hAg => ?_
    refine codeAny_forLoop_any (fun k s' => ∃ j m' tg' nb oC oI h gens tk, k = items.size - j ∧ s' = ⟨h, gens, s.drawn, tk, s.os⟩ ∧
      RegInv PG w (hd.heap_39 w.params) Ag.in1 cx σB σP pre rs r vf vl g' L' C I a (L' + 1) tI oG oId2 (tupO items nI) items g tg (nw ++ news) s j m' tg' nb oC oI h gens) ?turn items.size ?init
    case init =>
      refine ⟨0, M₅, tg, _, oC, oI, h₅, gens₃, _, rfl, rfl, Nat.zero_le _, F₅, m1, m2, m3, N₅, hAB₃, hGen₃ _ ?_, ?_, kB, ap₀⟩
      · subst hAg; rfl
      · rw [e0]; exact W₃
    case turn =>
      clear F₅ N₅ hG₃ hAB₃ hGen₃ W₁ W₃ k₃ kA e0 ap₀ ha₅
      subst hAg
      rintro k s' ⟨j, m', tg', nb, oC', oI', h₆, gens₆, tk₆, rfl, rfl, V⟩
      have F₆ := V.F
      have N₆ := V.N
      have hcell := (N₆ _ (.tail _ (.tail _ (.tail _ (.head _))))).1
      have hItI : Im (hd.heap_39 w.params) nb tg' (tI, tupO items nI) := V.k.im _ hI0
      have htup : h₆.get? tI = some (tupO items nI) := by
        rcases hItI with q | ⟨q, _⟩
        · exact F₆.keep _ _ (X' _ _ q)
        · exact (N₆ _ (.tail _ (.tail _ (.tail _ (.tail _ q))))).1
      have hlim : h₆.NoLimit := T'.nolimit.keeps F₆.keep
      rcases Nat.lt_or_ge j items.size with hj | hj
      · refine gen_next (items := items) rfl hlim (by show dep + 1 < _; omega) F₆ N₆ ⟨gnm, gqn, gg1, gg2, gg3⟩ hcell htup V.gen hj (Nat.ne_of_lt hCa) (Nat.ne_of_lt (Nat.lt_trans hIC hCa)) (Nat.ne_of_lt (Nat.lt_trans hcI hIC)) (Nat.ne_of_lt hcI) (Nat.ne_of_lt (Nat.lt_trans htI hIC)) (Nat.ne_of_lt htI) ?_ ?_
        · intro p hp
          rcases List.mem_cons.mp hp with rfl | hp
          · exact ⟨Nat.ne_of_lt (Nat.lt_trans hcI hIC), Nat.ne_of_lt hcI⟩
          · exact ⟨(V.apart p hp).1, (V.apart p hp).2.1⟩
        intro h₇ tk₇ gens₇ oC₇ oI₇ v₇ F₇ N₇ hAB₇ hG₇ hY
        obtain ⟨t, rfl, hcase⟩ := hY
        have hkey : ∃ nb₁, News g' L' h₇ ([(C, oC₇), (I, oI₇), (a, oG), (L' + 1, oId2)] ++ nb₁) ∧ Wd w (hd.heap_39 w.params) cx (σB.withLast pre (mid rs r j)) σP tg' nb₁ ∧ Keeps tg' tg' nb nb₁ (regT pre.length) ∧
            NmAt w (Im (hd.heap_39 w.params) nb₁ tg') (r.asked.take (j + 1)) (.ref t) ∧ ∀ q ∈ nb₁, q.1 ≠ C ∧ q.1 ≠ I ∧ q.1 ≠ a ∧ q.1 ≠ L' + 1 := by
          rcases hcase with ⟨rfl, hle⟩ | ⟨hlt', htup', hnew⟩
          · refine ⟨nb, N₇, V.W, .refl, ?_, V.apart⟩
            have : r.asked.take (j + 1) = r.asked := List.take_of_length_le (by omega)
            rw [this]
            exact ⟨hne, t, items, nI, rfl, hItI, hIt⟩
          · have hfr : ∀ q ∈ (C, oC') :: (I, oI') :: (a, oG) :: (L' + 1, oId2) :: nb, q.1 < t := fun q hq => hnew _ _ (N₆ q hq).1
            have hLt : L' < t := by
              obtain ⟨oL, _, _, hL, _⟩ := F₆.ns
              exact hnew _ _ hL
            have tt : tg' t = none := tag_fresh V.W.base.ok fun q hq => hfr q (.tail _ (.tail _ (.tail _ (.tail _ hq))))
            refine ⟨(t, { cls := .type "tuple", data := .seq (items.toList.take (j + 1)).toArray }) :: nb, ?_, V.W.cons _, Keeps.cons.mono fun _ _ => trivial, ?_, ?_⟩
            · have N₇' : News g' L' h₇ ((t, { cls := .type "tuple", data := .seq (items.toList.take (j + 1)).toArray }) :: (C, oC₇) :: (I, oI₇) :: (a, oG) :: (L' + 1, oId2) :: nb) := by
                intro p hp
                rcases List.mem_cons.mp hp with rfl | hp
                · exact ⟨htup', Nat.ne_of_gt hLt, Heap.get?_none_of_le (Nat.le_trans F₆.above (Nat.le_of_lt hLt))⟩
                · exact N₇ p hp
              exact sub_news N₇' (by intro p hp; simp only [List.cons_append, List.nil_append, List.mem_cons] at hp ⊢; grind)
            · refine ⟨?_, t, _, _, rfl, .inr ⟨.head _, tt⟩, ItemsAre_take (j + 1) hIt⟩
              intro e
              have : (r.asked.take (j + 1)).length = 0 := by rw [e]; rfl
              rw [List.length_take] at this; omega
            · intro q hq
              rcases List.mem_cons.mp hq with rfl | hq
              · exact ⟨Nat.ne_of_gt (hfr _ (.head _)), Nat.ne_of_gt (hfr _ (.tail _ (.head _))), Nat.ne_of_gt (hfr _ (.tail _ (.tail _ (.head _)))), Nat.ne_of_gt (hfr _ (.tail _ (.tail _ (.tail _ (.head _)))))⟩
              · exact V.apart q hq
        obtain ⟨nb₁, N₈, W₈, k₈, hkn, ap₈⟩ := hkey
        clear hcase N₇ N₆ F₆ hcell htup
        show wpAny _ _ (pure ()) _ _ _
        refine wpAny_pure (wpAny_assign_Name ?_)
        have ms := V.self
        have mf := V.func
        have ml := V.filt
        obtain ⟨tdx, D, hsh, tok8, n8, hdx, tD⟩ := W₈.dx
        have hbus : (cx.bus, instObj 177 cx.dx) ∈ [(C, oC₇), (I, oI₇), (a, oG), (L' + 1, oId2)] ++ nb₁ := List.mem_append_right _ W₈.base.bus.1
        have hdx8 : (cx.dx, dictOf [⟨hsh, .str "_listeners" tok8, .ref D⟩] n8) ∈ [(C, oC₇), (I, oI₇), (a, oG), (L' + 1, oId2)] ++ nb₁ := List.mem_append_right _ hdx
        have eD : tg' D = some (.dict pre.length) := by
          rw [tD, cur_last (pre := pre) (rs := mid rs r j) rfl]
        have hg8 : (σB.withLast pre (mid rs r j)).gens = pre ++ [mid rs r j] := rfl
        obtain ⟨es, ep, xs, hX8⟩ := (W₈.dictAt (get_last hg8) eD).x
        have lo8 := (W₈.dictAt (get_last hg8) eD).lo
        have hD8 : (D, dictO es ep) ∈ [(C, oC₇), (I, oI₇), (a, oG), (L' + 1, oId2)] ++ nb₁ := List.mem_append_right _ hX8.1
        have hxs : xs.length ≤ sizeLine := by
          have h1 := hX8.2.2.2.2.2.2.1
          have h2 := mid_weight rs r j hrok hr
          rw [sizeLine_eq]; omega
        k_steps
        rename_i h₉ F₉ N₉
        refine dictMethod_S N₉ hD8 PySem.F.slot_dict_setdefault PySem.F.type_dict_setdefault ?_
        k_steps
        rename_i l₁ h₁₀ F₁₀ N₁₀ hl₁₀
        have kC : Keeps tg tg' news nb₁ (regT pre.length) := (((Keeps.app nw).mono fun _ _ => trivial).trans V.k).trans k₈
        have hfn8 := hfn.mono kC.im kC.lg
        have hfl8 : if r.sieved then FiltAt (Lg nb₁ tg') cx r.num vl else vl = .none := by
          split
          · rename_i e; rw [if_pos e] at hfl; exact hfl.mono kC.lg
          · rename_i e; rw [if_neg e] at hfl; exact hfl
        have GB := mid_grow rs r j (by omega) hr
        have hl1 : ∀ p ∈ nb₁, p.1 < l₁ := fun p hp => hl₁₀ p (List.mem_append_right _ hp)
        have tmp1 : ∀ p ∈ (l₁, listOf #[] 0) :: [(C, oC₇), (I, oI₇), (a, oG), (L' + 1, oId2)], p.1 ≠ D := by
          intro p hp
          rcases List.mem_cons.mp hp with rfl | hp
          · exact Nat.ne_of_gt (hl1 _ hX8.1)
          · have q := ap₈ _ hX8.1
            simp only [List.mem_cons, List.not_mem_nil, or_false] at hp
            rcases hp with rfl | rfl | rfl | rfl
            · exact Ne.symm q.1
            · exact Ne.symm q.2.1
            · exact Ne.symm q.2.2.1
            · exact Ne.symm q.2.2.2
        refine setdefault_S (tmp := (l₁, listOf #[] 0) :: [(C, oC₇), (I, oI₇), (a, oG), (L' + 1, oId2)]) (by show un + 3 + 1 < cLine; omega) F₁₀ X' N₁₀ tmp1 lo8 hX8 hkn hxs ?hit ?miss
        case hit =>
          intro x hx hxk tk₁₀
          obtain ⟨la, its, nl, hxla, hla, htl, hA⟩ := hX8.2.2.2.2.1 x hx
          rw [hxla]
          rw [hxk] at htl hA
          have hla10 : (la, listOf its nl) ∈ (l₁, listOf #[] 0) :: ([(C, oC₇), (I, oI₇), (a, oG), (L' + 1, oId2)] ++ nb₁) := .tail _ (List.mem_append_right _ hla)
          k_steps
          rename_i pp h₁₁ F₁₁ N₁₁ hl₁₁
          have hlp : ∀ p ∈ nb₁, p.1 < pp := fun p hp => allLt_all hl₁₁.2 p (List.mem_append_right _ hp)
          have hpair : PairAt w (Im (hd.heap_39 w.params) ((pp, tupO #[vf, vl] 0) :: nb₁) tg') (Lg ((pp, tupO #[vf, vl] 0) :: nb₁) tg') cx (.ref pp) r := by
            have kp : Keeps tg' tg' nb₁ ((pp, tupO #[vf, vl] 0) :: nb₁) fun _ => True := Keeps.cons
            refine ⟨pp, vf, vl, 0, rfl, ⟨.head _, tag_fresh W₈.base.ok hlp⟩, hfn8.mono kp.im kp.lg, ?_⟩
            split
            · rename_i e; rw [if_pos e] at hfl8; exact hfl8.mono kp.lg
            · rename_i e; rw [if_neg e] at hfl8; exact hfl8
          have hisz : its.size ≤ sizeLine := by
            have h1 := hA.1
            have h2 := List.length_filter_le (fun x => Row.hits x (r.asked.take (j + 1))) (mid rs r j)
            have h3 : (mid rs r j).length ≤ rs.length + 1 := by unfold mid; split <;> simp
            rw [Array.length_toList] at h1
            rw [sizeLine_eq]; omega
          obtain ⟨W₁₁, k₁₁⟩ := W₈.growHit (np := nl + 1) hg8 eD hX8 hx hxk hxla hkn.1 hla htl hA GB hlp hpair
          refine append_S F₁₁ N₁₁ (.tail _ hla10) (fun h₁₂ F₁₂ N₁₂ => ?_) hisz
          have nla : ∀ p ∈ [(C, oC₇), (I, oI₇), (a, oG), (L' + 1, oId2)], p.1 ≠ la := by
            have q := ap₈ _ hla
            intro p hp
            simp only [List.mem_cons, List.not_mem_nil, or_false] at hp
            rcases hp with rfl | rfl | rfl | rfl
            · exact Ne.symm q.1
            · exact Ne.symm q.2.1
            · exact Ne.symm q.2.2.1
            · exact Ne.symm q.2.2.2
          have N₁₃ : News g' L' h₁₂ ([(C, oC₇), (I, oI₇), (a, oG), (L' + 1, oId2)] ++ setN la (listOf (its.push (.ref pp)) (nl + 1)) ((pp, tupO #[vf, vl] 0) :: nb₁)) := sub_news N₁₂ fun p hp => by
            rcases List.mem_append.mp hp with hp | hp
            · exact keep_setN (.tail _ (.tail _ (List.mem_append_left _ hp))) (nla p hp)
            · rcases of_setN hp with rfl | ⟨hp, hne'⟩
              · exact mem_setN (.tail _ hla10)
              · refine keep_setN ?_ hne'
                rcases List.mem_cons.mp hp with rfl | hp
                · exact .head _
                · exact .tail _ (.tail _ (List.mem_append_right _ hp))
          have ap₁₃ : ∀ q ∈ setN la (listOf (its.push (.ref pp)) (nl + 1)) ((pp, tupO #[vf, vl] 0) :: nb₁), q.1 ≠ C ∧ q.1 ≠ I ∧ q.1 ≠ a ∧ q.1 ≠ L' + 1 := by
            intro q hq
            rcases of_setN hq with rfl | ⟨hq, _⟩
            · exact ap₈ (la, listOf its nl) hla
            · rcases List.mem_cons.mp hq with rfl | hq
              · have al := allLt_all hl₁₁.2
                exact ⟨Nat.ne_of_gt (al (C, oC₇) (by simp)), Nat.ne_of_gt (al (I, oI₇) (by simp)), Nat.ne_of_gt (al (a, oG) (by simp)), Nat.ne_of_gt (al (L' + 1, oId2) (by simp))⟩
              · exact ap₈ q hq
          refine wpAny_execs_nil ?_
          exact ⟨items.size - (j + 1), by omega, j + 1, _, tg', _, oC₇, oI₇, h₁₂, gens₇, _, rfl, rfl, ⟨hj, F₁₂, (if_neg (by decide)).trans ms, (if_neg (by decide)).trans mf, (if_neg (by decide)).trans ml, N₁₃, fun h => hAB₇ (V.bare h), hG₇, W₁₁,
            (V.k.trans k₈).trans (k₁₁.mono fun _ h => h.2.2 _), ap₁₃⟩⟩
        case miss =>
          intro hno h₁₀' tk₁₀ es' ep' hes F₁₀' N₁₀'
          clear F₁₀ N₁₀
          obtain ⟨tmpL, htL⟩ : ∃ tmpL, tmpL = (l₁, listOf #[] 0) :: [(C, oC₇), (I, oI₇), (a, oG), (L' + 1, oId2)] := ⟨_, rfl⟩
          rw [← htL] at N₁₀'
          have hl10 : (l₁, listOf #[] 0) ∈ tmpL ++ setN D (dictO es' ep') nb₁ := List.mem_append_left _ (by rw [htL]; exact .head _)
          k_steps
          rename_i pp h₁₁ F₁₁ N₁₁ hl₁₁
          have hD1 : ∀ p ∈ nb₁, p.1 < pp := fun p hp => by
            by_cases e : p.1 = D
            · have h1 := hl₁₁ (D, dictO es' ep') (List.mem_append_right _ (mem_setN hX8.1))
              rw [e]; exact h1
            · exact hl₁₁ p (List.mem_append_right _ (keep_setN hp e))
          have hlp1 : l₁ < pp := hl₁₁ _ hl10
          have hpair : PairAt w (Im (hd.heap_39 w.params) ((pp, tupO #[vf, vl] 0) :: nb₁) tg') (Lg ((pp, tupO #[vf, vl] 0) :: nb₁) tg') cx (.ref pp) r := by
            have kp : Keeps tg' tg' nb₁ ((pp, tupO #[vf, vl] 0) :: nb₁) fun _ => True := Keeps.cons
            refine ⟨pp, vf, vl, 0, rfl, ⟨.head _, tag_fresh W₈.base.ok hD1⟩, hfn8.mono kp.im kp.lg, ?_⟩
            split
            · rename_i e; rw [if_pos e] at hfl8; exact hfl8.mono kp.lg
            · rename_i e; rw [if_neg e] at hfl8; exact hfl8
          obtain ⟨W₁₁, k₁₁⟩ := W₈.growMiss (n := 1) (ep' := ep') (tup := tupO #[vf, vl] 0) hg8 eD hX8 hkn hno hes GB hl1 hD1 (Nat.ne_of_gt hlp1) hpair
          refine append_S F₁₁ N₁₁ (.tail _ hl10) (fun h₁₂ F₁₂ N₁₂ => ?_) (Nat.zero_le _)
          have hDp : pp ≠ D := Nat.ne_of_gt (hD1 _ hX8.1)
          have eset : setN D (dictO es' ep') ((pp, tupO #[vf, vl] 0) :: nb₁) = (pp, tupO #[vf, vl] 0) :: setN D (dictO es' ep') nb₁ := by
            unfold setN; rw [List.map_cons, if_neg hDp]
          have inL : ∀ p ∈ [(C, oC₇), (I, oI₇), (a, oG), (L' + 1, oId2)], p ∈ tmpL ∧ p.1 ≠ l₁ := by
            intro p hp
            refine ⟨by rw [htL]; exact .tail _ hp, ?_⟩
            have h1 := hl₁₀ p (List.mem_append_left _ hp)
            exact Nat.ne_of_lt h1
          have N₁₃ : News g' L' h₁₂ ([(C, oC₇), (I, oI₇), (a, oG), (L' + 1, oId2)] ++ (l₁, listOf #[.ref pp] 1) :: setN D (dictO es' ep') ((pp, tupO #[vf, vl] 0) :: nb₁)) := sub_news N₁₂ fun p hp => by
            rcases List.mem_append.mp hp with hp | hp
            · exact keep_setN (.tail _ (List.mem_append_left _ (inL p hp).1)) (inL p hp).2
            · rcases List.mem_cons.mp hp with rfl | hp
              · exact mem_setN (.tail _ hl10)
              · rw [eset] at hp
                rcases List.mem_cons.mp hp with rfl | hp
                · exact keep_setN (.head _) (Nat.ne_of_gt hlp1)
                · refine keep_setN (.tail _ (List.mem_append_right _ hp)) ?_
                  rcases of_setN hp with rfl | ⟨hp, _⟩
                  · exact Nat.ne_of_lt (hl1 (D, dictO es ep) hX8.1)
                  · exact Nat.ne_of_lt (hl1 p hp)
          have ap₁₃ : ∀ q ∈ (l₁, listOf #[.ref pp] 1) :: setN D (dictO es' ep') ((pp, tupO #[vf, vl] 0) :: nb₁), q.1 ≠ C ∧ q.1 ≠ I ∧ q.1 ≠ a ∧ q.1 ≠ L' + 1 := by
            have gt : ∀ z, l₁ ≤ z → z ≠ C ∧ z ≠ I ∧ z ≠ a ∧ z ≠ L' + 1 := fun z hz =>
              ⟨Nat.ne_of_gt (Nat.lt_of_lt_of_le (hl₁₀ (C, oC₇) (by simp)) hz), Nat.ne_of_gt (Nat.lt_of_lt_of_le (hl₁₀ (I, oI₇) (by simp)) hz), Nat.ne_of_gt (Nat.lt_of_lt_of_le (hl₁₀ (a, oG) (by simp)) hz), Nat.ne_of_gt (Nat.lt_of_lt_of_le (hl₁₀ (L' + 1, oId2) (by simp)) hz)⟩
            intro q hq
            rcases List.mem_cons.mp hq with rfl | hq
            · exact gt l₁ (Nat.le_refl _)
            · rw [eset] at hq
              rcases List.mem_cons.mp hq with rfl | hq
              · exact gt pp (Nat.le_of_lt hlp1)
              · rcases of_setN hq with rfl | ⟨hq, _⟩
                · exact ap₈ (D, dictO es ep) hX8.1
                · exact ap₈ q hq
          clear N₁₂
          refine wpAny_execs_nil ?_
          exact ⟨items.size - (j + 1), by omega, j + 1, _, _, _, oC₇, oI₇, h₁₂, gens₇, _, rfl, rfl, ⟨hj, F₁₂, (if_neg (by decide)).trans ms, (if_neg (by decide)).trans mf, (if_neg (by decide)).trans ml, N₁₃, fun h => hAB₇ (V.bare h), hG₇, W₁₁,
            (V.k.trans k₈).trans (k₁₁.mono fun _ h => ⟨h.2.1, h.2.2 _⟩), ap₁₃⟩⟩
      · have ej : j = items.size := Nat.le_antisymm V.le hj
        subst ej
        refine gen_done rfl hlim (by show dep + 1 < _; omega) F₆ N₆ ⟨gnm, gqn, gg1, gg2, gg3⟩ hcell htup V.gen ?_ ?_
        · intro p hp
          rcases List.mem_cons.mp hp with rfl | hp
          · exact ⟨Nat.ne_of_lt (Nat.lt_trans hcI hIC), Nat.ne_of_lt hcI⟩
          · exact ⟨(V.apart p hp).1, (V.apart p hp).2.1⟩
        intro h₇ tk₇ gens₇ F₇ N₇ hAB₇
        k_steps
        rename_i kF kN Tc kX
        have eσ : σB.withLast pre (mid rs r items.size) = σB.add r := by
          rw [hlen, mid_last _ _ hr.2.1.1]
          unfold St.withLast St.add
          rw [hpre, appLast_last]
        exact hQ h₇ tk₇ gens₇ tg' nb kF (sub_news kN fun p hp => .tail _ hp) (fun h => hAB₇ (V.bare h)) (eσ ▸ V.W) (by rw [cur_last hpre]; exact ((Keeps.app nw).mono fun _ _ => trivial).trans V.k)
end Mine

end
section
-- E0
open PySem PySem.W PyProof.Rows PySem.Calls PySem.Spec
namespace Mine
set_option maxRecDepth 100000

/-- of what an emission leaves alone -/
def emT : Tag → Prop
  | .tmp _ => True
  | .due => True
  | .rows _ => True
  | .tabS => True
  | _ => False

theorem appLast_T (r : Row) : ∀ l : List (List Row), (l.map List.length).sum ≤ ((appLast r l).map List.length).sum
  | [] => Nat.le_refl _
  | [a] => by simp [appLast]
  | a :: b :: t => by
    have ih := appLast_T r (b :: t)
    show ((a :: b :: t).map List.length).sum ≤ ((a :: appLast r (b :: t)).map List.length).sum
    simp only [List.map_cons, List.sum_cons] at ih ⊢
    omega
theorem Loop.mono {id : Name} {d : PyData} {g p : Nat} {σ σ' : St} (L : Loop id d g p σ σ') : σ.log.length ≤ σ'.log.length ∧ σ.T ≤ σ'.T := by
  have say : ∀ (σ : St) es, σ.log.length ≤ (σ.say es).log.length ∧ σ.T ≤ (σ.say es).T := fun σ es => by
    constructor
    · simp [St.say]
    · exact Nat.le_refl _
  induction L with
  | done => exact ⟨Nat.le_refl _, Nat.le_refl _⟩
  | skip _ _ _ _ ih => exact ih
  | refuse _ _ _ _ _ _ ih => exact ⟨Nat.le_trans (say _ _).1 ih.1, Nat.le_trans (say _ _).2 ih.2⟩
  | plain _ _ _ _ _ _ ih => exact ⟨Nat.le_trans (say _ _).1 ih.1, Nat.le_trans (say _ _).2 ih.2⟩
  | adds _ _ _ _ _ _ ih =>
    refine ⟨Nat.le_trans (say _ _).1 ih.1, Nat.le_trans ?_ ih.2⟩
    exact appLast_T _ _
  | nest _ _ _ _ _ _ _ _ ih1 ih2 =>
    exact ⟨Nat.le_trans (say _ _).1 (Nat.le_trans ih1.1 ih2.1), Nat.le_trans ih1.2 ih2.2⟩
  | forgets _ _ _ _ _ _ ih =>
    refine ⟨Nat.le_trans (say _ _).1 ih.1, Nat.le_trans ?_ ih.2⟩
    simp [St.T, St.forget, St.say]

section
variable {K : Frag} {tg : Tags} {news : List (Addr × Obj)} {w : World} {cx : Cx} {σB σP : St} {I : Addr} {o o' : Obj}
theorem Wd.tmp_of {tg' : Tags} {news' : List (Addr × Obj)} (W : Wd w K cx σB σP tg news) (k : Keeps tg tg' news news' fun q => q ≠ .tmp I) (ok : TagsOk tg' news') : Wd w K cx σB σP tg' news' :=
  ⟨W.base.mono k ok, W.heard.mono k nofun, W.due.mono k nofun, W.plain.mono k nofun, W.dx.mono k nofun, W.rows.mono k fun _ => nofun, W.dict.mono k (fun _ => nofun) fun _ _ => nofun, W.tabL.mono k nofun, W.tabS.mono k nofun, W.tabR.mono k nofun, W.wfB, W.wfP,
    fun a g h => W.tagB a g (k.back a _ nofun trivial h), fun a g h => W.tagP a g (k.back a _ nofun trivial h), fun a g nm h => W.tagL a g nm (k.back a _ nofun trivial h)⟩
theorem Wd.tmpNew (W : Wd w K cx σB σP tg news) (hlt : ∀ p ∈ news, p.1 < I) :
    Wd w K cx σB σP (putTag I (.tmp I) tg) ((I, o) :: news) ∧ Keeps tg (putTag I (.tmp I) tg) news ((I, o) :: news) fun q => q ≠ .tmp I := by
  have hn : ∀ p ∈ news, p.1 ≠ I := fun p hp => Nat.ne_of_lt (hlt p hp)
  have k : Keeps tg (putTag I (.tmp I) tg) news ((I, o) :: news) fun q => q ≠ .tmp I := Keeps.put hn W.base.ok
  exact ⟨W.tmp_of k (TagsOk.put hn (fun h => False.elim h) (fun J e => by cases e; rfl) W.base.ok), k⟩
theorem Keeps.hide {tg' : Tags} {news' : List (Addr × Obj)} {T : Tag → Prop} (ok : TagsOk tg news) (hn : ∀ p ∈ news, p.1 ≠ I) (k : Keeps tg tg' news news' fun q => T q ∧ q ≠ .tmp I) : Keeps tg tg' news news' T :=
  ⟨k.lg, fun a o t h1 h2 h3 => k.mu a o t h1 h2 ⟨h3, fun e => by subst e; exact hn _ h1 (ok.tmp a I h2).symm⟩, fun a t hT h1 h => k.back a t ⟨hT, fun e => by subst e; exact h1⟩ h1 h, k.tg⟩
theorem Wd.tmpSet (W : Wd w K cx σB σP tg news) (ht : tg I = some (.tmp I)) : Wd w K cx σB σP tg (setN I o' news) ∧ Keeps tg tg news (setN I o' news) fun q => q ≠ .tmp I := by
  have k : Keeps tg tg news (setN I o' news) fun q => q ≠ .tmp I := Keeps.set ht W.base.ok
  exact ⟨W.tmp_of k W.base.ok.set, k⟩
end

section
variable {prog : Program} {w : World} {A : Around} {E : Value → Shared → Prop} {s : Shared}
/-- the list iterator at its end: it stands -/
theorem list_end_S {it l : Addr} {i : Nat} {items : Array Value} {Q : Option Value → Shared → Prop} (hh : A.handled = none)
    (hit : s.heap.IsListIter it l i) (hl : s.heap.IsList l items) (hx : items[i]? = none)
    (hQ : ∀ h' o', h'.get? it = some o' → Heap.ExtBut it s.heap h' → Q none { s with heap := h' }) : wpAny (model prog w) A (pyNext (.ref it)) Q E s := by
  obtain ⟨o, ho, hc, hd⟩ := id hit
  obtain ⟨ol, hol, _, nl, hdl⟩ := hl
  unfold pyNext
  refine wpAny_bind (wpAny_attempt (wpAny_callSpecial?_slot (name := Str.ofString "__next__") hit.typeIs slot_listiter_next
    (wpAny_call_entry slot_listiter_next hit.typeIs entry_listiter_next ?_ (args_listiter_next _))))
  show wpAny _ _ (field (.ref it) 0 >>= _) _ _ s
  refine wpAny_bind (wpAny_field ho hd (x := .ref l) rfl ?_)
  show wpAny _ _ (if (Value.ref l == Value.none) = true then _ else _) _ _ s
  rw [if_neg (show ¬ ((Value.ref l == Value.none) = true) from Bool.false_ne_true)]
  show wpAny _ _ (field (.ref it) 1 >>= _) _ _ s
  refine wpAny_bind (wpAny_field ho hd (x := .int i 0) rfl ?_)
  show wpAny _ _ (seqItems? (.ref l) >>= _) _ _ s
  refine wpAny_bind (wpAny_seqItems hol hdl ?_)
  simp only [Int.toNat_natCast, hx]
  refine wpAny_bind (wpAny_rule (wpAny_bind (wpAny_setField ho hd (by simp) ?_)))
  show wpAny _ _ (newExc (.type "StopIteration") [] >>= _) _ _ _
  refine wpAny_bind ?_
  simp only [newExc, newTuple]
  refine wpAny_bind (wpAny_newObj_type ?_ (by size_fits))
  refine wpAny_bind (m := firstArgMember _ _) (wpAny_of_eq (a := Value.none) (by first | rfl | (simp only [firstArgMember]; rfl)) ?_)
  refine wpAny_newObj_type ?_ (by size_fits)
  simp only [raiseNew]
  refine wpAny_bind (wpAny_handled ?_)
  rw [show A.in1.handled = none from hh]
  refine wpAny_bind (wpAny_pure (wpAny_throw ?_))
  refine wpAny_bind (wpAny_isInstance (T := "StopIteration") (b := true) ⟨_, Heap.get?_push_size _ rfl, rfl⟩ isSubtype_stop ?_)
  exact wpAny_pure (hQ _ _ (Heap.get?_push_of_some _ (Heap.get?_push_of_some _ (Heap.get?_update_self _ ho (Obj.isFreed_of_fields (Obj.data_mapFields hd _))))) (((Heap.SameBut.update ..).extBut.push _).push _))

/-- one turn of a for loop -/
theorem forLoop_turn {R : Result → Shared → Prop} {target : Expr} {it : Value} {body orelse : List Stmt} {env : Env}
    (turn : wpAny (model prog w) A (pyNext it) (fun r s₁ => match r with
      | none => wpAny (model prog w) A (execs orelse env) (fun f s₃ => R (.ok f) s₃) (notedBy (model prog w) A env fun e s' => R (.error e) s') s₁
      | some v => wpAny (model prog w) A (letOwnedTupleGo target it v) (fun _ s₁' =>
          wpAny (model prog w) A (assign target env v) (fun _ s₂ => wpAny (model prog w) A (execs body env) (fun f s₃ => match f with
            | .next | .cont => codeAny (model prog w) A (.forLoop target it body orelse env) R s₃
            | .brk => R (.ok .next) s₃
            | .ret v => R (.ok (.ret v)) s₃) (notedBy (model prog w) A env fun e s' => R (.error e) s') s₂) (notedBy (model prog w) A env fun e s' => R (.error e) s') s₁') (notedBy (model prog w) A env fun e s' => R (.error e) s') s₁) (notedBy (model prog w) A env fun e s' => R (.error e) s') s) :
    codeAny (model prog w) A (.forLoop target it body orelse env) R s := by
  refine codeAny_of_tree ?_
  show wpAny _ A ((forTurn target it body orelse env).onRaise (fun x => do noteFrame x env; theTreesLotGoes x)) _ _ s
  refine wpAny_noted ?_
  simp only [forTurn]
  refine wpAny_bind (wpAny_standAt (wpAny_bind (wpAny_onRaise (wpAny_mono turn (fun r s₁ h₁ => ?_) fun _ _ h' => wpAny_standAt h'))))
  cases r with
  | none => exact wpAny_pure ⟨rfl, codeAny_block h₁⟩
  | some v =>
    refine wpAny_bind (wpAny_mono h₁ (fun _ s₁' h₁' => ?_) fun _ _ h' => h')
    refine wpAny_bind (wpAny_mono h₁' (fun _ s₂ h₂ => wpAny_bind (wpAny_mono h₂ (fun f s₃ h₃ => ?_) fun _ _ h' => h')) fun _ _ h' => h')
    cases f with
    | next => exact wpAny_pure ⟨rfl, h₃⟩
    | cont => exact wpAny_pure ⟨rfl, h₃⟩
    | brk => exact wpAny_pure h₃
    | ret v => exact wpAny_pure h₃
end
section
variable {K : Frag} {tg : Tags} {news : List (Addr × Obj)} {w : World} {cx : Cx} {D t : Addr} {key : Name} {rs : List Row}
theorem get2_S {A : Around} {E : Value → Shared → Prop} {s : Shared} {h₀ : Heap} {L : Addr} {m : PySem.Str → Option Value} {g ep : Nat} {es : Array DictEntry} {xs : List (Name × Addr × Value)} {J : IP} {tmp : List (Addr × Obj)} {dflt : Value} {Q : Value → Shared → Prop}
    (hu : A.units + 1 < cLine) (F : Fr h₀ L s.heap m) (X : K.In h₀) (N : News h₀ L s.heap (tmp ++ news)) (lo : (D == sysModules) = false)
    (hX : DictX w (Im K news tg) J news tg cx g rs D es ep xs) (hkey : NmAt w (Im K news tg) key (.ref t))
    (h1 : ∀ x ∈ xs, x.1 = key → ∀ tk, Q x.2.2 { s with toks := tk })
    (h2 : key ∉ xs.map (·.1) → ∀ tk, Q dflt { s with toks := tk }) :
    wpAny (model PG w) A (call (.builtin "dict.get") [.ref D, .ref t, dflt]) Q E s := by
  have N0 : News h₀ L s.heap news := sub_news N fun p hp => List.mem_append_right _ hp
  refine call_get2_H (knd := nameKind PG w) (xs := xs) (k := key) hu lo (hkey.keyIs F X N0) (hX.ofH F X N0) ?_
  unfold atKey
  cases hf : xs.find? (fun x => decide (x.1 = key)) with
  | none =>
    refine h2 (fun hm => ?_) _
    obtain ⟨x, hx, e⟩ := List.mem_map.mp hm
    exact absurd (List.find?_eq_none.mp hf x hx) (by simp [e])
  | some x => exact h1 x (List.mem_of_find?_eq_some hf) (of_decide_eq_true (List.find?_some (p := fun x : Name × Addr × Value => decide (x.1 = key)) hf)) _
end
end Mine

end
section
-- E2
open PySem PySem.W PyProof.Rows PySem.Calls PySem.Spec
namespace Mine
local macro_rules | `(tactic| walk_at "idle 0") => `(tactic| fail)
local macro_rules | `(tactic| walk_at "idle 1") => `(tactic| fail)
local macro_rules | `(tactic| walk_at "idle 2") => `(tactic| fail)
local macro_rules | `(tactic| walk_at "idle 3") => `(tactic| fail)
local macro_rules | `(tactic| walk_at "idle 4") => `(tactic| fail)
local macro_rules | `(tactic| walk_at "idle 5") => `(tactic| fail)
local macro_rules | `(tactic| walk_at "idle 6") => `(tactic| fail)
set_option maxRecDepth 100000
local macro_rules | `(tactic| k_mem) => `(tactic| assumption)

def clsBody : Stmt → List Stmt | .ClassDef _ _ _ b .. => b | _ => []
def emitD : Stmt := dAt (clsBody (dAt pw.main.body 2)) 1
def forTarget : Stmt → Expr | .For t .. => t | _ => .Constant .none 0 default
def forBody : Stmt → List Stmt | .For _ _ b .. => b | _ => []
def emitFor : Stmt := dAt (dBody emitD) 1
abbrev envE (L : Addr) : Env := envOf "SignalBus.emit_signal" (dScope emitD) L 42 (.ref 41)
abbrev forE (L I : Addr) : Code := .forLoop (forTarget emitFor) (.ref I) (forBody emitFor) [] (envE L)

/-- what a loop of emit_signal does, from row p of generation g on -/
def LoopRun (w : World) (cx : Cx) (σP : St) (id : Name) (d : PyData) (g p : Nat) (σ σ' : St) : Prop :=
  ∀ {tg : Tags} {A₀ : Around} {base h₀ : Heap} {outer : List Env} {L la I : Addr} {m mg mb : PySem.Str → Option Value} {pg : Program} {loose : List PySem.Str} {mean : ExcName → Option Value} {s : Shared} {news : List (Addr × Obj)} {dep un : Nat} {gd : Option (List Code)} {R : Result → Shared → Prop} {vid vd : Value} {rows : List Row} {oI : Obj} {its : Array Value} {nl : Nat}
    (_ : Below A₀ base outer h₀) (_ : (hd.heap_39 w.params).In h₀) (_ : Top pg loose mean mg mb h₀) (_ : dep + 50 + (if σ.flag then 0 else 50) < recursionLimit) (_ : un + 200 + (if σ.flag then 0 else 200) < cLine)
    (_ : Fr h₀ L s.heap m) (_ : m "identifier" = some vid) (_ : m "data" = some vd) (_ : News h₀ L s.heap news) (_ : NmAt w (Im (hd.heap_39 w.params) news tg) id vid) (_ : Rd w (Im (hd.heap_39 w.params) news tg) vd d)
    (_ : Wd w (hd.heap_39 w.params) cx σ σP tg news) (_ : σ.gens[g]? = some rows) (_ : p ≤ rows.length) (_ : (la, listOf its nl) ∈ news) (_ : tg la = some (.lst g id)) (_ : tg I = some (.tmp I)) (_ : (I, oI) ∈ news)
    (_ : oI.cls = .type "list_iterator" ∧ oI.data = .fields #[.ref la, .int (((rows.take p).filter (·.hits id)).length : Int) 0]) (_ : σ'.log.length ≤ 1000000) (_ : σ'.T ≤ 100000)
    (_ : ∀ h' tk gens' tg' news' m', Fr h₀ L h' m' → News h₀ L h' news' → (AllBare s.gens → AllBare gens') → Wd w (hd.heap_39 w.params) cx σ' σP tg' news' → Keeps tg tg' news news' (fun q => emT q ∧ q ≠ .tmp I) → R (.ok .next) ⟨h', gens', s.drawn, tk, s.os⟩),
    codeAny (model PySem.Challenge.rw_bi0010_01.row.prog w) ⟨none, dep, some (envE L :: outer), gd, un⟩ (forE L I) R s

set_option maxHeartbeats 2000000 in
theorem emit_ok {w : World} {cx : Cx} {σ σ' σP : St} {tg : Tags} {id : Name} {d : PyData} {va vd : Value}
    {A₀ : Around} {base h₀ : Heap} {outer : List Env} {env : Env} {L : Addr} {m mg mb : PySem.Str → Option Value} {p : Program} {loose : List PySem.Str} {mean : ExcName → Option Value} {s : Shared} {news : List (Addr × Obj)} {dep un : Nat} {gd : Option (List Code)} {Q : Value → Shared → Prop} {E : Value → Shared → Prop}
    (hL : Loop id d σ.cur 0 σ σ') (hR : LoopRun w cx σP id d σ.cur 0 σ σ')
    (B : Below A₀ base outer h₀) (X : (hd.heap_39 w.params).In h₀) (T : Top p loose mean mg mb h₀) (hf : env.frame = some L) (hk : env.scope.kind = .function) (hdep : dep + 51 + (if σ.flag then 0 else 50) < recursionLimit) (hun : un + 203 + (if σ.flag then 0 else 200) < cLine)
    (F : Fr h₀ L s.heap m) (N : News h₀ L s.heap news) (W : Wd w (hd.heap_39 w.params) cx σ σP tg news) (hva : NmIn w (Im (hd.heap_39 w.params) news tg) id va) (hid : id ≠ []) (hvd : Rd w (Im (hd.heap_39 w.params) news tg) vd d)
    (hlog : σ'.log.length ≤ 1000000) (hT : σ'.T ≤ 100000)
    (hQ : ∀ h' tk gens' tg' news', Fr h₀ L h' m → News h₀ L h' news' → (AllBare s.gens → AllBare gens') → Wd w (hd.heap_39 w.params) cx σ' σP tg' news' → Keeps tg tg' news news' emT → Q .none { s with heap := h', toks := tk, gens := gens' }) :
    wpAny (model PySem.Challenge.rw_bi0010_01.row.prog w) ⟨none, dep, some (env :: outer), gd, un⟩ (call (.ref 42) [.ref cx.bus, va, vd]) Q E s := by
  w_top off
  revert X; k_fill; intro X
  refine wpAny_call ?_
  refine' code_def (binds := [("self", .ref cx.bus), ("identifier", va), ("data", vd)]) B F X N T rfl hf hk ?k6 ?k7 ?k8 ?k9 ?kB ?_ ?c2 ?c3 ?c4 ?c5
  case k6 => k_is
  case k7 => k_is
  case k8 => show dep < _; omega
  case k9 => exact BindsTo.of_eq rfl
  case kB => exact locs rfl
  case c2 => rfl
  case c3 => rfl
  case c4 => rfl
  case c5 => decide
  intro g' L' h' FG' F' N' B' X' T'
  dsimp only [Around.deeper, Option.map]
  try k_fold
  k_steps
  refine toTuple_ok B' X' T' rfl rfl (by omega) F' N' (tg := tg) hva ?_
  intro h₁ tk₁ v₁ nw F₁ N₁ hnw hv₁
  clear F' N'
  have W₁ := W.app nw
  have kA : Keeps tg tg news (nw ++ news) emT := (Keeps.app nw).mono fun _ _ => trivial
  have hv₂ : NmAt w (Im (hd.heap_39 w.params) (nw ++ news) tg) id v₁ := hv₁.mono fun p hp => by
    rcases hp with hp | hp
    · exact kA.im _ hp
    · exact .inr ⟨List.mem_append_left _ hp, tag_fresh W.base.ok fun q hq => hnw _ hp q hq⟩
  obtain ⟨hne, tI, items, nI, rfl, hI, hIt⟩ := And.intro trivial hv₂ |>.2
  obtain ⟨tdx, D, hsh, tok8, n8, hdx, tD⟩ := W₁.dx
  have hbus : (cx.bus, instObj 177 cx.dx) ∈ nw ++ news := W₁.base.bus.1
  obtain ⟨rows, hrows⟩ := cur_get W.wfB
  obtain ⟨es, ep, xs, hX8⟩ := (W₁.dictAt hrows tD).x
  have lo8 := (W₁.dictAt hrows tD).lo
  have hD8 : (D, dictO es ep) ∈ nw ++ news := hX8.1
  k_steps
  rename_i h₅ F₅ N₅
  refine wpAny_For ?_ (fun _ => rfl)
  k_steps
  refine dictMethod_S N₅ hD8 PySem.F.slot_dict_get PySem.F.type_dict_get ?_
  k_steps
  rename_i l₁ h₆ F₆ N₆ hl₆
  have N₆' : News g' L' h₆ ([(l₁, listOf #[] 0)] ++ (nw ++ news)) := N₆
  refine get2_S (tmp := [(l₁, listOf #[] 0)]) (by show un + 3 + 1 < cLine; omega) F₆ X' N₆' lo8 hX8 hv₂ ?hit ?miss
  case hit =>
    intro x hx hxk tk₆
    obtain ⟨la, its, nl, hxla, hla, htl, hA⟩ := hX8.2.2.2.2.1 x hx
    rw [hxla]
    rw [hxk] at htl hA
    have W₆ := W₁.cons (l₁, listOf #[] 0)
    have k₆ : Keeps tg tg (nw ++ news) ((l₁, listOf #[] 0) :: (nw ++ news)) emT := Keeps.cons.mono fun _ _ => trivial
    refine wpAny_pyIter_list (items := its) ⟨_, (N₆ _ (.tail _ hla)).1, rfl, nl, rfl⟩ ?_
    have F₇ := F₆.push { cls := .type "list_iterator", data := .fields #[.ref la, .int 0 0] }
    have N₇ := News.push F₆ N₆ { cls := .type "list_iterator", data := .fields #[.ref la, .int 0 0] }
    have hlt₇ : ∀ q ∈ (l₁, listOf #[] 0) :: (nw ++ news), q.1 < h₆.objs.size := fun q hq => Heap.lt_size (N₆ q hq).1
    have ⟨W₇, k₇⟩ := W₆.tmpNew (o := { cls := .type "list_iterator", data := .fields #[.ref la, .int 0 0] }) hlt₇
    have k₆' : Keeps tg tg (nw ++ news) ((l₁, listOf #[] 0) :: (nw ++ news)) fun q => q ≠ .tmp h₆.objs.size := Keeps.cons.mono fun _ _ => trivial
    have kk := k₆'.trans k₇
    have hnt : tg h₆.objs.size = none := tag_fresh W₁.base.ok fun q hq => hlt₇ q (.tail _ hq)
    clear F₆ N₆ N₆'
    refine hR (s := ⟨_, _, _, _, _⟩) (vid := .ref tI) (vd := vd) (rows := rows) (its := its) (nl := nl) B' X' T' ?hd ?hu F₇ rfl rfl N₇ (hv₂.mono kk.im) ((hvd.mono kA.im).mono kk.im) W₇ hrows (Nat.zero_le _) (.tail _ (.tail _ hla)) (kk.tg _ _ htl) (putTag_self ..) (.head _) ⟨rfl, rfl⟩ hlog hT ?_
    case hd => omega
    case hu => omega
    intro h₈ tk₈ gens₈ tg₈ news₈ m₈ F₈ N₈ hAB₈ W₈ k₈
    k_steps
    rename_i kF kN Tc kX
    exact hQ h₈ tk₈ gens₈ tg₈ news₈ kF kN hAB₈ W₈ (kA.trans (Keeps.hide W₁.base.ok (fun p hp => Nat.ne_of_lt (hlt₇ p (.tail _ hp))) ((kk.mono fun _ h => h.2).trans k₈)))
  case miss =>
    intro hno tk₆
    refine wpAny_pyIter_list (items := #[]) ⟨_, (N₆ _ (.head _)).1, rfl, 0, rfl⟩ ?_
    have F₇ := F₆.push { cls := .type "list_iterator", data := .fields #[.ref l₁, .int 0 0] }
    have N₇ := News.push F₆ N₆ { cls := .type "list_iterator", data := .fields #[.ref l₁, .int 0 0] }
    have es : σ' = σ := loop_none hL rows hrows fun r hr => by
      have h1 := hX8.2.2.2.2.2.1 id hid hno
      have h2 := List.filter_eq_nil_iff.mp h1 r hr
      simpa using h2
    subst es
    refine forLoop_turn ?_
    refine list_end_S (items := #[]) rfl ⟨_, (N₇ _ (.head _)).1, rfl, rfl⟩ ⟨_, (N₇ _ (.tail _ (.head _))).1, rfl, 0, rfl⟩ rfl fun h₈ o₈ ho₈ he₈ => ?_
    have hLI : L' ≠ h₆.objs.size := Nat.ne_of_lt F₆.ns.lt
    have F₈ := (Fr.mk (F₇.ns.extBut he₈ hLI) (fun b o e => he₈ b o (fun q => by
      have h1 := (N₇ _ (.head _)).2.2
      rw [q, h1] at e; cases e) (F₇.keep b o e)) F₇.above : Fr g' L' h₈ _)
    have N₈ : News g' L' h₈ (nw ++ news) := fun p hp => by
      have h1 := N₇ p (.tail _ (.tail _ hp))
      exact ⟨he₈ _ _ (Nat.ne_of_lt (Heap.lt_size (N₆ p (.tail _ hp)).1)) h1.1, h1.2⟩
    clear F₇ N₇ F₆ N₆ N₆'
    k_steps
    rename_i kF kN Tc kX
    exact hQ h₈ _ s.gens tg _ kF kN (fun h => h) W₁ kA
end Mine

end
section
-- L1
open PySem PySem.W PyProof.Rows PySem.Calls PySem.Spec
namespace Mine
set_option maxRecDepth 100000
theorem noBool_fn : typeLookup (.type "function") "__bool__" = pure none := by rw [typeLookup_type, builtinLookup_eq_fast]; kernel_rfl
theorem noLen_fn : typeLookup (.type "function") "__len__" = pure none := by rw [typeLookup_type, builtinLookup_eq_fast]; kernel_rfl
section
variable {prog : Program} {w : World} {A : Around} {E : Value → Shared → Prop} {s : Shared}
theorem truthy_fn {f : Addr} {o : Obj} {Q : Bool → Shared → Prop} (ho : s.heap.get? f = some o) (hc : o.cls = .type "function") (h : Q true s) : wpAny (model prog w) A (truthy (.ref f)) Q E s := by
  have hT : s.TypeIs (.ref f) "function" := ⟨o, ho, hc⟩
  unfold truthy
  first
    | refine wpAny_bind (wpAny_callSpecial?_none (name := Str.ofString "__bool__") hT noBool_fn ?_)
    | refine wpAny_bind (wpAny_pure (wpAny_bind (wpAny_callSpecial?_none (name := Str.ofString "__bool__") hT noBool_fn ?_)))
  first
    | refine wpAny_bind (wpAny_specialOf (name := Str.ofString "__len__") hT noLen_fn ?_)
    | refine wpAny_bind (wpAny_pure (wpAny_bind (wpAny_specialOf (name := Str.ofString "__len__") hT noLen_fn ?_)))
  exact wpAny_pure h
end
theorem Loop.ext {id : Name} {d : PyData} {g p : Nat} {σ σ' : St} (L : Loop id d g p σ σ') : Ext σ σ' := by
  induction L with
  | done => exact .refl _
  | skip _ _ _ _ ih => exact ih
  | refuse _ _ _ _ _ _ ih => exact (Ext.of_gens rfl).trans ih
  | plain _ _ _ _ _ _ ih => exact (Ext.of_gens rfl).trans ih
  | adds _ _ _ _ _ _ ih => exact ((Ext.of_gens rfl).trans (Ext.add _ _ rfl)).trans ih
  | nest _ _ _ _ _ _ _ _ ih1 ih2 => exact (((Ext.of_gens rfl).trans ih1).trans (Ext.of_gens rfl)).trans ih2
  | forgets _ _ _ _ _ _ ih => exact ((Ext.of_gens rfl).trans (Ext.forget _)).trans ih

theorem filter_at {α : Type} (f : α → Bool) : ∀ (l : List α) (p : Nat) (r : α), l[p]? = some r → f r = true → (l.filter f)[((l.take p).filter f).length]? = some r
  | [], _, _, h, _ => by simp at h
  | a :: t, 0, r, h, hf => by
    simp at h; subst h; simp [hf]
  | a :: t, p + 1, r, h, hf => by
    have ih := filter_at f t p r (by simpa using h) hf
    rw [List.take_succ_cons]
    by_cases ha : f a = true
    · rw [List.filter_cons_of_pos ha, List.filter_cons_of_pos ha, List.length_cons, List.getElem?_cons_succ]; exact ih
    · rw [List.filter_cons_of_neg ha, List.filter_cons_of_neg ha]; exact ih
theorem filter_succ {α : Type} (f : α → Bool) (l : List α) (p : Nat) (r : α) (h : l[p]? = some r) : ((l.take (p + 1)).filter f).length = ((l.take p).filter f).length + (if f r then 1 else 0) := by
  have hlt : p < l.length := (List.getElem?_eq_some_iff.mp h).1
  have e : l.take (p + 1) = l.take p ++ [r] := by
    rw [List.take_succ, h]; rfl
  rw [e, List.filter_append, List.length_append]
  by_cases hr : f r = true
  · simp [hr]
  · simp [hr]
theorem take_ext {α : Type} {l ext : List α} {p : Nat} (hp : p ≤ l.length) : (l ++ ext).take p = l.take p := by
  rw [List.take_append_of_le_length hp]

section
variable {K : Frag} {tg : Tags} {news : List (Addr × Obj)} {w : World} {cx : Cx} {σB σP : St} {la : Addr} {its : Array Value} {nl g : Nat} {id : Name} {rows : List Row} {h₀ h : Heap} {L : Addr}
theorem Wd.listEx (W : Wd w K cx σB σP tg news) (hg : σB.gens[g]? = some rows) (ht : tg la = some (.lst g id)) : ∃ its nl, (la, listOf its nl) ∈ news ∧ All2 (PairAt w (Im K news tg) (Lg news tg) cx) its.toList (rows.filter (·.hits id)) := by
  obtain ⟨D, hD⟩ := W.dict g rows hg
  obtain ⟨es, ep, xs, h1, h2, h3, h4, h5, h6, h7, h8⟩ := hD.ex
  obtain ⟨x, hx, hxe⟩ := List.mem_map.mp (h8 la id ht)
  obtain ⟨la', it, n, e1, e2, e3, e4⟩ := h5 x hx
  rw [hxe] at e3 e4
  have := W.base.inj la' la (.lst g id) trivial e3 ht
  subst this
  exact ⟨it, n, e2, e4⟩
theorem Wd.listIs (W : Wd w K cx σB σP tg news) (N : News h₀ L h news) (hg : σB.gens[g]? = some rows) (ht : tg la = some (.lst g id)) (hm : (la, listOf its nl) ∈ news) : All2 (PairAt w (Im K news tg) (Lg news tg) cx) its.toList (rows.filter (·.hits id)) := by
  obtain ⟨it, n, h1, h2⟩ := W.listEx hg ht
  have e1 := (N _ hm).1
  have e2 := (N _ h1).1
  rw [e1] at e2
  cases e2
  exact h2
end
theorem rd_atom {w : World} {I : IP} {a : Atom} {v : Value} (h : (atomKind PG w).is a v = true) : Rd w I v (encAtom a) := by
  cases a with
  | s x => obtain ⟨t, rfl⟩ := atomIs_s h; exact .str x t
  | i n => obtain ⟨t, rfl⟩ := atomIs_i h; exact .int n t
theorem items_rd {w : World} {I : IP} : ∀ {nm : Name} {vs : List Value}, ItemsAre (atomKind PG w) nm vs → ∀ (j : Nat) (v : Value) (d : PyData), vs[j]? = some v → (nm.map encAtom)[j]? = some d → Rd w I v d
  | _, _, .nil, j, _, _, h, _ => by simp at h
  | _, _, .cons h r, 0, v, d, e1, e2 => by simp at e1 e2; subst e1 e2; exact rd_atom h
  | _, _, .cons h r, j + 1, v, d, e1, e2 => items_rd r j v d (by simpa using e1) (by simpa using e2)
theorem NmAt.rd {w : World} {I : IP} {nm : Name} {v : Value} (x : NmAt w I nm v) : Rd w I v (encName nm) := by
  obtain ⟨_, a, items, n, rfl, hI, hIt⟩ := x
  refine .tup hI ?_ fun j v d e1 e2 => items_rd hIt j v d e1 e2
  rw [List.length_map]; exact hIt.length.symm

theorem say_len (σ : St) (es : List PyData) : (σ.say es).log.length = σ.log.length + es.length := by simp [St.say]
end Mine

end
section
-- H1
open PySem PySem.W PyProof.Rows PySem.Calls PySem.Spec
namespace Mine
local macro_rules | `(tactic| walk_at "idle 0") => `(tactic| fail)
local macro_rules | `(tactic| walk_at "idle 1") => `(tactic| fail)
local macro_rules | `(tactic| walk_at "idle 2") => `(tactic| fail)
local macro_rules | `(tactic| walk_at "idle 3") => `(tactic| fail)
local macro_rules | `(tactic| walk_at "idle 4") => `(tactic| fail)
set_option maxRecDepth 100000
local macro_rules | `(tactic| k_mem) => `(tactic| assumption)
local macro_rules | `(tactic| walk_at "eval Name") => `(tactic| (k_here; kc_free; k_dflt (refine' nameX_F ?N ?c ?m ?d ?_ ?a ?b; (case a => rfl); (case b => rfl); (case N => k_asm); (case c => rfl); (case m => k_mem); (case d => k_asm); k_whole)))

local macro_rules | `(tactic| walk_at "callWith ref") => `(tactic| (k_here; k_dflt (first
  | (refine' callWith_F ?k1 ?_; (case k1 => exact FnAt.of (by k_asm) (by k_mem)); k_whole)
  | (refine' callWith_F0 ?k1 ?_; (case k1 => exact FnAt.of (by k_asm) (by k_mem)); k_whole; try dsimp only [List.nil_append, List.cons_append]))))
local macro_rules | `(tactic| walk_at "FnAt") => `(tactic| (k_dflt (exact FnAt.of (by k_asm) (by k_mem))))
theorem emT.reg {q : Tag} {g : Nat} (h : emT q) : regT g q := ⟨by rintro rfl; exact h, by rintro rfl; exact h, by rintro nm rfl; exact h⟩
/-- what hears comes to once it has said its word -/
inductive HearsRes (w : World) (cx : Cx) (σP : St) (num : Int) (kind : Nat) (name : Name) (σ : St) : St → Prop
  | zero : kind = 0 → HearsRes w cx σP num kind name σ σ
  | flagged : kind = 2 → σ.flag = true → HearsRes w cx σP num kind name σ σ
  | adds : kind = 1 → HearsRes w cx σP num kind name σ (σ.add ⟨name, num + 100, 0, name, false⟩)
  | forgets : kind = 3 → HearsRes w cx σP num kind name σ σ.forget
  | nest {σ₁ : St} : kind = 2 → σ.flag = false → Loop name (.int num) σ.cur 0 { σ with flag := true } σ₁ → LoopRun w cx σP name (.int num) σ.cur 0 { σ with flag := true } σ₁ → HearsRes w cx σP num kind name σ { σ₁ with flag := false }

set_option maxHeartbeats 4000000 in
theorem hears_ok {w : World} {cx : Cx} {σ σ2 σP : St} {tg : Tags} {num : Int} {kind : Nat} {name id : Name} {d : PyData} {fv vid vd : Value}
    {A₀ : Around} {base h₀ : Heap} {outer : List Env} {env : Env} {L : Addr} {m mg mb : PySem.Str → Option Value} {p : Program} {loose : List PySem.Str} {mean : ExcName → Option Value} {s : Shared} {news : List (Addr × Obj)} {dep un : Nat} {gd : Option (List Code)} {Q : Value → Shared → Prop} {E : Value → Shared → Prop}
    (B : Below A₀ base outer h₀) (X : (hd.heap_39 w.params).In h₀) (T : Top p loose mean mg mb h₀) (hf : env.frame = some L) (hk : env.scope.kind = .function) (hdep : dep + 45 + (if σ.flag then 0 else 50) < recursionLimit) (hun : un + 150 + (if σ.flag then 0 else 200) < cLine)
    (F : Fr h₀ L s.heap m) (N : News h₀ L s.heap news) (W : Wd w (hd.heap_39 w.params) cx σ σP tg news)
    (hfn : FuncAt w (Im (hd.heap_39 w.params) news tg) (Lg news tg) cx num kind name fv) (hvid : NmAt w (Im (hd.heap_39 w.params) news tg) id vid) (hvd : Rd w (Im (hd.heap_39 w.params) news tg) vd d) (hname : name ≠ [] ∧ name.length ≤ 4)
    (hres : HearsRes w cx σP num kind name (σ.say [.tuple [.int num, encName id, d]]) σ2) (hlog : σ2.log.length ≤ 1000000) (hT : σ2.T ≤ 100000) (hlog0 : σ.log.length ≤ 1000000) (hT0 : σ.T ≤ 100000)
    (hQ : ∀ h' tk gens' tg' news', Fr h₀ L h' m → News h₀ L h' news' → (AllBare s.gens → AllBare gens') → Wd w (hd.heap_39 w.params) cx σ2 σP tg' news' → Keeps tg tg' news news' emT → Q .none { s with heap := h', toks := tk, gens := gens' }) :
    wpAny (model PySem.Challenge.rw_bi0010_01.row.prog w) ⟨none, dep, some (env :: outer), gd, un⟩ (call fv [vid, vd]) Q E s := by
  w_top off
  obtain ⟨f, cN, cK, cNm, tN, tK, vN, rfl, hfi, hcN, hcK, hcNm, hvN⟩ := hfn
  revert X; k_fill; intro X
  have hS : dScope hearsD = dScope hearsD := rfl
  conv at hS => rhs; whnf
  have hP : dParams hearsD = dParams hearsD := rfl
  conv at hP => rhs; whnf
  have hB : dBody hearsD = dBody hearsD := rfl
  conv at hB => rhs; whnf
  obtain ⟨nm, doc, pm, c', ctv, oc, ⟨h1, h1t⟩, ⟨h2, h2t⟩, h3⟩ := hfi
  clear h1t
  rw [hS, hP, hB] at h1
  clear hS hP hB
  unfold hearsCl at h1
  obtain ⟨oN, ⟨hoN, hoNt⟩, hdN⟩ := hcN
  obtain ⟨oK, ⟨hoK, hoKt⟩, hdK⟩ := hcK
  obtain ⟨oNm, ⟨hoNm, hoNmt⟩, hdNm⟩ := hcNm
  obtain ⟨oH, ⟨hoH, hoHt⟩, hdH⟩ := W.base.cellHeard
  obtain ⟨_, hits, hn, hhm, hlog1⟩ := W.heard
  refine wpAny_call ?_
  refine' code_nest (binds := [("identifier", vid), ("data", vd)]) B F X N T rfl hf hk h1 ?c1 ?c2 ?c3 ?c4 ?c5 ?c6 ?c7 ?c8 ?c9
  case c1 => exact h3.rec N h2
  case c2 => show dep < _; omega
  case c3 => exact BindsTo.of_eq rfl
  case c4 => exact locs rfl
  case c6 => rfl
  case c7 => rfl
  case c8 => rfl
  case c9 => decide
  case c5 =>
    clear h1
    intro g' L' h' FG' F' N' B' X' T'
    dsimp only [Around.deeper, Option.map]
    k_fold
    k_steps
    rename_i D' h₂ F₂ N₂ hlt
    refine appendHeard F₂ N₂ hlt W (by rw [sizeLine_eq]; omega) (.int num tN) hvid.rd hvd ?_
    intro h₃ n₃ F₃ N₃ W₃ k₃
    clear F₂ N₂
    have k₃' : Keeps tg tg news n₃ emT := k₃.mono fun q h e => by subst e; exact h
    have gK := k₃.lg _ ⟨hoK, hoKt⟩
    have gN := k₃.lg _ ⟨hoN, hoNt⟩
    have gNm := k₃.lg _ ⟨hoNm, hoNmt⟩
    have mK := gK.1
    have mN := gN.1
    have mNm := gNm.1
    rcases hres with ⟨rfl⟩ | ⟨rfl, hfl⟩ | ⟨rfl⟩ | ⟨rfl⟩ | ⟨rfl, hfl, hL, hR⟩
    · replace hdK : oK.data = .cell (some (.int 0 tK)) := hdK
      k_steps
      rename_i kF kN Tc kX
      exact hQ _ _ s.gens tg n₃ kF kN (fun h => h) W₃ k₃'
    · replace hdK : oK.data = .cell (some (.int 2 tK)) := hdK
      obtain ⟨oP, ⟨mP, _⟩, hdP⟩ := W₃.base.cellPlain
      obtain ⟨tPl, Rr, nP, mPl, tRr⟩ := W₃.plain
      rw [hfl] at mPl
      k_steps
      refine PyProof.Rows.item_list (items := #[.ref Rr, .bool σP.flag, .bool true]) (x := .bool true) ⟨_, (N₃ _ mPl).1, rfl, nP, rfl⟩ (by decide) (by decide) rfl ?_
      k_steps
      rename_i kF kN Tc kX
      exact hQ _ _ s.gens tg n₃ kF kN (fun h => h) W₃ k₃'
    · replace hdK : oK.data = .cell (some (.int 1 tK)) := hdK
      obtain ⟨oB, ⟨mB, _⟩, hdB⟩ := W₃.base.cellBus
      obtain ⟨oLs, ⟨mLs, _⟩, hdLs⟩ := W₃.base.cellListener
      obtain ⟨tdx, D, hsh, tok8, n8, hdx, tD⟩ := W₃.dx
      have hbus : (cx.bus, instObj 177 cx.dx) ∈ n₃ := W₃.base.bus.1
      obtain ⟨lnm, ldoc, lpm, lc', lctv, loc, ⟨mfL, _⟩, _, _⟩ := W₃.base.fL
      k_steps
      refine listener_ok (kind := 0) (name := name) B' X' T' rfl rfl (by omega) F₃ N₃ W₃ (hvN.mono k₃'.im) ?_
      intro h₄ tk₄ v₄ n₄ F₄ N₄ W₄ k₄ hfu
      have k₄' : Keeps tg tg news n₄ emT := k₃'.trans (k₄.mono fun q h e => by subst e; exact h)
      k_steps
      refine reg_ok (r := ⟨name, num + 100, 0, name, false⟩) (va := vN) (vf := v₄) (vl := .none) B' X' T' rfl rfl (by omega) (by omega) F₄ N₄ W₄ (.inl (hvN.mono k₄'.im)) ⟨Nat.zero_le _, hname, hname⟩ hfu rfl hT0 ?_ (.inr ⟨rfl, rfl⟩)
      intro h₅ tk₅ gens₅ tg₅ n₅ F₅ N₅ hAB₅ W₅ k₅
      have k₅' := k₄'.trans (k₅.mono fun q h => emT.reg h)
      clear F₃ N₃ F₄ N₄
      k_steps
      rename_i kF kN Tc kX
      exact hQ _ _ gens₅ tg₅ n₅ kF kN hAB₅ W₅ k₅'
    · replace hdK : oK.data = .cell (some (.int 3 tK)) := hdK
      obtain ⟨oB, ⟨mB, _⟩, hdB⟩ := W₃.base.cellBus
      obtain ⟨tdx, D, hsh, tok8, n8, hdx, tD⟩ := W₃.dx
      have hbus : (cx.bus, instObj 177 cx.dx) ∈ n₃ := W₃.base.bus.1
      k_steps
      refine unreg_ok B' X' T' rfl rfl (by omega) F₃ N₃ W₃ ?_
      intro h₄ tk₄ tg₄ n₄ F₄ N₄ W₄ k₄
      have k₄' : Keeps tg tg₄ news n₄ emT := k₃'.trans (k₄.mono fun q h => ⟨by rintro rfl; exact h, by rintro rfl; exact h⟩)
      clear F₃ N₃
      k_steps
      rename_i kF kN Tc kX
      exact hQ _ _ s.gens tg₄ n₄ kF kN (fun h => h) W₄ k₄'
    · replace hdK : oK.data = .cell (some (.int 2 tK)) := hdK
      obtain ⟨oB, ⟨mB, _⟩, hdB⟩ := W₃.base.cellBus
      obtain ⟨oP, ⟨mP, _⟩, hdP⟩ := W₃.base.cellPlain
      obtain ⟨tPl, Rr, nP, mPl, tRr⟩ := W₃.plain
      have ⟨W₄, k₄⟩ := W₃.flagB true mPl tRr
      rw [hfl] at mPl
      k_steps
      refine PyProof.Rows.item_list (items := #[.ref Rr, .bool σP.flag, .bool false]) (x := .bool false) ⟨_, (N₃ _ mPl).1, rfl, nP, rfl⟩ (by decide) (by decide) rfl ?_
      k_steps
      refine setItem_S (k := 2) (its := #[.ref Rr, .bool σP.flag, .bool false]) F₃ N₃ mPl (show 2 < 3 by decide) (show 3 ≤ 1000 by decide) ?_
      intro h₄ F₄ N₄
      change News _ _ _ (setN cx.plain (listOf #[.ref Rr, .bool σP.flag, .bool true] nP) n₃) at N₄
      have lB := k₄.lg _ W₃.base.bus
      obtain ⟨oB4, ⟨mB4, _⟩, hdB4⟩ := W₄.base.cellBus
      have mNm4 := (k₄.lg _ gNm).1
      have mN4 := (k₄.lg _ gN).1
      generalize setN cx.plain (listOf #[.ref Rr, .bool σP.flag, .bool true] nP) n₃ = n₄ at N₄ W₄ k₄ lB mB4 mNm4 mN4
      obtain ⟨tdx, D, hsh, tok8, n8, hdx, tD⟩ := W₄.dx
      have hbus : (cx.bus, instObj 177 cx.dx) ∈ n₄ := lB.1
      have k₄' : Keeps tg tg news n₄ emT := k₃'.trans (k₄.mono fun q h => by rintro rfl; exact h)
      clear F₃ N₃ mPl
      k_steps
      have hf0 : σ.flag = false := hfl
      rw [hf0] at hdep hun
      simp only [Bool.false_eq_true, if_false] at hdep hun
      refine emit_ok hL hR B' X' T' rfl rfl (by simp only [if_true]; omega) (by simp only [if_true]; omega) F₄ N₄ W₄ (.inl (hvN.mono k₄'.im)) hname.1 (.int num tN) hlog hT ?_
      intro h₅ tk₅ gens₅ tg₅ n₅ F₅ N₅ hAB₅ W₅ k₅
      have k₅' := k₄'.trans k₅
      obtain ⟨oP5, ⟨mP5, _⟩, hdP5⟩ := W₅.base.cellPlain
      obtain ⟨tPl5, Rr5, nP5, mPl5, tRr5⟩ := W₅.plain
      have ⟨W₆, k₆⟩ := W₅.flagB false mPl5 tRr5
      clear F₄ N₄
      k_steps
      refine setItem_S (k := 2) F₅ N₅ mPl5 (show 2 < 3 by decide) (show 3 ≤ 1000 by decide) ?_
      intro h₆ F₆ N₆
      clear F₅ N₅
      k_steps
      rename_i kF kN Tc kX
      exact hQ _ _ gens₅ tg₅ _ kF kN hAB₅ W₆ (k₅'.trans (k₆.mono fun q h => by rintro rfl; exact h))
end Mine

end
section
-- E1
open PySem PySem.W PyProof.Rows PySem.Calls PySem.Spec
namespace Mine
local macro_rules | `(tactic| walk_at "idle 0") => `(tactic| fail)
local macro_rules | `(tactic| walk_at "idle 1") => `(tactic| fail)
local macro_rules | `(tactic| walk_at "idle 2") => `(tactic| fail)
set_option maxRecDepth 100000
local macro_rules | `(tactic| k_mem) => `(tactic| assumption)
local macro_rules | `(tactic| walk_at "eval Name") => `(tactic| (k_here; k_dflt (refine' nameX_L ?F ?v ?_ ?a ?b; (case F => k_asm); (case v => first | assumption | exact (if_neg (by decide)).trans (by assumption) | exact (if_neg (by decide)).trans ((if_neg (by decide)).trans (by assumption))); (case a => rfl); (case b => rfl); k_whole)))
local macro_rules | `(tactic| walk_at "callWith ref") => `(tactic| (k_here; k_dflt (first
  | (refine' callWith_F ?k1 ?_; (case k1 => exact FnAt.of (by k_asm) (by k_mem)); k_whole)
  | (refine' callWith_F0 ?k1 ?_; (case k1 => exact FnAt.of (by k_asm) (by k_mem)); k_whole; try dsimp only [List.nil_append, List.cons_append]))))
local macro_rules | `(tactic| walk_at "FnAt") => `(tactic| (k_dflt (exact FnAt.of (by k_asm) (by k_mem))))

theorem id_of {p : Prop} (h : p) : p := h
set_option maxHeartbeats 4000000 in
theorem loop_step {w : World} {cx : Cx} {σP σ σ2 σ' : St} {id : Name} {d : PyData} {g p : Nat} {r : Row} {rows0 : List Row}
    (hrow : σ.gens[g]? = some rows0) (hr : rows0[p]? = some r) (hit : r.hits id = true)
    (hcase : (r.sieved = true ∧ passes (σ.log.length + 1) = false ∧ σ2 = σ.say [eAsked r d]) ∨ ((r.sieved = true → passes (σ.log.length + 1) = true) ∧ HearsRes w cx σP r.num r.kind r.name (σ.say (r.says id d)) σ2))
    (hext : Ext σ σ2) (hflag : σ2.flag = σ.flag) (hm2 : σ2.log.length ≤ σ'.log.length ∧ σ2.T ≤ σ'.T) (hm1 : σ.log.length + 1 ≤ σ2.log.length ∧ σ.T ≤ σ2.T)
    (hnext : LoopRun w cx σP id d g (p + 1) σ2 σ') : LoopRun w cx σP id d g p σ σ' := by
  w_top off
  intro tg A₀ base h₀ outer L la I m mg mb pg loose mean s news dep un gd R vid vd rows oI its nl B X T hdep hun F hmi hmd N hvid hvd W hgr hp hla htl htI hI hoI hlog hT hQ
  rw [hrow] at hgr
  cases hgr
  have hrok : r.ok := W.wfB.2 rows0 (List.mem_of_getElem? hrow) r (List.mem_of_getElem? hr)
  have fin : ∀ h₂ tk₂ gens₂ tg₂ n₂ m₂ oI₂, Fr h₀ L h₂ m₂ → m₂ "identifier" = some vid → m₂ "data" = some vd → News h₀ L h₂ n₂ → (AllBare s.gens → AllBare gens₂) → Wd w (hd.heap_39 w.params) cx σ2 σP tg₂ n₂ → Keeps tg tg₂ news n₂ (fun q => emT q ∧ q ≠ .tmp I) → (I, oI₂) ∈ n₂ →
      oI₂.cls = .type "list_iterator" → oI₂.data = .fields #[.ref la, .int ((((rows0.take p).filter (·.hits id)).length + 1 : Nat) : Int) 0] →
      codeAny (model PySem.Challenge.rw_bi0010_01.row.prog w) ⟨none, dep, some (envE L :: outer), gd, un⟩ (forE L I) R ⟨h₂, gens₂, s.drawn, tk₂, s.os⟩ := by
    intro h₂ tk₂ gens₂ tg₂ n₂ m₂ oI₂ F₂ hmi₂ hmd₂ N₂ hAB₂ W₂ k₂ hI₂ hc₂ hd₂
    obtain ⟨ext, hg₂, _⟩ := hext g rows0 hrow
    obtain ⟨its₂, nl₂, hla₂, _⟩ := W₂.listEx hg₂ (k₂.tg _ _ htl)
    have hlt : p + 1 ≤ rows0.length := (List.getElem?_eq_some_iff.mp hr).1
    refine hnext (s := ⟨h₂, gens₂, s.drawn, tk₂, s.os⟩) B X T (by rw [hflag]; exact hdep) (by rw [hflag]; exact hun) F₂ hmi₂ hmd₂ N₂ (hvid.mono k₂.im) (hvd.mono k₂.im) W₂ hg₂ (by rw [List.length_append]; omega) hla₂ (k₂.tg _ _ htl) (k₂.tg _ _ htI) hI₂ ⟨hc₂, ?_⟩ hlog hT ?_
    · rw [take_ext hlt, filter_succ _ _ _ _ hr, hit]; exact hd₂
    · exact fun h' tk gens' tg'' news'' m'' F3 N3 hAB3 W3 k3 => hQ h' tk gens' tg'' news'' m'' F3 N3 (fun h => hAB3 (hAB₂ h)) W3 (k₂.trans k3)
  have hS : dScope emitD = dScope emitD := rfl
  conv at hS => rhs; whnf
  have hTt : forTarget emitFor = forTarget emitFor := rfl
  conv at hTt => rhs; whnf
  have hB : forBody emitFor = forBody emitFor := rfl
  conv at hB => rhs; whnf
  revert X; k_fill; intro X
  show codeAny _ _ (.forLoop (forTarget emitFor) (.ref I) (forBody emitFor) [] (envOf "SignalBus.emit_signal" (dScope emitD) L 42 (.ref 41))) R s
  unfold envE
  rw [hS, hTt, hB]
  clear hS hTt hB
  have hA := W.listIs N hrow htl hla
  have hat := filter_at (·.hits id) rows0 p r hr hit
  have hlen : its.toList.length = (rows0.filter (·.hits id)).length := hA.1
  obtain ⟨v, hv⟩ : ∃ v, its.toList[((rows0.take p).filter (·.hits id)).length]? = some v := by
    have h1 := (List.getElem?_eq_some_iff.mp hat).1
    exact ⟨_, List.getElem?_eq_getElem (by rw [hlen]; exact h1)⟩
  obtain ⟨a, func, filt, na, rfl, ⟨hpm, hpt⟩, hfunc, hfilt⟩ := hA.2 _ _ _ hv hat
  refine forLoop_turn ?_
  refine wpAny_pyNext_list_item (items := its) ⟨oI, (N _ hI).1, hoI.1, hoI.2⟩ ⟨_, (N _ hla).1, rfl, nl, rfl⟩ (by rw [← Array.getElem?_toList]; exact hv) fun h₁ hit₁ hs₁ => ?_
  obtain ⟨oI', hoI', hc', hd'⟩ := hit₁
  obtain ⟨F₁, N₁⟩ := upd F N hI hs₁ hoI'
  have ⟨W₁, k₁⟩ := W.tmpSet (o' := oI') htI
  have mI₁ : (I, oI') ∈ setN I oI' news := mem_setN hI
  have mp₁ := (k₁.lg _ ⟨hpm, hpt⟩).1
  generalize setN I oI' news = n₁ at N₁ W₁ k₁ mI₁ mp₁
  refine wpAny_letOwnedTupleGo_listiter (i := ((rows0.take p).filter (·.hits id)).length + 1) (l := la) ⟨oI', hoI', hc', hd'⟩ ?_
  clear N F
  k_steps
  rename_i h₂ F₂ N₂
  have k₁' : Keeps tg tg news n₁ fun q => emT q ∧ q ≠ .tmp I := k₁.mono fun _ h => h.2
  cases hsv : r.sieved with
  | false =>
    rw [hsv] at hfilt
    replace hfilt : filt = .none := hfilt
    subst hfilt
    rcases hcase with ⟨h1, _⟩ | ⟨_, hres⟩
    · rw [hsv] at h1; cases h1
    have es : r.says id d = [.tuple [.int r.num, encName id, d]] := by unfold Row.says eHeard; rw [hsv]; rfl
    rw [es] at hres
    have hfn₁ := hfunc.mono k₁.im k₁.lg
    obtain ⟨ff, cN, cK, cNm, tN, tK, vN, rfl, ⟨fnm, fdoc, fpm, fc', fctv, foc, ⟨mff, mfft⟩, fr⟩, hrest⟩ := id_of hfn₁
    k_steps
    refine hears_ok B X T rfl rfl (by omega) (by omega) F₂ N₂ W₁ hfn₁ (hvid.mono k₁.im) (hvd.mono k₁.im) hrok.2.2 hres (by omega) (by omega) (by omega) (by omega) ?_
    intro h₃ tk₃ gens₃ tg₃ n₃ F₃ N₃ hAB₃ W₃ k₃
    have mI₃ := k₃.mu _ _ _ mI₁ (k₁.tg _ _ htI) trivial
    k_steps
    exact fin h₃ tk₃ gens₃ tg₃ n₃ _ oI' F₃ ((if_neg (by decide)).trans ((if_neg (by decide)).trans hmi)) ((if_neg (by decide)).trans ((if_neg (by decide)).trans hmd)) N₃ hAB₃ W₃ (k₁'.trans (k₃.mono fun q h => h.1)) mI₃ hc' hd'
  | true =>
    rw [hsv] at hfilt
    replace hfilt : FiltAt (Lg news tg) cx r.num filt := hfilt
    have hfl₁ := hfilt.mono k₁.lg
    obtain ⟨gf, gN, gtN, rfl, ⟨gnm, gdoc, gpm, gc', gctv, goc, ⟨mgf, mgft⟩, gr⟩, grest⟩ := id_of hfl₁
    refine truthy_fn (N₂ _ mgf).1 rfl ?_
    k_steps
    refine lets_ok B X T rfl rfl (by omega) F₂ N₂ W₁ hfl₁ (hvd.mono k₁.im) (by rw [sizeLine_eq]; omega) ?_
    intro h₃ tk₃ n₃ F₃ N₃ W₃ k₃
    have k₃e : Keeps tg tg n₁ n₃ emT := k₃.mono fun q h => by rintro rfl; exact h
    have k₃' : Keeps tg tg news n₃ fun q => emT q ∧ q ≠ .tmp I := k₁'.trans (k₃e.mono fun q h => h.1)
    have mI₃ := k₃e.mu _ _ _ mI₁ (k₁.tg _ _ htI) trivial
    clear F₂ N₂
    rcases hcase with ⟨_, hps, rfl⟩ | ⟨hps, hres⟩
    · rw [hps]
      k_steps
      exact fin h₃ tk₃ s.gens tg n₃ _ oI' F₃ ((if_neg (by decide)).trans ((if_neg (by decide)).trans hmi)) ((if_neg (by decide)).trans ((if_neg (by decide)).trans hmd)) N₃ (fun h => h) W₃ k₃' mI₃ hc' hd'
    · rw [hps hsv]
      have es : σ.say (r.says id d) = (σ.say [.tuple [.int r.num, .str (PySem.Str.ofString "asked"), d]]).say [.tuple [.int r.num, encName id, d]] := by
        unfold Row.says eHeard eAsked St.say
        rw [hsv]
        simp
      rw [es] at hres
      have hfn₃ := hfunc.mono k₃'.im k₃'.lg
      obtain ⟨ff, cN, cK, cNm, tN, tK, vN, rfl, ⟨fnm, fdoc, fpm, fc', fctv, foc, ⟨mff, mfft⟩, fr⟩, hrest⟩ := id_of hfn₃
      k_steps
      have hz : (σ.say [.tuple [.int r.num, .str (PySem.Str.ofString "asked"), d]]).log.length = σ.log.length + 1 := by simp [St.say]
      refine hears_ok B X T rfl rfl (by show dep + 45 + (if σ.flag then 0 else 50) < _; omega) (by show un + 150 + (if σ.flag then 0 else 200) < _; omega) F₃ N₃ W₃ hfn₃ (hvid.mono k₃'.im) (hvd.mono k₃'.im) hrok.2.2 hres (by omega) (by omega) (by omega) (by show σ.T ≤ _; omega) ?_
      intro h₄ tk₄ gens₄ tg₄ n₄ F₄ N₄ hAB₄ W₄ k₄
      have mI₄ := k₄.mu _ _ _ mI₃ (k₃'.tg _ _ htI) trivial
      clear F₃ N₃
      k_steps
      exact fin h₄ tk₄ gens₄ tg₄ n₄ _ oI' F₄ ((if_neg (by decide)).trans ((if_neg (by decide)).trans hmi)) ((if_neg (by decide)).trans ((if_neg (by decide)).trans hmd)) N₄ hAB₄ W₄ (k₃'.trans (k₄.mono fun q h => h.1)) mI₄ hc' hd'
theorem says_pos (r : Row) (id : Name) (d : PyData) : 1 ≤ (r.says id d).length := by unfold Row.says; simp
set_option maxHeartbeats 1000000 in
theorem loop_run {w : World} {cx : Cx} {σP σ σ' : St} {id : Name} {d : PyData} {g p : Nat} (L : Loop id d g p σ σ') : LoopRun w cx σP id d g p σ σ' := by
  induction L with
  | @done id d g p σ rows hg hle =>
    intro tg A₀ base h₀ outer L la I m mg mb pg loose mean s news dep un gd R vid vd rows' oI its nl B X T hdep hun F hmi hmd N hvid hvd W hgr hp hla htl htI hI hoI hlog hT hQ
    rw [hg] at hgr
    cases hgr
    have hA := W.listIs N hg htl hla
    have hlen : its.toList.length = (rows.filter (·.hits id)).length := hA.1
    have e : rows.take p = rows := List.take_of_length_le hle
    rw [e] at hoI
    refine forLoop_turn ?_
    refine list_end_S (items := its) rfl ⟨oI, (N _ hI).1, hoI.1, hoI.2⟩ ⟨_, (N _ hla).1, rfl, nl, rfl⟩ (by rw [← Array.getElem?_toList]; exact List.getElem?_eq_none (by rw [hlen]; exact Nat.le_refl _)) fun h₁ o₁ ho₁ he₁ => ?_
    have n0 := N _ hI
    have ⟨W₁, k₁⟩ := W.tmpSet (o' := o₁) htI
    have F₁ : Fr h₀ L h₁ m := ⟨F.ns.extBut he₁ (Ne.symm n0.2.1), fun b o e => he₁ b o (fun q => by have h1 := n0.2.2; rw [q, h1] at e; cases e) (F.keep b o e), F.above⟩
    have N₁ : News h₀ L h₁ (setN I o₁ news) := fun q hq => by
      rcases of_setN hq with rfl | ⟨hq, hne⟩
      · exact ⟨ho₁, n0.2⟩
      · exact ⟨he₁ _ _ hne (N q hq).1, (N q hq).2⟩
    refine wpAny_execs_nil ?_
    exact hQ h₁ s.toks s.gens tg _ m F₁ N₁ (fun h => h) W₁ (k₁.mono fun _ h => h.2)
  | @skip id d g p σ σ' rows r hg hr hh hL ih =>
    intro tg A₀ base h₀ outer L la I m mg mb pg loose mean s news dep un gd R vid vd rows' oI its nl B X T hdep hun F hmi hmd N hvid hvd W hgr hp hla htl htI hI hoI hlog hT hQ
    rw [hg] at hgr
    cases hgr
    have e := filter_succ (·.hits id) rows p r hr
    rw [hh] at e
    refine ih B X T hdep hun F hmi hmd N hvid hvd W hg ?_ hla htl htI hI ⟨hoI.1, ?_⟩ hlog hT hQ
    · exact (List.getElem?_eq_some_iff.mp hr).1
    · rw [e]; exact hoI.2
  | refuse hg hr hh hs hp hL ih =>
    exact loop_step hg hr hh (.inl ⟨hs, hp, rfl⟩) (Ext.of_gens rfl) rfl hL.mono ⟨by rw [say_len]; exact Nat.le_refl _, Nat.le_refl _⟩ ih
  | @plain id d g p σ σ' rows r hg hr hh hp hk hL ih =>
    refine loop_step (σ2 := σ.say (r.says id d)) hg hr hh (.inr ⟨hp, ?_⟩) (Ext.of_gens rfl) rfl hL.mono ⟨by rw [say_len]; have := says_pos r id d; omega, Nat.le_refl _⟩ @ih
    rcases hk with hk | ⟨hk, hf⟩
    · exact .zero hk
    · exact .flagged hk hf
  | @adds id d g p σ σ' rows r hg hr hh hp hk hL ih =>
    refine loop_step (σ2 := (σ.say (r.says id d)).add r.child) hg hr hh (.inr ⟨hp, .adds hk⟩) ((Ext.of_gens rfl).trans (Ext.add _ _ rfl)) rfl hL.mono ⟨?_, ?_⟩ @ih
    · show _ ≤ (σ.say (r.says id d)).log.length
      rw [say_len]; have := says_pos r id d; omega
    · exact appLast_T _ _
  | @nest id d g p σ σ₁ σ' rows r hg hr hh hp hk hf hL1 hL2 ih1 ih2 =>
    have m1 := hL1.mono
    refine @loop_step w cx σP σ { σ₁ with flag := false } σ' id d g p r rows hg hr hh (.inr ⟨hp, .nest hk hf hL1 @ih1⟩) (((Ext.of_gens rfl).trans hL1.ext).trans (Ext.of_gens rfl)) hf.symm hL2.mono ⟨?_, m1.2⟩ @ih2
    have h1 : (σ.say (r.says id d)).log.length ≤ σ₁.log.length := m1.1
    rw [say_len] at h1
    have := says_pos r id d
    show _ ≤ σ₁.log.length
    omega
  | @forgets id d g p σ σ' rows r hg hr hh hp hk hL ih =>
    refine loop_step (σ2 := (σ.say (r.says id d)).forget) hg hr hh (.inr ⟨hp, .forgets hk⟩) ((Ext.of_gens rfl).trans (Ext.forget _)) rfl hL.mono ⟨?_, ?_⟩ @ih
    · show _ ≤ (σ.say (r.says id d)).log.length
      rw [say_len]; have := says_pos r id d; omega
    · simp [St.T, St.forget, St.say]
end Mine

end
section
-- S0
open PySem PySem.W PyProof.Rows PySem.Calls PySem.Spec
namespace Mine
set_option maxRecDepth 100000
/-- of what the law's own sending leaves alone -/
def sendT : Tag → Prop
  | .due => False
  | .plain => False
  | .rows _ => False
  | _ => True
section
variable {K : Frag} {tg : Tags} {news : List (Addr × Obj)} {w : World} {cx : Cx} {σB σP : St} {R l pp : Addr} {its : Array Value} {n : Nat} {g : Nat} {rows : List Row} {pre : List (List Row)} {rs : List Row} {r : Row} {h₀ h : Heap} {L : Addr}
theorem Wd.rowsEx (W : Wd w K cx σB σP tg news) (hg : σP.gens[g]? = some rows) (ht : tg R = some (.rows g)) : ∃ its n, (R, listOf its n) ∈ news ∧ All2 (RowAt w (Im K news tg) (Lg news tg)) its.toList rows := by
  obtain ⟨a, x⟩ := W.rows g rows hg
  have e := W.base.inj a R (.rows g) trivial x.tag ht
  subst e
  exact x.ex
theorem Wd.rowsIs (W : Wd w K cx σB σP tg news) (N : News h₀ L h news) (hg : σP.gens[g]? = some rows) (ht : tg R = some (.rows g)) (hm : (R, listOf its n) ∈ news) : All2 (RowAt w (Im K news tg) (Lg news tg)) its.toList rows := by
  obtain ⟨it, n', h1, h2⟩ := W.rowsEx hg ht
  have e1 := (N _ hm).1
  have e2 := (N _ h1).1
  rw [e1] at e2
  cases e2
  exact h2
theorem Wd.addP {tup : Obj} (W : Wd w K cx σB σP tg news) (hg : σP.gens = pre ++ [rs]) (ht : tg R = some (.rows pre.length)) (hm : (R, listOf its n) ∈ news) (hA : All2 (RowAt w (Im K news tg) (Lg news tg)) its.toList rs)
    (hr : RowAt w (Im K ((pp, tup) :: news) tg) (Lg ((pp, tup) :: news) tg) (.ref pp) r) (hok : r.ok) :
    Wd w K cx σB (σP.add r) tg (setN R (listOf (its.push (.ref pp)) (n + 1)) ((pp, tup) :: news)) ∧ Keeps tg tg news (setN R (listOf (its.push (.ref pp)) (n + 1)) ((pp, tup) :: news)) fun q => q ≠ .rows pre.length := by
  have ok1 := (W.base.ok.cons (p := (pp, tup)))
  have k0 : Keeps tg tg news ((pp, tup) :: news) fun q => q ≠ .rows pre.length := Keeps.cons.mono fun _ _ => trivial
  have k1 : Keeps tg tg ((pp, tup) :: news) (setN R (listOf (its.push (.ref pp)) (n + 1)) ((pp, tup) :: news)) fun q => q ≠ .rows pre.length := Keeps.set ht ok1
  have k := k0.trans k1
  have eg : (σP.add r).gens = pre ++ [rs ++ [r]] := by
    show appLast r σP.gens = _
    rw [hg, appLast_last]
  have ec : (σP.add r).cur = σP.cur := by unfold St.cur; rw [eg, hg]; simp
  have el : (σP.add r).gens.length = σP.gens.length := by rw [eg, hg]; simp
  refine ⟨⟨W.base.mono k ok1.set, W.heard.mono k nofun, W.due.mono k nofun, ec ▸ W.plain.mono k nofun, W.dx.mono k nofun, ?_, W.dict.mono k (fun _ => nofun) fun _ _ => nofun, W.tabL.mono k nofun, W.tabS.mono k nofun, W.tabR.mono k nofun, W.wfB, ?_, W.tagB, fun a g h => by rw [el]; exact W.tagP a g h, W.tagL⟩, k⟩
  · intro g rs' h
    rw [eg] at h
    rcases Nat.lt_trichotomy g pre.length with q | q | q
    · rw [List.getElem?_append_left q] at h
      have h1 : σP.gens[g]? = some rs' := by rw [hg, List.getElem?_append_left q]; exact h
      obtain ⟨a, x⟩ := W.rows g rs' h1
      exact ⟨a, x.mono k (by intro e; cases e; omega)⟩
    · subst q
      simp at h
      subst h
      exact ⟨R, ht, _, _, mem_setN (.tail _ hm), All2.push (hA.mono fun _ _ z => z.mono k.im k.lg) (hr.mono k1.im k1.lg)⟩
    · rw [List.getElem?_eq_none (by simp; omega)] at h; cases h
  · refine ⟨by rw [eg]; simp, fun x hx y hy => ?_⟩
    rw [eg] at hx
    rcases List.mem_append.mp hx with h | h
    · exact W.wfP.2 x (by rw [hg]; exact List.mem_append_left _ h) y hy
    · rw [List.mem_singleton.mp h] at hy
      rcases List.mem_append.mp hy with hy | hy
      · exact W.wfP.2 rs (by rw [hg]; simp) y hy
      · rw [List.mem_singleton.mp hy]; exact hok
theorem Wd.forgetP (W : Wd w K cx σB σP tg news) (hlt : ∀ p ∈ news, p.1 < l) (hm : (cx.plain, listOf #[.ref R, .bool σP.flag, .bool σB.flag] n) ∈ news) :
    Wd w K cx σB σP.forget (putTag l (.rows σP.gens.length) tg) (setN cx.plain (listOf #[.ref l, .bool σP.flag, .bool σB.flag] n) ((l, listOf #[] 0) :: news)) ∧
      Keeps tg (putTag l (.rows σP.gens.length) tg) news (setN cx.plain (listOf #[.ref l, .bool σP.flag, .bool σB.flag] n) ((l, listOf #[] 0) :: news)) fun q => q ≠ .plain ∧ q ≠ .rows σP.gens.length := by
  have hn : ∀ p ∈ news, p.1 ≠ l := fun p hp => Nat.ne_of_lt (hlt p hp)
  have k0 : Keeps tg (putTag l (.rows σP.gens.length) tg) news ((l, listOf #[] 0) :: news) fun q => q ≠ .plain ∧ q ≠ .rows σP.gens.length := (Keeps.put hn W.base.ok).mono fun _ h => h.2
  have ok0 : TagsOk (putTag l (.rows σP.gens.length) tg) ((l, listOf #[] 0) :: news) := TagsOk.put hn (fun _ b hb => Nat.lt_irrefl _ (W.tagP b _ hb)) nofun W.base.ok
  have tpl := k0.tg _ _ W.plain.1
  have k1 : Keeps (putTag l (.rows σP.gens.length) tg) (putTag l (.rows σP.gens.length) tg) ((l, listOf #[] 0) :: news) (setN cx.plain (listOf #[.ref l, .bool σP.flag, .bool σB.flag] n) ((l, listOf #[] 0) :: news)) fun q => q ≠ .plain ∧ q ≠ .rows σP.gens.length := (Keeps.set tpl ok0).mono fun _ h => h.1
  have ok1 := ok0.set (D := cx.plain) (o' := listOf #[.ref l, .bool σP.flag, .bool σB.flag] n)
  have k := k0.trans k1
  have hld : l ≠ cx.plain := Nat.ne_of_gt (hlt _ hm)
  have back : ∀ a t, putTag l (.rows σP.gens.length) tg a = some t → (a = l ∧ t = .rows σP.gens.length) ∨ tg a = some t := fun a t h => by
    unfold putTag at h
    split at h
    · rename_i e; cases h; exact .inl ⟨e, rfl⟩
    · exact .inr h
  have ec : σP.forget.cur = σP.gens.length := by unfold St.forget St.cur; simp
  refine ⟨⟨W.base.mono k ok1, W.heard.mono k ⟨nofun, nofun⟩, W.due.mono k ⟨nofun, nofun⟩, ⟨tpl, l, n, mem_setN (.tail _ hm), by rw [ec]; exact putTag_self ..⟩, W.dx.mono k ⟨nofun, nofun⟩, ?_, W.dict.mono k (fun _ => ⟨nofun, nofun⟩) fun _ _ => ⟨nofun, nofun⟩, W.tabL.mono k ⟨nofun, nofun⟩, W.tabS.mono k ⟨nofun, nofun⟩, W.tabR.mono k ⟨nofun, nofun⟩, W.wfB, ?_, ?_, ?_, ?_⟩, k⟩
  · intro g rs' h
    have h' : (σP.gens ++ [[]])[g]? = some rs' := h
    rcases Nat.lt_trichotomy g σP.gens.length with q | q | q
    · rw [List.getElem?_append_left q] at h'
      obtain ⟨a, x⟩ := W.rows g rs' h'
      exact ⟨a, x.mono k ⟨nofun, by intro e; cases e; exact Nat.lt_irrefl _ q⟩⟩
    · subst q
      simp at h'
      subst h'
      exact ⟨l, putTag_self .., #[], 0, keep_setN (.head _) hld, rfl, fun j a b h => by simp at h⟩
    · rw [List.getElem?_eq_none (by simp; omega)] at h'; cases h'
  · refine ⟨by show σP.gens ++ [[]] ≠ []; simp, fun x hx y hy => ?_⟩
    rcases List.mem_append.mp (show x ∈ σP.gens ++ [[]] from hx) with h | h
    · exact W.wfP.2 x h y hy
    · rw [List.mem_singleton.mp h] at hy; cases hy
  · intro a g h
    rcases back a _ h with ⟨_, e⟩ | h
    · cases e
    · exact W.tagB a g h
  · intro a g h
    show g < (σP.gens ++ [[]]).length
    rw [List.length_append]
    rcases back a _ h with ⟨_, e⟩ | h
    · cases e; simp
    · have := W.tagP a g h; simp; omega
  · intro a g nm h
    rcases back a _ h with ⟨_, e⟩ | h
    · cases e
    · exact W.tagL a g nm h
end
section
variable {prog : Program} {w : World} {A : Around} {E : Value → Shared → Prop} {s : Shared}
/-- one turn of a while loop -/
theorem while_turn {R : Result → Shared → Prop} {test : Expr} {body orelse : List Stmt} {env : Env}
    (turn : wpAny (model prog w) A (isTrue test env (eval test env)) (fun b s₁ => if b = true then
        wpAny (model prog w) A (execs body env) (fun f s₃ => match f with
          | .next | .cont => codeAny (model prog w) A (.whileLoop test body orelse env) R s₃
          | .brk => R (.ok .next) s₃
          | .ret v => R (.ok (.ret v)) s₃) (notedBy (model prog w) A env fun e s' => R (.error e) s') s₁
      else wpAny (model prog w) A (execs orelse env) (fun f s₃ => R (.ok f) s₃) (notedBy (model prog w) A env fun e s' => R (.error e) s') s₁) (notedBy (model prog w) A env fun e s' => R (.error e) s') s) :
    codeAny (model prog w) A (.whileLoop test body orelse env) R s := by
  refine codeAny_of_tree ?_
  show wpAny _ A ((whileTurn test body orelse env).onRaise (fun x => do noteFrame x env; theTreesLotGoes x)) _ _ s
  refine wpAny_noted ?_
  unfold whileTurn
  refine wpAny_bind (wpAny_mono turn (fun b s₁ h₁ => ?_) fun _ _ h' => h')
  cases b with
  | true =>
    rw [if_pos rfl] at h₁
    show wpAny _ _ (if true = true then _ else _) _ _ s₁
    rw [if_pos rfl]
    refine wpAny_bind (wpAny_mono h₁ (fun f s₃ h₃ => ?_) fun _ _ h' => h')
    cases f with
    | next => exact wpAny_pure ⟨rfl, h₃⟩
    | cont => exact wpAny_pure ⟨rfl, h₃⟩
    | brk => exact wpAny_pure h₃
    | ret v => exact wpAny_pure h₃
  | false =>
    rw [if_neg Bool.false_ne_true] at h₁
    show wpAny _ _ (if false = true then _ else _) _ _ s₁
    rw [if_neg Bool.false_ne_true]
    exact wpAny_bind (wpAny_mono h₁ (fun f s₃ h₃ => wpAny_pure h₃) fun _ _ h' => h')
end
end Mine

end
section
-- S1
open PySem PySem.W PyProof.Rows PySem.Calls PySem.Spec
namespace Mine
set_option maxRecDepth 100000
theorem items_get {prog : Program} {w : World} : ∀ {nm : Name} {vs : List Value}, ItemsAre (atomKind prog w) nm vs → ∀ (j : Nat) (v : Value), vs[j]? = some v → ∃ a, nm[j]? = some a ∧ atomIs a v = true
  | _, _, .nil, j, _, h => by simp at h
  | _, _, .cons h r, 0, v, e => by simp at e; subst e; exact ⟨_, rfl, h⟩
  | _, _, .cons h r, j + 1, v, e => by
    obtain ⟨a, h1, h2⟩ := items_get r j v (by simpa using e)
    exact ⟨a, by simpa using h1, h2⟩
theorem eq_atoms {A : Around} {s : Shared} {a b : Atom} {u v : Value} (hu : atomIs a u = true) (hv : atomIs b v = true) : SeqAt.EqAt A s u v (decide (a = b)) := fun prog w _ _ hq =>
  (atomKind prog w).eqBool hu hv hq
theorem names_dec (x y : Name) : ((List.range (min x.length y.length)).all (fun j => decide (x[j]? = y[j]?)) && x.length == y.length) = decide (x = y) := by
  rw [Bool.eq_iff_iff]
  simp only [Bool.and_eq_true, List.all_eq_true, List.mem_range, decide_eq_true_eq, beq_iff_eq]
  constructor
  · rintro ⟨h1, h2⟩
    refine List.ext_getElem? fun j => ?_
    rcases Nat.lt_or_ge j x.length with hj | hj
    · exact h1 j (by omega)
    · rw [List.getElem?_eq_none hj, List.getElem?_eq_none (by omega)]
  · rintro rfl
    exact ⟨fun _ _ => rfl, rfl⟩
section
variable {prog : Program} {w : World} {A : Around} {E : Value → Shared → Prop} {s : Shared}
theorem ne_names {l b : Addr} {items items2 : Array Value} {n n2 : Nat} {x y : Name} {Q : Value → Shared → Prop} (hl : s.heap.get? l = some (tupO items n)) (hb : s.heap.get? b = some (tupO items2 n2)) (hx : ItemsAre (atomKind PG w) x items.toList) (hy : ItemsAre (atomKind PG w) y items2.toList)
    (hu : A.units < cLine) (h : Q (.bool (!decide (x = y))) s) : wpAny (model prog w) A (compareOp .NotEq (.ref l) (.ref b)) Q E s := by
  have hlx : items.size = x.length := by have := hx.length; rw [Array.length_toList] at this; exact this.symm
  have hly : items2.size = y.length := by have := hy.length; rw [Array.length_toList] at this; exact this.symm
  refine PySem.EqBoolInt.of_rcne (SeqAt.RcNeAt.tuples (items := items) (items2 := items2) (e := fun j => decide (x[j]? = y[j]?)) ⟨_, hl, rfl, n, rfl⟩ ⟨_, hb, rfl, n2, rfl⟩ hu fun j h1 h2 => ?_) ?_
  · obtain ⟨a, ha, ha'⟩ := items_get hx j items[j] (by simp [h1])
    obtain ⟨c, hc, hc'⟩ := items_get hy j items2[j] (by simp [h2])
    have e : decide (x[j]? = y[j]?) = decide (a = c) := by rw [ha, hc]; simp
    show SeqAt.EqAt A.in1 s items[j] items2[j] (decide (x[j]? = y[j]?))
    rw [e]
    exact eq_atoms ha' hc'
  · rw [hlx, hly, names_dec]; exact h
theorem slice_S {value slice : Expr} {h₀ : Heap} {L t : Addr} {m : PySem.Str → Option Value} {news : List (Addr × Obj)} {items : Array Value} {n a : Nat} {u : Tok} {Q : Value → Shared → Prop}
    (F : Fr h₀ L s.heap m) (N : News h₀ L s.heap news) (ht : s.heap.get? t = some (tupO items n)) (hsz : items.size ≤ sizeLine)
    (h : ∀ h' t' nw, Fr h₀ L h' m → News h₀ L h' (nw ++ news) → (∃ n', h'.get? t' = some (tupO (items.toList.take a).toArray n')) → Q (.ref t') { s with heap := h' })
    (hs : subscripted slice false (.ref t) (.ref s.heap.objs.size) = operate [.ref s.heap.objs.size, .ref t] (getItem (.ref t) (.ref s.heap.objs.size)) := by with_unfolding_all rfl)
    (hg : ∀ r, letTemporaryGo value (.ref t) r = pure () := by intro _; with_unfolding_all rfl) :
    wpAny (model prog w) A (subscriptTail value slice (.ref t) (.ref s.heap.objs.size)) Q E { s with heap := s.heap.push { cls := .type "slice", data := .fields #[.none, .int a u, .none] } } := by
  have ht' : IsTup (s.heap.push { cls := .type "slice", data := .fields #[.none, .int a u, .none] }) t items := ⟨_, Heap.get?_push_of_some _ ht, rfl, n, rfl⟩
  have N0 : News h₀ L (s.heap.push { cls := .type "slice", data := .fields #[.none, .int a u, .none] }) news := N.grown fun _ _ e => Heap.get?_push_of_some _ e
  refine subscriptTail_ops (s := { s with heap := s.heap.push { cls := .type "slice", data := .fields #[.none, .int a u, .none] } }) ht'.typeIs slot_tuple_getitem.lookup
    (getItem_upto ht' (Heap.IsSliceOf.new ..) (fun hle => ?_) (fun hl => ?_) hsz) hs hg
  · have e : (items.toList.take a).toArray = items := by rw [List.take_of_length_le (by rw [Array.length_toList]; exact hle)]
    exact h _ _ [] (F.push _) N0 ⟨n, by rw [e]; exact Heap.get?_push_of_some _ ht⟩
  · have N1 := News.push (F.push { cls := .type "slice", data := .fields #[.none, .int a u, .none] }) N0 (tupO (items.toList.take a).toArray 0)
    exact h _ _ [_] ((F.push _).push _) N1 ⟨0, Heap.get?_push_size _ rfl⟩
theorem im_get {K : Frag} {h h₀ : Heap} {L : Addr} {m : PySem.Str → Option Value} {news : List (Addr × Obj)} {tg : Tags} {p : Addr × Obj} (F : Fr h₀ L h m) (X : K.In h₀) (N : News h₀ L h news) (hI : Im K news tg p) : h.get? p.1 = some p.2 := by
  rcases hI with q | ⟨q, _⟩
  · exact F.keep _ _ (X _ _ q)
  · exact (N _ q).1
end
end Mine

end
section
-- S2
open PySem PySem.W PyProof.Rows PySem.Calls PySem.Spec
namespace Mine
local macro_rules | `(tactic| walk_at "idle 0") => `(tactic| fail)
local macro_rules | `(tactic| walk_at "idle 1") => `(tactic| fail)
local macro_rules | `(tactic| walk_at "idle 2") => `(tactic| fail)
local macro_rules | `(tactic| walk_at "idle 3") => `(tactic| fail)
set_option maxRecDepth 100000
local macro_rules | `(tactic| k_mem) => `(tactic| assumption)
local macro_rules | `(tactic| walk_at "eval Name") => `(tactic| (k_here; kc_free; k_dflt (refine' nameX_F ?N ?c ?m ?d ?_ ?a ?b; (case a => rfl); (case b => rfl); (case N => k_asm); (case c => rfl); (case m => k_mem); (case d => k_asm); k_whole)))
local macro_rules | `(tactic| walk_at "eval Name") => `(tactic| (k_here; k_dflt (refine' nameX_L ?F ?v ?_ ?a ?b; (case F => k_asm); (case v => first | assumption | rfl | exact (if_neg (by decide)).trans (by assumption) | exact (if_neg (by decide)).trans ((if_neg (by decide)).trans (by assumption)) | (repeat (first | assumption | refine (if_neg (by decide)).trans ?_))); (case a => rfl); (case b => rfl); k_whole)))

local macro_rules | `(tactic| walk_at "exec While") => `(tactic| (refine wpAny_While ?_))

def whileTest : Stmt → Expr | .While t .. => t | _ => .Constant .none 0 default
def whileBody : Stmt → List Stmt | .While _ b .. => b | _ => []
def sendW : Stmt := dAt (dBody sendD) 1
def sendCl (cx : Cx) : List (PySem.Str × Addr) := [("send", cx.cSend), ("plain", cx.cPlain), ("due", cx.cDue)]
abbrev envS (cx : Cx) (L : Addr) (cd : Value) : Env := envX qSend (dScope sendD) L cx.fSend cd (sendCl cx)
abbrev whileS (cx : Cx) (L : Addr) (cd : Value) : Code := .whileLoop (whileTest sendW) (whileBody sendW) [] (envS cx L cd)

/-- what the loop of send does, from row p of generation g on -/
def SendRun (w : World) (cx : Cx) (σB : St) (id : Name) (d : PyData) (g p : Nat) (σ σ' : St) : Prop :=
  ∀ {tg : Tags} {A₀ : Around} {base h₀ : Heap} {outer : List Env} {L R : Addr} {cd : Value} {m mg mb : PySem.Str → Option Value} {pg : Program} {loose : List PySem.Str} {mean : ExcName → Option Value} {s : Shared} {news : List (Addr × Obj)} {dep un : Nat} {gd : Option (List Code)} {Rz : Result → Shared → Prop} {vid vd : Value} {rows : List Row} {tp : Tok}
    (_ : Below A₀ base outer h₀) (_ : (hd.heap_39 w.params).In h₀) (_ : Top pg loose mean mg mb h₀) (_ : dep + 10 + (if σ.flag then 0 else 10) < recursionLimit) (_ : un + 50 + (if σ.flag then 0 else 50) < cLine)
    (_ : Fr h₀ L s.heap m) (_ : m "identifier" = some vid) (_ : m "data" = some vd) (_ : m "rows" = some (.ref R)) (_ : m "place" = some (.int (p : Nat) tp)) (_ : News h₀ L s.heap news) (_ : NmAt w (Im (hd.heap_39 w.params) news tg) id vid) (_ : Rd w (Im (hd.heap_39 w.params) news tg) vd d)
    (_ : Wd w (hd.heap_39 w.params) cx σB σ tg news) (_ : σ.gens[g]? = some rows) (_ : id.length ≤ 4) (_ : p ≤ rows.length) (_ : tg R = some (.rows g)) (_ : σ'.log.length ≤ 1000000) (_ : σ'.T ≤ 100000)
    (_ : ∀ h' tk tg' news' m', Fr h₀ L h' m' → News h₀ L h' news' → Wd w (hd.heap_39 w.params) cx σB σ' tg' news' → Keeps tg tg' news news' sendT → Rz (.ok .next) ⟨h', s.gens, s.drawn, tk, s.os⟩),
    codeAny (model PySem.Challenge.rw_bi0010_01.row.prog w) ⟨none, dep, some (envS cx L cd :: outer), gd, un⟩ (whileS cx L cd) Rz s

set_option maxHeartbeats 2000000 in
theorem send_ok {w : World} {cx : Cx} {σB σ σ' : St} {tg : Tags} {id : Name} {d : PyData} {vid vd : Value}
    {A₀ : Around} {base h₀ : Heap} {outer : List Env} {env : Env} {L : Addr} {m mg mb : PySem.Str → Option Value} {p : Program} {loose : List PySem.Str} {mean : ExcName → Option Value} {s : Shared} {news : List (Addr × Obj)} {dep un : Nat} {gd : Option (List Code)} {Q : Value → Shared → Prop} {E : Value → Shared → Prop}
    (hR : SendRun w cx σB id d σ.cur 0 σ σ')
    (B : Below A₀ base outer h₀) (X : (hd.heap_39 w.params).In h₀) (T : Top p loose mean mg mb h₀) (hf : env.frame = some L) (hk : env.scope.kind = .function) (hdep : dep + 11 + (if σ.flag then 0 else 10) < recursionLimit) (hun : un + 53 + (if σ.flag then 0 else 50) < cLine)
    (F : Fr h₀ L s.heap m) (N : News h₀ L s.heap news) (W : Wd w (hd.heap_39 w.params) cx σB σ tg news) (hid4 : id.length ≤ 4)
    (hvid : NmAt w (Im (hd.heap_39 w.params) news tg) id vid) (hvd : Rd w (Im (hd.heap_39 w.params) news tg) vd d) (hlog : σ'.log.length ≤ 1000000) (hT : σ'.T ≤ 100000)
    (hQ : ∀ h' tk tg' news', Fr h₀ L h' m → News h₀ L h' news' → Wd w (hd.heap_39 w.params) cx σB σ' tg' news' → Keeps tg tg' news news' sendT → Q .none { s with heap := h', toks := tk }) :
    wpAny (model PySem.Challenge.rw_bi0010_01.row.prog w) ⟨none, dep, some (env :: outer), gd, un⟩ (call (.ref cx.fSend) [vid, vd]) Q E s := by
  w_top off
  revert X; k_fill; intro X
  have hS : dScope sendD = dScope sendD := rfl
  conv at hS => rhs; whnf
  have hP : dParams sendD = dParams sendD := rfl
  conv at hP => rhs; whnf
  have hB : dBody sendD = dBody sendD := rfl
  conv at hB => rhs; whnf
  obtain ⟨nm, doc, pm, c', ctv, oc, ⟨h1, h1t⟩, ⟨h2, h2t⟩, h3⟩ := W.base.fSend
  clear h1t
  rw [hS, hP, hB] at h1
  clear hS hP hB
  obtain ⟨oPl, ⟨hoPl, _⟩, hdPl⟩ := W.base.cellPlain
  obtain ⟨tPl, Rr, nP, mPl, tRr⟩ := W.plain
  obtain ⟨rows, hrows⟩ := cur_get W.wfP
  refine wpAny_call ?_
  refine' code_nest (binds := [("identifier", vid), ("data", vd)]) B F X N T rfl hf hk h1 ?c1 ?c2 ?c3 ?c4 ?c5 ?c6 ?c7 ?c8 ?c9
  case c1 => exact h3.rec N h2
  case c2 => show dep < _; omega
  case c3 => exact BindsTo.of_eq rfl
  case c4 => exact locs rfl
  case c6 => rfl
  case c7 => rfl
  case c8 => rfl
  case c9 => decide
  case c5 =>
    clear h1
    intro g' L' h' FG' F' N' B' X' T'
    dsimp only [Around.deeper, Option.map]
    k_fold
    k_steps
    refine PyProof.Rows.item_list (items := #[.ref Rr, .bool σ.flag, .bool σB.flag]) (x := .ref Rr) ⟨_, (N' _ mPl).1, rfl, nP, rfl⟩ (by decide) (by decide) rfl ?_
    k_steps
    rename_i D₂ hx₂ hl₂ hy₂ hz₂ h₂ F₂ N₂
    generalize ho : ({ cls := Value.type "tuple", data := Data.seq #[Value.ref Rr, Value.int 0 _] } : Obj) = oT at N₂
    have W₂ := W.cons (D₂, oT)
    have k₂ : Keeps tg tg news ((D₂, oT) :: news) fun _ => True := Keeps.cons
    refine hR (s := ⟨h₂, s.gens, s.drawn, _, s.os⟩) (vid := vid) (vd := vd) (R := Rr) (tp := _) B' X' T' ?hd ?hu F₂ rfl rfl rfl rfl N₂ (hvid.mono k₂.im) (hvd.mono k₂.im) W₂ hrows hid4 (Nat.zero_le _) tRr hlog hT ?_
    case hd => omega
    case hu => omega
    intro h₃ tk₃ tg₃ n₃ m₃ F₃ N₃ W₃ k₃
    clear F₂ N₂
    k_steps
    rename_i kF kN Tc kX
    exact hQ _ _ tg₃ n₃ kF kN W₃ ((k₂.mono fun _ _ => trivial).trans k₃)
end Mine

end
section
-- S2b
open PySem PySem.W PyProof.Rows PySem.Calls PySem.Spec
namespace Mine
local macro_rules | `(tactic| walk_at "idle 0") => `(tactic| fail)
local macro_rules | `(tactic| walk_at "idle 1") => `(tactic| fail)
local macro_rules | `(tactic| walk_at "idle 2") => `(tactic| fail)
local macro_rules | `(tactic| walk_at "idle 3") => `(tactic| fail)
set_option maxRecDepth 100000
local macro_rules | `(tactic| k_mem) => `(tactic| assumption)
local macro_rules | `(tactic| walk_at "eval Name") => `(tactic| (k_here; kc_free; k_dflt (refine' nameX_F ?N ?c ?m ?d ?_ ?a ?b; (case a => rfl); (case b => rfl); (case N => k_asm); (case c => rfl); (case m => k_mem); (case d => k_asm); k_whole)))
local macro_rules | `(tactic| walk_at "eval Name") => `(tactic| (k_here; k_dflt (refine' nameX_L ?F ?v ?_ ?a ?b; (case F => k_asm); (case v => first | assumption | exact (if_neg (by decide)).trans (by assumption)); (case a => rfl); (case b => rfl); k_whole)))
local macro_rules | `(tactic| walk_at "callWith ref") => `(tactic| (k_here; k_dflt (first
  | (refine' callWith_F ?k1 ?_; (case k1 => exact FnAt.of (by k_asm) (by k_mem)); k_whole)
  | (refine' callWith_F0 ?k1 ?_; (case k1 => exact FnAt.of (by k_asm) (by k_mem)); k_whole; try dsimp only [List.nil_append, List.cons_append]))))
local macro_rules | `(tactic| walk_at "FnAt") => `(tactic| (k_dflt (exact FnAt.of (by k_asm) (by k_mem))))

inductive SendRes (w : World) (cx : Cx) (σB : St) (num : Int) (kind : Nat) (name : Name) (σ : St) : St → Prop
  | zero : kind = 0 → SendRes w cx σB num kind name σ σ
  | flagged : kind = 2 → σ.flag = true → SendRes w cx σB num kind name σ σ
  | adds : kind = 1 → SendRes w cx σB num kind name σ (σ.add ⟨name, num + 100, 0, name, false⟩)
  | forgets : kind = 3 → SendRes w cx σB num kind name σ σ.forget
  | nest {σ₁ : St} : kind = 2 → σ.flag = false → SendRun w cx σB name (.int num) σ.cur 0 { σ with flag := true } σ₁ → SendRes w cx σB num kind name σ { σ₁ with flag := false }

def sendIf : Stmt := dAt (whileBody sendW) 5

set_option maxHeartbeats 4000000 in
theorem send_kind {w : World} {cx : Cx} {σB σ σ2 : St} {tg : Tags} {num : Int} {kind : Nat} {name : Name} {vn : Value} {t1 t2 : Tok}
    {A₀ : Around} {base h₀ : Heap} {outer : List Env} {L : Addr} {cd : Value} {m mg mb : PySem.Str → Option Value} {p : Program} {loose : List PySem.Str} {mean : ExcName → Option Value} {s : Shared} {news : List (Addr × Obj)} {dep un : Nat} {gd : Option (List Code)} {Q : Flow → Shared → Prop} {E : Value → Shared → Prop}
    (hres : SendRes w cx σB num kind name σ σ2)
    (B : Below A₀ base outer h₀) (X : (hd.heap_39 w.params).In h₀) (T : Top p loose mean mg mb h₀) (hdep : dep + 10 + (if σ.flag then 0 else 10) < recursionLimit) (hun : un + 50 + (if σ.flag then 0 else 50) < cLine)
    (F : Fr h₀ L s.heap m) (N : News h₀ L s.heap news) (W : Wd w (hd.heap_39 w.params) cx σB σ tg news) (c2 : m "number" = some (.int num t1)) (c3 : m "kind" = some (.int kind t2)) (c4 : m "name" = some vn)
    (hvn : NmAt w (Im (hd.heap_39 w.params) news tg) name vn) (hname : name ≠ [] ∧ name.length ≤ 4) (hlog : σ2.log.length ≤ 1000000) (hT : σ2.T ≤ 100000) (hT0 : σ.T ≤ 100000)
    (hQ : ∀ h' tk tg' news', Fr h₀ L h' m → News h₀ L h' news' → Wd w (hd.heap_39 w.params) cx σB σ2 tg' news' → Keeps tg tg' news news' sendT → Q .next { s with heap := h', toks := tk }) :
    wpAny (model PySem.Challenge.rw_bi0010_01.row.prog w) ⟨none, dep, some (envS cx L cd :: outer), gd, un⟩ (execs [sendIf] (envS cx L cd)) Q E s := by
  w_top off
  have hS : dScope sendD = dScope sendD := rfl
  conv at hS => rhs; whnf
  have hTt : sendIf = sendIf := rfl
  conv at hTt => rhs; whnf
  revert X; k_fill; intro X
  unfold envS sendCl
  rw [hS, hTt]
  clear hS hTt
  obtain ⟨oPl, ⟨mPc, gPc⟩, hdPl⟩ := W.base.cellPlain
  obtain ⟨tPl, Rr, nP, mPl, tRr⟩ := W.plain
  rcases hres with ⟨rfl⟩ | ⟨rfl, hfl⟩ | ⟨rfl⟩ | ⟨rfl⟩ | ⟨rfl, hfl, hR⟩
  · replace c3 : m "kind" = some (.int 0 t2) := c3
    k_steps
    exact hQ _ _ tg news F N W .refl
  · replace c3 : m "kind" = some (.int 2 t2) := c3
    rw [hfl] at mPl
    k_steps
    refine PyProof.Rows.item_list (items := #[.ref Rr, .bool true, .bool σB.flag]) (x := .bool true) ⟨_, (N _ mPl).1, rfl, nP, rfl⟩ (by decide) (by decide) rfl ?_
    k_steps
    exact hQ _ _ tg news F N W .refl
  · replace c3 : m "kind" = some (.int 1 t2) := c3
    k_steps
    refine PyProof.Rows.item_list (items := #[.ref Rr, .bool σ.flag, .bool σB.flag]) (x := .ref Rr) ⟨_, (N _ mPl).1, rfl, nP, rfl⟩ (by decide) (by decide) rfl ?_
    obtain ⟨pre, rs, hpre⟩ := pre_last W.wfP.1
    have tR' : tg Rr = some (.rows pre.length) := by rw [← cur_last hpre]; exact tRr
    obtain ⟨its, nl, hRl, hA⟩ := W.rowsEx (get_last hpre) tR'
    k_steps
    rename_i pp h₂ F₂ N₂ hl₂
    generalize hoT : ({ cls := Value.type "tuple", data := Data.seq #[vn, Value.int (num + 100) _, Value.int 0 _, vn, Value.bool false] } : Obj) = oT at N₂
    have kp : Keeps tg tg news ((pp, oT) :: news) fun _ => True := Keeps.cons
    have hrow : RowAt w (Im (hd.heap_39 w.params) ((pp, oT) :: news) tg) (Lg ((pp, oT) :: news) tg) (.ref pp) ⟨name, num + 100, 0, name, false⟩ := by
      have h1 := hvn.mono kp.im
      subst hoT
      exact ⟨pp, vn, _, _, vn, 0, rfl, ⟨.head _, tag_fresh W.base.ok hl₂⟩, h1, h1⟩
    have ⟨W₃, k₃⟩ := W.addP hpre tR' hRl hA hrow ⟨Nat.zero_le _, hname, hname⟩
    have hz : its.size ≤ sizeLine := by
      have h1 := hA.1
      have h2 : rs.length ≤ σ.T := (nz_le_sum (by rw [hpre]; simp)).2
      rw [Array.length_toList] at h1
      rw [sizeLine_eq]; omega
    refine append_S F₂ N₂ (.tail _ hRl) (fun h₃ F₃ N₃ => ?_) hz
    clear F₂ N₂
    k_steps
    exact hQ _ _ tg _ F₃ N₃ W₃ (k₃.mono fun q h => by rintro rfl; exact h)
  · replace c3 : m "kind" = some (.int 3 t2) := c3
    k_steps
    rename_i l₁ h₂ F₂ N₂ hl₂
    have ⟨W₃, k₃⟩ := W.forgetP hl₂ mPl
    refine setItem_S (k := 0) (its := #[.ref Rr, .bool σ.flag, .bool σB.flag]) F₂ N₂ (.tail _ mPl) (show 0 < 3 by decide) (show 3 ≤ 1000 by decide) ?_
    intro h₃ F₃ N₃
    clear F₂ N₂
    k_steps
    exact hQ _ _ _ _ F₃ N₃ W₃ (k₃.mono fun q h => ⟨by rintro rfl; exact h, by rintro rfl; exact h⟩)
  · replace c3 : m "kind" = some (.int 2 t2) := c3
    have ⟨W₄, k₄⟩ := W.flagP true mPl tRr
    rw [hfl] at mPl
    k_steps
    refine PyProof.Rows.item_list (items := #[.ref Rr, .bool false, .bool σB.flag]) (x := .bool false) ⟨_, (N _ mPl).1, rfl, nP, rfl⟩ (by decide) (by decide) rfl ?_
    k_steps
    refine setItem_S (k := 1) (its := #[.ref Rr, .bool false, .bool σB.flag]) F N mPl (show 1 < 3 by decide) (show 3 ≤ 1000 by decide) ?_
    intro h₄ F₄ N₄
    change News _ _ _ (setN cx.plain (listOf #[.ref Rr, .bool true, .bool σB.flag] nP) news) at N₄
    generalize setN cx.plain (listOf #[.ref Rr, .bool true, .bool σB.flag] nP) news = n₄ at N₄ W₄ k₄
    have k₄' : Keeps tg tg news n₄ sendT := k₄.mono fun q h => by rintro rfl; exact h
    obtain ⟨oS, ⟨mS, _⟩, hdS⟩ := W₄.base.cellSend
    obtain ⟨snm, sdoc, spm, sc', sctv, soc, ⟨mfS, _⟩, _, _⟩ := W₄.base.fSend
    k_steps
    rw [hfl] at hdep hun
    simp only [Bool.false_eq_true, if_false] at hdep hun
    refine send_ok hR B X T rfl rfl (by simp only [if_true]; omega) (by simp only [if_true]; omega) F₄ N₄ W₄ hname.2 (hvn.mono k₄'.im) (.int num t1) hlog hT ?_
    intro h₅ tk₅ tg₅ n₅ F₅ N₅ W₅ k₅
    obtain ⟨oP5, ⟨mP5, _⟩, hdP5⟩ := W₅.base.cellPlain
    obtain ⟨tPl5, Rr5, nP5, mPl5, tRr5⟩ := W₅.plain
    have ⟨W₆, k₆⟩ := W₅.flagP false mPl5 tRr5
    clear F₄ N₄
    k_steps
    refine setItem_S (k := 1) F₅ N₅ mPl5 (show 1 < 3 by decide) (show 3 ≤ 1000 by decide) ?_
    intro h₆ F₆ N₆
    clear F₅ N₅
    k_steps
    exact hQ _ _ tg₅ _ F₆ N₆ W₆ ((k₄'.trans k₅).trans (k₆.mono fun q h => by rintro rfl; exact h))
end Mine

end
section
-- S3
open PySem PySem.W PyProof.Rows PySem.Calls PySem.Spec
namespace Mine
local macro_rules | `(tactic| walk_at "idle 0") => `(tactic| fail)
local macro_rules | `(tactic| walk_at "idle 1") => `(tactic| fail)
local macro_rules | `(tactic| walk_at "idle 2") => `(tactic| fail)
local macro_rules | `(tactic| walk_at "idle 3") => `(tactic| fail)
set_option maxRecDepth 100000
local macro_rules | `(tactic| k_mem) => `(tactic| assumption)
local macro_rules | `(tactic| walk_at "eval Name") => `(tactic| (k_here; kc_free; k_dflt (refine' nameX_F ?N ?c ?m ?d ?_ ?a ?b; (case a => rfl); (case b => rfl); (case N => k_asm); (case c => rfl); (case m => k_mem); (case d => k_asm); k_whole)))
local macro_rules | `(tactic| walk_at "eval Name") => `(tactic| (k_here; k_dflt (refine' nameX_L ?F ?v ?_ ?a ?b; (case F => k_asm); (case v => first | assumption | rfl | exact (if_neg (by decide)).trans (by assumption) | exact (if_neg (by decide)).trans ((if_neg (by decide)).trans (by assumption)) | (repeat (first | assumption | refine (if_neg (by decide)).trans ?_))); (case a => rfl); (case b => rfl); k_whole)))

theorem passes_fmod0 (n : Nat) : (((n : Nat) : Int).fmod 3 == 0) = !passes n := by
  have h := Int.fmod_eq_emod_of_nonneg (n : Int) (show (0 : Int) ≤ 3 by decide)
  rw [h]
  unfold passes
  rw [Bool.eq_iff_iff]
  simp
  omega
set_option maxHeartbeats 4000000 in
theorem send_step {w : World} {cx : Cx} {σB σ σ2 σ' : St} {id : Name} {d : PyData} {g p : Nat} {r : Row} {rows0 : List Row}
    (hrow : σ.gens[g]? = some rows0) (hr : rows0[p]? = some r) (hm2 : σ2.log.length ≤ σ'.log.length ∧ σ2.T ≤ σ'.T) (hm1 : σ.log.length ≤ σ2.log.length ∧ σ.T ≤ σ2.T) (hext : Ext σ σ2) (hflag : σ2.flag = σ.flag)
    (hcase : (r.hits id = false ∧ σ2 = σ) ∨ (r.hits id = true ∧ r.sieved = true ∧ passes (σ.log.length + 1) = false ∧ σ2 = σ.say [eAsked r d]) ∨ (r.hits id = true ∧ (r.sieved = true → passes (σ.log.length + 1) = true) ∧ SendRes w cx σB r.num r.kind r.name (σ.say (r.says id d)) σ2))
    (hnext : SendRun w cx σB id d g (p + 1) σ2 σ') : SendRun w cx σB id d g p σ σ' := by
  w_top off
  intro tg A₀ base h₀ outer L R cd m mg mb pg loose mean s news dep un gd Rz vid vd rows tp B X T hdep hun F hmi hmd hmr hmp N hvid hvd W hgr hid4 hp htR hlog hT hQ
  rw [hrow] at hgr
  cases hgr
  have hrok : r.ok := W.wfP.2 rows0 (List.mem_of_getElem? hrow) r (List.mem_of_getElem? hr)
  have fin : ∀ h₂ tk₂ tg₂ n₂ m₂ tp₂, Fr h₀ L h₂ m₂ → m₂ "identifier" = some vid → m₂ "data" = some vd → m₂ "rows" = some (.ref R) → m₂ "place" = some (.int ((p + 1 : Nat) : Int) tp₂) → News h₀ L h₂ n₂ → Wd w (hd.heap_39 w.params) cx σB σ2 tg₂ n₂ → Keeps tg tg₂ news n₂ sendT →
      codeAny (model PySem.Challenge.rw_bi0010_01.row.prog w) ⟨none, dep, some (envS cx L cd :: outer), gd, un⟩ (whileS cx L cd) Rz ⟨h₂, s.gens, s.drawn, tk₂, s.os⟩ := by
    intro h₂ tk₂ tg₂ n₂ m₂ tp₂ F₂ e1 e2 e3 e4 N₂ W₂ k₂
    obtain ⟨ext, hg₂, _⟩ := hext g rows0 hrow
    have hlt : p + 1 ≤ rows0.length := (List.getElem?_eq_some_iff.mp hr).1
    refine hnext (s := ⟨h₂, s.gens, s.drawn, tk₂, s.os⟩) (rows := rows0 ++ ext) B X T (by rw [hflag]; exact hdep) (by rw [hflag]; exact hun) F₂ e1 e2 e3 e4 N₂ (hvid.mono k₂.im) (hvd.mono k₂.im) W₂ hg₂ hid4 (by rw [List.length_append]; omega) (k₂.tg _ _ htR) hlog hT ?_
    exact fun h' tk tg' news' m' F3 N3 W3 k3 => hQ h' tk tg' news' m' F3 N3 W3 (k₂.trans k3)
  have hS : dScope sendD = dScope sendD := rfl
  conv at hS => rhs; whnf
  have hTt : whileTest sendW = whileTest sendW := rfl
  conv at hTt => rhs; whnf
  have hB : whileBody sendW = whileBody sendW := rfl
  conv at hB => rhs; whnf
  revert X; k_fill; intro X
  show codeAny _ _ (.whileLoop (whileTest sendW) (whileBody sendW) [] (envX qSend (dScope sendD) L cx.fSend cd (sendCl cx))) Rz s
  unfold envS sendCl
  rw [hS, hTt, hB]
  clear hS hTt hB
  obtain ⟨its, nl, hRl, hA⟩ := W.rowsEx hrow htR
  have hlen : its.toList.length = rows0.length := hA.1
  have hpl : p < rows0.length := (List.getElem?_eq_some_iff.mp hr).1
  obtain ⟨v, hv⟩ : ∃ v, its.toList[p]? = some v := ⟨_, List.getElem?_eq_getElem (by rw [hlen]; exact hpl)⟩
  obtain ⟨a, va, t1, t2, vn, na, rfl, ⟨hpm, hpt⟩, hva, hvn⟩ := hA.2 _ _ _ hv hr
  refine while_turn ?_
  k_steps
  have hsz : its.size = rows0.length := by rw [← hlen, Array.length_toList]
  have hrl : rows0.length ≤ σ.T := (nz_le_sum (List.mem_of_getElem? hrow)).2
  refine Calls.call_len_list (items := its) ⟨_, (N _ hRl).1, rfl, nl, rfl⟩ (by rw [hsz]; omega) ?_
  k_steps
  refine PyProof.Rows.item_list (items := its) (x := .ref a) ⟨_, (N _ hRl).1, rfl, nl, rfl⟩ (by omega) (by omega) (by rw [Int.toNat_natCast, ← Array.getElem?_toList]; exact hv) ?_
  k_steps
  rename_i h₁ F₁ N₁
  generalize hM : (fun y => if y = PySem.Str.ofString "sieved" then _ else _) = m₁ at F₁
  have a1 : m₁ "asked" = some va := by rw [← hM]; rfl
  have a2 : m₁ "number" = some (.int r.num t1) := by rw [← hM]; rfl
  have a3 : m₁ "kind" = some (.int r.kind t2) := by rw [← hM]; rfl
  have a4 : m₁ "name" = some vn := by rw [← hM]; rfl
  have a5 : m₁ "sieved" = some (.bool r.sieved) := by rw [← hM]; rfl
  have b1 : m₁ "identifier" = some vid := by rw [← hM]; iterate 5 refine (if_neg (by decide)).trans ?_
                                             exact hmi
  have b2 : m₁ "data" = some vd := by rw [← hM]; iterate 5 refine (if_neg (by decide)).trans ?_
                                      exact hmd
  have b3 : m₁ "rows" = some (.ref R) := by rw [← hM]; iterate 5 refine (if_neg (by decide)).trans ?_
                                            exact hmr
  have b4 : m₁ "place" = some (.int (p : Nat) tp) := by rw [← hM]; iterate 5 refine (if_neg (by decide)).trans ?_
                                                        exact hmp
  clear hM hmi hmd hmr hmp
  refine wpAny_loadName_local rfl rfl F₁.ns b4 ?_
  k_steps
  rename_i h₂ F₂ N₂
  generalize hM : (fun y => if y = PySem.Str.ofString "place" then _ else _) = m₂ at F₂
  have c1 : m₂ "asked" = some va := by rw [← hM]; exact a1
  have c2 : m₂ "number" = some (.int r.num t1) := by rw [← hM]; exact a2
  have c3 : m₂ "kind" = some (.int r.kind t2) := by rw [← hM]; exact a3
  have c4 : m₂ "name" = some vn := by rw [← hM]; exact a4
  have c5 : m₂ "sieved" = some (.bool r.sieved) := by rw [← hM]; exact a5
  have d1 : m₂ "identifier" = some vid := by rw [← hM]; exact b1
  have d2 : m₂ "data" = some vd := by rw [← hM]; exact b2
  have d3 : m₂ "rows" = some (.ref R) := by rw [← hM]; exact b3
  have d4 : ∃ tk', m₂ "place" = some (.int ((p + 1 : Nat) : Int) tk') := ⟨_, by rw [← hM]; rfl⟩
  clear hM a1 a2 a3 a4 a5 b1 b2 b3 b4
  obtain ⟨hne, tI, items, nI, rfl, hI, hIt⟩ := And.intro trivial hvid |>.2
  obtain ⟨hneA, tA, itA, nA, rfl, hIA, hItA⟩ := And.intro trivial hva |>.2
  have gI := im_get F₂ X N₂ hI
  have gA := im_get F₂ X N₂ hIA
  have lI : items.size = id.length := by have := hIt.length; rw [Array.length_toList] at this; exact this.symm
  have lA : itA.size = r.asked.length := by have := hItA.length; rw [Array.length_toList] at this; exact this.symm
  have hr4 := hrok.2.1.2
  refine PyProof.Rows.len_tuple (items := items) ⟨_, gI, rfl, nI, rfl⟩ (by omega) ?_
  rw [evalPart_none]
  refine wpAny_pure ?_
  refine slice_S (s := ⟨h₂, _, _, _, _⟩) (items := itA) (a := items.size) F₂ N₂ gA (by rw [sizeLine_eq]; omega) ?_
  intro h₃ t₃ nw F₃ N₃ hg₃
  clear F₂ N₂
  obtain ⟨n₃, hg₃⟩ := hg₃
  have gI₃ := im_get F₃ X (sub_news N₃ fun q hq => List.mem_append_right _ hq) hI
  have W₃ := W.app nw
  have k₃ : Keeps tg tg news (nw ++ news) fun _ => True := Keeps.app nw
  have k₃' : Keeps tg tg news (nw ++ news) sendT := k₃.mono fun _ _ => trivial
  generalize nw ++ news = n₄ at N₃ W₃ k₃ k₃'
  obtain ⟨tk', d4⟩ := d4
  k_steps
  refine ne_names (x := r.asked.take items.size) (y := id) hg₃ gI₃ (by simpa using ItemsAre_take items.size hItA) hIt (by show un < cLine; omega) ?_
  have eh : decide (r.asked.take items.size = id) = r.hits id := by rw [lI]; rfl
  rw [eh]
  obtain ⟨oDc, ⟨mDc, _⟩, hdDc⟩ := W₃.base.cellDue
  obtain ⟨_, dits, dn, hdm, dlog⟩ := W₃.due
  rcases hcase with ⟨hh, rfl⟩ | ⟨hh, hsv, hps, rfl⟩ | ⟨hh, hps, hres⟩
  · rw [hh]
    k_steps
    exact fin _ _ tg _ m₂ _ F₃ d1 d2 d3 d4 N₃ W₃ k₃'
  · rw [hh]
    rw [hsv] at c5
    k_steps
    rename_i D₅ h₅ F₅ N₅ hl₅
    refine appendDue F₅ N₅ hl₅ W₃ (by rw [sizeLine_eq]; omega) (.int r.num t1) (.str _ _) (hvd.mono k₃.im) ?_
    intro h₆ n₆ F₆ N₆ W₆ k₆
    have k₆' : Keeps tg tg news n₆ sendT := k₃'.trans (k₆.mono fun q h => by rintro rfl; exact h)
    obtain ⟨oDc6, ⟨mDc6, _⟩, hdDc6⟩ := W₆.base.cellDue
    obtain ⟨_, dits6, dn6, hdm6, dlog6⟩ := W₆.due
    have hz6 : dits6.size = σ.log.length + 1 := by have := dlog6.1; rw [Array.length_toList] at this; simpa [St.say] using this
    clear F₅ N₅
    have hf3 : (((σ.log.length + 1 : Nat) : Int).fmod 3 == 0) = true := by rw [passes_fmod0, hps]; rfl
    have hf4 : ((dits6.size : Int).fmod 3 == 0) = true := by rw [hz6]; exact hf3
    k_steps
    exact fin _ _ tg _ m₂ _ F₆ d1 d2 d3 d4 N₆ W₆ k₆'
  · rw [hh]
    have hn4 : NmAt w (Im (hd.heap_39 w.params) n₄ tg) r.name vn := hvn.mono k₃.im
    cases hsv : r.sieved with
    | false =>
      rw [hsv] at c5
      have es : r.says id d = [.tuple [.int r.num, encName id, d]] := by unfold Row.says eHeard; rw [hsv]; rfl
      rw [es] at hres
      k_steps
      rename_i D₅ h₅ F₅ N₅ hl₅
      refine appendDue F₅ N₅ hl₅ W₃ (by rw [sizeLine_eq]; omega) (.int r.num t1) (hvid.mono k₃.im).rd (hvd.mono k₃.im) ?_
      intro h₆ n₆ F₆ N₆ W₆ k₆
      have k₆' : Keeps tg tg news n₆ sendT := k₃'.trans (k₆.mono fun q h => by rintro rfl; exact h)
      clear F₅ N₅
      refine send_kind hres B X T hdep hun F₆ N₆ W₆ c2 c3 c4 (hvn.mono k₆'.im) hrok.2.2 (by omega) (by omega) (by show σ.T ≤ _; omega) ?_
      intro h₇ tk₇ tg₇ n₇ F₇ N₇ W₇ k₇
      exact fin _ _ tg₇ _ m₂ _ F₇ d1 d2 d3 d4 N₇ W₇ (k₆'.trans k₇)
    | true =>
      rw [hsv] at c5
      have es : σ.say (r.says id d) = (σ.say [.tuple [.int r.num, .str (PySem.Str.ofString "asked"), d]]).say [.tuple [.int r.num, encName id, d]] := by
        unfold Row.says eHeard eAsked St.say
        rw [hsv]
        simp
      rw [es] at hres
      k_steps
      rename_i D₅ h₅ F₅ N₅ hl₅
      refine appendDue F₅ N₅ hl₅ W₃ (by rw [sizeLine_eq]; omega) (.int r.num t1) (.str _ _) (hvd.mono k₃.im) ?_
      intro h₆ n₆ F₆ N₆ W₆ k₆
      have k₆' : Keeps tg tg news n₆ sendT := k₃'.trans (k₆.mono fun q h => by rintro rfl; exact h)
      obtain ⟨oDc6, ⟨mDc6, _⟩, hdDc6⟩ := W₆.base.cellDue
      obtain ⟨_, dits6, dn6, hdm6, dlog6⟩ := W₆.due
      have hz6 : dits6.size = σ.log.length + 1 := by have := dlog6.1; rw [Array.length_toList] at this; simpa [St.say] using this
      clear F₅ N₅
      have hf3 : (((σ.log.length + 1 : Nat) : Int).fmod 3 == 0) = false := by rw [passes_fmod0, hps hsv]; rfl
      have hf4 : ((dits6.size : Int).fmod 3 == 0) = false := by rw [hz6]; exact hf3
      k_steps
      rename_i D₇ h₇ F₇ N₇ hl₇
      refine appendDue F₇ N₇ hl₇ W₆ (by rw [sizeLine_eq]; simp only [say_len, List.length_singleton]; omega) (.int r.num t1) (hvid.mono k₆'.im).rd (hvd.mono k₆'.im) ?_
      intro h₈ n₈ F₈ N₈ W₈ k₈
      have k₈' : Keeps tg tg news n₈ sendT := k₆'.trans (k₈.mono fun q h => by rintro rfl; exact h)
      clear F₇ N₇
      refine send_kind hres B X T hdep hun F₈ N₈ W₈ c2 c3 c4 (hvn.mono k₈'.im) hrok.2.2 (by omega) (by omega) (by show σ.T ≤ _; omega) ?_
      intro h₉ tk₉ tg₉ n₉ F₉ N₉ W₉ k₉
      exact fin _ _ tg₉ _ m₂ _ F₉ d1 d2 d3 d4 N₉ W₉ (k₈'.trans k₉)

set_option maxHeartbeats 2000000 in
theorem send_run {w : World} {cx : Cx} {σB σ σ' : St} {id : Name} {d : PyData} {g p : Nat} (L : Loop id d g p σ σ') : SendRun w cx σB id d g p σ σ' := by
  induction L with
  | @done id d g p σ rows hg hle =>
    intro tg A₀ base h₀ outer L R cd m mg mb pg loose mean s news dep un gd Rz vid vd rows' tp B X T hdep hun F hmi hmd hmr hmp N hvid hvd W hgr hid4 hp htR hlog hT hQ
    rw [hg] at hgr
    cases hgr
    have hS : dScope sendD = dScope sendD := rfl
    conv at hS => rhs; whnf
    have hTt : whileTest sendW = whileTest sendW := rfl
    conv at hTt => rhs; whnf
    have hB : whileBody sendW = whileBody sendW := rfl
    conv at hB => rhs; whnf
    revert X; k_fill; intro X
    show codeAny _ _ (.whileLoop (whileTest sendW) (whileBody sendW) [] (envX qSend (dScope sendD) L cx.fSend cd (sendCl cx))) Rz s
    unfold envS sendCl
    rw [hS, hTt, hB]
    clear hS hTt hB
    obtain ⟨its, nl, hRl, hA⟩ := W.rowsEx hg htR
    have hlen : its.toList.length = rows.length := hA.1
    have hsz : its.size = rows.length := by rw [← hlen, Array.length_toList]
    have hrl : rows.length ≤ σ.T := (nz_le_sum (List.mem_of_getElem? hg)).2
    refine while_turn ?_
    k_steps
    exact hQ _ _ tg news m F N W .refl
  | @skip id d g p σ σ' rows r hg hr hh hL ih =>
    exact @send_step w cx σB σ σ σ' id d g p r rows hg hr hL.mono ⟨Nat.le_refl _, Nat.le_refl _⟩ (.refl _) rfl (.inl ⟨hh, rfl⟩) @ih
  | @refuse id d g p σ σ' rows r hg hr hh hs hp hL ih =>
    exact @send_step w cx σB σ (σ.say [eAsked r d]) σ' id d g p r rows hg hr hL.mono ⟨by rw [say_len]; omega, Nat.le_refl _⟩ (Ext.of_gens rfl) rfl (.inr (.inl ⟨hh, hs, hp, rfl⟩)) @ih
  | @plain id d g p σ σ' rows r hg hr hh hp hk hL ih =>
    refine @send_step w cx σB σ (σ.say (r.says id d)) σ' id d g p r rows hg hr hL.mono ⟨by rw [say_len]; omega, Nat.le_refl _⟩ (Ext.of_gens rfl) rfl (.inr (.inr ⟨hh, hp, ?_⟩)) @ih
    rcases hk with hk | ⟨hk, hf⟩
    · exact .zero hk
    · exact .flagged hk hf
  | @adds id d g p σ σ' rows r hg hr hh hp hk hL ih =>
    refine @send_step w cx σB σ ((σ.say (r.says id d)).add r.child) σ' id d g p r rows hg hr hL.mono ⟨?_, appLast_T _ _⟩ ((Ext.of_gens rfl).trans (Ext.add _ _ rfl)) rfl (.inr (.inr ⟨hh, hp, .adds hk⟩)) @ih
    show _ ≤ (σ.say (r.says id d)).log.length
    rw [say_len]; omega
  | @nest id d g p σ σ₁ σ' rows r hg hr hh hp hk hf hL1 hL2 ih1 ih2 =>
    have m1 := hL1.mono
    refine @send_step w cx σB σ { σ₁ with flag := false } σ' id d g p r rows hg hr hL2.mono ⟨?_, m1.2⟩ (((Ext.of_gens rfl).trans hL1.ext).trans (Ext.of_gens rfl)) hf.symm (.inr (.inr ⟨hh, hp, .nest hk hf @ih1⟩)) @ih2
    have h1 : (σ.say (r.says id d)).log.length ≤ σ₁.log.length := m1.1
    rw [say_len] at h1
    show _ ≤ σ₁.log.length
    omega
  | @forgets id d g p σ σ' rows r hg hr hh hp hk hL ih =>
    refine @send_step w cx σB σ ((σ.say (r.says id d)).forget) σ' id d g p r rows hg hr hL.mono ⟨?_, ?_⟩ ((Ext.of_gens rfl).trans (Ext.forget _)) rfl (.inr (.inr ⟨hh, hp, .forgets hk⟩)) @ih
    · show _ ≤ (σ.say (r.says id d)).log.length
      rw [say_len]; omega
    · simp [St.T, St.forget, St.say]
end Mine

end
section
-- V1
open PySem PySem.W PyProof.Rows PySem.Calls PySem.Spec
namespace Mine
local macro_rules | `(tactic| walk_at "idle 0") => `(tactic| fail)
local macro_rules | `(tactic| walk_at "idle 1") => `(tactic| fail)
local macro_rules | `(tactic| walk_at "idle 2") => `(tactic| fail)
local macro_rules | `(tactic| walk_at "idle 3") => `(tactic| fail)
local macro_rules | `(tactic| walk_at "idle 4") => `(tactic| fail)
local macro_rules | `(tactic| walk_at "idle 5") => `(tactic| fail)
local macro_rules | `(tactic| walk_at "idle 6") => `(tactic| fail)
set_option maxRecDepth 100000
local macro_rules | `(tactic| k_mem) => `(tactic| assumption)
def nVrf : Name := [.s "core", .s "vrf", .s "added"]
set_option maxHeartbeats 2000000 in
theorem vrf_ok {w : World} {cx : Cx} {σ σ' σP : St} {tg : Tags} {k : Int} {t0 : Tok}
    {A₀ : Around} {base h₀ : Heap} {outer : List Env} {env : Env} {L : Addr} {m mg mb : PySem.Str → Option Value} {p : Program} {loose : List PySem.Str} {mean : ExcName → Option Value} {s : Shared} {news : List (Addr × Obj)} {dep un : Nat} {gd : Option (List Code)} {Q : Value → Shared → Prop} {E : Value → Shared → Prop}
    (hL : Loop nVrf (.int k) σ.cur 0 σ σ') (hfl : σ.flag = false)
    (B : Below A₀ base outer h₀) (X : (hd.heap_39 w.params).In h₀) (T : Top p loose mean mg mb h₀) (hf : env.frame = some L) (hk : env.scope.kind = .function) (hdep : dep + 110 < recursionLimit) (hun : un + 420 < cLine)
    (F : Fr h₀ L s.heap m) (N : News h₀ L s.heap news) (W : Wd w (hd.heap_39 w.params) cx σ σP tg news)
    (hlog : σ'.log.length ≤ 1000000) (hT : σ'.T ≤ 100000)
    (hQ : ∀ h' tk gens' tg' news', Fr h₀ L h' m → News h₀ L h' news' → (AllBare s.gens → AllBare gens') → Wd w (hd.heap_39 w.params) cx σ' σP tg' news' → Keeps tg tg' news news' emT → Q .none { s with heap := h', toks := tk, gens := gens' }) :
    wpAny (model PySem.Challenge.rw_bi0010_01.row.prog w) ⟨none, dep, some (env :: outer), gd, un⟩ (call (.ref 132) [.ref cx.bus, .int k t0]) Q E s := by
  w_top off
  revert X; k_fill; intro X
  refine wpAny_call ?_
  refine' code_def (binds := [("self", .ref cx.bus), ("vrf_conf", .int k t0)]) B F X N T rfl hf hk ?k6 ?k7 ?k8 ?k9 ?kB ?_ ?c2 ?c3 ?c4 ?c5
  case k6 => k_is
  case k7 => k_is
  case k8 => show dep < _; omega
  case k9 => exact BindsTo.of_eq rfl
  case kB => exact locs rfl
  case c2 => rfl
  case c3 => rfl
  case c4 => rfl
  case c5 => decide
  intro g' L' h' FG' F' N' B' X' T'
  dsimp only [Around.deeper, Option.map]
  try k_fold
  obtain ⟨tdx, D, hsh, tok8, n8, hdx, tD⟩ := W.dx
  have hbus := W.base.bus.1
  k_steps
  have hnm : NmAt w (Im (hd.heap_39 w.params) news tg) nVrf (.ref 82) := ⟨nofun, 82, _, _, rfl, .inl (by k_is), .cons (by rfl) (.cons (by rfl) (.cons (by rfl) .nil))⟩
  refine emit_ok hL (loop_run hL) B' X' T' rfl rfl (by rw [hfl]; simp only [Bool.false_eq_true, if_false]; omega) (by rw [hfl]; simp only [Bool.false_eq_true, if_false]; omega) F' N' W (.inl hnm) nofun (.int k t0) hlog hT ?_
  intro h₂ tk₂ gens₂ tg₂ n₂ F₂ N₂ hAB₂ W₂ k₂
  k_steps
  rename_i kF kN Tc kX
  exact hQ _ _ gens₂ tg₂ n₂ kF kN hAB₂ W₂ k₂
end Mine

end
section
-- V2
open PySem PySem.W PyProof.Rows PySem.Calls PySem.Spec
namespace Mine
local macro_rules | `(tactic| walk_at "idle 0") => `(tactic| fail)
local macro_rules | `(tactic| walk_at "idle 1") => `(tactic| fail)
local macro_rules | `(tactic| walk_at "idle 2") => `(tactic| fail)
local macro_rules | `(tactic| walk_at "idle 3") => `(tactic| fail)
local macro_rules | `(tactic| walk_at "idle 4") => `(tactic| fail)
local macro_rules | `(tactic| walk_at "idle 5") => `(tactic| fail)
local macro_rules | `(tactic| walk_at "idle 6") => `(tactic| fail)
local macro_rules | `(tactic| walk_at "idle 7") => `(tactic| fail)
set_option maxRecDepth 100000
local macro_rules | `(tactic| k_mem) => `(tactic| assumption)
def dBest (k : Int) (b : Bool) : PyData := .dict [(.str (PySem.Str.ofString "path"), .int k), (.str (PySem.Str.ofString "is_withdraw"), .bool b)]
def dAdj (k : Int) : PyData := .dict [(.str (PySem.Str.ofString "peer"), .int k)]
def dErr (k e : Int) : PyData := .dict [(.str (PySem.Str.ofString "code"), .int k), (.str (PySem.Str.ofString "subcode"), .int e), (.str (PySem.Str.ofString "reason"), .none), (.str (PySem.Str.ofString "peer"), .int 7)]
theorem items_append {prog : Program} {w : World} : ∀ {x y : Name} {vs ws : List Value}, ItemsAre (atomKind prog w) x vs → ItemsAre (atomKind prog w) y ws → ItemsAre (atomKind prog w) (x ++ y) (vs ++ ws)
  | _, _, _, _, .nil, h => h
  | _, _, _, _, .cons a r, h => .cons a (items_append r h)
theorem eqv_int (k : Int) : PyData.eqv (.int k) (.int k) = true := by simp [PyData.eqv]
theorem eqv_bool (b : Bool) : PyData.eqv (.bool b) (.bool b) = true := by cases b <;> rfl
theorem keq_cons {Db r : List (PyData × PyData)} {x v u : PyData} (h : PySem.Spec.lookup x Db = some u) (e : PyData.eqv v u = true) (hr : KeqRows Db r true) : KeqRows Db ((x, v) :: r) true := by
  have := KeqRows.hit (v := v) h hr
  rw [e] at this
  exact this
def nBest : Name := [.s "core", .s "best", .s "changed"]
set_option maxHeartbeats 2000000 in
theorem best_ok {w : World} {cx : Cx} {σ σ' σP : St} {tg : Tags} {k : Int} {t0 : Tok} {b : Bool}
    {A₀ : Around} {base h₀ : Heap} {outer : List Env} {env : Env} {L : Addr} {m mg mb : PySem.Str → Option Value} {p : Program} {loose : List PySem.Str} {mean : ExcName → Option Value} {s : Shared} {news : List (Addr × Obj)} {dep un : Nat} {gd : Option (List Code)} {Q : Value → Shared → Prop} {E : Value → Shared → Prop}
    (hL : Loop nBest (dBest k b) σ.cur 0 σ σ') (hfl : σ.flag = false)
    (B : Below A₀ base outer h₀) (X : (hd.heap_39 w.params).In h₀) (T : Top p loose mean mg mb h₀) (hf : env.frame = some L) (hk : env.scope.kind = .function) (hdep : dep + 110 < recursionLimit) (hun : un + 420 < cLine)
    (F : Fr h₀ L s.heap m) (N : News h₀ L s.heap news) (W : Wd w (hd.heap_39 w.params) cx σ σP tg news)
    (hlog : σ'.log.length ≤ 1000000) (hT : σ'.T ≤ 100000)
    (hQ : ∀ h' tk gens' tg' news', Fr h₀ L h' m → News h₀ L h' news' → (AllBare s.gens → AllBare gens') → Wd w (hd.heap_39 w.params) cx σ' σP tg' news' → Keeps tg tg' news news' emT → Q .none { s with heap := h', toks := tk, gens := gens' }) :
    wpAny (model PySem.Challenge.rw_bi0010_01.row.prog w) ⟨none, dep, some (env :: outer), gd, un⟩ (call (.ref 146) [.ref cx.bus, .int k t0, .bool b]) Q E s := by
  w_top off
  revert X; k_fill; intro X
  refine wpAny_call ?_
  refine' code_def (binds := [("self", .ref cx.bus), ("path", .int k t0), ("is_withdraw", .bool b)]) B F X N T rfl hf hk ?k6 ?k7 ?k8 ?k9 ?kB ?_ ?c2 ?c3 ?c4 ?c5
  case k6 => k_is
  case k7 => k_is
  case k8 => show dep < _; omega
  case k9 => exact BindsTo.of_eq rfl
  case kB => exact locs rfl
  case c2 => rfl
  case c3 => rfl
  case c4 => rfl
  case c5 => decide
  intro g' L' h' FG' F' N' B' X' T'
  dsimp only [Around.deeper, Option.map]
  try k_fold
  obtain ⟨tdx, D, hsh, tok8, n8, hdx, tD⟩ := W.dx
  have hbus := W.base.bus.1
  k_steps
  rename_i h₂ o₂ F₂ N₂ lt₂ lo₂ hd₂ hf₂ ap₂
  have hf₃ : PyProof.V.FlatPairs PyData.str _ [(.str (PySem.Str.ofString "path"), .int k), (.str (PySem.Str.ofString "is_withdraw"), .bool b)] := hf₂
  have hrd : Rd w (Im (hd.heap_39 w.params) ((h'.objs.size, o₂) :: news) tg) (.ref h'.objs.size) (dBest k b) := .dict (.inr ⟨.head _, tag_fresh W.base.ok lt₂⟩) lo₂ hd₂ hf₃ (keq_cons rfl (eqv_int k) (keq_cons rfl (eqv_bool b) .nil))
  clear hd₂ hf₂ hf₃ lo₂ ap₂
  have W₂ := W.cons (h'.objs.size, o₂)
  have k₂ : Keeps tg tg news ((h'.objs.size, o₂) :: news) emT := Keeps.cons.mono fun _ _ => trivial
  generalize h'.objs.size = dA at *
  have hnm : NmAt w (Im (hd.heap_39 w.params) ((dA, o₂) :: news) tg) nBest (.ref 86) := ⟨nofun, 86, _, _, rfl, .inl (by k_is), .cons (by rfl) (.cons (by rfl) (.cons (by rfl) .nil))⟩
  refine emit_ok hL (loop_run hL) B' X' T' rfl rfl (by rw [hfl]; simp only [Bool.false_eq_true, if_false]; omega) (by rw [hfl]; simp only [Bool.false_eq_true, if_false]; omega) F₂ N₂ W₂ (.inl hnm) nofun hrd hlog hT ?_
  intro h₃ tk₃ gens₃ tg₃ n₃ F₃ N₃ hAB₃ W₃ k₃
  clear F₂ N₂
  k_steps
  rename_i kF kN Tc kX
  exact hQ _ _ gens₃ tg₃ n₃ kF kN hAB₃ W₃ (k₂.trans k₃)
def nAdj : Name := [.s "core", .s "adj", .s "down"]
set_option maxHeartbeats 2000000 in
theorem adj_ok {w : World} {cx : Cx} {σ σ' σP : St} {tg : Tags} {k : Int} {t0 : Tok}
    {A₀ : Around} {base h₀ : Heap} {outer : List Env} {env : Env} {L : Addr} {m mg mb : PySem.Str → Option Value} {p : Program} {loose : List PySem.Str} {mean : ExcName → Option Value} {s : Shared} {news : List (Addr × Obj)} {dep un : Nat} {gd : Option (List Code)} {Q : Value → Shared → Prop} {E : Value → Shared → Prop}
    (hL : Loop nAdj (dAdj k) σ.cur 0 σ σ') (hfl : σ.flag = false)
    (B : Below A₀ base outer h₀) (X : (hd.heap_39 w.params).In h₀) (T : Top p loose mean mg mb h₀) (hf : env.frame = some L) (hk : env.scope.kind = .function) (hdep : dep + 110 < recursionLimit) (hun : un + 420 < cLine)
    (F : Fr h₀ L s.heap m) (N : News h₀ L s.heap news) (W : Wd w (hd.heap_39 w.params) cx σ σP tg news)
    (hlog : σ'.log.length ≤ 1000000) (hT : σ'.T ≤ 100000)
    (hQ : ∀ h' tk gens' tg' news', Fr h₀ L h' m → News h₀ L h' news' → (AllBare s.gens → AllBare gens') → Wd w (hd.heap_39 w.params) cx σ' σP tg' news' → Keeps tg tg' news news' emT → Q .none { s with heap := h', toks := tk, gens := gens' }) :
    wpAny (model PySem.Challenge.rw_bi0010_01.row.prog w) ⟨none, dep, some (env :: outer), gd, un⟩ (call (.ref 174) [.ref cx.bus, .int k t0]) Q E s := by
  revert X; k_fill; intro X
  refine wpAny_call ?_
  refine' code_def (binds := [("self", .ref cx.bus), ("peer", .int k t0)]) B F X N T rfl hf hk ?k6 ?k7 ?k8 ?k9 ?kB ?_ ?c2 ?c3 ?c4 ?c5
  case k6 => k_is
  case k7 => k_is
  case k8 => show dep < _; omega
  case k9 => exact BindsTo.of_eq rfl
  case kB => exact locs rfl
  case c2 => rfl
  case c3 => rfl
  case c4 => rfl
  case c5 => decide
  intro g' L' h' FG' F' N' B' X' T'
  dsimp only [Around.deeper, Option.map]
  try k_fold
  obtain ⟨tdx, D, hsh, tok8, n8, hdx, tD⟩ := W.dx
  have hbus := W.base.bus.1
  k_steps
  rename_i h₂ o₂ F₂ N₂ lt₂ lo₂ hd₂ hf₂ ap₂
  have hf₃ : PyProof.V.FlatPairs PyData.str _ [(.str (PySem.Str.ofString "peer"), .int k)] := hf₂
  have hrd : Rd w (Im (hd.heap_39 w.params) ((h'.objs.size, o₂) :: news) tg) (.ref h'.objs.size) (dAdj k) := .dict (.inr ⟨.head _, tag_fresh W.base.ok lt₂⟩) lo₂ hd₂ hf₃ (keq_cons rfl (eqv_int k) .nil)
  clear hd₂ hf₂ hf₃ lo₂ ap₂
  have W₂ := W.cons (h'.objs.size, o₂)
  have k₂ : Keeps tg tg news ((h'.objs.size, o₂) :: news) emT := Keeps.cons.mono fun _ _ => trivial
  generalize h'.objs.size = dA at *
  have hnm : NmAt w (Im (hd.heap_39 w.params) ((dA, o₂) :: news) tg) nAdj (.ref 90) := ⟨nofun, 90, _, _, rfl, .inl (by k_is), .cons (by rfl) (.cons (by rfl) (.cons (by rfl) .nil))⟩
  refine emit_ok hL (loop_run hL) B' X' T' rfl rfl (by rw [hfl]; simp only [Bool.false_eq_true, if_false]; omega) (by rw [hfl]; simp only [Bool.false_eq_true, if_false]; omega) F₂ N₂ W₂ (.inl hnm) nofun hrd hlog hT ?_
  intro h₃ tk₃ gens₃ tg₃ n₃ F₃ N₃ hAB₃ W₃ k₃
  clear F₂ N₂
  k_steps
  rename_i kF kN Tc kX
  exact hQ _ _ gens₃ tg₃ n₃ kF kN hAB₃ W₃ (k₂.trans k₃)
def nErr : Name := [.s "error", .s "bgp", .i 7]
set_option maxHeartbeats 2000000 in
theorem err_ok {w : World} {cx : Cx} {σ σ' σP : St} {tg : Tags} {k e : Int} {t0 t1 t2 : Tok}
    {A₀ : Around} {base h₀ : Heap} {outer : List Env} {env : Env} {L : Addr} {m mg mb : PySem.Str → Option Value} {p : Program} {loose : List PySem.Str} {mean : ExcName → Option Value} {s : Shared} {news : List (Addr × Obj)} {dep un : Nat} {gd : Option (List Code)} {Q : Value → Shared → Prop} {E : Value → Shared → Prop}
    (hL : Loop nErr (dErr k e) σ.cur 0 σ σ') (hfl : σ.flag = false)
    (B : Below A₀ base outer h₀) (X : (hd.heap_39 w.params).In h₀) (T : Top p loose mean mg mb h₀) (hf : env.frame = some L) (hk : env.scope.kind = .function) (hdep : dep + 110 < recursionLimit) (hun : un + 420 < cLine)
    (F : Fr h₀ L s.heap m) (N : News h₀ L s.heap news) (W : Wd w (hd.heap_39 w.params) cx σ σP tg news)
    (hlog : σ'.log.length ≤ 1000000) (hT : σ'.T ≤ 100000)
    (hQ : ∀ h' tk gens' tg' news', Fr h₀ L h' m → News h₀ L h' news' → (AllBare s.gens → AllBare gens') → Wd w (hd.heap_39 w.params) cx σ' σP tg' news' → Keeps tg tg' news news' emT → Q .none { s with heap := h', toks := tk, gens := gens' }) :
    wpAny (model PySem.Challenge.rw_bi0010_01.row.prog w) ⟨none, dep, some (env :: outer), gd, un⟩ (call (.ref 97) [.ref cx.bus, .int 7 t1, .int k t0, .int e t2, .none]) Q E s := by
  revert X; k_fill; intro X
  refine wpAny_call ?_
  refine' code_def (binds := [("self", .ref cx.bus), ("peer", .int 7 t1), ("code", .int k t0), ("subcode", .int e t2), ("reason", .none)]) B F X N T rfl hf hk ?k6 ?k7 ?k8 ?k9 ?kB ?_ ?c2 ?c3 ?c4 ?c5
  case k6 => k_is
  case k7 => k_is
  case k8 => show dep < _; omega
  case k9 => exact BindsTo.of_eq rfl
  case kB => exact locs rfl
  case c2 => rfl
  case c3 => rfl
  case c4 => rfl
  case c5 => decide
  intro g' L' h' FG' F' N' B' X' T'
  dsimp only [Around.deeper, Option.map]
  try k_fold
  obtain ⟨tdx, D, hsh, tok8, n8, hdx, tD⟩ := W.dx
  have hbus := W.base.bus.1
  k_steps
  rename_i D₁ h₁ F₁ N₁ hl₁
  obtain ⟨x79, n79, hx79, hi79⟩ : ∃ x n, (hd.heap_39 w.params).lookup 79 = some (tupO x n) ∧ ItemsAre (atomKind PG w) [.s "error", .s "bgp"] x.toList := ⟨_, _, by k_is, .cons (by rfl) (.cons (by rfl) .nil)⟩
  have ne79 : x79.toList ≠ [] := by intro q; rw [q] at hi79; cases hi79
  have hz79 : x79.toList.length = 2 := hi79.length.symm
  refine kde_addT (its := x79) (its2 := #[.int 7 t1]) F₁ N₁ ⟨_, F₁.keep _ _ (X' _ _ hx79), rfl, n79, rfl⟩ ⟨_, (N₁ _ (.head _)).1, rfl, 0, rfl⟩ ne79 (by simp) (by rw [hz79]; simp) rfl ?_
  intro D₃ h₃ F₃ N₃ hl₃
  clear F₁ N₁
  have tD₁ : tg D₁ = none := tag_fresh W.base.ok hl₁
  have tD₃ : tg D₃ = none := tag_fresh W.base.ok fun q hq => hl₃ q (.tail _ hq)
  have hnm : NmAt w (Im (hd.heap_39 w.params) ((D₃, { cls := Value.type "tuple", data := Data.seq (x79.toList ++ #[Value.int 7 t1].toList).toArray }) :: (D₁, { cls := Value.type "tuple", data := Data.seq #[Value.int 7 t1] }) :: news) tg) nErr (.ref D₃) :=
    ⟨nofun, D₃, _, 0, rfl, .inr ⟨.head _, tD₃⟩, items_append hi79 (.cons (by rfl) .nil)⟩
  have W₃ := (W.cons (D₁, { cls := Value.type "tuple", data := Data.seq #[Value.int 7 t1] })).cons (D₃, { cls := Value.type "tuple", data := Data.seq (x79.toList ++ #[Value.int 7 t1].toList).toArray })
  have k₃ : Keeps tg tg news ((D₃, { cls := Value.type "tuple", data := Data.seq (x79.toList ++ #[Value.int 7 t1].toList).toArray }) :: (D₁, { cls := Value.type "tuple", data := Data.seq #[Value.int 7 t1] }) :: news) emT := (Keeps.cons.trans Keeps.cons).mono fun _ _ => trivial
  generalize ((D₃, { cls := Value.type "tuple", data := Data.seq (x79.toList ++ #[Value.int 7 t1].toList).toArray }) :: (D₁, { cls := Value.type "tuple", data := Data.seq #[Value.int 7 t1] }) :: news : List (Addr × Obj)) = n₃ at N₃ W₃ k₃ hnm
  k_steps
  rename_i h₂ o₂ F₂ N₂ lt₂ lo₂ hd₂ hf₂ ap₂
  have hf₃ : PyProof.V.FlatPairs PyData.str _ [(.str (PySem.Str.ofString "code"), .int k), (.str (PySem.Str.ofString "subcode"), .int e), (.str (PySem.Str.ofString "reason"), .none), (.str (PySem.Str.ofString "peer"), .int 7)] := hf₂
  have hrd : Rd w (Im (hd.heap_39 w.params) ((h₃.objs.size, o₂) :: n₃) tg) (.ref h₃.objs.size) (dErr k e) := .dict (.inr ⟨.head _, tag_fresh W₃.base.ok lt₂⟩) lo₂ hd₂ hf₃ (keq_cons rfl (eqv_int k) (keq_cons rfl (eqv_int e) (keq_cons rfl rfl (keq_cons rfl (eqv_int 7) .nil))))
  clear hd₂ hf₂ hf₃ lo₂ ap₂
  have W₂ := W₃.cons (h₃.objs.size, o₂)
  have k₂ : Keeps tg tg n₃ ((h₃.objs.size, o₂) :: n₃) emT := Keeps.cons.mono fun _ _ => trivial
  generalize h₃.objs.size = dA at *
  refine emit_ok hL (loop_run hL) B' X' T' rfl rfl (by rw [hfl]; simp only [Bool.false_eq_true, if_false]; omega) (by rw [hfl]; simp only [Bool.false_eq_true, if_false]; omega) F₂ N₂ W₂ (.inl (hnm.mono k₂.im)) nofun hrd hlog hT ?_
  intro h₄ tk₄ gens₄ tg₄ n₄ F₄ N₄ hAB₄ W₄ k₄
  clear F₂ N₂
  k_steps
  rename_i kF kN Tc kX
  exact hQ _ _ gens₄ tg₄ n₄ kF kN hAB₄ W₄ ((k₃.trans k₂).trans k₄)
end Mine

end
section
-- Q1
open PySem PySem.W PyProof.Rows PySem.Calls PySem.Spec
open PySem.AutoSeq1 (wpAny_loadPart')
open PySem.SeqAt PySem.MeetsSeq PySem.MeetsSeq2 PySem.MeetsSeq3 PySem.SeqRoads2
namespace Mine
set_option maxRecDepth 100000

/-- two values are found equal, in this program and world -/
def EqW (prog : Program) (w : World) (A : Around) (s : Shared) (y x : Value) : Prop :=
  ∀ (E : Value → Shared → Prop) (Q : Bool → Shared → Prop), Q true s → wpAny (model prog w) A (eqBool y x) Q E s

section
variable {prog : Program} {w : World}
theorem listLoop_W (l b : Addr) (xs ys : Array Value) (n m : Nat) (hsz : xs.size = ys.size) (k : Nat) :
    ∀ i : Nat, xs.size - i = k → MeetsIn prog w (Builtin.«list.__eq__.loop» ⟨[.ref l, .ref b, rawInt i, rawInt 2], []⟩)
      (fun A R s => s.heap.get? l = some (listOf xs n) ∧ s.heap.get? b = some (listOf ys m) ∧ (∀ j (h1 : j < xs.size) (h2 : j < ys.size), EqW prog w A.in1 s xs[j] ys[j]) ∧ R (.ok (.ret (.bool true))) s) := by
  induction k with
  | zero =>
    intro i hk A R s h
    obtain ⟨hp, g, d, tk, os⟩ := s; obtain ⟨hl, hb, he, h⟩ := h
    unfold W.listOf at hl hb
    wp_walk using wpAny_loadPart' hl, wpAny_loadPart' hb
    have hi1 : xs[((i : Nat) : Int).toNat]? = none := by simp; omega
    have hi2 : ys[((i : Nat) : Int).toNat]? = none := by simp; omega
    rw [hi1, hi2]
    wp_walk using wpAny_loadPart' hl, wpAny_loadPart' hb
    show R (.ok (.ret (.bool (xs.size == ys.size)))) _
    rw [hsz]
    simpa using h
  | succ k ih =>
    intro i hk A R s h
    obtain ⟨hp, g, d, tk, os⟩ := s; obtain ⟨hl, hb, he, h⟩ := h
    have hl' := hl
    have hb' := hb
    unfold W.listOf at hl hb
    wp_walk using wpAny_loadPart' hl, wpAny_loadPart' hb
    have lt1 : i < xs.size := by omega
    have lt2 : i < ys.size := by omega
    have hi1 : xs[((i : Nat) : Int).toNat]? = some xs[i] := by simp [lt1]
    have hi2 : ys[((i : Nat) : Int).toNat]? = some ys[i] := by simp [lt2]
    have hc : ((i : Int) + 1) = ((i + 1 : Nat) : Int) := by push_cast; rfl
    rw [hi1, hi2]
    refine wpAny_bind (he i lt1 lt2 _ _ ?_)
    wp_walk
    rw [hc]
    exact ⟨plainId_quiet plain_eq_loop _, codeAny_builtin entry_eq_loop (by
      rw [Around.under_plainId plain_eq_loop _]
      exact ih (i + 1) (by omega) A R _ ⟨hl', hb', he, h⟩)⟩

theorem list_W (l b : Addr) (xs ys : Array Value) (n m : Nat) (hsz : xs.size = ys.size) :
    MeetsIn prog w (Builtin.«list.__eq__» ⟨[.ref l, .ref b], []⟩)
      (fun A R s => s.heap.get? l = some (listOf xs n) ∧ s.heap.get? b = some (listOf ys m) ∧ (∀ j (h1 : j < xs.size) (h2 : j < ys.size), EqW prog w A.in1 s xs[j] ys[j]) ∧ R (.ok (.ret (.bool true))) s) := by
  intro A R s h
  obtain ⟨hp, g, d, tk, os⟩ := s; obtain ⟨hl, hb, he, h⟩ := h
  have hl' := hl
  have hb' := hb
  unfold W.listOf at hl hb
  have f3 := AutoSeq1.sub_list_list
  have hne : ¬ (xs.size != ys.size) = true := by simp [hsz]
  wp_walk using wpAny_loadPart' hl, wpAny_loadPart' hb
  exact ⟨plainId_quiet plain_eq_loop _, codeAny_builtin entry_eq_loop (by
    rw [Around.under_plainId plain_eq_loop _]
    exact listLoop_W l b xs ys n m hsz _ 0 rfl A R _ ⟨hl', hb', he, h⟩)⟩

theorem tuple_W (l b : Addr) (xs ys : Array Value) (n m : Nat) (hsz : xs.size = ys.size) :
    MeetsIn prog w (Builtin.«tuple.__eq__» ⟨[.ref l, .ref b], []⟩)
      (fun A R s => s.heap.get? l = some (tupO xs n) ∧ s.heap.get? b = some (tupO ys m) ∧ (∀ j (h1 : j < xs.size) (h2 : j < ys.size), EqW prog w A.in1 s xs[j] ys[j]) ∧ R (.ok (.ret (.bool true))) s) :=
  .of_wp fun A R s h => by
    obtain ⟨hp, g, d, tk, os⟩ := s; obtain ⟨hl, hb, he, h⟩ := h
    unfold tupO at hl hb
    have f2 := AutoSeq1.sub_tuple_tuple
    have hZ : (xs.toList.zip ys.toList).length = xs.size := by simp [hsz]
    wp_walk using wpAny_loadPart' hl, wpAny_loadPart' hb, wpAny_forIn_list _ (fun rest b s' => b.1 = none ∧ s' = ⟨hp, g, d, tk, os⟩ ∧ ∃ i, rest = (xs.toList.zip ys.toList).drop i) _
    case turn =>
      rintro ⟨y, x⟩ rest b s' ⟨hb', rfl, i, hz⟩
      have hlt : i < (xs.toList.zip ys.toList).length := by
        rcases Nat.lt_or_ge i (xs.toList.zip ys.toList).length with h' | h'
        · exact h'
        · rw [List.drop_of_length_le h'] at hz; cases hz
      have h1 : i < xs.size := hZ ▸ hlt
      have h2 : i < ys.size := hsz ▸ h1
      rw [List.drop_eq_getElem_cons hlt] at hz
      injection hz with hyx hrest
      have hy : y = xs[i] := by have := congrArg Prod.fst hyx; simpa using this
      have hx : x = ys[i] := by have := congrArg Prod.snd hyx; simpa using this
      subst hy hx
      refine wpAny_bind (he i h1 h2 _ _ ?_)
      wp_walk
      exact ⟨rfl, rfl, i + 1, hrest⟩
    case fin =>
      rintro ⟨b1, b2⟩ s' ⟨hb', rfl, i, hz⟩
      simp only at hb'
      subst hb'
      wp_walk
      exact ⟨_, rfl, by simpa [Builtin.Tuple.tupleCompareSizes, hsz] using h⟩
    case h =>
      exact ⟨rfl, rfl, 0, rfl⟩

variable {A : Around} {s : Shared}
theorem EqW.of_refs {l b : Addr} (hne : l ≠ b) (h : ∀ (E Q : Value → Shared → Prop), Q (.bool true) s → wpAny (model prog w) A (compareOp .Eq (.ref l) (.ref b)) Q E s) : EqW prog w A s (.ref l) (.ref b) := fun E Q hq => by
  unfold eqBool
  refine wpAny_holding ?_
  refine wpAny_ite_split (fun hab => absurd (by have := eq_of_beq hab; injection this) hne) (fun _ => ?_)
  exact wpAny_bind (h E _ (wpAny_truthy_bool hq))
theorem eqList_W {l b : Addr} {xs ys : Array Value} {n m : Nat} (hl : s.heap.get? l = some (listOf xs n)) (hb : s.heap.get? b = some (listOf ys m)) (hsz : xs.size = ys.size) (hu : A.units < cLine)
    (he : ∀ j (h1 : j < xs.size) (h2 : j < ys.size), EqW prog w A.in1 s xs[j] ys[j]) {Q E : Value → Shared → Prop} (h : Q (.bool true) s) : wpAny (model prog w) A (compareOp .Eq (.ref l) (.ref b)) Q E s :=
  wpAny_richCompare_same_room (op := .Eq) ⟨_, hl, rfl⟩ ⟨_, hb, rfl⟩ F.slot_list_eq (call_meetsIn F.slot_list_eq ⟨_, hl, rfl⟩ F.entry_list_eq (F.args_list_eq_2 _ _) (list_W l b xs ys n m hsz)
    ⟨hl, hb, he, show Value.bool true ≠ Value.notImplemented ∧ Q (.bool true) s from ⟨(fun x => nomatch x), h⟩⟩) hu
theorem eqTuple_W {l b : Addr} {xs ys : Array Value} {n m : Nat} (hl : s.heap.get? l = some (tupO xs n)) (hb : s.heap.get? b = some (tupO ys m)) (hsz : xs.size = ys.size) (hu : A.units < cLine)
    (he : ∀ j (h1 : j < xs.size) (h2 : j < ys.size), EqW prog w A.in1 s xs[j] ys[j]) {Q E : Value → Shared → Prop} (h : Q (.bool true) s) : wpAny (model prog w) A (compareOp .Eq (.ref l) (.ref b)) Q E s :=
  wpAny_richCompare_same_room (op := .Eq) ⟨_, hl, rfl⟩ ⟨_, hb, rfl⟩ F.slot_tuple_eq (call_meetsIn F.slot_tuple_eq ⟨_, hl, rfl⟩ F.entry_tuple_eq (F.args_tuple_eq_2 _ _) (tuple_W l b xs ys n m hsz)
    ⟨hl, hb, he, show Value.bool true ≠ Value.notImplemented ∧ Q (.bool true) s from ⟨(fun x => nomatch x), h⟩⟩) hu
end

/-- data of bounded nesting -/
inductive Deep : Nat → PyData → Prop
  | int {n : Nat} (i : Int) : Deep n (.int i)
  | bool {n : Nat} (b : Bool) : Deep n (.bool b)
  | none {n : Nat} : Deep n .none
  | str {n : Nat} (x : PySem.Str) : Deep n (.str x)
  | tup {n : Nat} {ds : List PyData} : (∀ d ∈ ds, Deep n d) → Deep (n + 1) (.tuple ds)
  | dict {n : Nat} (D : List (PyData × PyData)) : Deep (n + 1) (.dict D)

theorem rd_eq {w : World} {I : IP} {s : Shared} (hI : ∀ p, I p → s.heap.get? p.1 = some p.2) : ∀ {n : Nat} {d : PyData}, Deep n d → ∀ {v u : Value} {A : Around}, Rd w I v d → Rd w I u d → A.units + 2 * n + 2 < cLine → EqW PG w A s v u := by
  intro n d hd
  induction hd with
  | int i =>
    intro v u A h1 h2 _ E Q hq
    cases h1; cases h2
    exact wpAny_eqBool_int (by simpa using hq)
  | bool b =>
    intro v u A h1 h2 _ E Q hq
    cases h1; cases h2
    exact (EqAt.same (A := A) (s := s) (.bool b)) _ _ E Q hq
  | none =>
    intro v u A h1 h2 _ E Q hq
    cases h1; cases h2
    exact (EqAt.same (A := A) (s := s) .none) _ _ E Q hq
  | str x =>
    intro v u A h1 h2 _ E Q hq
    cases h1; cases h2
    exact wpAny_eqBool_str (by simpa using hq)
  | @tup n ds hds ih =>
    intro v u A h1 h2 hu
    cases h1 with
    | @tup a xs n1 _ ha hla hia =>
    cases h2 with
    | @tup b ys n2 _ hb hlb hib =>
    by_cases hab : a = b
    · subst hab
      exact fun E Q hq => (EqAt.same (A := A) (s := s) (.ref a)) _ _ E Q hq
    · refine EqW.of_refs hab fun E Q hq => eqTuple_W (hI _ ha) (hI _ hb) ?_ (by omega) (fun j h1 h2 => ?_) hq
      · have e1 : xs.size = ds.length := by rw [← hla, Array.length_toList]
        have e2 : ys.size = ds.length := by rw [← hlb, Array.length_toList]
        rw [e1, e2]
      · have e1 : xs.size = ds.length := by rw [← hla, Array.length_toList]
        have hj : j < ds.length := e1 ▸ h1
        refine ih ds[j] (List.getElem_mem _) (hia j _ _ ?_ (List.getElem?_eq_getElem hj)) (hib j _ _ ?_ (List.getElem?_eq_getElem hj)) (by show A.units + 1 + 2 * n + 2 < cLine; omega)
        · simp [h1]
        · simp [h2]
  | @dict n D =>
    intro v u A h1 h2 hu
    cases h1 with
    | @dict a oa ka _ ha la da fa ra =>
    cases h2 with
    | @dict b ob kb _ hb lb db fb rb =>
    by_cases hab : a = b
    · subst hab
      exact fun E Q hq => (EqAt.same (A := A) (s := s) (.ref a)) _ _ E Q hq
    · refine EqW.of_refs hab fun E Q hq => keq_tabs (knd := strKind PG w) (enc := PyData.str) PyProof.V.same_str (Da := D) (Db := D) ⟨la, ka, Heap.dictOf_iff.mpr ⟨oa, hI _ ha, da⟩, fa⟩ ⟨lb, kb, Heap.dictOf_iff.mpr ⟨ob, hI _ hb, db⟩, fb⟩ rfl (by omega) ra hq
end Mine

end
section
-- Q2
open PySem PySem.W PyProof.Rows PySem.Calls PySem.Spec
namespace Mine
set_option maxRecDepth 100000

theorem deep_atom (a : Atom) {n : Nat} : Deep n (encAtom a) := by
  cases a with
  | s x => exact .str x
  | i k => exact .int k
theorem deep_name (nm : Name) {n : Nat} : Deep (n + 1) (encName nm) := by
  refine .tup fun d hd => ?_
  obtain ⟨a, _, rfl⟩ := List.mem_map.mp hd
  exact deep_atom a
theorem deep_asked (r : Row) {d : PyData} (h : Deep 1 d) : Deep 2 (eAsked r d) := by
  refine .tup fun x hx => ?_
  simp only [List.mem_cons, List.not_mem_nil, or_false] at hx
  rcases hx with rfl | rfl | rfl
  · exact .int _
  · exact .str _
  · exact h
theorem deep_heard (r : Row) (id : Name) {d : PyData} (h : Deep 1 d) : Deep 2 (eHeard r id d) := by
  refine .tup fun x hx => ?_
  simp only [List.mem_cons, List.not_mem_nil, or_false] at hx
  rcases hx with rfl | rfl | rfl
  · exact .int _
  · exact deep_name id
  · exact h
def DeepLog (σ : St) : Prop := ∀ e ∈ σ.log, Deep 2 e
theorem DeepLog.say {σ : St} (x : DeepLog σ) {es : List PyData} (h : ∀ e ∈ es, Deep 2 e) : DeepLog (σ.say es) := fun e he => by
  rcases List.mem_append.mp (show e ∈ σ.log ++ es from he) with h1 | h1
  · exact x e h1
  · exact h e h1
theorem deep_says (r : Row) (id : Name) {d : PyData} (h : Deep 1 d) : ∀ e ∈ r.says id d, Deep 2 e := fun e he => by
  unfold Row.says at he
  rcases List.mem_append.mp he with h1 | h1
  · split at h1
    · rw [List.mem_singleton.mp h1]; exact deep_asked r h
    · cases h1
  · rw [List.mem_singleton.mp h1]; exact deep_heard r id h
theorem Loop.deep {id : Name} {d : PyData} {g p : Nat} {σ σ' : St} (L : Loop id d g p σ σ') : Deep 1 d → DeepLog σ → DeepLog σ' := by
  induction L with
  | done => exact fun _ h => h
  | skip _ _ _ _ ih => exact ih
  | refuse _ _ _ _ _ _ ih => exact fun hd h => ih hd (h.say fun e he => by rw [List.mem_singleton.mp he]; exact deep_asked _ hd)
  | plain _ _ _ _ _ _ ih => exact fun hd h => ih hd (h.say (deep_says _ _ hd))
  | adds _ _ _ _ _ _ ih => exact fun hd h => ih hd (h.say (deep_says _ _ hd))
  | nest _ _ _ _ _ _ _ _ ih1 ih2 => exact fun hd h => ih2 hd (ih1 (.int _) (h.say (deep_says _ _ hd)))
  | forgets _ _ _ _ _ _ ih => exact fun hd h => ih hd (h.say (deep_says _ _ hd))

theorem heard_due {w : World} {K : Frag} {cx : Cx} {σB σP : St} {tg : Tags} {news : List (Addr × Obj)} {h₀ : Heap} {L : Addr} {m : PySem.Str → Option Value} {s : Shared} {A : Around} {Q E : Value → Shared → Prop}
    (F : Fr h₀ L s.heap m) (X : K.In h₀) (N : News h₀ L s.heap news) (W : Wd w K cx σB σP tg news) (hl : σB.log = σP.log) (hd : DeepLog σB) (hu : A.units + 20 < cLine) (h : Q (.bool true) s) :
    wpAny (model PG w) A (compareOp .Eq (.ref cx.heard) (.ref cx.due)) Q E s := by
  obtain ⟨_, xs, n, hx, lx⟩ := W.heard
  obtain ⟨_, ys, m', hy, ly⟩ := W.due
  rw [← hl] at ly
  have hI : ∀ p, Im K news tg p → s.heap.get? p.1 = some p.2 := fun p hp => by
    rcases hp with q | ⟨q, _⟩
    · exact F.keep _ _ (X _ _ q)
    · exact (N _ q).1
  have e1 : xs.size = σB.log.length := by have := lx.1; rwa [Array.length_toList] at this
  have e2 : ys.size = σB.log.length := by have := ly.1; rwa [Array.length_toList] at this
  refine eqList_W (N _ hx).1 (N _ hy).1 (by rw [e1, e2]) (by omega) (fun j h1 h2 => ?_) h
  have hj : j < σB.log.length := e1 ▸ h1
  exact rd_eq hI (hd _ (List.getElem_mem hj)) (lx.2 j _ _ (by simp [h1]) (List.getElem?_eq_getElem hj)) (ly.2 j _ _ (by simp [h2]) (List.getElem?_eq_getElem hj)) (by show A.units + 1 + 2 * 2 + 2 < cLine; omega)
end Mine

end
section
-- N0
open PySem PySem.W PyProof.Rows PySem.Calls PySem.Spec
namespace Mine
local macro_rules | `(tactic| walk_at "idle 0") => `(tactic| fail)
local macro_rules | `(tactic| walk_at "idle 1") => `(tactic| fail)
local macro_rules | `(tactic| walk_at "idle 2") => `(tactic| fail)
local macro_rules | `(tactic| walk_at "idle 3") => `(tactic| fail)
local macro_rules | `(tactic| walk_at "idle 4") => `(tactic| fail)
local macro_rules | `(tactic| walk_at "idle 5") => `(tactic| fail)
set_option maxRecDepth 100000
local macro_rules | `(tactic| k_mem) => `(tactic| assumption)

def lawName : Nat → Name
  | 0 => [.s "core", .s "vrf", .s "added"]
  | 1 => [.s "core", .s "best", .s "changed"]
  | 2 => [.s "core", .s "adj", .s "down"]
  | 3 => [.s "error", .s "bgp", .i 7]
  | 4 => [.s "core"]
  | 5 => [.s "core", .s "adj"]
  | 6 => [.s "error", .s "bgp"]
  | 7 => [.s "core", .s "vrf", .s "added", .i 7]
  | 8 => [.s "core", .s "adj", .s "down", .s "late"]
  | _ => [.s "bgp"]

theorem nm_of {w : World} {I : IP} {nm : Name} {a : Addr} {its : Array Value} {n : Nat} (hn : nm ≠ []) (h : I (a, tupO its n)) (hi : ItemsAre (atomKind PG w) nm its.toList) : NmAt w I nm (.ref a) := ⟨hn, a, its, n, rfl, h, hi⟩

set_option maxHeartbeats 1000000 in
theorem names_ok {w : World}
    {A₀ : Around} {base h₀ : Heap} {outer : List Env} {env : Env} {L : Addr} {m mg mb : PySem.Str → Option Value} {p : Program} {loose : List PySem.Str} {mean : ExcName → Option Value} {s : Shared} {news : List (Addr × Obj)} {dep un : Nat} {gd : Option (List Code)} {Q : Value → Shared → Prop} {E : Value → Shared → Prop}
    (B : Below A₀ base outer h₀) (X : (hd.heap_39 w.params).In h₀) (T : Top p loose mean mg mb h₀) (hf : env.frame = some L) (hk : env.scope.kind = .function) (hdep : dep + 5 < recursionLimit)
    (F : Fr h₀ L s.heap m) (N : News h₀ L s.heap news)
    (hQ : ∀ h' tk l nw, Fr h₀ L h' m → News h₀ L h' (nw ++ news) → (∀ p ∈ nw, ∀ q ∈ news, q.1 < p.1) → (∃ its n, (l, listOf its n) ∈ nw ∧ its.size = 10 ∧ ∀ i, i < 10 → ∃ v, its[i]? = some v ∧ NmAt w (fun p => p ∈ nw) (lawName i) v) → Q (.ref l) { s with heap := h', toks := tk }) :
    wpAny (model PySem.Challenge.rw_bi0010_01.row.prog w) ⟨none, dep, some (env :: outer), gd, un⟩ (call (.ref 186) []) Q E s := by
  w_top off
  revert X; k_fill; intro X
  refine wpAny_call ?_
  refine' code_def (binds := []) B F X N T rfl hf hk ?k6 ?k7 ?k8 ?k9 ?kB ?_ ?c2 ?c3 ?c4 ?c5
  case k6 => k_is
  case k7 => k_is
  case k8 => show dep < _; omega
  case k9 => exact BindsTo.of_eq rfl
  case kB => exact locs rfl
  case c2 => rfl
  case c3 => rfl
  case c4 => rfl
  case c5 => decide
  intro g' L' h' FG' F' N' B' X' T'
  dsimp only [Around.deeper, Option.map]
  try k_fold
  k_steps
  rename_i D0 e0 a0 D1 e1 a1 D2 e2 a2 D3 e3 a3 D4 e4 a4 D5 e5 a5 D6 e6 a6 D7 e7 a7 D8 e8 a8 D9 e9 a9 l e10 F₁ N₁ a10 kF kN Tc kX
  clear F₁ N₁
  refine hQ _ _ l [_, _, _, _, _, _, _, _, _, _, _] kF kN ?_ ⟨_, _, .head _, rfl, ?_⟩
  · intro p hp q hq
    simp only [List.mem_cons, List.not_mem_nil, or_false] at hp
    rcases hp with rfl | rfl | rfl | rfl | rfl | rfl | rfl | rfl | rfl | rfl | rfl
    · exact allLt_all a10.2.2.2.2.2.2.2.2.2.2 q hq
    · exact allLt_all a9.2.2.2.2.2.2.2.2.2 q hq
    · exact allLt_all a8.2.2.2.2.2.2.2.2 q hq
    · exact allLt_all a7.2.2.2.2.2.2.2 q hq
    · exact allLt_all a6.2.2.2.2.2.2 q hq
    · exact allLt_all a5.2.2.2.2.2 q hq
    · exact allLt_all a4.2.2.2.2 q hq
    · exact allLt_all a3.2.2.2 q hq
    · exact allLt_all a2.2.2 q hq
    · exact allLt_all a1.2 q hq
    · exact a0 q hq
  · intro i hi
    rcases (by omega : i = 0 ∨ i = 1 ∨ i = 2 ∨ i = 3 ∨ i = 4 ∨ i = 5 ∨ i = 6 ∨ i = 7 ∨ i = 8 ∨ i = 9) with rfl | rfl | rfl | rfl | rfl | rfl | rfl | rfl | rfl | rfl
    · exact ⟨_, rfl, nm_of (its := _) nofun (.tail _ (.tail _ (.tail _ (.tail _ (.tail _ (.tail _ (.tail _ (.tail _ (.tail _ (.tail _ (.head _))))))))))) (.cons (by rfl) (.cons (by rfl) (.cons (by rfl) (.nil))))⟩
    · exact ⟨_, rfl, nm_of (its := _) nofun (.tail _ (.tail _ (.tail _ (.tail _ (.tail _ (.tail _ (.tail _ (.tail _ (.tail _ (.head _)))))))))) (.cons (by rfl) (.cons (by rfl) (.cons (by rfl) (.nil))))⟩
    · exact ⟨_, rfl, nm_of (its := _) nofun (.tail _ (.tail _ (.tail _ (.tail _ (.tail _ (.tail _ (.tail _ (.tail _ (.head _))))))))) (.cons (by rfl) (.cons (by rfl) (.cons (by rfl) (.nil))))⟩
    · exact ⟨_, rfl, nm_of (its := _) nofun (.tail _ (.tail _ (.tail _ (.tail _ (.tail _ (.tail _ (.tail _ (.head _)))))))) (.cons (by rfl) (.cons (by rfl) (.cons (by rfl) (.nil))))⟩
    · exact ⟨_, rfl, nm_of (its := _) nofun (.tail _ (.tail _ (.tail _ (.tail _ (.tail _ (.tail _ (.head _))))))) (.cons (by rfl) (.nil))⟩
    · exact ⟨_, rfl, nm_of (its := _) nofun (.tail _ (.tail _ (.tail _ (.tail _ (.tail _ (.head _)))))) (.cons (by rfl) (.cons (by rfl) (.nil)))⟩
    · exact ⟨_, rfl, nm_of (its := _) nofun (.tail _ (.tail _ (.tail _ (.tail _ (.head _))))) (.cons (by rfl) (.cons (by rfl) (.nil)))⟩
    · exact ⟨_, rfl, nm_of (its := _) nofun (.tail _ (.tail _ (.tail _ (.head _)))) (.cons (by rfl) (.cons (by rfl) (.cons (by rfl) (.cons (by rfl) (.nil)))))⟩
    · exact ⟨_, rfl, nm_of (its := _) nofun (.tail _ (.tail _ (.head _))) (.cons (by rfl) (.cons (by rfl) (.cons (by rfl) (.cons (by rfl) (.nil)))))⟩
    · exact ⟨_, rfl, nm_of (its := _) nofun (.tail _ (.head _)) (.cons (by rfl) (.nil))⟩
end Mine

end
section
-- N1
open PySem PySem.W PyProof.Rows PySem.Calls PySem.Spec
namespace Mine
set_option maxRecDepth 100000
local macro_rules | `(tactic| k_mem) => `(tactic| assumption)
local macro_rules | `(tactic| walk_at "eval Name") => `(tactic| (k_here; kc_free; k_dflt (refine' nameX_F ?N ?c ?m ?d ?_ ?a ?b; (case a => rfl); (case b => rfl); (case N => k_asm); (case c => rfl); (case m => k_mem); (case d => k_asm); k_whole)))
local macro_rules | `(tactic| walk_at "eval Name") => `(tactic| (k_here; k_dflt (refine' nameX_L ?F ?v ?_ ?a ?b; (case F => k_asm); (case v => first | assumption | rfl | exact (if_neg (by decide)).trans (by assumption) | exact (if_neg (by decide)).trans ((if_neg (by decide)).trans (by assumption)) | (repeat (first | assumption | refine (if_neg (by decide)).trans ?_))); (case a => rfl); (case b => rfl); k_whole)))
local macro_rules | `(tactic| walk_at "callWith ref") => `(tactic| (k_here; k_dflt (first
  | (refine' callWith_F ?k1 ?_; (case k1 => exact FnAt.of (by k_asm) (by k_mem)); k_whole)
  | (refine' callWith_F0 ?k1 ?_; (case k1 => exact FnAt.of (by k_asm) (by k_mem)); k_whole; try dsimp only [List.nil_append, List.cons_append]))))
local macro_rules | `(tactic| walk_at "FnAt") => `(tactic| (k_dflt (exact FnAt.of (by k_asm) (by k_mem))))

def lawFor : Stmt := dAt (dBody lawD) 7
def lawCl (cx : Cx) : List (PySem.Str × Addr) := [("send", cx.cSend), ("plain", cx.cPlain), ("listener", cx.cListener), ("heard", cx.cHeard), ("due", cx.cDue), ("bus", cx.cBus)]
abbrev envLaw (cx : Cx) (L fa : Addr) : Env := envX "law" (dScope lawD) L fa (.ref 192) (lawCl cx)
abbrev forLaw (cx : Cx) (L fa I : Addr) : Code := .forLoop (forTarget lawFor) (.ref I) (forBody lawFor) [] (envLaw cx L fa)

/-- what holds between the turns of the law's loop -/
structure LawInv (w : World) (K : Frag) (cx : Cx) (nb : Addr) (vs : Array Value) (n0 : Nat) (j : Nat) (σ : St) (tg : Tags) (news : List (Addr × Obj)) (m : PySem.Str → Option Value) : Prop where
  W : Wd w K cx σ σ tg news
  flag : σ.flag = false
  Z : σ.Z ≤ j
  T : σ.T ≤ 91 * j
  log : σ.log.length ≤ 20000 * j
  deep : DeepLog σ
  nums : Lg news tg (nb, PySem.W.listOf vs n0)
  mN : m "numbers" = some (.ref nb)
  mS : m "sieve" = some (.ref cx.fS)

def tmpT (t : Tag) : Prop := ∃ a, t = .tmp a
def actsB : List Stmt := (forBody lawFor).drop 3

abbrev iterO (x left : Int) : Obj := { cls := .type "range_iterator", dict := none, data := .fields #[rawInt x, rawInt left, rawInt 3], slots := #[] }

theorem ints_at {vs : Array Value} {ns : List Int} (h : IntsAre vs.toList ns) {i : Nat} (hi : i < vs.size) : ∃ x t, vs[i]? = some (.int x t) := by
  have hl := h.length
  rw [Array.length_toList] at hl
  obtain ⟨t, ht⟩ := h.get i ns[i] (by simp [hl ▸ hi])
  exact ⟨_, t, by rw [← Array.getElem?_toList]; exact ht⟩

theorem fmod10 (x : Int) : ∃ n : Nat, n < 10 ∧ x.fmod 10 = (n : Int) := by
  have h1 := Int.fmod_nonneg_of_pos x (show (0 : Int) < 10 by decide)
  have h2 := Int.fmod_lt_of_pos x (show (0 : Int) < 10 by decide)
  exact ⟨(x.fmod 10).toNat, by omega, by omega⟩
theorem lawName_len (n : Nat) : (lawName n).length ≤ 4 := by
  unfold lawName
  split <;> decide
/-- what the turn's deeds leave -/
def ActsPost (fs : Flow → Prop) (w : World) (K : Frag) (cx : Cx) (h₀ : Heap) (L nb : Addr) (σ : St) (tg : Tags) (news : List (Addr × Obj)) (s : Shared) (Q : Flow → Shared → Prop) : Prop :=
  ∀ fl h' tk gens' tg' news' m' σ', fs fl → Fr h₀ L h' m' → News h₀ L h' news' → (AllBare s.gens → AllBare gens') → Wd w K cx σ' σ' tg' news' → Keeps tg tg' news news' tmpT →
    m' "numbers" = some (.ref nb) → m' "sieve" = some (.ref cx.fS) → σ'.flag = false → σ'.Z ≤ σ.Z + 1 → σ'.T ≤ σ.T + 91 → σ'.log.length ≤ σ.log.length + 20000 → DeepLog σ' → Q fl ⟨h', gens', s.drawn, tk, s.os⟩

theorem lawName_one (n : Nat) (h : (lawName n).length = 1) : ∃ x, lawName n = [.s x] := by
  revert h
  unfold lawName
  split <;> intro h <;> first | exact ⟨_, rfl⟩ | exact absurd h (by decide)
theorem lawName_ne (n : Nat) : lawName n ≠ [] := by
  unfold lawName
  split <;> exact nofun

end Mine

end
section
-- N6
open PySem PySem.W PyProof.Rows PySem.Calls PySem.Spec
namespace Mine
local macro_rules | `(tactic| walk_at "idle 0") => `(tactic| fail)
local macro_rules | `(tactic| walk_at "idle 1") => `(tactic| fail)
local macro_rules | `(tactic| walk_at "idle 2") => `(tactic| fail)
set_option maxRecDepth 100000
local macro_rules | `(tactic| k_mem) => `(tactic| assumption)
local macro_rules | `(tactic| walk_at "eval Name") => `(tactic| (k_here; kc_free; k_dflt (refine' nameX_F ?N ?c ?m ?d ?_ ?a ?b; (case a => rfl); (case b => rfl); (case N => k_asm); (case c => rfl); (case m => k_mem); (case d => k_asm); k_whole)))
local macro_rules | `(tactic| walk_at "eval Name") => `(tactic| (k_here; k_dflt (refine' nameX_L ?F ?v ?_ ?a ?b; (case F => k_asm); (case v => first | assumption | rfl | exact (if_neg (by decide)).trans (by assumption) | exact (if_neg (by decide)).trans ((if_neg (by decide)).trans (by assumption)) | (repeat (first | assumption | refine (if_neg (by decide)).trans ?_))); (case a => rfl); (case b => rfl); k_whole)))
local macro_rules | `(tactic| walk_at "callWith ref") => `(tactic| (k_here; k_dflt (first
  | (refine' callWith_F ?k1 ?_; (case k1 => exact FnAt.of (by k_asm) (by k_mem)); k_whole)
  | (refine' callWith_F0 ?k1 ?_; (case k1 => exact FnAt.of (by k_asm) (by k_mem)); k_whole; try dsimp only [List.nil_append, List.cons_append]))))
local macro_rules | `(tactic| walk_at "FnAt") => `(tactic| (k_dflt (exact FnAt.of (by k_asm) (by k_mem))))


def ifBody : Stmt → List Stmt | .If _ b .. => b | _ => []
def regB : List Stmt := ifBody (dAt actsB 0)
def reg2B : List Stmt := regB.drop 1
def reg3B : List Stmt := regB.drop 2
def reg4B : List Stmt := regB.drop 3

set_option maxHeartbeats 4000000 in
theorem reg_four {w : World} {cx : Cx} {σB σ : St} {tg : Tags} {fa : Addr} {wn on : Name} {kd : Nat} {b : Bool} {k : Int} {t0 t4 : Tok} {vn vo : Value}
    {A₀ : Around} {base h₀ : Heap} {outer : List Env} {L : Addr} {m mg mb : PySem.Str → Option Value} {pg : Program} {loose : List PySem.Str} {mean : ExcName → Option Value} {s : Shared} {news : List (Addr × Obj)} {dep un : Nat} {gd : Option (List Code)} {Q : Flow → Shared → Prop} {E : Value → Shared → Prop}
    {cb : List Stmt} (hcb : cb = reg4B)
    (B : Below A₀ base outer h₀) (X : (hd.heap_39 w.params).In h₀) (T : Top pg loose mean mg mb h₀) (hdep : dep + 200 < recursionLimit) (hun : un + 500 < cLine)
    (F : Fr h₀ L s.heap m) (N : News h₀ L s.heap news) (W : Wd w (hd.heap_39 w.params) cx σB σ tg news) (hT : σ.T ≤ 100000) (hok : Row.ok ⟨wn, k, kd, on, b⟩)
    (mk : m "k" = some (.int k t0)) (mn : m "name" = some vn) (hnm : NmAt w (Im (hd.heap_39 w.params) news tg) wn vn) (mkd : m "kind" = some (.int kd t4)) (mo : m "other" = some vo) (hno : NmAt w (Im (hd.heap_39 w.params) news tg) on vo) (mb : m "sieved" = some (.bool b))
    (hQ : ∀ h' tk n', Fr h₀ L h' m → News h₀ L h' n' → Wd w (hd.heap_39 w.params) cx σB (σ.add ⟨wn, k, kd, on, b⟩) tg n' → Keeps tg tg news n' tmpT → Q .cont ⟨h', s.gens, s.drawn, tk, s.os⟩) :
    wpAny (model PySem.Challenge.rw_bi0010_01.row.prog w) ⟨none, dep, some (envLaw cx L fa :: outer), gd, un⟩ (execs cb (envLaw cx L fa)) Q E s := by
  w_top off
  subst hcb
  have hS : dScope lawD = dScope lawD := rfl
  conv at hS => rhs; whnf
  have h0 : dAt reg4B 0 = dAt reg4B 0 := rfl
  conv at h0 => rhs; whnf
  have h1 : dAt reg4B 1 = dAt reg4B 1 := rfl
  conv at h1 => rhs; whnf
  have hB : reg4B = [dAt reg4B 0, dAt reg4B 1] := rfl
  rw [h0, h1] at hB
  clear h0 h1
  revert X; k_fill; intro X
  show wpAny _ _ (execs reg4B (envX "law" (dScope lawD) L fa (.ref 192) (lawCl cx))) _ _ s
  unfold envLaw lawCl
  rw [hS, hB]
  obtain ⟨oPl, ⟨mPc, gPc⟩, hdPl⟩ := W.base.cellPlain
  obtain ⟨tPl, Rr, nP, mPl, tRr⟩ := W.plain
  k_steps
  refine PyProof.Rows.item_list (items := #[.ref Rr, .bool σ.flag, .bool σB.flag]) (x := .ref Rr) ⟨_, (N _ mPl).1, rfl, nP, rfl⟩ (by decide) (by decide) rfl ?_
  obtain ⟨pre, rs, hpre⟩ := pre_last W.wfP.1
  have tR' : tg Rr = some (.rows pre.length) := by rw [← cur_last hpre]; exact tRr
  obtain ⟨its, nl, hRl, hA⟩ := W.rowsEx (get_last hpre) tR'
  k_steps
  rename_i pp h₂ F₂ N₂ hl₂
  have kp : Keeps tg tg news ((pp, tupO #[vn, .int k t0, .int kd t4, vo, .bool b] 0) :: news) fun _ => True := Keeps.cons
  have hrow : RowAt w (Im (hd.heap_39 w.params) ((pp, tupO #[vn, .int k t0, .int kd t4, vo, .bool b] 0) :: news) tg) (Lg ((pp, tupO #[vn, .int k t0, .int kd t4, vo, .bool b] 0) :: news) tg) (.ref pp) ⟨wn, k, kd, on, b⟩ :=
    ⟨pp, vn, _, _, vo, 0, rfl, ⟨.head _, tag_fresh W.base.ok hl₂⟩, hnm.mono kp.im, hno.mono kp.im⟩
  have ⟨W₃, k₃⟩ := W.addP hpre tR' hRl hA hrow hok
  have hz : its.size ≤ sizeLine := by
    have h1 := hA.1
    have h2 : rs.length ≤ σ.T := (nz_le_sum (by rw [hpre]; simp)).2
    rw [Array.length_toList] at h1
    rw [sizeLine_eq]; omega
  refine append_S F₂ N₂ (.tail _ hRl) (fun h₃ F₃ N₃ => ?_) hz
  clear F₂ N₂
  k_steps
  exact hQ _ _ _ F₃ N₃ W₃ (k₃.mono fun q h => by obtain ⟨a, rfl⟩ := h; exact nofun)

theorem add_bounds (σ : St) (r : Row) (hw : σ.gens ≠ []) : (σ.add r).Z ≤ σ.Z + 1 ∧ (σ.add r).T = σ.T + 1 := by
  obtain ⟨pre, rs, h⟩ := pre_last hw
  have n1 : nz [r] ≤ 1 := by
    unfold nz
    exact Nat.le_trans (List.length_filter_le _ _) (by simp)
  have e : (σ.add r).gens = pre ++ [rs ++ [r]] := by
    show appLast r σ.gens = _
    rw [h, appLast_last]
  unfold St.Z St.T
  rw [e, h]
  simp only [List.map_append, List.map_cons, List.map_nil, List.sum_append, List.sum_cons, List.sum_nil, nz_append, List.length_append, List.length_singleton]
  omega
set_option maxHeartbeats 4000000 in
theorem reg_three {w : World} {cx : Cx} {σ : St} {tg : Tags} {nb fa : Addr} {wn on : Name} {kd : Nat} {b : Bool} {k : Int} {t0 t4 : Tok} {vn vsh vo : Value}
    {A₀ : Around} {base h₀ : Heap} {outer : List Env} {L : Addr} {m mg mb : PySem.Str → Option Value} {pg : Program} {loose : List PySem.Str} {mean : ExcName → Option Value} {s : Shared} {news : List (Addr × Obj)} {dep un : Nat} {gd : Option (List Code)} {Q : Flow → Shared → Prop} {E : Value → Shared → Prop}
    {cb : List Stmt} (hcb : cb = reg3B)
    (B : Below A₀ base outer h₀) (X : (hd.heap_39 w.params).In h₀) (T : Top pg loose mean mg mb h₀) (hdep : dep + 200 < recursionLimit) (hun : un + 500 < cLine)
    (F : Fr h₀ L s.heap m) (N : News h₀ L s.heap news) (W : Wd w (hd.heap_39 w.params) cx σ σ tg news) (hfl : σ.flag = false) (hT : σ.T ≤ 728) (hdp : DeepLog σ) (hok : Row.ok ⟨wn, k, kd, on, b⟩)
    (mk : m "k" = some (.int k t0)) (mn : m "name" = some vn) (hnm : NmAt w (Im (hd.heap_39 w.params) news tg) wn vn) (msh : m "short" = some vsh) (hsh : NmIn w (Im (hd.heap_39 w.params) news tg) wn vsh) (mkd : m "kind" = some (.int kd t4)) (mo : m "other" = some vo) (hno : NmAt w (Im (hd.heap_39 w.params) news tg) on vo) (mb : m "sieved" = some (.bool b))
    (mN : m "numbers" = some (.ref nb)) (mS : m "sieve" = some (.ref cx.fS))
    (hQ : ActsPost (fun f => f = .cont) w (hd.heap_39 w.params) cx h₀ L nb σ tg news s Q) :
    wpAny (model PySem.Challenge.rw_bi0010_01.row.prog w) ⟨none, dep, some (envLaw cx L fa :: outer), gd, un⟩ (execs cb (envLaw cx L fa)) Q E s := by
  subst hcb
  have hS : dScope lawD = dScope lawD := rfl
  conv at hS => rhs; whnf
  have h0 : dAt reg3B 0 = dAt reg3B 0 := rfl
  conv at h0 => rhs; whnf
  have hB : reg3B = dAt reg3B 0 :: reg4B := rfl
  rw [h0] at hB
  clear h0
  obtain ⟨rb, hrb⟩ : ∃ rb, rb = reg4B := ⟨_, rfl⟩
  rw [← hrb] at hB
  revert X; k_fill; intro X
  show wpAny _ _ (execs reg3B (envX "law" (dScope lawD) L fa (.ref 192) (lawCl cx))) _ _ s
  unfold envLaw lawCl
  rw [hS, hB]
  obtain ⟨oBus, ⟨mBus, _⟩, hdBus⟩ := W.base.cellBus
  obtain ⟨oLs, ⟨mLs, _⟩, hdLs⟩ := W.base.cellListener
  obtain ⟨tdx, D, hsh', tok8, n8, hdx, tD⟩ := W.dx
  have hbus := W.base.bus.1
  obtain ⟨lnm, ldoc, lpm, lc', lctv, loc, ⟨mfL, _⟩, _, _⟩ := W.base.fL
  obtain ⟨snm, sdoc, spm, sc', sctv, soc, ⟨mfS, _⟩, _, _⟩ := W.base.fS
  cases b with
  | true =>
    k_steps
    refine listener_ok (kind := kd) (name := on) B X T rfl rfl (by omega) F N W hno ?_
    intro h₁ tk₁ v₁ n₁ F₁ N₁ W₁ k₁ hfu
    obtain ⟨tdx1, D1, hsh1, tok81, n81, hdx1, tD1⟩ := W₁.dx
    have hbus1 := W₁.base.bus.1
    obtain ⟨snm1, sdoc1, spm1, sc1', sctv1, soc1, ⟨mfS1, _⟩, _, _⟩ := W₁.base.fS
    k_steps
    refine sieve_ok B X T rfl rfl (by omega) F₁ N₁ W₁ ?_
    intro h₂ tk₂ v₂ n₂ F₂ N₂ W₂ k₂ hfi
    have kk : Keeps tg tg news n₂ tmpT := (k₁.mono fun q h => by obtain ⟨a, rfl⟩ := h; exact nofun).trans (k₂.mono fun q h => by obtain ⟨a, rfl⟩ := h; exact nofun)
    k_steps
    refine reg_ok (r := ⟨wn, k, kd, on, true⟩) (va := vsh) (vf := v₁) (vl := v₂) B X T rfl rfl (by omega) (by omega) F₂ N₂ W₂ (hsh.imp (fun h => h.mono kk.im) id) hok (hfu.mono k₂.im k₂.lg) hfi (by omega) ?_ (.inl rfl)
    intro h₃ tk₃ gens₃ tg₃ n₃ F₃ N₃ hAB₃ W₃ k₃
    have k3 : Keeps tg tg₃ news n₃ tmpT := kk.trans (k₃.mono fun q h => by obtain ⟨a, rfl⟩ := h; exact ⟨nofun, nofun, nofun⟩)
    k_steps
    refine reg_four hrb B X T hdep hun F₃ N₃ W₃ (by omega) hok mk mn (hnm.mono k3.im) mkd mo (hno.mono k3.im) mb ?_
    intro h₄ tk₄ n₄ F₄ N₄ W₄ k₄
    have ab := add_bounds σ ⟨wn, k, kd, on, true⟩ W.wfB.1
    exact hQ .cont h₄ tk₄ gens₃ tg₃ n₄ m _ rfl F₄ N₄ hAB₃ W₄ (k3.trans k₄) mN mS hfl ab.1 (by omega) (by show σ.log.length ≤ _; omega) hdp
  | false =>
    k_steps
    refine listener_ok (kind := kd) (name := on) B X T rfl rfl (by omega) F N W hno ?_
    intro h₁ tk₁ v₁ n₁ F₁ N₁ W₁ k₁ hfu
    obtain ⟨tdx1, D1, hsh1, tok81, n81, hdx1, tD1⟩ := W₁.dx
    have hbus1 := W₁.base.bus.1
    obtain ⟨snm1, sdoc1, spm1, sc1', sctv1, soc1, ⟨mfS1, _⟩, _, _⟩ := W₁.base.fS
    k_steps
    have kk : Keeps tg tg news n₁ tmpT := k₁.mono fun q h => by obtain ⟨a, rfl⟩ := h; exact nofun
    refine reg_ok (r := ⟨wn, k, kd, on, false⟩) (va := vsh) (vf := v₁) (vl := .none) B X T rfl rfl (by omega) (by omega) F₁ N₁ W₁ (hsh.imp (fun h => h.mono kk.im) id) hok hfu rfl (by omega) ?_ (.inr ⟨rfl, rfl⟩)
    intro h₃ tk₃ gens₃ tg₃ n₃ F₃ N₃ hAB₃ W₃ k₃
    have k3 : Keeps tg tg₃ news n₃ tmpT := kk.trans (k₃.mono fun q h => by obtain ⟨a, rfl⟩ := h; exact ⟨nofun, nofun, nofun⟩)
    k_steps
    refine reg_four hrb B X T hdep hun F₃ N₃ W₃ (by omega) hok mk mn (hnm.mono k3.im) mkd mo (hno.mono k3.im) mb ?_
    intro h₄ tk₄ n₄ F₄ N₄ W₄ k₄
    have ab := add_bounds σ ⟨wn, k, kd, on, false⟩ W.wfB.1
    exact hQ .cont h₄ tk₄ gens₃ tg₃ n₄ m _ rfl F₄ N₄ hAB₃ W₄ (k3.trans k₄) mN mS hfl ab.1 (by omega) (by show σ.log.length ≤ _; omega) hdp
end Mine

end
section
-- N4
open PySem PySem.W PyProof.Rows PySem.Calls PySem.Spec
namespace Mine
local macro_rules | `(tactic| walk_at "idle 0") => `(tactic| fail)
local macro_rules | `(tactic| walk_at "idle 1") => `(tactic| fail)
local macro_rules | `(tactic| walk_at "idle 2") => `(tactic| fail)
local macro_rules | `(tactic| walk_at "idle 3") => `(tactic| fail)
set_option maxRecDepth 100000
local macro_rules | `(tactic| k_mem) => `(tactic| assumption)
local macro_rules | `(tactic| walk_at "eval Name") => `(tactic| (k_here; kc_free; k_dflt (refine' nameX_F ?N ?c ?m ?d ?_ ?a ?b; (case a => rfl); (case b => rfl); (case N => k_asm); (case c => rfl); (case m => k_mem); (case d => k_asm); k_whole)))
local macro_rules | `(tactic| walk_at "eval Name") => `(tactic| (k_here; k_dflt (refine' nameX_L ?F ?v ?_ ?a ?b; (case F => k_asm); (case v => first | assumption | rfl | exact (if_neg (by decide)).trans (by assumption) | exact (if_neg (by decide)).trans ((if_neg (by decide)).trans (by assumption)) | (repeat (first | assumption | refine (if_neg (by decide)).trans ?_))); (case a => rfl); (case b => rfl); k_whole)))
local macro_rules | `(tactic| walk_at "callWith ref") => `(tactic| (k_here; k_dflt (first
  | (refine' callWith_F ?k1 ?_; (case k1 => exact FnAt.of (by k_asm) (by k_mem)); k_whole)
  | (refine' callWith_F0 ?k1 ?_; (case k1 => exact FnAt.of (by k_asm) (by k_mem)); k_whole; try dsimp only [List.nil_append, List.cons_append]))))
local macro_rules | `(tactic| walk_at "FnAt") => `(tactic| (k_dflt (exact FnAt.of (by k_asm) (by k_mem))))


set_option maxHeartbeats 4000000 in
theorem reg_two {w : World} {cx : Cx} {σ : St} {tg : Tags} {nb fa : Addr} {vs : Array Value} {n0 kd : Nat} {wn on : Name} {k x2 : Int} {t0 t3 t4 : Tok} {vn vsh vo : Value}
    {A₀ : Around} {base h₀ : Heap} {outer : List Env} {L : Addr} {m mg mb : PySem.Str → Option Value} {pg : Program} {loose : List PySem.Str} {mean : ExcName → Option Value} {s : Shared} {news : List (Addr × Obj)} {dep un : Nat} {gd : Option (List Code)} {Q : Flow → Shared → Prop} {E : Value → Shared → Prop}
    {cb : List Stmt} (hcb : cb = reg2B)
    (B : Below A₀ base outer h₀) (X : (hd.heap_39 w.params).In h₀) (T : Top pg loose mean mg mb h₀) (hdep : dep + 200 < recursionLimit) (hun : un + 500 < cLine)
    (F : Fr h₀ L s.heap m) (N : News h₀ L s.heap news) (W : Wd w (hd.heap_39 w.params) cx σ σ tg news) (hfl : σ.flag = false) (hT : σ.T ≤ 728) (hdp : DeepLog σ) (hok : ∀ b, Row.ok ⟨wn, k, kd, on, b⟩)
    (mk : m "k" = some (.int k t0)) (hk0 : 0 ≤ k) (hk1 : k ≤ 100) (mn : m "name" = some vn) (hnm : NmAt w (Im (hd.heap_39 w.params) news tg) wn vn) (msh : m "short" = some vsh) (hsh : NmIn w (Im (hd.heap_39 w.params) news tg) wn vsh) (mkd : m "kind" = some (.int kd t4)) (mo : m "other" = some vo) (hno : NmAt w (Im (hd.heap_39 w.params) news tg) on vo)
    (mN : m "numbers" = some (.ref nb)) (mS : m "sieve" = some (.ref cx.fS)) (hnb : Lg news tg (nb, PySem.W.listOf vs n0)) (hx2 : vs[(k + 2).toNat]? = some (.int x2 t3))
    (hQ : ActsPost (fun f => f = .cont) w (hd.heap_39 w.params) cx h₀ L nb σ tg news s Q) :
    wpAny (model PySem.Challenge.rw_bi0010_01.row.prog w) ⟨none, dep, some (envLaw cx L fa :: outer), gd, un⟩ (execs cb (envLaw cx L fa)) Q E s := by
  w_top off
  subst hcb
  have hS : dScope lawD = dScope lawD := rfl
  conv at hS => rhs; whnf
  have h0 : dAt reg2B 0 = dAt reg2B 0 := rfl
  conv at h0 => rhs; whnf
  have hB : reg2B = dAt reg2B 0 :: reg3B := rfl
  rw [h0] at hB
  clear h0
  obtain ⟨rb, hrb⟩ : ∃ rb, rb = reg3B := ⟨_, rfl⟩
  rw [← hrb] at hB
  revert X; k_fill; intro X
  show wpAny _ _ (execs reg2B (envX "law" (dScope lawD) L fa (.ref 192) (lawCl cx))) _ _ s
  unfold envLaw lawCl
  rw [hS, hB]
  have mnb := hnb.1
  k_steps
  dsimp only
  refine PyProof.Rows.item_list (items := vs) (x := .int x2 t3) ⟨_, (N _ mnb).1, rfl, n0, rfl⟩ (by omega) (by omega) hx2 ?_
  k_steps
  dsimp only
  rename_i h₁ F₁ N₁
  exact reg_three hrb B X T hdep hun F₁ N₁ W hfl hT hdp (hok _) mk mn hnm msh hsh mkd mo hno rfl mN mS hQ
theorem ActsPost.of {w : World} {K : Frag} {cx : Cx} {h₀ : Heap} {L nb : Addr} {σ : St} {tg : Tags} {news n' : List (Addr × Obj)} {s : Shared} {Q : Flow → Shared → Prop} {fs : Flow → Prop} (k : Keeps tg tg news n' tmpT) (x : ActsPost fs w K cx h₀ L nb σ tg news s Q) : ActsPost fs w K cx h₀ L nb σ tg n' s Q :=
  fun fl h' tk gens' tg' news' m' σ' h1 h2 h3 h4 h5 h6 => x fl h' tk gens' tg' news' m' σ' h1 h2 h3 h4 h5 (k.trans h6)
theorem kind_of (de : Nat) (h : de < 6) : ∃ kd : Nat, kd ≤ 3 ∧ ([0, 0, 1, 2, 2, 3] : List Int).getD ((de : Int).toNat) 0 = (kd : Int) := by
  rcases (by omega : de = 0 ∨ de = 1 ∨ de = 2 ∨ de = 3 ∨ de = 4 ∨ de = 5) with rfl | rfl | rfl | rfl | rfl | rfl
  · exact ⟨0, by decide, rfl⟩
  · exact ⟨0, by decide, rfl⟩
  · exact ⟨1, by decide, rfl⟩
  · exact ⟨2, by decide, rfl⟩
  · exact ⟨2, by decide, rfl⟩
  · exact ⟨3, by decide, rfl⟩
set_option maxHeartbeats 4000000 in
theorem reg_part {w : World} {cx : Cx} {σ : St} {tg : Tags} {nb fa : Addr} {vs : Array Value} {n0 de wh : Nat} {k x2 : Int} {t0 t1 t2 t3 : Tok} {vn vsh : Value}
    {A₀ : Around} {base h₀ : Heap} {outer : List Env} {L : Addr} {m mg mb : PySem.Str → Option Value} {pg : Program} {loose : List PySem.Str} {mean : ExcName → Option Value} {s : Shared} {news : List (Addr × Obj)} {dep un : Nat} {gd : Option (List Code)} {Q : Flow → Shared → Prop} {E : Value → Shared → Prop}
    {cb : List Stmt} (hcb : cb = regB)
    (B : Below A₀ base outer h₀) (X : (hd.heap_39 w.params).In h₀) (T : Top pg loose mean mg mb h₀) (hdep : dep + 200 < recursionLimit) (hun : un + 500 < cLine)
    (F : Fr h₀ L s.heap m) (N : News h₀ L s.heap news) (W : Wd w (hd.heap_39 w.params) cx σ σ tg news) (hfl : σ.flag = false) (hT : σ.T ≤ 728) (hdp : DeepLog σ)
    (mk : m "k" = some (.int k t0)) (hk0 : 0 ≤ k) (hk1 : k ≤ 100) (md : m "deed" = some (.int de t1)) (hde : de < 6) (mw : m "which" = some (.int wh t2)) (hwh : wh < 10) (mn : m "name" = some vn) (hnm : NmAt w (Im (hd.heap_39 w.params) news tg) (lawName wh) vn)
    (msh : m "short" = some vsh) (hsh : NmIn w (Im (hd.heap_39 w.params) news tg) (lawName wh) vsh) (mN : m "numbers" = some (.ref nb)) (mS : m "sieve" = some (.ref cx.fS)) (hnb : Lg news tg (nb, PySem.W.listOf vs n0)) (hx2 : vs[(k + 2).toNat]? = some (.int x2 t3))
    (hQ : ActsPost (fun f => f = .cont) w (hd.heap_39 w.params) cx h₀ L nb σ tg news s Q) :
    wpAny (model PySem.Challenge.rw_bi0010_01.row.prog w) ⟨none, dep, some (envLaw cx L fa :: outer), gd, un⟩ (execs cb (envLaw cx L fa)) Q E s := by
  subst hcb
  have hS : dScope lawD = dScope lawD := rfl
  conv at hS => rhs; whnf
  have h0 : dAt regB 0 = dAt regB 0 := rfl
  conv at h0 => rhs; whnf
  have hB : regB = dAt regB 0 :: reg2B := rfl
  rw [h0] at hB
  clear h0
  obtain ⟨rb, hrb⟩ : ∃ rb, rb = reg2B := ⟨_, rfl⟩
  rw [← hrb] at hB
  revert X; k_fill; intro X
  show wpAny _ _ (execs regB (envX "law" (dScope lawD) L fa (.ref 192) (lawCl cx))) _ _ s
  unfold envLaw lawCl
  rw [hS, hB]
  have mnb := hnb.1
  k_steps
  rename_i lk h₁ F₁ N₁ hlk tok₁
  refine names_ok B X T rfl rfl (by omega) F₁ N₁ ?_
  intro h₂ tk₂ ll nw F₂ N₂ hnw hll
  obtain ⟨lits, ln, hl, hls, hli⟩ := hll
  have W₁ := W.cons (lk, PySem.W.listOf #[Value.int 0 s.toks, Value.int 0 (s.toks + 1), Value.int 1 (s.toks + 1 + 1), Value.int 2 (s.toks + 1 + 1 + 1), Value.int 2 (s.toks + 1 + 1 + 1 + 1), Value.int 3 (s.toks + 1 + 1 + 1 + 1 + 1)] 0)
  generalize PySem.W.listOf #[Value.int 0 s.toks, Value.int 0 (s.toks + 1), Value.int 1 (s.toks + 1 + 1), Value.int 2 (s.toks + 1 + 1 + 1), Value.int 2 (s.toks + 1 + 1 + 1 + 1), Value.int 3 (s.toks + 1 + 1 + 1 + 1 + 1)] 0 = oK at *
  have W₂ := W₁.app nw
  have k₂ : Keeps tg tg news (nw ++ (lk, oK) :: news) fun _ => True := (Keeps.cons.trans (Keeps.app nw)).mono fun _ _ => trivial
  have hli₂ : ∀ i, i < 10 → ∃ v, lits[i]? = some v ∧ NmAt w (Im (hd.heap_39 w.params) (nw ++ (lk, oK) :: news) tg) (lawName i) v := fun i hi => by
    obtain ⟨v, h1, h2⟩ := hli i hi
    exact ⟨v, h1, h2.mono fun p hp => .inr ⟨List.mem_append_left _ hp, tag_fresh W₁.base.ok (hnw p hp)⟩⟩
  have hl₂ : (ll, PySem.W.listOf lits ln) ∈ nw ++ (lk, oK) :: news := List.mem_append_left _ hl
  have hnm₂ := hnm.mono k₂.im
  have hsh₂ : NmIn w (Im (hd.heap_39 w.params) (nw ++ (lk, oK) :: news) tg) (lawName wh) vsh := hsh.imp (fun h => h.mono k₂.im) id
  have gnb₂ := k₂.lg _ hnb
  clear F₁ N₁ hnw hl hli
  generalize nw ++ (lk, oK) :: news = n₂ at *
  have mnb₂ := gnb₂.1
  dsimp only
  k_steps
  dsimp only
  refine PyProof.Rows.item_list (items := vs) (x := .int x2 t3) ⟨_, (N₂ _ mnb₂).1, rfl, n0, rfl⟩ (by omega) (by omega) hx2 ?_
  k_steps
  dsimp only
  obtain ⟨ot, hot, eo⟩ := fmod10 (x2.fdiv 2)
  rw [eo]
  obtain ⟨vo, hvo, hno⟩ := hli₂ ot hot
  refine PyProof.Rows.item_list (items := lits) (x := vo) ⟨_, (N₂ _ hl₂).1, rfl, ln, rfl⟩ (by omega) (by omega) hvo ?_
  obtain ⟨hno0, ao, oits, on, rfl, hIo, hIto⟩ := id_of hno
  k_steps
  try dsimp only
  rename_i D₁ _ hl₃ _ _ _ F₃ N₃
  obtain ⟨kd, hkd, ek⟩ := kind_of de hde
  rw [ek] at F₃ N₃
  have W₃ := W₂.cons (D₁, { cls := Value.type "tuple", data := Data.seq #[Value.int kd tok₁, Value.ref ao] })
  have k₃ : Keeps tg tg news ((D₁, { cls := Value.type "tuple", data := Data.seq #[Value.int kd tok₁, Value.ref ao] }) :: n₂) fun _ => True := k₂.trans Keeps.cons
  have kc : Keeps tg tg n₂ ((D₁, { cls := Value.type "tuple", data := Data.seq #[Value.int kd tok₁, Value.ref ao] }) :: n₂) fun _ => True := Keeps.cons
  exact reg_two (wn := lawName wh) (on := lawName ot) hrb B X T hdep hun F₃ N₃ W₃ hfl hT hdp (fun b => ⟨hkd, ⟨lawName_ne wh, lawName_len wh⟩, ⟨lawName_ne ot, lawName_len ot⟩⟩) mk hk0 hk1 mn (hnm.mono k₃.im) msh (hsh.imp (fun h => h.mono k₃.im) id) rfl rfl (hno.mono kc.im) mN mS (k₃.lg _ hnb) hx2 (hQ.of (k₃.mono fun _ _ => trivial))
end Mine

end
section
-- N5
open PySem PySem.W PyProof.Rows PySem.Calls PySem.Spec
namespace Mine
local macro_rules | `(tactic| walk_at "idle 0") => `(tactic| fail)
local macro_rules | `(tactic| walk_at "idle 1") => `(tactic| fail)
set_option maxRecDepth 100000
local macro_rules | `(tactic| k_mem) => `(tactic| assumption)
local macro_rules | `(tactic| walk_at "eval Name") => `(tactic| (k_here; kc_free; k_dflt (refine' nameX_F ?N ?c ?m ?d ?_ ?a ?b; (case a => rfl); (case b => rfl); (case N => k_asm); (case c => rfl); (case m => k_mem); (case d => k_asm); k_whole)))
local macro_rules | `(tactic| walk_at "eval Name") => `(tactic| (k_here; k_dflt (refine' nameX_L ?F ?v ?_ ?a ?b; (case F => k_asm); (case v => first | assumption | rfl | exact (if_neg (by decide)).trans (by assumption) | exact (if_neg (by decide)).trans ((if_neg (by decide)).trans (by assumption)) | (repeat (first | assumption | refine (if_neg (by decide)).trans ?_))); (case a => rfl); (case b => rfl); k_whole)))
local macro_rules | `(tactic| walk_at "callWith ref") => `(tactic| (k_here; k_dflt (first
  | (refine' callWith_F ?k1 ?_; (case k1 => exact FnAt.of (by k_asm) (by k_mem)); k_whole)
  | (refine' callWith_F0 ?k1 ?_; (case k1 => exact FnAt.of (by k_asm) (by k_mem)); k_whole; try dsimp only [List.nil_append, List.cons_append]))))
local macro_rules | `(tactic| walk_at "FnAt") => `(tactic| (k_dflt (exact FnAt.of (by k_asm) (by k_mem))))


def emB : List Stmt := actsB.drop 1
def sendB : List Stmt := emB.drop 2

/-- the law's own sending, after the bus has done -/
def SentPost (w : World) (K : Frag) (cx : Cx) (h₀ : Heap) (L : Addr) (m : PySem.Str → Option Value) (σ' : St) (tg : Tags) (news : List (Addr × Obj)) (s : Shared) (Q : Flow → Shared → Prop) : Prop :=
  ∀ h' tk tg' news', Fr h₀ L h' m → News h₀ L h' news' → Wd w K cx σ' σ' tg' news' → Keeps tg tg' news news' sendT → Q .next ⟨h', s.gens, s.drawn, tk, s.os⟩
set_option maxHeartbeats 4000000 in
theorem send_part {w : World} {cx : Cx} {σ σ' : St} {tg : Tags} {fa : Addr} {id : Name} {d : PyData} {vn vd : Value}
    {A₀ : Around} {base h₀ : Heap} {outer : List Env} {L : Addr} {m mg mb : PySem.Str → Option Value} {pg : Program} {loose : List PySem.Str} {mean : ExcName → Option Value} {s : Shared} {news : List (Addr × Obj)} {dep un : Nat} {gd : Option (List Code)} {Q : Flow → Shared → Prop} {E : Value → Shared → Prop}
    {cb : List Stmt} (hcb : cb = sendB)
    (B : Below A₀ base outer h₀) (X : (hd.heap_39 w.params).In h₀) (T : Top pg loose mean mg mb h₀) (hdep : dep + 200 < recursionLimit) (hun : un + 500 < cLine)
    (F : Fr h₀ L s.heap m) (N : News h₀ L s.heap news) (W : Wd w (hd.heap_39 w.params) cx σ' σ tg news) (hL : Loop id d σ.cur 0 σ σ')
    (mn : m "name" = some vn) (hnm : NmAt w (Im (hd.heap_39 w.params) news tg) id vn) (h4 : id.length ≤ 4) (md : m "data" = some vd) (hvd : Rd w (Im (hd.heap_39 w.params) news tg) vd d) (hlog : σ'.log.length ≤ 1000000) (hT : σ'.T ≤ 100000)
    (hQ : SentPost w (hd.heap_39 w.params) cx h₀ L m σ' tg news s Q) :
    wpAny (model PySem.Challenge.rw_bi0010_01.row.prog w) ⟨none, dep, some (envLaw cx L fa :: outer), gd, un⟩ (execs cb (envLaw cx L fa)) Q E s := by
  w_top off
  subst hcb
  have hS : dScope lawD = dScope lawD := rfl
  conv at hS => rhs; whnf
  have h0 : dAt sendB 0 = dAt sendB 0 := rfl
  conv at h0 => rhs; whnf
  have hB : sendB = [dAt sendB 0] := rfl
  rw [h0] at hB
  clear h0
  revert X; k_fill; intro X
  show wpAny _ _ (execs sendB (envX "law" (dScope lawD) L fa (.ref 192) (lawCl cx))) _ _ s
  unfold envLaw lawCl
  rw [hS, hB]
  obtain ⟨oSend, ⟨mSend, _⟩, hdSend⟩ := W.base.cellSend
  obtain ⟨fnm, fdoc, fpm, fc', fctv, foc, ⟨mfs, _⟩, _⟩ := W.base.fSend
  k_steps
  refine send_ok (send_run hL) B X T rfl rfl (by split <;> omega) (by split <;> omega) F N W h4 hnm hvd hlog hT ?_
  intro h₁ tk₁ tg₁ n₁ F₁ N₁ W₁ k₁
  k_steps
  exact hQ h₁ tk₁ tg₁ n₁ F₁ N₁ W₁ k₁

/-- an emission of the script's own, with its bounds -/
theorem emis (σ : St) (id : Name) (d : PyData) (hw : σ.Wf) (hfl : σ.flag = false) (hZ : σ.Z ≤ 8) (hT : σ.T ≤ 728) (hlog : σ.log.length ≤ 160000) (hd : Deep 1 d) (hdp : DeepLog σ) :
    ∃ σ', Loop id d σ.cur 0 σ σ' ∧ σ'.flag = false ∧ σ'.Z = σ.Z ∧ σ'.T ≤ σ.T + 91 ∧ σ'.log.length ≤ σ.log.length + 20000 ∧ DeepLog σ' := by
  have b1 : σ.Z * (σ.Z + 1) ≤ 8 * 9 := Nat.mul_le_mul hZ (by omega)
  obtain ⟨σ', L, G⟩ := outer_ends (M := 800) (Z := σ.Z) σ id d hw hfl rfl (by omega)
  have b2 : σ.Z * (2 * (800 + σ.Z)) ≤ 8 * (2 * 808) := Nat.mul_le_mul hZ (by omega)
  have g1 := G.log
  have g2 := G.T
  exact ⟨σ', L, G.flag.trans hfl, G.Z, by omega, by omega, L.deep hd hdp⟩

set_option maxHeartbeats 4000000 in
theorem em_part {w : World} {cx : Cx} {σ : St} {tg : Tags} {nb fa : Addr} {de wh : Nat} {k : Int} {t0 t1 t2 : Tok} {vn vsh : Value}
    {A₀ : Around} {base h₀ : Heap} {outer : List Env} {L : Addr} {m mg mb : PySem.Str → Option Value} {pg : Program} {loose : List PySem.Str} {mean : ExcName → Option Value} {s : Shared} {news : List (Addr × Obj)} {dep un : Nat} {gd : Option (List Code)} {Q : Flow → Shared → Prop} {E : Value → Shared → Prop}
    {cb : List Stmt} (hcb : cb = emB)
    (B : Below A₀ base outer h₀) (X : (hd.heap_39 w.params).In h₀) (T : Top pg loose mean mg mb h₀) (hdep : dep + 200 < recursionLimit) (hun : un + 500 < cLine)
    (F : Fr h₀ L s.heap m) (N : News h₀ L s.heap news) (W : Wd w (hd.heap_39 w.params) cx σ σ tg news) (hfl : σ.flag = false) (hZ : σ.Z ≤ 8) (hT : σ.T ≤ 728) (hlog : σ.log.length ≤ 160000) (hdp : DeepLog σ)
    (mk : m "k" = some (.int k t0)) (hk0 : 0 ≤ k) (hk1 : k ≤ 100) (md : m "deed" = some (.int de t1)) (hde : de < 10) (mw : m "which" = some (.int wh t2)) (hwh : wh < 10) (mn : m "name" = some vn) (hnm : NmAt w (Im (hd.heap_39 w.params) news tg) (lawName wh) vn)
    (msh : m "short" = some vsh) (hsh : NmIn w (Im (hd.heap_39 w.params) news tg) (lawName wh) vsh) (mN : m "numbers" = some (.ref nb)) (mS : m "sieve" = some (.ref cx.fS))
    (hQ : ActsPost (fun f => f = .next) w (hd.heap_39 w.params) cx h₀ L nb σ tg news s Q) :
    wpAny (model PySem.Challenge.rw_bi0010_01.row.prog w) ⟨none, dep, some (envLaw cx L fa :: outer), gd, un⟩ (execs cb (envLaw cx L fa)) Q E s := by
  subst hcb
  have hS : dScope lawD = dScope lawD := rfl
  conv at hS => rhs; whnf
  have h0 : dAt emB 0 = dAt emB 0 := rfl
  conv at h0 => rhs; whnf
  have h1 : dAt emB 1 = dAt emB 1 := rfl
  conv at h1 => rhs; whnf
  have hB : emB = dAt emB 0 :: dAt emB 1 :: sendB := rfl
  rw [h0, h1] at hB
  clear h0 h1
  obtain ⟨sb, hsb⟩ : ∃ sb, sb = sendB := ⟨_, rfl⟩
  rw [← hsb] at hB
  have fin : ∀ (d : PyData) (σ' : St) (h' : Heap) (tk' : Nat) (gens' : Array GenState) (tg' : Tags) (n' : List (Addr × Obj)) (m' : PySem.Str → Option Value) (vd : Value), Loop (lawName wh) d σ.cur 0 σ σ' ∧ σ'.flag = false ∧ σ'.Z = σ.Z ∧ σ'.T ≤ σ.T + 91 ∧ σ'.log.length ≤ σ.log.length + 20000 ∧ DeepLog σ' →
      Fr h₀ L h' m' → News h₀ L h' n' → (AllBare s.gens → AllBare gens') → Wd w (hd.heap_39 w.params) cx σ' σ tg' n' → Keeps tg tg' news n' emT → m' "name" = some vn → m' "data" = some vd → Rd w (Im (hd.heap_39 w.params) n' tg') vd d → m' "numbers" = some (.ref nb) → m' "sieve" = some (.ref cx.fS) →
      wpAny (model PySem.Challenge.rw_bi0010_01.row.prog w) ⟨none, dep, some (envLaw cx L fa :: outer), gd, un⟩ (execs sb (envLaw cx L fa)) Q E ⟨h', gens', s.drawn, tk', s.os⟩ := by
    rintro d σ' h' tk' gens' tg' n' m' vd ⟨hL, c1, c2, c3, c4, c5⟩ F' N' hAB W' k' e1 e2 hrd e3 e4
    refine send_part hsb B X T hdep hun F' N' W' hL e1 (hnm.mono k'.im) (lawName_len wh) e2 hrd (by omega) (by omega) ?_
    intro h₂ tk₂ tg₂ n₂ F₂ N₂ W₂ k₂
    exact hQ .next h₂ tk₂ gens' tg₂ n₂ m' σ' rfl F₂ N₂ hAB W₂ ((k'.mono fun t ht => by obtain ⟨a, rfl⟩ := ht; trivial).trans (k₂.mono fun t ht => by obtain ⟨a, rfl⟩ := ht; trivial)) e3 e4 c1 (by omega) c3 c4 c5
  revert X; k_fill; intro X
  show wpAny _ _ (execs emB (envX "law" (dScope lawD) L fa (.ref 192) (lawCl cx))) _ _ s
  unfold envLaw lawCl
  rw [hS, hB]
  obtain ⟨oBus, ⟨mBus, _⟩, hdBus⟩ := W.base.cellBus
  obtain ⟨tdx, D, hsh', tok8, n8, hdx, tD⟩ := W.dx
  have hbus := W.base.bus.1
  rcases (by omega : wh = 0 ∨ wh = 1 ∨ wh = 2 ∨ wh = 3 ∨ 4 ≤ wh) with rfl | rfl | rfl | rfl | h4
  · k_steps
    rename_i h₁ F₁ N₁
    obtain ⟨σ', em⟩ := emis σ (lawName 0) (.int k) W.wfB hfl hZ hT hlog (.int k) hdp
    obtain ⟨hL, c1, c2, c3, c4, c5⟩ := id_of em
    refine vrf_ok hL hfl B X T rfl rfl (by omega) (by omega) F₁ N₁ W (by omega) (by omega) ?_
    intro h₂ tk₂ gens₂ tg₂ n₂ F₂ N₂ hAB₂ W₂ k₂
    clear F₁ N₁
    k_steps
    exact fin _ σ' h₂ tk₂ gens₂ tg₂ n₂ _ _ em F₂ N₂ hAB₂ W₂ k₂ mn rfl (.int k t0) mN mS
  · k_steps
    rename_i d₂ _ _ lt₂ lo₂ _ _ o₂ hd₂ hf₂ h₂ F₂ N₂
    have hf₃ : PyProof.V.FlatPairs PyData.str _ [(.str (PySem.Str.ofString "path"), .int k), (.str (PySem.Str.ofString "is_withdraw"), .bool ((de : Int) == 6))] := hf₂
    have hrd : Rd w (Im (hd.heap_39 w.params) ((d₂, o₂) :: news) tg) (.ref d₂) (dBest k ((de : Int) == 6)) := .dict (.inr ⟨.head _, tag_fresh W.base.ok lt₂⟩) lo₂ hd₂ hf₃ (keq_cons rfl (eqv_int k) (keq_cons rfl (eqv_bool _) .nil))
    clear hd₂ hf₂ hf₃ lo₂
    have W₁ := W.cons (d₂, o₂)
    have k₁ : Keeps tg tg news ((d₂, o₂) :: news) emT := Keeps.cons.mono fun _ _ => trivial
    obtain ⟨σ', em⟩ := emis σ (lawName 1) (dBest k ((de : Int) == 6)) W.wfB hfl hZ hT hlog (.dict _) hdp
    obtain ⟨hL, c1, c2, c3, c4, c5⟩ := id_of em
    refine best_ok hL hfl B X T rfl rfl (by omega) (by omega) F₂ N₂ W₁ (by omega) (by omega) ?_
    intro h₃ tk₃ gens₃ tg₃ n₃ F₃ N₃ hAB₃ W₃ k₃
    clear F₂ N₂
    k_steps
    exact fin _ σ' h₃ tk₃ gens₃ tg₃ n₃ _ _ em F₃ N₃ hAB₃ W₃ (k₁.trans k₃) mn rfl (hrd.mono k₃.im) mN mS
  · k_steps
    rename_i ha _ _ _ o₂ lt₂ lo₂ hd₂ hf₂ ap₂ h₂ F₂ N₂
    have hf₃ : PyProof.V.FlatPairs PyData.str _ [(.str (PySem.Str.ofString "peer"), .int k)] := hf₂
    have hrd : Rd w (Im (hd.heap_39 w.params) ((ha.objs.size, o₂) :: news) tg) (.ref ha.objs.size) (dAdj k) := .dict (.inr ⟨.head _, tag_fresh W.base.ok lt₂⟩) lo₂ hd₂ hf₃ (keq_cons rfl (eqv_int k) .nil)
    clear hd₂ hf₂ hf₃ lo₂ ap₂
    have W₁ := W.cons (ha.objs.size, o₂)
    have k₁ : Keeps tg tg news ((ha.objs.size, o₂) :: news) emT := Keeps.cons.mono fun _ _ => trivial
    generalize ha.objs.size = dA at *
    obtain ⟨σ', em⟩ := emis σ (lawName 2) (dAdj k) W.wfB hfl hZ hT hlog (.dict _) hdp
    obtain ⟨hL, c1, c2, c3, c4, c5⟩ := id_of em
    refine adj_ok hL hfl B X T rfl rfl (by omega) (by omega) F₂ N₂ W₁ (by omega) (by omega) ?_
    intro h₃ tk₃ gens₃ tg₃ n₃ F₃ N₃ hAB₃ W₃ k₃
    clear F₂ N₂
    k_steps
    exact fin _ σ' h₃ tk₃ gens₃ tg₃ n₃ _ _ em F₃ N₃ hAB₃ W₃ (k₁.trans k₃) mn rfl (hrd.mono k₃.im) mN mS
  · k_steps
    rename_i ha _ _ _ _ o₂ lt₂ lo₂ hd₂ hf₂ ap₂ h₂ F₂ N₂
    have hf₃ : PyProof.V.FlatPairs PyData.str _ [(.str (PySem.Str.ofString "code"), .int k), (.str (PySem.Str.ofString "subcode"), .int de), (.str (PySem.Str.ofString "reason"), .none), (.str (PySem.Str.ofString "peer"), .int 7)] := hf₂
    have hrd : Rd w (Im (hd.heap_39 w.params) ((ha.objs.size, o₂) :: news) tg) (.ref ha.objs.size) (dErr k de) := .dict (.inr ⟨.head _, tag_fresh W.base.ok lt₂⟩) lo₂ hd₂ hf₃ (keq_cons rfl (eqv_int k) (keq_cons rfl (eqv_int de) (keq_cons rfl rfl (keq_cons rfl (eqv_int 7) .nil))))
    clear hd₂ hf₂ hf₃ lo₂ ap₂
    have W₁ := W.cons (ha.objs.size, o₂)
    have k₁ : Keeps tg tg news ((ha.objs.size, o₂) :: news) emT := Keeps.cons.mono fun _ _ => trivial
    generalize ha.objs.size = dA at *
    obtain ⟨σ', em⟩ := emis σ (lawName 3) (dErr k de) W.wfB hfl hZ hT hlog (.dict _) hdp
    obtain ⟨hL, c1, c2, c3, c4, c5⟩ := id_of em
    refine err_ok hL hfl B X T rfl rfl (by omega) (by omega) F₂ N₂ W₁ (by omega) (by omega) ?_
    intro h₃ tk₃ gens₃ tg₃ n₃ F₃ N₃ hAB₃ W₃ k₃
    clear F₂ N₂
    k_steps
    exact fin _ σ' h₃ tk₃ gens₃ tg₃ n₃ _ _ em F₃ N₃ hAB₃ W₃ (k₁.trans k₃) mn rfl (hrd.mono k₃.im) mN mS
  · k_steps
    all_goals first | (exfalso; omega) | skip
    obtain ⟨σ', em⟩ := emis σ (lawName wh) (.int k) W.wfB hfl hZ hT hlog (.int k) hdp
    obtain ⟨hL, c1, c2, c3, c4, c5⟩ := id_of em
    refine emit_ok hL (loop_run hL) B X T rfl rfl (by rw [hfl]; simp only [Bool.false_eq_true, if_false]; omega) (by rw [hfl]; simp only [Bool.false_eq_true, if_false]; omega) ‹Fr _ _ _ _› ‹News _ _ _ _› W hsh (lawName_ne wh) (.int k t0) (by omega) (by omega) ?_
    intro h₂ tk₂ gens₂ tg₂ n₂ F₂ N₂ hAB₂ W₂ k₂
    k_steps
    exact fin _ σ' h₂ tk₂ gens₂ tg₂ n₂ _ _ em F₂ N₂ hAB₂ W₂ k₂ mn rfl (.int k t0) mN mS
end Mine

end
section
-- N3
open PySem PySem.W PyProof.Rows PySem.Calls PySem.Spec
namespace Mine
local macro_rules | `(tactic| walk_at "idle 0") => `(tactic| fail)
local macro_rules | `(tactic| walk_at "idle 1") => `(tactic| fail)
local macro_rules | `(tactic| walk_at "idle 2") => `(tactic| fail)
set_option maxRecDepth 100000
local macro_rules | `(tactic| k_mem) => `(tactic| assumption)
local macro_rules | `(tactic| walk_at "eval Name") => `(tactic| (k_here; kc_free; k_dflt (refine' nameX_F ?N ?c ?m ?d ?_ ?a ?b; (case a => rfl); (case b => rfl); (case N => k_asm); (case c => rfl); (case m => k_mem); (case d => k_asm); k_whole)))
local macro_rules | `(tactic| walk_at "eval Name") => `(tactic| (k_here; k_dflt (refine' nameX_L ?F ?v ?_ ?a ?b; (case F => k_asm); (case v => first | assumption | rfl | exact (if_neg (by decide)).trans (by assumption) | exact (if_neg (by decide)).trans ((if_neg (by decide)).trans (by assumption)) | (repeat (first | assumption | refine (if_neg (by decide)).trans ?_))); (case a => rfl); (case b => rfl); k_whole)))
local macro_rules | `(tactic| walk_at "callWith ref") => `(tactic| (k_here; k_dflt (first
  | (refine' callWith_F ?k1 ?_; (case k1 => exact FnAt.of (by k_asm) (by k_mem)); k_whole)
  | (refine' callWith_F0 ?k1 ?_; (case k1 => exact FnAt.of (by k_asm) (by k_mem)); k_whole; try dsimp only [List.nil_append, List.cons_append]))))
local macro_rules | `(tactic| walk_at "FnAt") => `(tactic| (k_dflt (exact FnAt.of (by k_asm) (by k_mem))))

def ifTest : Stmt → Expr | .If t .. => t | _ => .Constant .none 0 default
def ifPos : Stmt → Pos | .If _ _ _ p => p | _ => default
set_option maxHeartbeats 4000000 in
theorem acts_ok {w : World} {cx : Cx} {σ : St} {tg : Tags} {nb fa : Addr} {vs : Array Value} {n0 de wh : Nat} {k x2 : Int} {t0 t1 t2 t3 : Tok} {vn vsh : Value}
    {A₀ : Around} {base h₀ : Heap} {outer : List Env} {L : Addr} {m mg mb : PySem.Str → Option Value} {pg : Program} {loose : List PySem.Str} {mean : ExcName → Option Value} {s : Shared} {news : List (Addr × Obj)} {dep un : Nat} {gd : Option (List Code)} {Q : Flow → Shared → Prop} {E : Value → Shared → Prop}
    {cb : List Stmt} (hcb : cb = actsB)
    (B : Below A₀ base outer h₀) (X : (hd.heap_39 w.params).In h₀) (T : Top pg loose mean mg mb h₀) (hdep : dep + 200 < recursionLimit) (hun : un + 500 < cLine)
    (F : Fr h₀ L s.heap m) (N : News h₀ L s.heap news) (W : Wd w (hd.heap_39 w.params) cx σ σ tg news) (hfl : σ.flag = false) (hZ : σ.Z ≤ 8) (hT : σ.T ≤ 728) (hlog : σ.log.length ≤ 160000) (hdp : DeepLog σ)
    (mk : m "k" = some (.int k t0)) (hk0 : 0 ≤ k) (hk1 : k ≤ 100) (md : m "deed" = some (.int de t1)) (hde : de < 10) (mw : m "which" = some (.int wh t2)) (hwh : wh < 10) (mn : m "name" = some vn) (hnm : NmAt w (Im (hd.heap_39 w.params) news tg) (lawName wh) vn)
    (msh : m "short" = some vsh) (hsh : NmIn w (Im (hd.heap_39 w.params) news tg) (lawName wh) vsh) (mN : m "numbers" = some (.ref nb)) (mS : m "sieve" = some (.ref cx.fS)) (hnb : Lg news tg (nb, PySem.W.listOf vs n0)) (hx2 : vs[(k + 2).toNat]? = some (.int x2 t3))
    (hQ : ActsPost (fun f => f = .next ∨ f = .cont) w (hd.heap_39 w.params) cx h₀ L nb σ tg news s Q) :
    wpAny (model PySem.Challenge.rw_bi0010_01.row.prog w) ⟨none, dep, some (envLaw cx L fa :: outer), gd, un⟩ (execs cb (envLaw cx L fa)) Q E s := by
  w_top off
  subst hcb
  have hS : dScope lawD = dScope lawD := rfl
  conv at hS => rhs; whnf
  have h0 : ifTest (dAt actsB 0) = ifTest (dAt actsB 0) := rfl
  conv at h0 => rhs; whnf
  have h1 : ifPos (dAt actsB 0) = ifPos (dAt actsB 0) := rfl
  conv at h1 => rhs; whnf
  have hB : actsB = .If (ifTest (dAt actsB 0)) regB [] (ifPos (dAt actsB 0)) :: emB := rfl
  rw [h0, h1] at hB
  clear h0 h1
  obtain ⟨rb, hrb⟩ : ∃ rb, rb = regB := ⟨_, rfl⟩
  obtain ⟨eb, heb⟩ : ∃ eb, eb = emB := ⟨_, rfl⟩
  rw [← hrb, ← heb] at hB
  revert X; k_fill; intro X
  show wpAny _ _ (execs actsB (envX "law" (dScope lawD) L fa (.ref 192) (lawCl cx))) _ _ s
  unfold envLaw lawCl
  rw [hS, hB]
  k_steps
  · rename_i hlt
    exact reg_part hrb B X T hdep hun F N W hfl hT hdp mk hk0 hk1 md (by omega) mw hwh mn hnm msh hsh mN mS hnb hx2 (fun fl h' tk gens' tg' news' m' σ' h1 => by
      subst h1
      exact hQ .cont h' tk gens' tg' news' m' σ' (.inr rfl))
  · exact em_part heb B X T hdep hun F N W hfl hZ hT hlog hdp mk hk0 hk1 md hde mw hwh mn hnm msh hsh mN mS (fun fl h' tk gens' tg' news' m' σ' h1 => by
      subst h1
      exact hQ .next h' tk gens' tg' news' m' σ' (.inl rfl))
end Mine

end
section
-- N2
open PySem PySem.W PyProof.Rows PySem.Calls PySem.Spec
namespace Mine
local macro_rules | `(tactic| walk_at "idle 0") => `(tactic| fail)
local macro_rules | `(tactic| walk_at "idle 1") => `(tactic| fail)
local macro_rules | `(tactic| walk_at "idle 2") => `(tactic| fail)
local macro_rules | `(tactic| walk_at "idle 3") => `(tactic| fail)
set_option maxRecDepth 100000
local macro_rules | `(tactic| k_mem) => `(tactic| assumption)
local macro_rules | `(tactic| walk_at "eval Name") => `(tactic| (k_here; kc_free; k_dflt (refine' nameX_F ?N ?c ?m ?d ?_ ?a ?b; (case a => rfl); (case b => rfl); (case N => k_asm); (case c => rfl); (case m => k_mem); (case d => k_asm); k_whole)))
local macro_rules | `(tactic| walk_at "eval Name") => `(tactic| (k_here; k_dflt (refine' nameX_L ?F ?v ?_ ?a ?b; (case F => k_asm); (case v => first | assumption | rfl | exact (if_neg (by decide)).trans (by assumption) | exact (if_neg (by decide)).trans ((if_neg (by decide)).trans (by assumption)) | (repeat (first | assumption | refine (if_neg (by decide)).trans ?_))); (case a => rfl); (case b => rfl); k_whole)))
local macro_rules | `(tactic| walk_at "callWith ref") => `(tactic| (k_here; k_dflt (first
  | (refine' callWith_F ?k1 ?_; (case k1 => exact FnAt.of (by k_asm) (by k_mem)); k_whole)
  | (refine' callWith_F0 ?k1 ?_; (case k1 => exact FnAt.of (by k_asm) (by k_mem)); k_whole; try dsimp only [List.nil_append, List.cons_append]))))
local macro_rules | `(tactic| walk_at "FnAt") => `(tactic| (k_dflt (exact FnAt.of (by k_asm) (by k_mem))))

theorem items_one {prog : Program} {w : World} {x : PySem.Str} {a : Array Value} (h : PySem.ItemsAre (atomKind prog w) [.s x] a.toList) : ∃ t, a = #[.str x t] := by
  obtain ⟨l⟩ := a
  change PySem.ItemsAre _ _ l at h
  cases h with
  | cons h1 h2 =>
    cases h2
    obtain ⟨t, rfl⟩ := atomIs_s h1
    exact ⟨t, rfl⟩
set_option maxHeartbeats 4000000 in
theorem law_turn {w : World} {cx : Cx} {σ : St} {tg : Tags} {nb fa I : Addr} {vs : Array Value} {n0 j left : Nat} {ns : List Int}
    {A₀ : Around} {base h₀ : Heap} {outer : List Env} {L : Addr} {m mg mb : PySem.Str → Option Value} {pg : Program} {loose : List PySem.Str} {mean : ExcName → Option Value} {s : Shared} {news : List (Addr × Obj)} {dep un : Nat} {gd : Option (List Code)} {R : Result → Shared → Prop}
    (B : Below A₀ base outer h₀) (X : (hd.heap_39 w.params).In h₀) (T : Top pg loose mean mg mb h₀) (hdep : dep + 200 < recursionLimit) (hun : un + 500 < cLine)
    (F : Fr h₀ L s.heap m) (N : News h₀ L s.heap news) (V : LawInv w (hd.heap_39 w.params) cx nb vs n0 j σ tg news m) (hj : j + (left + 1) ≤ 9) (hvs : IntsAre vs.toList ns) (hsz : 3 * (j + (left + 1)) ≤ vs.size) (hsz2 : vs.size ≤ 100)
    (hI : (I, iterO (3 * j) (left + 1)) ∈ news) (tI : tg I = some (.tmp I))
    (hnext : ∀ h' tk gens' tg' news' m' σ', Fr h₀ L h' m' → News h₀ L h' news' → (AllBare s.gens → AllBare gens') → LawInv w (hd.heap_39 w.params) cx nb vs n0 (j + 1) σ' tg' news' m' → (I, iterO (3 * (j + 1)) left) ∈ news' → tg' I = some (.tmp I) → (∀ p, Lg news tg p → Lg news' tg' p) →
      codeAny (model PySem.Challenge.rw_bi0010_01.row.prog w) ⟨none, dep, some (envLaw cx L fa :: outer), gd, un⟩ (forLaw cx L fa I) R ⟨h', gens', s.drawn, tk, s.os⟩) :
    codeAny (model PySem.Challenge.rw_bi0010_01.row.prog w) ⟨none, dep, some (envLaw cx L fa :: outer), gd, un⟩ (forLaw cx L fa I) R s := by
  w_top off
  have hS : dScope lawD = dScope lawD := rfl
  conv at hS => rhs; whnf
  have hTt : forTarget lawFor = forTarget lawFor := rfl
  conv at hTt => rhs; whnf
  have h0 : dAt (forBody lawFor) 0 = dAt (forBody lawFor) 0 := rfl
  conv at h0 => rhs; whnf
  have h1 : dAt (forBody lawFor) 1 = dAt (forBody lawFor) 1 := rfl
  conv at h1 => rhs; whnf
  have h2 : dAt (forBody lawFor) 2 = dAt (forBody lawFor) 2 := rfl
  conv at h2 => rhs; whnf
  have hB : forBody lawFor = dAt (forBody lawFor) 0 :: dAt (forBody lawFor) 1 :: dAt (forBody lawFor) 2 :: actsB := rfl
  rw [h0, h1, h2] at hB
  clear h0 h1 h2
  obtain ⟨bb, hbb⟩ : ∃ bb, bb = actsB := ⟨_, rfl⟩
  rw [← hbb] at hB
  revert X; k_fill; intro X
  show codeAny _ _ (.forLoop (forTarget lawFor) (.ref I) (forBody lawFor) [] (envX "law" (dScope lawD) L fa (.ref 192) (lawCl cx))) R s
  unfold envLaw lawCl
  rw [hS, hTt, hB]
  clear hTt
  refine forLoop_turn ?_
  refine wpAny_pyNext_range_item (N _ hI).1 (by omega) fun h₁ hit₁ hs₁ => ?_
  obtain ⟨F₁, N₁⟩ := upd F N hI hs₁ hit₁
  have ⟨W₁, k₁⟩ := V.W.tmpSet (o' := iterO (3 * j + 3) (left + 1 - 1)) tI
  have mI₁ : (I, iterO (3 * j + 3) (left + 1 - 1)) ∈ setN I (iterO (3 * j + 3) (left + 1 - 1)) news := mem_setN hI
  have gnb := k₁.lg _ V.nums
  change News h₀ L h₁ (setN I (iterO (3 * j + 3) (left + 1 - 1)) news) at N₁
  generalize setN I (iterO (3 * j + 3) (left + 1 - 1)) news = n₁ at N₁ W₁ k₁ mI₁ gnb
  show wpAny _ _ (pure ()) _ _ _
  refine wpAny_pure (wpAny_assign_Name ?_)
  have mN := V.mN
  have mS := V.mS
  have mnb := gnb.1
  obtain ⟨x0, t0, hx0⟩ : ∃ x t, vs[(3 * (j : Int)).toNat]? = some (.int x t) := ints_at hvs (by omega)
  obtain ⟨x1, t1, hx1⟩ : ∃ x t, vs[(3 * (j : Int) + 1).toNat]? = some (.int x t) := ints_at hvs (by omega)
  clear N F
  k_steps
  rename_i h₂ F₂ N₂
  refine PyProof.Rows.item_list (items := vs) (x := .int x0 t0) ⟨_, (N₂ _ mnb).1, rfl, n0, rfl⟩ (by omega) (by omega) hx0 ?_
  k_steps
  dsimp only
  refine PyProof.Rows.item_list (items := vs) (x := .int x1 t1) ⟨_, (N₂ _ mnb).1, rfl, n0, rfl⟩ (by omega) (by omega) hx1 ?_
  k_steps
  dsimp only
  rename_i D₁ _ l₁ _ _ h₃ F₃ N₃
  obtain ⟨de, hde, e0⟩ := fmod10 x0
  obtain ⟨wh, hwh, e1⟩ := fmod10 x1
  rw [e0, e1] at N₃ F₃
  refine names_ok B X T rfl rfl (by omega) F₃ N₃ ?_
  intro h₄ tk₄ ll nw F₄ N₄ hnw hll
  obtain ⟨lits, ln, hl, hls, hli⟩ := hll
  obtain ⟨v, hv, hnm⟩ := hli wh hwh
  clear F₃ N₃
  k_steps
  dsimp only
  generalize hT : ({ cls := .type "tuple", data := .seq #[.int de _, .int wh _] } : Obj) = oT at N₄ hnw
  have W₂ := (W₁.cons (D₁, oT)).app nw
  have k₂ : Keeps tg tg news (nw ++ (D₁, oT) :: n₁) fun q => q ≠ .tmp I := k₁.trans ((Keeps.cons.trans (Keeps.app nw)).mono fun _ _ => trivial)
  have mI₂ : (I, iterO (3 * j + 3) (left + 1 - 1)) ∈ nw ++ (D₁, oT) :: n₁ := List.mem_append_right _ (.tail _ mI₁)
  have hnm₂ : NmAt w (Im (hd.heap_39 w.params) (nw ++ (D₁, oT) :: n₁) tg) (lawName wh) v := hnm.mono fun p hp => .inr ⟨List.mem_append_left _ hp, tag_fresh (W₁.cons (D₁, oT)).base.ok (hnw p hp)⟩
  refine PyProof.Rows.item_list (items := lits) (x := v) ⟨_, (N₄ _ (List.mem_append_left _ hl)).1, rfl, ln, rfl⟩ (by omega) (by omega) hv ?_
  clear hnw hT
  generalize nw ++ (D₁, oT) :: n₁ = n₂ at *
  obtain ⟨hne, av, nits, nn, rfl, hIm, hIt⟩ := hnm₂
  k_steps
  rename_i h₅ F₅ N₅
  have hTup : h₅.get? av = some (tupO nits nn) := im_get F₅ X N₅ hIm
  have hlen : nits.size = (lawName wh).length := by
    have := hIt.length
    rw [Array.length_toList] at this
    exact this.symm
  have hnl : nits.size ≤ 4 := by rw [hlen]; exact lawName_len wh
  have finish : ∀ body, body = forBody lawFor → ∀ vsh h₆ m₆ tk₆, NmIn w (Im (hd.heap_39 w.params) n₂ tg) (lawName wh) vsh → Fr h₀ L h₆ m₆ → News h₀ L h₆ n₂ → (∃ t, m₆ "k" = some (.int (3 * j) t)) → (∃ t, m₆ "deed" = some (.int de t)) → (∃ t, m₆ "which" = some (.int wh t)) → m₆ "name" = some (.ref av) → m₆ "short" = some vsh → m₆ "numbers" = some (.ref nb) → m₆ "sieve" = some (.ref cx.fS) →
      wpAny (model PySem.Challenge.rw_bi0010_01.row.prog w) ⟨none, dep, some (envLaw cx L fa :: outer), gd, un⟩ (execs bb (envLaw cx L fa)) (fun f s₃ => match f with
            | .next | .cont => codeAny (model PySem.Challenge.rw_bi0010_01.row.prog w) ⟨none, dep, some (envLaw cx L fa :: outer), gd, un⟩ (.forLoop (forTarget lawFor) (.ref I) body [] (envLaw cx L fa)) R s₃
            | .brk => R (.ok .next) s₃
            | .ret v => R (.ok (.ret v)) s₃) (notedBy (model PySem.Challenge.rw_bi0010_01.row.prog w) ⟨none, dep, some (envLaw cx L fa :: outer), gd, un⟩ (envLaw cx L fa) fun e s' => R (.error e) s') ⟨h₆, s.gens, s.drawn, tk₆, s.os⟩ := by
    rintro body rfl vsh h₆ m₆ tk₆ hsh F₆ N₆ ⟨a0, e0⟩ ⟨a1, e1⟩ ⟨a2, e2⟩ e3 e4 e5 e6
    obtain ⟨x2, t2, hx2⟩ : ∃ x t, vs[(3 * (j : Int) + 2).toNat]? = some (.int x t) := ints_at hvs (by omega)
    have z := V.Z
    have tt := V.T
    have lg := V.log
    refine acts_ok hbb B X T hdep hun F₆ N₆ W₂ V.flag (by omega) (by omega) (by omega) V.deep e0 (by omega) (by omega) e1 hde e2 hwh e3 ⟨hne, av, nits, nn, rfl, hIm, hIt⟩ e4 hsh e5 e6 (k₂.lg _ V.nums) hx2 ?_
    intro fl h' tk' gens' tg' news' m' σ' hfl F' N' hAB W' k' b1 b2 b3 b4 b5 b6 b7
    have r := hnext h' tk' gens' tg' news' m' σ' F' N' hAB ⟨W', b3, by omega, by omega, by omega, b7, k'.lg _ (k₂.lg _ V.nums), b1, b2⟩ (by
      have h1 := k'.mu _ _ _ mI₂ (k₂.tg _ _ tI) ⟨_, rfl⟩
      have c1 : (3 : Int) * (j : Int) + 3 = 3 * ((j : Int) + 1) := by omega
      have c2 : (left : Int) + 1 - 1 = left := by omega
      rw [c1, c2] at h1
      exact h1) (k'.tg _ _ (k₂.tg _ _ tI)) (fun p hp => k'.lg _ (k₂.lg _ hp))
    rcases hfl with rfl | rfl
    · exact r
    · exact r
  refine PyProof.Rows.len_tuple (items := nits) ⟨_, hTup, rfl, nn, rfl⟩ (by omega) ?_
  k_steps
  · rename_i h1
    obtain ⟨x, hx⟩ := lawName_one wh (by omega)
    rw [hx] at hIt
    obtain ⟨tx, hnx⟩ := items_one hIt
    subst hnx
    refine PyProof.Rows.item_tuple (items := #[.str x tx]) (j := 0) (x := .str x tx) ⟨_, hTup, rfl, nn, rfl⟩ (by decide) (by decide) rfl rfl ?_
    k_steps
    rename_i h₆ F₆ N₆
    exact finish _ hB.symm _ _ _ _ (.inr ⟨x, tx, hx, rfl⟩) F₆ N₆ ⟨_, rfl⟩ ⟨_, rfl⟩ ⟨_, rfl⟩ rfl rfl mN mS
  · rename_i h₆ F₆ N₆
    exact finish _ hB.symm _ _ _ _ (.inl ⟨hne, av, nits, nn, rfl, hIm, hIt⟩) F₆ N₆ ⟨_, rfl⟩ ⟨_, rfl⟩ ⟨_, rfl⟩ rfl rfl mN mS
end Mine

end
section
-- N7
open PySem PySem.W PyProof.Rows PySem.Calls PySem.Spec
namespace Mine
set_option maxRecDepth 100000

section
variable {prog : Program} {w : World} {A : Around} {E : Value → Shared → Prop} {s : Shared}
/-- the range iterator at its end: all that stood stands -/
theorem range_end_S {it : Addr} {x left step : Int} {Q : Option Value → Shared → Prop} (hh : A.handled = none) (hit : IsRangeIter s.heap it x left step) (hleft : left ≤ 0)
    (hQ : ∀ h', (∀ b o, s.heap.get? b = some o → h'.get? b = some o) → Q none { s with heap := h' }) : wpAny (model prog w) A (pyNext (.ref it)) Q E s := by
  have hT : s.TypeIs (.ref it) "range_iterator" := ⟨_, hit, rfl⟩
  unfold pyNext
  refine wpAny_bind (wpAny_attempt (wpAny_callSpecial?_slot (name := Str.ofString "__next__") hT F.slot_range_iterator_next
    (wpAny_call_entry F.slot_range_iterator_next hT F.entry_range_iterator_next ?_ (F.args_range_iterator_next_1 _))))
  show wpAny _ _ (field (.ref it) 0 >>= _) _ _ s
  refine wpAny_bind (wpAny_field hit rfl (x := rawInt x) rfl ?_)
  show wpAny _ _ (field (.ref it) 1 >>= _) _ _ s
  refine wpAny_bind (wpAny_field hit rfl (x := rawInt left) rfl ?_)
  show wpAny _ _ (field (.ref it) 2 >>= _) _ _ s
  refine wpAny_bind (wpAny_field hit rfl (x := rawInt step) rfl ?_)
  show wpAny _ _ (if left ≤ 0 then _ else _) _ _ s
  rw [if_pos hleft]
  refine wpAny_bind (wpAny_rule (wpAny_bind ?_))
  show wpAny _ _ (newExc (.type "StopIteration") [] >>= _) _ _ _
  refine wpAny_bind ?_
  simp only [newExc, newTuple]
  refine wpAny_bind (wpAny_newObj_type ?_ (by size_fits))
  refine wpAny_bind (m := firstArgMember _ _) (wpAny_of_eq (a := Value.none) (by first | rfl | (simp only [firstArgMember]; rfl)) ?_)
  refine wpAny_newObj_type ?_ (by size_fits)
  simp only [raiseNew]
  refine wpAny_bind (wpAny_handled ?_)
  rw [show A.in1.handled = none from hh]
  refine wpAny_bind (wpAny_pure (wpAny_throw ?_))
  refine wpAny_bind (wpAny_isInstance (T := "StopIteration") (b := true) ⟨_, Heap.get?_push_size _ rfl, rfl⟩ isSubtype_stop ?_)
  exact wpAny_pure (hQ _ fun b o e => Heap.get?_push_of_some _ (Heap.get?_push_of_some _ e))
end

set_option maxHeartbeats 2000000 in
theorem law_run {w : World} {cx : Cx} {nb fa I : Addr} {vs : Array Value} {n0 : Nat} {ns : List Int}
    {A₀ : Around} {base h₀ : Heap} {outer : List Env} {L : Addr} {mg mb : PySem.Str → Option Value} {pg : Program} {loose : List PySem.Str} {mean : ExcName → Option Value} {dep un : Nat} {gd : Option (List Code)} {R : Result → Shared → Prop}
    (B : Below A₀ base outer h₀) (X : (hd.heap_39 w.params).In h₀) (T : Top pg loose mean mg mb h₀) (hdep : dep + 200 < recursionLimit) (hun : un + 500 < cLine) (hvs : IntsAre vs.toList ns) (hsz2 : vs.size ≤ 100) :
    ∀ (left j : Nat) {σ : St} {tg : Tags} {m : PySem.Str → Option Value} {s : Shared} {news : List (Addr × Obj)}
      (_ : Fr h₀ L s.heap m) (_ : News h₀ L s.heap news) (_ : LawInv w (hd.heap_39 w.params) cx nb vs n0 j σ tg news m) (_ : j + left ≤ 9) (_ : 3 * (j + left) ≤ vs.size)
      (_ : (I, iterO (3 * j) left) ∈ news) (_ : tg I = some (.tmp I))
      (_ : ∀ h' tk gens' tg' news' m' σ', Fr h₀ L h' m' → News h₀ L h' news' → (AllBare s.gens → AllBare gens') → Wd w (hd.heap_39 w.params) cx σ' σ' tg' news' → DeepLog σ' → (∀ p, Lg news tg p → Lg news' tg' p) → R (.ok .next) ⟨h', gens', s.drawn, tk, s.os⟩),
      codeAny (model PySem.Challenge.rw_bi0010_01.row.prog w) ⟨none, dep, some (envLaw cx L fa :: outer), gd, un⟩ (forLaw cx L fa I) R s
  | 0, j, σ, tg, m, s, news, F, N, V, hj, hsz, hI, tI, hR => by
    refine forLoop_turn ?_
    refine range_end_S rfl (N _ hI).1 (by omega) fun h₁ he₁ => ?_
    have F₁ : Fr h₀ L h₁ m := ⟨F.ns.keeps he₁, fun b o e => he₁ b o (F.keep b o e), F.above⟩
    refine wpAny_execs_nil ?_
    exact hR h₁ s.toks s.gens tg news m σ F₁ (fun p hp => ⟨he₁ _ _ (N p hp).1, (N p hp).2⟩) (fun h => h) V.W V.deep fun _ h => h
  | left + 1, j, σ, tg, m, s, news, F, N, V, hj, hsz, hI, tI, hR => by
    refine law_turn B X T hdep hun F N V (by omega) hvs (by omega) hsz2 ?_ tI ?_
    · have e : ((left + 1 : Nat) : Int) = (left : Int) + 1 := by omega
      rw [e] at hI
      exact hI
    · intro h' tk gens' tg' news' m' σ' F' N' hAB V' hI' tI' k'
      refine law_run B X T hdep hun hvs hsz2 left (j + 1) F' N' V' (by omega) (by omega) ?_ tI' ?_
      · have e : ((j + 1 : Nat) : Int) = (j : Int) + 1 := by omega
        rw [e]
        exact hI'
      · exact fun h₂ tk₂ gens₂ tg₂ news₂ m₂ σ₂ F₂ N₂ hAB₂ W₂ D₂ k₂ => hR h₂ tk₂ gens₂ tg₂ news₂ m₂ σ₂ F₂ N₂ (fun h => hAB₂ (hAB h)) W₂ D₂ (fun p hp => k₂ p (k' p hp))
end Mine

end
section
-- N8
open PySem PySem.W PyProof.Rows PySem.Calls PySem.Spec
namespace Mine
local macro_rules | `(tactic| walk_at "idle 0") => `(tactic| fail)
local macro_rules | `(tactic| walk_at "idle 1") => `(tactic| fail)
set_option maxRecDepth 100000
local macro_rules | `(tactic| k_mem) => `(tactic| assumption)
local macro_rules | `(tactic| walk_at "eval Name") => `(tactic| (k_here; kc_free; k_dflt (refine' nameX_F ?N ?c ?m ?d ?_ ?a ?b; (case a => rfl); (case b => rfl); (case N => k_asm); (case c => rfl); (case m => k_mem); (case d => k_asm); k_whole)))
local macro_rules | `(tactic| walk_at "eval Name") => `(tactic| (k_here; k_dflt (refine' nameX_L ?F ?v ?_ ?a ?b; (case F => k_asm); (case v => first | assumption | rfl | exact (if_neg (by decide)).trans (by assumption) | exact (if_neg (by decide)).trans ((if_neg (by decide)).trans (by assumption)) | (repeat (first | assumption | refine (if_neg (by decide)).trans ?_))); (case a => rfl); (case b => rfl); k_whole)))
local macro_rules | `(tactic| walk_at "callWith ref") => `(tactic| (k_here; k_dflt (first
  | (refine' callWith_F ?k1 ?_; (case k1 => exact FnAt.of (by k_asm) (by k_mem)); k_whole)
  | (refine' callWith_F0 ?k1 ?_; (case k1 => exact FnAt.of (by k_asm) (by k_mem)); k_whole; try dsimp only [List.nil_append, List.cons_append]))))
local macro_rules | `(tactic| walk_at "FnAt") => `(tactic| (k_dflt (exact FnAt.of (by k_asm) (by k_mem))))


def forB : List Stmt := (dBody lawD).drop 7
def retB : List Stmt := (dBody lawD).drop 8
def forIter : Stmt → Expr | .For _ i .. => i | _ => .Constant .none 0 default
def forPos : Stmt → Pos | .For _ _ _ _ p => p | _ => default
def σ0 : St := ⟨[[]], [], false⟩
theorem range_q (n : Nat) : ∃ q : Nat, Builtin.Range.rangeSize 0 ((n : Int) - 2) 3 = (q : Int) ∧ 3 * q ≤ n := by
  unfold Builtin.Range.rangeSize
  rw [if_pos (by decide)]
  split
  · exact ⟨(((n : Int) - 2 - 0 - 1) / 3 + 1).toNat, by omega, by omega⟩
  · exact ⟨0, rfl, by omega⟩
theorem range_small (n : Nat) (h : n ≤ 27) : Builtin.Range.small 0 ((n : Int) - 2) 3 = true :=
  (by decide : ∀ n : Fin 28, Builtin.Range.small 0 ((n.val : Int) - 2) 3 = true) ⟨n, by omega⟩
set_option maxHeartbeats 4000000 in
theorem for_part {w : World} {cx : Cx} {tg : Tags} {nb fa ls : Addr} {us vs : List Value} {ns ms : List Int} {n0 : Nat}
    {A₀ : Around} {base h₀ : Heap} {outer : List Env} {L : Addr} {m mg mb : PySem.Str → Option Value} {pg : Program} {loose : List PySem.Str} {mean : ExcName → Option Value} {s : Shared} {news : List (Addr × Obj)} {dep un : Nat} {gd : Option (List Code)} {Q : Flow → Shared → Prop} {E : Value → Shared → Prop}
    (B : Below A₀ base outer h₀) (X : (hd.heap_39 w.params).In h₀) (T : Top pg loose mean mg mb h₀) (hdep : dep + 200 < recursionLimit) (hun : un + 500 < cLine)
    (F : Fr h₀ L s.heap m) (N : News h₀ L s.heap news) (hl : h₀.IsList ls vs.toArray) (hi : IntsAre vs ns) (hlen : ns.length ≤ 63) (msc : m "script" = some (.ref ls))
    (W : Wd w (hd.heap_39 w.params) cx σ0 σ0 tg news) (hnb : Lg news tg (nb, PySem.W.listOf us.toArray n0)) (hus : IntsAre us ms) (hms : ms.length = min 27 ns.length + 3)
    (mN : m "numbers" = some (.ref nb)) (mS : m "sieve" = some (.ref cx.fS))
    (hQ : ∀ h' tk gens' tg' news' m', Fr h₀ L h' m' → News h₀ L h' news' → (AllBare s.gens → AllBare gens') → (∀ p, Lg news tg p → Lg news' tg' p) → TabRF tg' news' → Q (.ret (.bool true)) ⟨h', gens', s.drawn, tk, s.os⟩) :
    wpAny (model PySem.Challenge.rw_bi0010_01.row.prog w) ⟨none, dep, some (envLaw cx L fa :: outer), gd, un⟩ (execs forB (envLaw cx L fa)) Q E s := by
  w_top off
  have hS : dScope lawD = dScope lawD := rfl
  conv at hS => rhs; whnf
  have h0 : forIter lawFor = forIter lawFor := rfl
  conv at h0 => rhs; whnf
  have hB : forB = .For (forTarget lawFor) (forIter lawFor) (forBody lawFor) [] (forPos lawFor) :: retB := rfl
  rw [h0] at hB
  clear h0
  obtain ⟨rb, hrb⟩ : ∃ rb, rb = retB := ⟨_, rfl⟩
  rw [← hrb] at hB
  rw [hB]
  revert X; k_fill; intro X
  refine wpAny_execs_cons (wpAny_For ?_ (fun _ => rfl))
  show wpAny _ _ (eval _ (envX "law" (dScope lawD) L fa (.ref 192) (lawCl cx))) _ _ s
  unfold envLaw lawCl
  rw [hS]
  k_steps
  rename_i D₁ ws h₁ F₁ N₁ l₁ hI₁ hC₁ hL₁ h₂ tk₂ _ _ _ hr F₂ N₂ _
  clear F₁ N₁
  dsimp only at hr ⊢
  rw [hC₁] at hr
  obtain ⟨q, hq, hq2⟩ := range_q (min 27 ns.length)
  refine wpAny_pyIter_range hr (range_small _ (by omega)) ?_
  rw [hq]
  have W₁ := W.cons (D₁, PySem.W.listOf ws.toArray 0)
  have F₃ := F₂.push (iterO 0 q)
  have N₃ := News.push F₂ N₂ (iterO 0 q)
  have hlt₃ : ∀ p ∈ (D₁, PySem.W.listOf ws.toArray 0) :: news, p.1 < h₂.objs.size := fun p hp => Heap.lt_size (N₂ p hp).1
  have ⟨W₃, k₃⟩ := W₁.tmpNew (o := iterO 0 q) hlt₃
  have k₃' : Keeps tg (putTag h₂.objs.size (.tmp h₂.objs.size) tg) news ((h₂.objs.size, iterO 0 q) :: (D₁, PySem.W.listOf ws.toArray 0) :: news) fun t => t ≠ .tmp h₂.objs.size := (Keeps.cons.mono fun _ _ => trivial).trans k₃
  have hsz : us.toArray.size = min 27 ns.length + 3 := by
    have := hus.length
    simp only [List.size_toArray]
    omega
  refine law_run (s := ⟨_, _, _, _, _⟩) (cx := cx) (nb := nb) (vs := us.toArray) (n0 := n0) (ns := ms) B X T hdep hun (by simpa using hus) (by omega) q 0 F₃ N₃ ⟨W₃, rfl, by decide, by decide, by decide, nofun, k₃'.lg _ hnb, mN, mS⟩ (by omega) (by omega) ?_ (putTag_self ..) ?_
  · exact .head _
  intro h₄ tk₄ gens₄ tg₄ n₄ m₄ σ₄ F₄ N₄ hAB₄ W₄ D₄ kl₄
  clear F₂ N₂ F₃ N₃ W₃ k₃
  obtain ⟨oH, ⟨mH, _⟩, hdH⟩ := W₄.base.cellHeard
  obtain ⟨oD, ⟨mD, _⟩, hdD⟩ := W₄.base.cellDue
  have h1 : dAt retB 0 = dAt retB 0 := rfl
  conv at h1 => rhs; whnf
  have hR : retB = [dAt retB 0] := rfl
  rw [h1] at hR
  rw [hrb, hR]
  k_steps
  refine heard_due F₄ X N₄ W₄ rfl D₄ (by show un + 20 < cLine; omega) ?_
  k_steps
  exact hQ h₄ tk₄ gens₄ tg₄ n₄ m₄ F₄ N₄ hAB₄ (fun p hp => kl₄ p (k₃'.lg p hp)) W₄.tabR
end Mine

end
section
-- N9
open PySem PySem.W PyProof.Rows PySem.Calls PySem.Spec
namespace Mine
set_option maxRecDepth 100000

def mkCx (L bus dx heard due plain f1 f2 f3 P1 P2 : Addr) : Cx :=
  { bus := bus, dx := dx, heard := heard, due := due, plain := plain, cBus := L + 1, cHeard := L + 3, cDue := L + 2, cPlain := L + 5, cListener := L + 4, cSend := L + 6, fL := f2, fS := f1, fSend := f3, tL := P2, tS := P1 }
/-- the tags at the start -/
def tg0 (dx heard due plain P1 P2 aRows aD : Nat) : Tags := fun (a : Nat) =>
  if a = heard then some .heard else if a = due then some .due else if a = plain then some .plain else if a = dx then some .dx else if a = P2 then some .tabL else if a = P1 then some .tabS else if a = 45 then some .tabR else if a = aRows then some (.rows 0) else if a = aD then some (.dict 0) else none
theorem tg0_inv {dx heard due plain P1 P2 aRows aD a : Nat} {t : Tag} (h : tg0 dx heard due plain P1 P2 aRows aD a = some t) :
    (a = heard ∧ t = .heard) ∨ (a = due ∧ t = .due) ∨ (a = plain ∧ t = .plain) ∨ (a = dx ∧ t = .dx) ∨ (a = P2 ∧ t = .tabL) ∨ (a = P1 ∧ t = .tabS) ∨ (a = 45 ∧ t = .tabR) ∨ (a = aRows ∧ t = .rows 0) ∨ (a = aD ∧ t = .dict 0) := by
  unfold tg0 at h
  repeat' split at h
  all_goals first | (cases h; simp_all; done) | cases h

theorem wd_init {w : World} {K : Frag} {news : List (Addr × Obj)} {L bus dx heard due plain f1 f2 f3 P1 P2 aRows aD c1 c2 c3 : Nat} {o1 o2 o3 o4 o5 o6 oc1 oc2 oc3 : Obj} {hsh : Int} {tok : Tok} {nx ep nH nDu nP nR : Nat}
    (b0 : 45 < L) (b1 : L + 6 < dx) (b2 : dx < bus) (b3 : bus < aD) (b4 : aD < heard) (b5 : heard < due) (b6 : due < aRows) (b7 : aRows < plain) (b8 : plain < P1) (b9 : plain < c1) (b10 : P1 < f1) (b11 : c1 < f1) (b12 : c1 ≠ P1) (b13 : f1 < P2) (b14 : f1 < c2) (b15 : P2 < f2) (b16 : c2 < f2) (b17 : c2 ≠ P2) (b18 : f2 < c3) (b19 : c3 < f3)
    (m1 : (L + 1, o1) ∈ news) (d1 : o1.data = .cell (some (.ref bus))) (m2 : (L + 2, o2) ∈ news) (d2 : o2.data = .cell (some (.ref due))) (m3 : (L + 3, o3) ∈ news) (d3 : o3.data = .cell (some (.ref heard)))
    (m4 : (L + 4, o4) ∈ news) (d4 : o4.data = .cell (some (.ref f2))) (m5 : (L + 5, o5) ∈ news) (d5 : o5.data = .cell (some (.ref plain))) (m6 : (L + 6, o6) ∈ news) (d6 : o6.data = .cell (some (.ref f3)))
    (mb : (bus, instObj 177 dx) ∈ news) (mdx : (dx, dictOf [⟨hsh, .str "_listeners" tok, .ref aD⟩] nx) ∈ news) (mD : (aD, dictO #[] ep) ∈ news) (lo : (aD == sysModules) = false)
    (mH : (heard, PySem.W.listOf #[] nH) ∈ news) (mDu : (due, PySem.W.listOf #[] nDu) ∈ news) (mPl : (plain, PySem.W.listOf #[.ref aRows, .bool false, .bool false] nP) ∈ news) (mR : (aRows, PySem.W.listOf #[] nR) ∈ news)
    (m45 : (45, tabObj #[]) ∈ news) (mP1 : (P1, tabObj #[]) ∈ news) (mP2 : (P2, tabObj #[]) ∈ news)
    (mf1 : ∃ nm doc pm ctv, (f1, fnMade nm qSieve (dParams sieveD) (dBody sieveD) (dScope sieveD) [("heard", L + 3)] doc pm c1 ctv) ∈ news) (mc1 : (c1, oc1) ∈ news) (k1 : CodeOk oc1 P1 qSieve)
    (mf2 : ∃ nm doc pm ctv, (f2, fnMade nm qListener (dParams listenerD) (dBody listenerD) (dScope listenerD) [("plain", L + 5), ("listener", L + 4), ("heard", L + 3), ("bus", L + 1)] doc pm c2 ctv) ∈ news) (mc2 : (c2, oc2) ∈ news) (k2 : CodeOk oc2 P2 qListener)
    (mf3 : ∃ nm doc pm ctv, (f3, fnMade nm qSend (dParams sendD) (dBody sendD) (dScope sendD) [("send", L + 6), ("plain", L + 5), ("due", L + 2)] doc pm c3 ctv) ∈ news) (mc3 : (c3, oc3) ∈ news) (k3 : CodeNm oc3 qSend) :
    Wd w K (mkCx L bus dx heard due plain f1 f2 f3 P1 P2) σ0 σ0 (tg0 dx heard due plain P1 P2 aRows aD) news := by
  have none : ∀ a : Nat, a ≠ heard → a ≠ due → a ≠ plain → a ≠ dx → a ≠ P2 → a ≠ P1 → a ≠ 45 → a ≠ aRows → a ≠ aD → tg0 dx heard due plain P1 P2 aRows aD a = .none := fun a e1 e2 e3 e4 e5 e6 e7 e8 e9 => by
    unfold tg0
    rw [if_neg e1, if_neg e2, if_neg e3, if_neg e4, if_neg e5, if_neg e6, if_neg e7, if_neg e8, if_neg e9]
  have lg : ∀ (a : Nat) (o : Obj), (a, o) ∈ news → a ≠ heard → a ≠ due → a ≠ plain → a ≠ dx → a ≠ P2 → a ≠ P1 → a ≠ 45 → a ≠ aRows → a ≠ aD → Lg news (tg0 dx heard due plain P1 P2 aRows aD) (a, o) := fun a o h e1 e2 e3 e4 e5 e6 e7 e8 e9 => ⟨h, none a e1 e2 e3 e4 e5 e6 e7 e8 e9⟩
  have tH : tg0 dx heard due plain P1 P2 aRows aD heard = some .heard := if_pos rfl
  have tDu : tg0 dx heard due plain P1 P2 aRows aD due = some .due := by unfold tg0; rw [if_neg (by omega), if_pos rfl]
  have tPl : tg0 dx heard due plain P1 P2 aRows aD plain = some .plain := by unfold tg0; rw [if_neg (by omega), if_neg (by omega), if_pos rfl]
  have tDx : tg0 dx heard due plain P1 P2 aRows aD dx = some .dx := by unfold tg0; rw [if_neg (by omega), if_neg (by omega), if_neg (by omega), if_pos rfl]
  have tP2 : tg0 dx heard due plain P1 P2 aRows aD P2 = some .tabL := by unfold tg0; rw [if_neg (by omega), if_neg (by omega), if_neg (by omega), if_neg (by omega), if_pos rfl]
  have tP1 : tg0 dx heard due plain P1 P2 aRows aD P1 = some .tabS := by unfold tg0; rw [if_neg (by omega), if_neg (by omega), if_neg (by omega), if_neg (by omega), if_neg (by omega), if_pos rfl]
  have t45 : tg0 dx heard due plain P1 P2 aRows aD 45 = some .tabR := by unfold tg0; rw [if_neg (by omega), if_neg (by omega), if_neg (by omega), if_neg (by omega), if_neg (by omega), if_neg (by omega), if_pos rfl]
  have tR : tg0 dx heard due plain P1 P2 aRows aD aRows = some (.rows 0) := by unfold tg0; rw [if_neg (by omega), if_neg (by omega), if_neg (by omega), if_neg (by omega), if_neg (by omega), if_neg (by omega), if_neg (by omega), if_pos rfl]
  have tD : tg0 dx heard due plain P1 P2 aRows aD aD = some (.dict 0) := by unfold tg0; rw [if_neg (by omega), if_neg (by omega), if_neg (by omega), if_neg (by omega), if_neg (by omega), if_neg (by omega), if_neg (by omega), if_neg (by omega), if_pos rfl]
  obtain ⟨n1, q1, p1, v1, mf1⟩ := mf1
  obtain ⟨n2, q2, p2, v2, mf2⟩ := mf2
  obtain ⟨n3, q3, p3, v3, mf3⟩ := mf3
  refine ⟨⟨?inj, ?dom, ?tmp, ⟨o1, lg _ _ m1 ?_ ?_ ?_ ?_ ?_ ?_ ?_ ?_ ?_, d1⟩, ⟨o3, lg _ _ m3 ?_ ?_ ?_ ?_ ?_ ?_ ?_ ?_ ?_, d3⟩, ⟨o2, lg _ _ m2 ?_ ?_ ?_ ?_ ?_ ?_ ?_ ?_ ?_, d2⟩, ⟨o5, lg _ _ m5 ?_ ?_ ?_ ?_ ?_ ?_ ?_ ?_ ?_, d5⟩, ⟨o4, lg _ _ m4 ?_ ?_ ?_ ?_ ?_ ?_ ?_ ?_ ?_, d4⟩, ⟨o6, lg _ _ m6 ?_ ?_ ?_ ?_ ?_ ?_ ?_ ?_ ?_, d6⟩,
    lg _ _ mb ?_ ?_ ?_ ?_ ?_ ?_ ?_ ?_ ?_, ⟨n2, q2, p2, c2, v2, oc2, lg _ _ mf2 ?_ ?_ ?_ ?_ ?_ ?_ ?_ ?_ ?_, lg _ _ mc2 ?_ ?_ ?_ ?_ ?_ ?_ ?_ ?_ ?_, k2⟩, ⟨n1, q1, p1, c1, v1, oc1, lg _ _ mf1 ?_ ?_ ?_ ?_ ?_ ?_ ?_ ?_ ?_, lg _ _ mc1 ?_ ?_ ?_ ?_ ?_ ?_ ?_ ?_ ?_, k1⟩, ⟨n3, q3, p3, c3, v3, oc3, lg _ _ mf3 ?_ ?_ ?_ ?_ ?_ ?_ ?_ ?_ ?_, lg _ _ mc3 ?_ ?_ ?_ ?_ ?_ ?_ ?_ ?_ ?_, k3⟩⟩,
    ⟨tH, #[], nH, mH, rfl, nofun⟩, ⟨tDu, #[], nDu, mDu, rfl, nofun⟩, ⟨tPl, aRows, nP, mPl, tR⟩, ⟨tDx, aD, hsh, tok, nx, mdx, tD⟩, ?rows, ?dict, ⟨tP2, #[], mP2, trivial, .inl rfl⟩, ⟨tP1, #[], mP1, trivial, .inl rfl⟩, ⟨t45, #[], m45, trivial⟩, ?wf, ?wf, ?tb, ?tp, ?tl⟩
  case inj =>
    intro a b t _ h1 h2
    rcases tg0_inv h1 with ⟨rfl, rfl⟩ | ⟨rfl, rfl⟩ | ⟨rfl, rfl⟩ | ⟨rfl, rfl⟩ | ⟨rfl, rfl⟩ | ⟨rfl, rfl⟩ | ⟨rfl, rfl⟩ | ⟨rfl, rfl⟩ | ⟨rfl, rfl⟩ <;>
      rcases tg0_inv h2 with ⟨e, h⟩ | ⟨e, h⟩ | ⟨e, h⟩ | ⟨e, h⟩ | ⟨e, h⟩ | ⟨e, h⟩ | ⟨e, h⟩ | ⟨e, h⟩ | ⟨e, h⟩ <;> first | exact e.symm | cases h
  case dom =>
    intro a t h
    rcases tg0_inv h with ⟨rfl, rfl⟩ | ⟨rfl, rfl⟩ | ⟨rfl, rfl⟩ | ⟨rfl, rfl⟩ | ⟨rfl, rfl⟩ | ⟨rfl, rfl⟩ | ⟨rfl, rfl⟩ | ⟨rfl, rfl⟩ | ⟨rfl, rfl⟩ <;> exact ⟨_, by assumption⟩
  case tmp =>
    intro a J h
    rcases tg0_inv h with ⟨_, e⟩ | ⟨_, e⟩ | ⟨_, e⟩ | ⟨_, e⟩ | ⟨_, e⟩ | ⟨_, e⟩ | ⟨_, e⟩ | ⟨_, e⟩ | ⟨_, e⟩ <;> cases e
  case rows =>
    intro g rs h
    match g, h with
    | 0, h =>
      cases h
      exact ⟨aRows, tR, #[], nR, mR, rfl, nofun⟩
  case dict =>
    intro g rs h
    match g, h with
    | 0, h =>
      cases h
      exact ⟨aD, tD, lo, #[], ep, [], mD, rfl, List.nodup_nil, nofun, nofun, fun _ _ _ => rfl, Nat.le_refl _, fun b nm e => by
        rcases tg0_inv e with ⟨_, e⟩ | ⟨_, e⟩ | ⟨_, e⟩ | ⟨_, e⟩ | ⟨_, e⟩ | ⟨_, e⟩ | ⟨_, e⟩ | ⟨_, e⟩ | ⟨_, e⟩ <;> cases e⟩
  case wf => exact ⟨nofun, fun rs h r hr => by rw [List.mem_singleton.mp h] at hr; cases hr⟩
  case tb =>
    intro a g h
    rcases tg0_inv h with ⟨_, e⟩ | ⟨_, e⟩ | ⟨_, e⟩ | ⟨_, e⟩ | ⟨_, e⟩ | ⟨_, e⟩ | ⟨_, e⟩ | ⟨_, e⟩ | ⟨_, e⟩ <;> cases e
    exact Nat.zero_lt_one
  case tp =>
    intro a g h
    rcases tg0_inv h with ⟨_, e⟩ | ⟨_, e⟩ | ⟨_, e⟩ | ⟨_, e⟩ | ⟨_, e⟩ | ⟨_, e⟩ | ⟨_, e⟩ | ⟨_, e⟩ | ⟨_, e⟩ <;> cases e
    exact Nat.zero_lt_one
  case tl =>
    intro a g nm h
    rcases tg0_inv h with ⟨_, e⟩ | ⟨_, e⟩ | ⟨_, e⟩ | ⟨_, e⟩ | ⟨_, e⟩ | ⟨_, e⟩ | ⟨_, e⟩ | ⟨_, e⟩ | ⟨_, e⟩ <;> cases e
  all_goals (try dsimp only [mkCx])
  all_goals omega
end Mine

end
section
-- N10
open PySem PySem.W PyProof.Rows PySem.Calls PySem.Spec
namespace Mine
local macro_rules | `(tactic| walk_at "idle 0") => `(tactic| fail)
local macro_rules | `(tactic| walk_at "idle 1") => `(tactic| fail)
set_option maxRecDepth 100000
local macro_rules | `(tactic| k_mem) => `(tactic| assumption)
local macro_rules | `(tactic| walk_at "eval Name") => `(tactic| (k_here; kc_free; k_dflt (refine' nameX_F ?N ?c ?m ?d ?_ ?a ?b; (case a => rfl); (case b => rfl); (case N => k_asm); (case c => rfl); (case m => k_mem); (case d => k_asm); k_whole)))
local macro_rules | `(tactic| walk_at "eval Name") => `(tactic| (k_here; k_dflt (refine' nameX_L ?F ?v ?_ ?a ?b; (case F => k_asm); (case v => first | assumption | rfl | exact (if_neg (by decide)).trans (by assumption) | exact (if_neg (by decide)).trans ((if_neg (by decide)).trans (by assumption)) | (repeat (first | assumption | refine (if_neg (by decide)).trans ?_))); (case a => rfl); (case b => rfl); k_whole)))
local macro_rules | `(tactic| walk_at "callWith ref") => `(tactic| (k_here; k_dflt (first
  | (refine' callWith_F ?k1 ?_; (case k1 => exact FnAt.of (by k_asm) (by k_mem)); k_whole)
  | (refine' callWith_F0 ?k1 ?_; (case k1 => exact FnAt.of (by k_asm) (by k_mem)); k_whole; try dsimp only [List.nil_append, List.cons_append]))))
local macro_rules | `(tactic| walk_at "FnAt") => `(tactic| (k_dflt (exact FnAt.of (by k_asm) (by k_mem))))



local macro_rules | `(tactic| walk_at "exec FunctionDef") => `(tactic| (k_here; k_dflt (refine' nestDef_K ?d0 ?k0 ?a0 ?_; (case d0 => exact rfl); (case k0 => exact rfl); (case a0 => exact rfl))))
def defsB : List Stmt := (dBody lawD).drop 4

theorem store_cell_S {M : Model} {A : Around} {E : Value → Shared → Prop} {s : Shared} {h₀ : Heap} {m : PySem.Str → Option Value} {news : List (Addr × Obj)} {env : Env} {L c : Addr} {x : PySem.Str} {v : Value} {v₀ : Option Value} {o : Obj} {Q : Unit → Shared → Prop}
    (F : Fr h₀ L s.heap m) (N : News h₀ L s.heap news) (hm : (c, o) ∈ news) (hd : o.data = .cell v₀) (hk : env.scope.kind = .function) (hx : env.kindOf x = some .cell) (hc : env.cells.lookup x = some c)
    (h : ∀ h' o' n', Fr h₀ L h' m → News h₀ L h' n' → (c, o') ∈ n' → o'.data = .cell (some v) → (∀ (a : Nat) (o : Obj), (a, o) ∈ news → a ≠ c → (a, o) ∈ n') → Q () { s with heap := h' }) : wpAny M A (storeName env x v) Q E s := by
  refine wpAny_storeName_cell hk hx hc ⟨o, (N _ hm).1, hd⟩ fun h' hv hs => ?_
  obtain ⟨o', ho', hd'⟩ := hv
  obtain ⟨F', N'⟩ := upd F N hm hs ho'
  exact h h' o' _ F' N' (mem_setN hm) hd' fun a o hp hne => keep_setN hp hne
section
variable {M : Model} {A : Around} {E : Value → Shared → Prop} {s : Shared} {h₀ : Heap} {L a c P : Addr} {m mg mb : Str → Option Value} {cn : Str} {cs : Scope} {ccd : Value} {cl : List (Str × Addr)} {news : List (Addr × Obj)}
  {p : Program} {loose : List Str} {mean : ExcName → Option Value} {name qual : Str} {params : Arguments} {body : List Stmt} {scope : Scope} {ps : Array Value} {pos : Pos} {firstLine : Nat} {clos : List (Str × Addr)}
theorem nest_D {Q : Value → Shared → Prop} (F : Fr h₀ L s.heap m) (N : News h₀ L s.heap news) (T : Top p loose mean mg mb h₀) (C : CodeHd s.heap c P) (hcd : ccd = .ref c) (hmem : (P, tabObj ps) ∈ news) (ht : TriplesOk ps.toList) (hnf : codeAmong pos ps.toList = none)
    (hcl : closureFor scope (envX cn cs L a ccd cl) = pure clos)
    (h : ∀ (f c' P' : Nat) oc ctv doc h' tk n', Fr h₀ L h' m → News h₀ L h' n' → (f, fnMade name qual params body scope clos doc ((mg "__name__").getD .none) c' ctv) ∈ n' → (c', oc) ∈ n' → (P', tabObj #[]) ∈ n' →
      (P, tabObj (ps ++ #[rawInt pos.line, rawInt pos.col, .ref c'])) ∈ n' → (∀ (a : Nat) (o : Obj), (a, o) ∈ news → a ≠ P → (a, o) ∈ n') →
      CodeOk oc P' qual → (∀ (a : Nat) (o : Obj), (a, o) ∈ news → a < c' ∧ a < P') → c' ≠ P' → c' < f → P' < f → Q (.ref f) { s with heap := h', toks := tk }) :
    wpAny M A (makeFunction name qual params (.stmts body) scope (envX cn cs L a ccd cl) [] [] [] pos firstLine) Q E s :=
  nest_S F N T C hcd hmem ht hnf hcl fun f c' P' oc ctv doc h' tk F' N' ok lt ne l1 l2 => h f c' P' oc ctv doc h' tk _ F' N' (.head _) (.tail _ (.head _)) (.tail _ (.tail _ (.head _))) (.tail _ (.tail _ (.tail _ (mem_setN hmem))))
    (fun a o hq hne => .tail _ (.tail _ (.tail _ (keep_setN hq hne)))) ok (fun a o hq => lt _ hq) ne l1 l2
end

set_option maxHeartbeats 4000000 in
theorem law_defs {w : World} {L fa bus dx heard due plain aRows aD nb ls : Nat} {o1 o2 o3 o4 o5 o6 : Obj} {hsh : Int} {tok : Tok} {nx ep nH nDu nP nR n0 : Nat} {us vs : List Value} {ns ms : List Int}
    {A₀ : Around} {base h₀ : Heap} {outer : List Env} {m mg mb : PySem.Str → Option Value} {pg : Program} {loose : List PySem.Str} {mean : ExcName → Option Value} {s : Shared} {news : List (Addr × Obj)} {dep un : Nat} {gd : Option (List Code)} {Q : Flow → Shared → Prop} {E : Value → Shared → Prop}
    (B : Below A₀ base outer h₀) (X : (hd.heap_39 w.params).In h₀) (T : Top pg loose mean mg mb h₀) (hdep : dep + 200 < recursionLimit) (hun : un + 500 < cLine)
    (F : Fr h₀ L s.heap m) (N : News h₀ L s.heap news) (C : CodeHd h₀ 192 188) (hl : h₀.IsList ls vs.toArray) (hi : IntsAre vs ns) (hlen : ns.length ≤ 63) (msc : m "script" = some (.ref ls)) (mN : m "numbers" = some (.ref nb))
    (hus : IntsAre us ms) (hms : ms.length = min 27 ns.length + 3)
    (a0 : 45 < L) (a1 : 188 < L) (b1 : L + 6 < nb) (b2 : nb < dx) (b3 : dx < bus) (b4 : bus < aD) (b5 : aD < heard) (b6 : heard < due) (b7 : due < aRows) (b8 : aRows < plain)
    (m1 : (L + 1, o1) ∈ news) (d1 : o1.data = .cell (some (.ref bus))) (m2 : (L + 2, o2) ∈ news) (d2 : o2.data = .cell (some (.ref due))) (m3 : (L + 3, o3) ∈ news) (d3 : o3.data = .cell (some (.ref heard)))
    (m4 : (L + 4, o4) ∈ news) (d4 : o4.data = .cell .none) (m5 : (L + 5, o5) ∈ news) (d5 : o5.data = .cell (some (.ref plain))) (m6 : (L + 6, o6) ∈ news) (d6 : o6.data = .cell .none)
    (mb : (bus, instObj 177 dx) ∈ news) (mdx : (dx, dictOf [⟨hsh, .str "_listeners" tok, .ref aD⟩] nx) ∈ news) (mD : (aD, dictO #[] ep) ∈ news) (lo : (aD == sysModules) = false)
    (mH : (heard, PySem.W.listOf #[] nH) ∈ news) (mDu : (due, PySem.W.listOf #[] nDu) ∈ news) (mPl : (plain, PySem.W.listOf #[.ref aRows, .bool false, .bool false] nP) ∈ news) (mR : (aRows, PySem.W.listOf #[] nR) ∈ news)
    (m45 : (45, tabObj #[]) ∈ news) (m188 : (188, tabObj #[]) ∈ news) (mnb : (nb, PySem.W.listOf us.toArray n0) ∈ news)
    (hQ : ∀ h' tk gens' m', Fr h₀ L h' m' → (AllBare s.gens → AllBare gens') → (∃ ps, h'.get? 188 = some (tabObj ps)) → (∃ ps, h'.get? 45 = some (tabObj ps)) → Q (.ret (.bool true)) ⟨h', gens', s.drawn, tk, s.os⟩) :
    wpAny (model PySem.Challenge.rw_bi0010_01.row.prog w) ⟨none, dep, some (envX "law" (dScope lawD) L fa (.ref 192) [("send", L + 6), ("plain", L + 5), ("listener", L + 4), ("heard", L + 3), ("due", L + 2), ("bus", L + 1)] :: outer), gd, un⟩
      (execs defsB (envX "law" (dScope lawD) L fa (.ref 192) [("send", L + 6), ("plain", L + 5), ("listener", L + 4), ("heard", L + 3), ("due", L + 2), ("bus", L + 1)])) Q E s := by
  w_top off
  have hS : dScope lawD = dScope lawD := rfl
  conv at hS => rhs; whnf
  have h0 : dAt defsB 0 = dAt defsB 0 := rfl
  conv at h0 => rhs; whnf
  have h1 : dAt defsB 1 = dAt defsB 1 := rfl
  conv at h1 => rhs; whnf
  have h2 : dAt defsB 2 = dAt defsB 2 := rfl
  conv at h2 => rhs; whnf
  have hB : defsB = dAt defsB 0 :: dAt defsB 1 :: dAt defsB 2 :: forB := rfl
  rw [h0, h1, h2] at hB
  clear h0 h1 h2
  obtain ⟨fb, hfb⟩ : ∃ fb, fb = forB := ⟨_, rfl⟩
  rw [← hfb] at hB
  rw [hS, hB]
  clear hB
  revert X; k_fill; intro X
  k_steps
  refine nest_D F N T (C.keeps F.keep) rfl (ps := #[]) m188 trivial rfl rfl ?_
  intro f1 c1 P1 oc1 ctv1 doc1 h₁ tk₁ n₁ F₁ N₁ mf1 mc1 mP1 m188₁ old₁ ok1 lt1 ne1 l11 l12
  have p1 := lt1 _ _ mPl
  clear F N
  k_steps
  rename_i h₂ F₂ N₂
  refine nest_D F₂ N₂ T (C.keeps F₂.keep) rfl m188₁ (by simp [TriplesOk, rawInt]) rfl rfl ?_
  intro f2 c2 P2 oc2 ctv2 doc2 h₃ tk₃ n₃ F₃ N₃ mf2 mc2 mP2 m188₃ old₃ ok2 lt2 ne2 l21 l22
  have p2 := lt2 _ _ mf1
  clear F₂ N₂
  refine store_cell_S F₃ N₃ (old₃ _ _ (old₁ _ _ m4 (by omega)) (by omega)) d4 rfl rfl rfl ?_
  intro h₄ o4' n₄ F₄ N₄ m4' d4' old₄
  have m188₄ := old₄ _ _ m188₃ (by omega)
  clear F₃ N₃
  k_steps
  refine nest_D F₄ N₄ T (C.keeps F₄.keep) rfl m188₄ (by simp [TriplesOk, rawInt]) rfl rfl ?_
  intro f3 c3 P3 oc3 ctv3 doc3 h₅ tk₅ n₅ F₅ N₅ mf3 mc3 mP3 m188₅ old₅ ok3 lt3 ne3 l31 l32
  have p3 := lt3 _ _ (old₄ _ _ mf2 (by omega))
  refine store_cell_S F₅ N₅ (old₅ _ _ (old₄ _ _ (old₃ _ _ (old₁ _ _ m6 (by omega)) (by omega)) (by omega)) (by omega)) d6 rfl rfl rfl ?_
  intro h₆ o6' n₆ F₆ N₆ m6' d6' old₆
  clear F₄ N₄ F₅ N₅
  k_steps
  subst hfb
  have z₁ : ∀ (a : Nat) (o : Obj), (a, o) ∈ news → a ≠ 188 → a ≠ L + 4 → a ≠ L + 6 → (a, o) ∈ n₆ := fun a o h e1 e2 e3 => old₆ _ _ (old₅ _ _ (old₄ _ _ (old₃ _ _ (old₁ _ _ h e1) e1) e2) e1) e3
  have z₂ : ∀ (a : Nat) (o : Obj), (a, o) ∈ n₁ → a ≠ 188 → a ≠ L + 4 → a ≠ L + 6 → (a, o) ∈ n₆ := fun a o h e1 e2 e3 => old₆ _ _ (old₅ _ _ (old₄ _ _ (old₃ _ _ h e1) e2) e1) e3
  have z₃ : ∀ (a : Nat) (o : Obj), (a, o) ∈ n₃ → a ≠ 188 → a ≠ L + 4 → a ≠ L + 6 → (a, o) ∈ n₆ := fun a o h e1 e2 e3 => old₆ _ _ (old₅ _ _ (old₄ _ _ h e2) e1) e3
  have m4₆ : (L + 4, o4') ∈ n₆ := old₆ _ _ (old₅ _ _ m4' (by omega)) (by omega)
  have m188₆ := old₆ _ _ m188₅ (by omega)
  have W := wd_init (w := w) (K := hd.heap_39 w.params) (news := n₆) (L := L) (bus := bus) (dx := dx) (heard := heard) (due := due) (plain := plain) (f1 := f1) (f2 := f2) (f3 := f3) (P1 := P1) (P2 := P2) (aRows := aRows) (aD := aD) (c1 := c1) (c2 := c2) (c3 := c3)
    a0 (by omega) b3 b4 b5 b6 b7 b8 p1.2 p1.1 l12 l11 ne1 p2.2 p2.1 l22 l21 ne2 p3.1 l31
    (z₁ _ _ m1 (by omega) (by omega) (by omega)) d1 (z₁ _ _ m2 (by omega) (by omega) (by omega)) d2 (z₁ _ _ m3 (by omega) (by omega) (by omega)) d3 m4₆ d4' (z₁ _ _ m5 (by omega) (by omega) (by omega)) d5 m6' d6'
    (z₁ _ _ mb (by omega) (by omega) (by omega)) (z₁ _ _ mdx (by omega) (by omega) (by omega)) (z₁ _ _ mD (by omega) (by omega) (by omega)) lo
    (z₁ _ _ mH (by omega) (by omega) (by omega)) (z₁ _ _ mDu (by omega) (by omega) (by omega)) (z₁ _ _ mPl (by omega) (by omega) (by omega)) (z₁ _ _ mR (by omega) (by omega) (by omega))
    (z₁ _ _ m45 (by omega) (by omega) (by omega)) (z₂ _ _ mP1 (by omega) (by omega) (by omega)) (z₃ _ _ mP2 (by omega) (by omega) (by omega))
    ⟨_, _, _, _, z₂ _ _ mf1 (by omega) (by omega) (by omega)⟩ (z₂ _ _ mc1 (by omega) (by omega) (by omega)) ok1 ⟨_, _, _, _, z₃ _ _ mf2 (by omega) (by omega) (by omega)⟩ (z₃ _ _ mc2 (by omega) (by omega) (by omega)) ok2
    ⟨_, _, _, _, old₆ _ _ mf3 (by omega)⟩ (old₆ _ _ mc3 (by omega)) ok3.nm
  have n1 : tg0 dx heard due plain P1 P2 aRows aD nb = .none := by
    unfold tg0
    rw [if_neg (by omega), if_neg (by omega), if_neg (by omega), if_neg (by omega), if_neg (by omega), if_neg (by omega), if_neg (by omega), if_neg (by omega), if_neg (by omega)]
  have n2 : tg0 dx heard due plain P1 P2 aRows aD 188 = .none := by
    unfold tg0
    rw [if_neg (by omega), if_neg (by omega), if_neg (by omega), if_neg (by omega), if_neg (by omega), if_neg (by omega), if_neg (by omega), if_neg (by omega), if_neg (by omega)]
  refine for_part (s := ⟨h₆, s.gens, s.drawn, tk₅, s.os⟩) (cx := mkCx L bus dx heard due plain f1 f2 f3 P1 P2) B X T hdep hun F₆ N₆ hl hi hlen msc W ⟨z₁ _ _ mnb (by omega) (by omega) (by omega), n1⟩ hus hms mN rfl ?_
  intro h' tk gens' tg' n' m' F' N' hAB lgk tR
  obtain ⟨_, ps, h45, _⟩ := tR
  exact hQ h' tk gens' m' F' hAB ⟨_, (N' _ (lgk _ ⟨m188₆, n2⟩).1).1⟩ ⟨ps, (N' _ h45).1⟩
end Mine

end
section
-- M2
open PySem PySem.W PyProof.Rows PySem.Calls PySem.Spec
namespace Mine
local macro_rules | `(tactic| walk_at "idle 0") => `(tactic| fail)
local macro_rules | `(tactic| walk_at "idle 1") => `(tactic| fail)
local macro_rules | `(tactic| walk_at "idle 2") => `(tactic| fail)
local macro_rules | `(tactic| walk_at "idle 3") => `(tactic| fail)
local macro_rules | `(tactic| walk_at "idle 4") => `(tactic| fail)
local macro_rules | `(tactic| walk_at "idle 5") => `(tactic| fail)
local macro_rules | `(tactic| walk_at "idle 6") => `(tactic| fail)
set_option maxRecDepth 100000
local macro_rules | `(tactic| walk_at "exec FunctionDef") => `(tactic| (k_here; k_dflt (refine' nestDef_K ?d0 ?k0 ?a0 ?_; (case d0 => exact rfl); (case k0 => exact rfl); (case a0 => exact rfl))))
set_option maxHeartbeats 8000000 in
theorem law_t : PySem.Challenge.rw_bi0010_01.Holds := by
  w_top off
  refine hd2 ?_
  k_fill
  intro w s₀ s₁ mg mb G Y fa o pm cd doc dV kV ho hd hcd hD hmg hg args vals as hpre hlay hrd hwl hlo
  have KX := km_in_of Y
  have hT8 := km_tabs_of Y
  have X := (Ground.X G).1
  have V := (Ground.X G).2
  refine Ground.open G ?_
  intro T B D TE TW
  try (refine guard_noD D (by decide +kernel) ?_; clear D)
  have hT9 : TabsAt [(192, 188), (49, 45)] s₁.heap := List.forall_mem_cons.mpr ⟨⟨codeHd_of_K (c := 192) (P := 188) KX (by kernel_rfl), hT8 188 (by simp)⟩, List.forall_mem_cons.mpr ⟨⟨codeHd_of_K (c := 49) (P := 45) KX (by kernel_rfl), hT8 45 (by simp)⟩, fun _ h => nomatch h⟩⟩
  have he9 : cd = PySem.Value.ref 192 := law_code (x := PySem.Str.ofString "law") (c := 192) (P := 188) KX (Top.g T) (by kernel_rfl) hmg ho hd
  subst he9
  clear hmg
  wrow_args hpre hlay hrd hwl hlo
  all_goals (
    first | refine callC_kw (enter_call ?_) | refine enter_call ?_
    w_top on)
  refine codeAny_mono (R := Leaves [(192, 188), (49, 45)] s₁) ?_ (fun r s' x => x.good hT9 (fun _ _ => rfl) ?_)
  rotate_left
  · first | rfl | wrow_post
  w_call any ho hd hcd hD T F
  all_goals (
    clear hd
    kn_ghosts F T
    k_drop)
  obtain ⟨bb, hbb⟩ : ∃ bb, bb = defsB := ⟨_, rfl⟩
  have h0 : dAt (dBody lawD) 0 = dAt (dBody lawD) 0 := rfl
  conv at h0 => rhs; whnf
  have h1 : dAt (dBody lawD) 1 = dAt (dBody lawD) 1 := rfl
  conv at h1 => rhs; whnf
  have h2 : dAt (dBody lawD) 2 = dAt (dBody lawD) 2 := rfl
  conv at h2 => rhs; whnf
  have h3 : dAt (dBody lawD) 3 = dAt (dBody lawD) 3 := rfl
  conv at h3 => rhs; whnf
  have hb : dBody lawD = dAt (dBody lawD) 0 :: dAt (dBody lawD) 1 :: dAt (dBody lawD) 2 :: dAt (dBody lawD) 3 :: defsB := rfl
  rw [h0, h1, h2, h3, ← hbb] at hb
  clear h0 h1 h2 h3
  change wpAny _ _ (execs (dBody lawD) _) _ _ _
  rw [hb]
  clear hb
  k_steps
  rename_i ds hs hlay0 hLe hre hl2 wl7 wl8 ls wl10 wl11 hLs ra w1 r0 hIs hrw hnot htrue h₁ tk₁ q1 q2 q3 q4 q5 q6 z1 z2 z3 z4 z5 zr X0 Xg Tg Bg lift codeA l0 aSl ws1 hp1 hI1 hC1 hL1 l1 aZ hp2 l2 aNb ws2 hp3 hI2 l3 hp4 aBus aDx hp5 l4 l5 g6 L6 hp6 B6 X6 T6 tk6 aD hp7 oD loD hsD fsD hiD fiD l6 hp8 F8 N8 T8 X8 hp9 oc1 dc1 aH hp10 l7 aDu hp11 l8 aT hp12 l9 hp13 hp14 oc3 dc3 hp15 oc2 dc2 aR hp16 l10 aP hp17 l11 hp18 oc5 FA NA dc5
  dsimp only at NA FA ⊢
  clear T X8 T8
  obtain ⟨ep, rfl⟩ : ∃ ep, oD = dictO #[] ep := by
    obtain ⟨es, ep, ⟨e1, e2, e3⟩, e4, _, hp, _⟩ := hsD
    obtain ⟨c, dd, dt, sl⟩ := oD
    simp only at e1 e2 e3 e4
    subst e1 e2 e3 e4
    have : es = #[] := by cases es with | mk l => cases hp; rfl
    subst this
    exact ⟨ep, rfl⟩
  subst hbb
  refine law_defs (s := ⟨hp18, s₁.gens, s₁.drawn, tk, s₁.os⟩) (L := s₁.heap.objs.size) (bus := aBus) (dx := aDx) (heard := aH) (due := aDu) (plain := aP) (aRows := aR) (aD := aD) (nb := aNb) (ls := ls) (ms := List.take 27 ds ++ [0, 0, 0]) Bg Xg Tg ?dep ?un FA NA codeA lift hIs (by omega) rfl rfl hI2 (by rw [List.length_append, hC1]; rfl)
    l0.2 l0.1 l3.2.2.1 l4.1 l5 l6.1 l7.1 l8.1 l10.2.1 l11.1
    (.tail _ (.tail _ (.tail _ (.tail _ (.tail _ (.tail _ (.tail _ (.tail _ (.tail _ (.tail _ (.tail _ (.tail _ (.tail _ (.tail _ (.tail _ (.tail _ (.head _))))))))))))))))) dc1 (.tail _ (.tail _ (.tail _ (.tail _ (.tail _ (.tail _ (.tail _ (.tail _ (.tail _ (.tail _ (.tail _ (.tail _ (.tail _ (.tail _ (.tail _ (.head _)))))))))))))))) dc2 (.tail _ (.tail _ (.tail _ (.tail _ (.tail _ (.tail _ (.tail _ (.tail _ (.tail _ (.tail _ (.tail _ (.tail _ (.tail _ (.tail _ (.head _))))))))))))))) dc3 (.tail _ (.tail _ (.tail _ (.tail _ (.tail _ (.tail _ (.tail _ (.tail _ (.tail _ (.tail _ (.tail _ (.tail _ (.tail _ (.head _)))))))))))))) z3 (.tail _ (.tail _ (.tail _ (.tail _ (.tail _ (.tail _ (.tail _ (.tail _ (.tail _ (.tail _ (.tail _ (.tail _ (.head _))))))))))))) dc5 (.tail _ (.tail _ (.tail _ (.tail _ (.tail _ (.tail _ (.tail _ (.tail _ (.tail _ (.tail _ (.tail _ (.head _)))))))))))) z1
    (.tail _ (.tail _ (.tail _ (.tail _ (.tail _ (.tail _ (.head _))))))) (.tail _ (.tail _ (.tail _ (.tail _ (.tail _ (.tail _ (.tail _ (.head _)))))))) (.tail _ (.tail _ (.tail _ (.tail _ (.tail _ (.head _)))))) loD (.tail _ (.tail _ (.tail _ (.tail _ (.head _))))) (.tail _ (.tail _ (.tail _ (.head _)))) (.head _) (.tail _ (.head _)) (.tail _ (.tail _ (.tail _ (.tail _ (.tail _ (.tail _ (.tail _ (.tail _ (.tail _ (.tail _ (.tail _ (.tail _ (.tail _ (.tail _ (.tail _ (.tail _ (.tail _ (.tail _ (.head _))))))))))))))))))) (.tail _ (.tail _ (.tail _ (.tail _ (.tail _ (.tail _ (.tail _ (.tail _ (.tail _ (.tail _ (.tail _ (.tail _ (.tail _ (.tail _ (.tail _ (.tail _ (.tail _ (.head _)))))))))))))))))) (.tail _ (.tail _ (.tail _ (.tail _ (.tail _ (.tail _ (.tail _ (.tail _ (.head _))))))))) ?_
  case dep => decide +kernel
  case un => decide +kernel
  intro h' tk' gens' m' F' hAB h188 h45
  exact ⟨rfl, fun b o e => F'.keep b o e, ⟨h188, h45, trivial⟩, rfl, hAB (.of_eq hg)⟩
end Mine

end
set_option maxRecDepth 100000 in
set_option maxHeartbeats 8000000 in
theorem PySem.Challenge.cw_bi0010_01_holds : PySem.Challenge.rw_bi0010_01.Holds := by
  exact Mine.law_t
