import PyProof.Rows.All
import Wide.All
import OpenK.AllK
import Wide.FinOn
import KE.KCallOwn
import KE.KEqSeq
import KE.KMethU
import KE.KNestM
import KE.KRevIter
import KE.KStar
import PyProof.Draws
import PyProof.Rows.Range3
import PyProof.Rows.SetFrom
import PyProof.WalksMore
import PyProof.ZipIter
import Lean
import PySem.Challenge.RW_bs0040_01
open PySem PySem.W PyProof.Rows
set_option Elab.async false
set_option rowWalk.seconds 0
set_option maxRecDepth 100000
set_option linter.unusedVariables false
namespace Mine

section Hd1
set_option maxRecDepth 100000 in
set_option maxHeartbeats 8000000 in
open_top hd for PySem.Challenge.rw_bs0040_01

end Hd1

section Hd2
local macro_rules | `(tactic| k_head) => `(tactic| o_head (kmHook Mine.hd.heap_39 [2, 3, 15, 17, 18, 20, 21, 29, 30, 32, 33, 35, 36, 37, 39, 40, 42, 43, 44, 46, 47, 49, 50, 51, 52, 53, 54, 56, 57, 59, 60, 61, 63, 64, 66, 67, 68, 70, 71, 73, 74, 75, 77, 78, 80, 81, 82, 84, 85, 87, 88, 89, 91, 92, 94, 95, 96, 97, 98, 99, 101, 102, 104, 105, 106, 108, 109, 111, 112, 113, 115, 116, 118, 119, 120, 122, 123, 125, 126, 127, 129, 130, 132, 133, 134, 136, 137, 139, 140, 141, 142, 143, 144, 145, 148, 155, 157, 158, 160, 161, 162, 164, 165, 167, 168, 169, 171, 172, 174, 175, 176, 177, 178, 181, 188, 191, 192, 193, 195, 196, 198, 199, 200, 203, 204, 205, 206, 207, 210, 212, 213, 215, 216, 217, 220, 221, 222, 225, 226, 227, 230, 231] (fun _ => by kernel_rfl) [194]))
set_option maxRecDepth 100000 in
set_option maxHeartbeats 8000000 in
open_top hd2 for PySem.Challenge.rw_bs0040_01

end Hd2

section Pl
/-- a vowel in great letters -/
def vow (c : Nat) : Bool := c == 65 || c == 69 || c == 73 || c == 79 || c == 85
/-- a small letter's great one -/
def up (c : Nat) : Nat := if 97 ≤ c ∧ c ≤ 122 then c - 32 else c
def ddFrom : Nat → List Nat → List Nat
  | _, [] => []
  | p, c :: r => if p = c then ddFrom c r else c :: ddFrom c r
def dd : List Nat → List Nat
  | [] => []
  | c :: r => c :: ddFrom c r
def kept : List Nat → List Nat
  | [] => []
  | c :: r => up c :: (r.map up).filter fun x => !vow x
def shrink (l : List Nat) : List Nat := if l.length > 6 then l.take 3 ++ l.drop (l.length - 3) else l
def code (W : List Nat) : List Nat := shrink (dd (kept W))
def isLet (c : Nat) : Prop := (65 ≤ c ∧ c ≤ 90) ∨ (97 ≤ c ∧ c ≤ 122)
def isUp (c : Nat) : Prop := 65 ≤ c ∧ c ≤ 90

theorem up_isUp {c : Nat} (h : isLet c) : isUp (up c) := by
  unfold up isUp; unfold isLet at h; split <;> omega
theorem up_of_isUp {c : Nat} (h : isUp c) : up c = c := by
  unfold up; unfold isUp at h; rw [if_neg]; omega
theorem isLet_of_isUp {c : Nat} (h : isUp c) : isLet c := .inl h

theorem ddFrom_sub : ∀ (p : Nat) (l : List Nat), ∀ x ∈ ddFrom p l, x ∈ l
  | _, [], x, h => by simp [ddFrom] at h
  | p, c :: r, x, h => by
    unfold ddFrom at h
    split at h
    · exact List.mem_cons_of_mem _ (ddFrom_sub c r x h)
    · rcases List.mem_cons.mp h with rfl | h
      · exact List.mem_cons_self
      · exact List.mem_cons_of_mem _ (ddFrom_sub c r x h)
theorem ddFrom_len : ∀ (p : Nat) (l : List Nat), (ddFrom p l).length ≤ l.length
  | _, [] => by simp [ddFrom]
  | p, c :: r => by
    have := ddFrom_len c r
    unfold ddFrom
    split <;> simp <;> omega
theorem ddFrom_idem : ∀ (p : Nat) (l : List Nat), ddFrom p (ddFrom p l) = ddFrom p l
  | _, [] => rfl
  | p, c :: r => by
    have ih := ddFrom_idem c r
    show ddFrom p (if p = c then ddFrom c r else c :: ddFrom c r) = (if p = c then ddFrom c r else c :: ddFrom c r)
    split
    · rename_i h; subst h; exact ih
    · rename_i h
      show (if p = c then ddFrom c (ddFrom c r) else c :: ddFrom c (ddFrom c r)) = _
      rw [if_neg h, ih]
theorem dd_idem (l : List Nat) : dd (dd l) = dd l := by
  cases l with
  | nil => rfl
  | cons c r => show c :: ddFrom c (ddFrom c r) = c :: ddFrom c r; rw [ddFrom_idem]
def dbl (l : List Nat) : List Nat := l.flatMap fun x => [x, x]
theorem ddFrom_dbl : ∀ (p : Nat) (l : List Nat), ddFrom p (dbl l) = ddFrom p l
  | _, [] => rfl
  | p, c :: r => by
    have ih := ddFrom_dbl c r
    show ddFrom p (c :: c :: dbl r) = _
    simp only [ddFrom, if_true, ih]
theorem filter_dbl (f : Nat → Bool) : ∀ l : List Nat, (dbl l).filter f = dbl (l.filter f)
  | [] => rfl
  | c :: r => by
    show (c :: c :: dbl r).filter f = _
    cases h : f c with
    | true => simp only [List.filter_cons, h, if_true]; rw [filter_dbl f r]; rfl
    | false => simp only [List.filter_cons, h, Bool.false_eq_true, if_false]; exact filter_dbl f r
theorem map_dbl (f : Nat → Nat) : ∀ l : List Nat, (dbl l).map f = dbl (l.map f)
  | [] => rfl
  | c :: r => by
    show f c :: f c :: (dbl r).map f = f c :: f c :: dbl (r.map f)
    rw [map_dbl f r]
/-- the twin: a vowel behind the first letter, the rest doubled, a vowel at the end -/
theorem code_twin (c : Nat) (r : List Nat) : code (c :: (101 :: dbl r ++ [97])) = code (c :: r) := by
  unfold code
  have e : kept (c :: (101 :: dbl r ++ [97])) = up c :: dbl ((r.map up).filter fun x => !vow x) := by
    show up c :: ((101 :: dbl r ++ [97]).map up).filter (fun x => !vow x) = _
    rw [← filter_dbl, ← map_dbl]
    congr 1
    simp [up, vow]
  have e2 : dd (kept (c :: (101 :: dbl r ++ [97]))) = dd (kept (c :: r)) := by
    rw [e]
    show up c :: ddFrom (up c) (dbl _) = up c :: ddFrom (up c) _
    rw [ddFrom_dbl]
  rw [e2]
theorem kept_ne {W : List Nat} (h : W ≠ []) : kept W ≠ [] := by
  cases W with
  | nil => exact absurd rfl h
  | cons c r => simp [kept]
theorem dd_ne {W : List Nat} (h : W ≠ []) : dd W ≠ [] := by
  cases W with
  | nil => exact absurd rfl h
  | cons c r => simp [dd]
theorem dd_len (l : List Nat) : (dd l).length ≤ l.length := by
  cases l with
  | nil => simp [dd]
  | cons c r => have := ddFrom_len c r; simp [dd]; exact this
theorem kept_len (l : List Nat) : (kept l).length ≤ l.length := by
  cases l with
  | nil => simp [kept]
  | cons c r =>
    have := List.length_filter_le (fun x => !vow x) (r.map up)
    simp only [List.length_map] at this
    simp [kept]; exact this
theorem shrink_ne {l : List Nat} (h : l ≠ []) : shrink l ≠ [] := by
  unfold shrink
  split
  · intro e
    have := congrArg List.length e
    simp at this
    omega
  · exact h
theorem shrink_le (l : List Nat) : (shrink l).length ≤ 6 := by
  unfold shrink
  split
  · simp; omega
  · omega
theorem code_ne {W : List Nat} (h : W ≠ []) : code W ≠ [] := shrink_ne (dd_ne (kept_ne h))
theorem code_le (W : List Nat) : (code W).length ≤ 6 := shrink_le _
theorem kept_up {W : List Nat} (h : ∀ c ∈ W, isLet c) : ∀ c ∈ kept W, isUp c := by
  cases W with
  | nil => intro c hc; simp [kept] at hc
  | cons a r =>
    intro c hc
    rcases List.mem_cons.mp hc with rfl | hc
    · exact up_isUp (h a List.mem_cons_self)
    · obtain ⟨b, hb, rfl⟩ := List.mem_map.mp (List.mem_filter.mp hc).1
      exact up_isUp (h b (List.mem_cons_of_mem _ hb))
theorem dd_sub (l : List Nat) : ∀ x ∈ dd l, x ∈ l := by
  cases l with
  | nil => intro x h; simp [dd] at h
  | cons c r =>
    intro x h
    rcases List.mem_cons.mp h with rfl | h
    · exact List.mem_cons_self
    · exact List.mem_cons_of_mem _ (ddFrom_sub c r x h)
theorem shrink_sub (l : List Nat) : ∀ x ∈ shrink l, x ∈ l := by
  intro x h
  unfold shrink at h
  split at h
  · rcases List.mem_append.mp h with h | h
    · exact List.mem_of_mem_take h
    · exact List.mem_of_mem_drop h
  · exact h
theorem code_up {W : List Nat} (h : ∀ c ∈ W, isLet c) : ∀ c ∈ code W, isUp c :=
  fun c hc => kept_up h c (dd_sub _ c (shrink_sub _ c hc))
/-- a code of less than six letters is its own code -/
theorem code_code {W : List Nat} (h : ∀ c ∈ W, isLet c) (hl : (code W).length < 6) : code (code W) = code W := by
  have e : code W = dd (kept W) := by
    unfold code shrink at hl ⊢
    split at hl
    · simp at hl; omega
    · rename_i h6; rw [if_neg h6]
  have hl' : (dd (kept W)).length < 6 := by rw [← e]; exact hl
  rw [e]
  have hk : kept (dd (kept W)) = dd (kept W) := by
    cases W with
    | nil => rfl
    | cons a r =>
      have hu := kept_up h
      show up (up a) :: ((ddFrom (up a) ((r.map up).filter fun x => !vow x)).map up).filter (fun x => !vow x) = up a :: ddFrom (up a) ((r.map up).filter fun x => !vow x)
      have h1 : up (up a) = up a := up_of_isUp (hu _ List.mem_cons_self)
      rw [h1]
      congr 1
      have h2 : (ddFrom (up a) ((r.map up).filter fun x => !vow x)).map up = ddFrom (up a) ((r.map up).filter fun x => !vow x) := by
        conv => rhs; rw [← List.map_id (ddFrom (up a) ((r.map up).filter fun x => !vow x))]
        exact List.map_congr_left fun x hx => up_of_isUp (hu x (List.mem_cons_of_mem _ (ddFrom_sub _ _ x hx)))
      rw [h2]
      exact List.filter_eq_self.mpr fun x hx => (List.mem_filter.mp (ddFrom_sub _ _ x hx)).2
  unfold code
  rw [hk, dd_idem]
  unfold shrink
  rw [if_neg (by omega)]

/-- places at which two codes have one letter -/
def alike (a b : List Nat) : Nat := ((a.zip b).filter fun p => p.1 == p.2).length
def told (a b : List Nat) : Nat := if a.length > b.length + 2 ∨ b.length > a.length + 2 then 0 else alike a b
theorem alike_comm : ∀ a b : List Nat, alike a b = alike b a
  | [], b => by cases b <;> rfl
  | _ :: _, [] => rfl
  | x :: a, y :: b => by
    have ih := alike_comm a b
    unfold alike at ih ⊢
    simp only [List.zip_cons_cons, List.filter_cons]
    have e : (x == y) = (y == x) := by simp [Bool.beq_eq_decide_eq, eq_comm]
    rw [e]
    split
    · simp only [List.length_cons, ih]
    · exact ih
theorem told_comm (a b : List Nat) : told a b = told b a := by
  unfold told
  rw [alike_comm a b]
  by_cases h : a.length > b.length + 2 ∨ b.length > a.length + 2
  · rw [if_pos h, if_pos h.symm]
  · rw [if_neg h, if_neg fun q => h q.symm]
theorem alike_self : ∀ a : List Nat, alike a a = a.length
  | [] => rfl
  | x :: a => by
    have ih := alike_self a
    unfold alike at ih ⊢
    simp only [List.zip_cons_cons, List.filter_cons, beq_self_eq_true, if_true, List.length_cons, ih]
theorem told_self (a : List Nat) : told a a = a.length := by
  unfold told
  rw [if_neg (by omega), alike_self]
/-- one turn of the comparing loop: the places that part, then the tails behind the shorter length -/
def mism (a b : List Nat) : List (Nat × Nat) := (a.zip b).filter fun p => !(p.1 == p.2)
def turnA (a b : List Nat) : List Nat := (mism a b).map (·.1) ++ a.drop (min a.length b.length)
def turnB (a b : List Nat) : List Nat := (mism a b).map (·.2) ++ b.drop (min a.length b.length)
theorem mism_len : ∀ a b : List Nat, (mism a b).length + alike a b = min a.length b.length
  | [], b => by simp [mism, alike]
  | _ :: _, [] => by simp [mism, alike]
  | x :: a, y :: b => by
    have ih := mism_len a b
    unfold mism alike at ih ⊢
    simp only [List.zip_cons_cons, List.filter_cons, List.length_cons]
    cases h : x == y <;> simp <;> omega
theorem turn_len (a b : List Nat) : (turnA a b).length = a.length - alike a b ∧ (turnB a b).length = b.length - alike a b := by
  have h := mism_len a b
  constructor <;> simp only [turnA, turnB, List.length_append, List.length_map, List.length_drop] <;> omega
theorem mism_parts : ∀ a b : List Nat, ∀ p ∈ mism a b, (p.1 == p.2) = false := fun a b p hp => by
  have := (List.mem_filter.mp hp).2
  simpa using this
theorem alike_parts : ∀ (l : List (Nat × Nat)) (a b : List Nat), (∀ p ∈ l, (p.1 == p.2) = false) → a = [] ∨ b = [] → alike (l.map (·.1) ++ a) (l.map (·.2) ++ b) = 0
  | [], a, b, _, h => by
    rcases h with rfl | rfl
    · simp [alike]
    · cases a <;> rfl
  | p :: l, a, b, hp, h => by
    have ih := alike_parts l a b (fun q hq => hp q (List.mem_cons_of_mem _ hq)) h
    have h1 := hp p List.mem_cons_self
    unfold alike at ih ⊢
    simp only [List.map_cons, List.cons_append, List.zip_cons_cons, List.filter_cons, h1]
    simpa using ih
/-- behind one turn nothing is alike any more -/
theorem alike_turn (a b : List Nat) : alike (turnA a b) (turnB a b) = 0 := by
  refine alike_parts _ _ _ (mism_parts a b) ?_
  rcases Nat.le_total a.length b.length with h | h
  · exact .inl (by rw [List.drop_eq_nil_iff]; omega)
  · exact .inr (by rw [List.drop_eq_nil_iff]; omega)
theorem alike_le (a b : List Nat) : alike a b ≤ min a.length b.length := by have := mism_len a b; omega
/-- the answer: the greatest length less what is left behind two turns -/
theorem told_turns (a b : List Nat) (h : ¬ (a.length > b.length + 2 ∨ b.length > a.length + 2)) :
    max a.length b.length - max (turnA (turnA a b) (turnB a b)).length (turnB (turnA a b) (turnB a b)).length = told a b := by
  have t1 := turn_len a b
  have t2 := turn_len (turnA a b) (turnB a b)
  rw [alike_turn] at t2
  have l := alike_le a b
  unfold told
  rw [if_neg h]
  omega

end Pl

open PySem.Calls

section Bs

abbrev Pg : Program := PySem.Challenge.rw_bs0040_01.row.prog
noncomputable abbrev KK (w : World) : Frag := Mine.hd.heap_39 w.params

/-- the table of the code of _calc_mra: whatever it holds -/
def TabOk (h : Heap) : Prop := ∃ ps : Array Value, TriplesOk ps.toList ∧ h.get? 194 = some (tabObj ps)

theorem kk_none (w : World) : (KK w).lookup 194 = none := by kernel_rfl
theorem kk_ne {w : World} {a : Addr} {o : Obj} (e : (KK w).lookup a = some o) : a ≠ 194 := fun q => by rw [q, kk_none] at e; cases e

/-- what stands at every state of the call -/
structure Gd' (w : World) (h : Heap) (gs : Array GenState) : Prop where
  K : (KK w).In h
  g : ∃ mg, h.Ns mainGlobals mg
  b : ∃ mb, h.Ns builtinsNs mb ∧ ∀ x : Str, x ≠ "__name__" → mb x = bootBuiltins x
  lim : h.NoLimit
  mod : ∃ mg bm ob, BMod h mainGlobals mg bm ob
  tab : TabOk h
  bare : AllBare gs
abbrev Gd (w : World) (s : Shared) : Prop := Gd' w s.heap s.gens

/-- what a step of the program does to what stood before it: it leaves it, but for the table -/
structure Eff' (h : Heap) (g : Array GenState) (o : OsState) (h' : Heap) (g' : Array GenState) (o' : OsState) : Prop where
  keep : ∀ b o, b ≠ 194 → h.get? b = some o → h'.get? b = some o
  tab : TabOk h → TabOk h'
  bare : AllBare g → AllBare g'
  os : o' = o
abbrev Eff (s s' : Shared) : Prop := Eff' s.heap s.gens s.os s'.heap s'.gens s'.os

theorem Eff.refl (s : Shared) : Eff s s := ⟨fun _ _ _ e => e, fun x => x, fun x => x, rfl⟩
theorem Eff'.trans {h1 h2 h3 : Heap} {g1 g2 g3 : Array GenState} {o1 o2 o3 : OsState} (x : Eff' h1 g1 o1 h2 g2 o2) (y : Eff' h2 g2 o2 h3 g3 o3) : Eff' h1 g1 o1 h3 g3 o3 :=
  ⟨fun p o hp e => y.keep p o hp (x.keep p o hp e), fun t => y.tab (x.tab t), fun t => y.bare (x.bare t), y.os.trans x.os⟩
theorem TabOk.keeps {h h' : Heap} (x : TabOk h) (k : ∀ b o, h.get? b = some o → h'.get? b = some o) : TabOk h' := let ⟨ps, t, e⟩ := x; ⟨ps, t, k _ _ e⟩
/-- a step that leaves everything -/
theorem Eff.of {s : Shared} {h' : Heap} {tk : Nat} (k : ∀ b o, s.heap.get? b = some o → h'.get? b = some o) : Eff s { s with heap := h', toks := tk } :=
  ⟨fun b o _ e => k b o e, fun t => t.keeps k, fun x => x, rfl⟩
theorem Eff.of' {s s' : Shared} (k : ∀ b o, s.heap.get? b = some o → s'.heap.get? b = some o) (g : s'.gens = s.gens) (o : s'.os = s.os) : Eff s s' :=
  ⟨fun b o _ e => k b o e, fun t => t.keeps k, fun x => g ▸ x, o⟩
theorem Eff.toks {s : Shared} {tk : Nat} : Eff s { s with toks := tk } := .of fun _ _ e => e

theorem ns_but {h h' : Heap} {a : Addr} {m : Str → Option Value} (n : h.Ns a m) (ha : a ≠ 194) (k : ∀ b o, b ≠ 194 → h.get? b = some o → h'.get? b = some o) : h'.Ns a m := n.at' fun o e => k a o ha e
theorem bmod_but {h h' : Heap} {mg : Str → Option Value} {bm : Addr} {ob : Obj} (T : TabOk h) (x : BMod h mainGlobals mg bm ob) (k : ∀ b o, b ≠ 194 → h.get? b = some o → h'.get? b = some o) : BMod h' mainGlobals mg bm ob := by
  refine ⟨ns_but x.ns (by decide) k, x.name, x.ne, k _ _ (fun e => ?_) x.obj, x.cls, x.dict, x.data⟩
  obtain ⟨ps, _, t⟩ := T
  have o := x.obj
  rw [e, t] at o
  cases o
  exact absurd x.cls (by simp)
theorem Gd'.eff {w : World} {s s' : Shared} (G : Gd w s) (x : Eff s s') : Gd w s' where
  K := fun a o e => x.keep a o (kk_ne e) (G.K a o e)
  g := let ⟨mg, n⟩ := G.g; ⟨mg, ns_but n (by decide) x.keep⟩
  b := let ⟨mb, n, r⟩ := G.b; ⟨mb, ns_but n (by decide) x.keep, r⟩
  lim := let ⟨mc, n, r⟩ := G.lim; ⟨mc, ns_but n (by decide) x.keep, r⟩
  mod := let ⟨mg, bm, ob, r⟩ := G.mod; ⟨mg, bm, ob, bmod_but G.tab r x.keep⟩
  tab := x.tab G.tab
  bare := x.bare G.bare
theorem Gd'.lt {w : World} {h : Heap} {g : Array GenState} (G : Gd' w h g) : 194 < h.objs.size := let ⟨_, _, e⟩ := G.tab; Heap.lt_size e

theorem Gd'.ne {w : World} {h : Heap} {g : Array GenState} (G : Gd' w h g) {a : Addr} {o : Obj} (e : h.get? a = some o) (hc : o.cls ≠ .none) : a ≠ 194 := fun q => by
  obtain ⟨ps, _, t⟩ := G.tab
  rw [q, t] at e
  cases e
  exact hc rfl
theorem Gd'.lst {w : World} {s s' : Shared} (G : Gd w s) {a : Addr} {its : Array Value} (x : s.heap.IsList a its) (e : Eff s s') : s'.heap.IsList a its :=
  let ⟨o, ho, hc, r⟩ := x; ⟨o, e.keep a o (G.ne ho (by rw [hc]; exact fun q => nomatch q)) ho, hc, r⟩
/-- a frame of a def that was called in s₀: its names, its cells, and all that stood -/
structure Bd' (w : World) (s₀ : Shared) (env : Env) (m cm : Str → Option Value) (h : Heap) (gs : Array GenState) (ost : OsState) : Prop where
  G0 : Gd w s₀
  ns : h.Ns env.locals m
  cell : ∀ n c, env.cells.lookup n = some c → h.IsCell c (cm n)
  apart : env.cells.Pairwise fun x y => x.2 ≠ y.2
  above : ∀ n c, (n, c) ∈ env.cells → env.locals < c
  keep : ∀ b o, b ≠ 194 → s₀.heap.get? b = some o → h.get? b = some o
  tab : TabOk h
  bare : AllBare gs
  low : s₀.heap.objs.size ≤ env.locals
  os : ost = s₀.os
abbrev Bd (w : World) (s₀ : Shared) (env : Env) (m cm : Str → Option Value) (s : Shared) : Prop := Bd' w s₀ env m cm s.heap s.gens s.os

/-- what is known of a frame's environment -/
structure Ev (env : Env) (sc : Scope) (cs : List (Str × Addr)) : Prop where
  sc : env.scope = sc
  g : env.globals = mainGlobals
  b : env.builtins = builtinsNs
  c : env.cells = cs

section
variable {sc : Scope} {cs : List (Str × Addr)} {w : World} {s₀ s s' : Shared} {env : Env} {m cm : Str → Option Value} {M : Model} {A : Around} {E : Value → Shared → Prop}
/-- what the whole call did, at its end -/
theorem Bd'.end (B : Bd w s₀ env m cm s) : Eff s₀ s := ⟨B.keep, fun _ => B.tab, fun _ => B.bare, B.os⟩
theorem Bd'.G (B : Bd w s₀ env m cm s) : Gd w s := B.G0.eff B.end
theorem Bd'.loc (B : Bd w s₀ env m cm s) : 194 < env.locals := Nat.lt_of_lt_of_le B.G0.lt B.low
theorem Bd'.cgt (B : Bd w s₀ env m cm s) {n : Str} {c : Addr} (e : env.cells.lookup n = some c) : env.locals < c := B.above n c (mem_of_lookup e)
theorem Bd'.eff (B : Bd w s₀ env m cm s) (x : Eff s s') : Bd w s₀ env m cm s' where
  G0 := B.G0
  ns := B.ns.at' fun o e => x.keep _ o (Nat.ne_of_gt B.loc) e
  cell := fun n c e => let ⟨o, ho, hd⟩ := B.cell n c e; ⟨o, x.keep c o (Nat.ne_of_gt (Nat.lt_trans B.loc (B.cgt e))) ho, hd⟩
  apart := B.apart
  above := B.above
  keep := fun b o hb e => x.keep b o hb (B.keep b o hb e)
  tab := x.tab B.tab
  bare := x.bare B.bare
  low := B.low
  os := x.os.trans B.os

theorem Bd'.low' (B : Bd w s₀ env m cm s) {a : Addr} {o : Obj} (e : s₀.heap.get? a = some o) : a < env.locals := Nat.lt_of_lt_of_le (Heap.lt_size e) B.low
theorem tab_but {h h' : Heap} {a : Addr} (T : TabOk h) (ha : 194 ≠ a) (hs : Heap.SameBut a h h') : TabOk h' := let ⟨ps, t, e⟩ := T; ⟨ps, t, (hs.2 194 ha).trans e⟩
/-- an object that is none of the frame's own is changed -/
theorem Bd'.other {C : Addr} {h' : Heap} {tk : Nat} (B : Bd w s₀ env m cm s) (hs : Heap.SameBut C s.heap h') (hL : C ≠ env.locals) (hc : ∀ n c, env.cells.lookup n = some c → c ≠ C) (h0 : s₀.heap.get? C = none) (hT : C ≠ 194) :
    Bd w s₀ env m cm { s with heap := h', toks := tk } :=
  ⟨B.G0, B.ns.sameBut hs (Ne.symm hL), fun n c e => (B.cell n c e).sameBut hs (hc n c e), B.apart, B.above, fun b o hb e => hs.extBut b o (fun q => by rw [q, h0] at e; cases e) (B.keep b o hb e),
    tab_but B.tab (Ne.symm hT) hs, B.bare, B.low, B.os⟩
/-- a step that changes one object alone -/
def Oth (a : Addr) (s s' : Shared) : Prop := ∀ b o, b ≠ a → s.heap.get? b = some o → s'.heap.get? b = some o
/-- a local name is stored, the new state told in full -/
theorem Bd'.st0 {x : Str} {v : Value} {Q : Unit → Shared → Prop} (B : Bd w s₀ env m cm s) (V : Ev env sc cs) (hl : sc.names.lookup x = some .local)
    (h : ∀ h', Bd w s₀ env (fun y => if y = x then some v else m y) cm { s with heap := h', toks := s.toks + 1 } → Heap.SameBut env.locals s.heap h' → Q () { s with heap := h', toks := s.toks + 1 })
    (hk : sc.kind = .function := by rfl) : wpAny M A (storeName env x v) Q E s := by
  refine wpAny_storeName_local (by rw [Env.kindOf, V.sc]; exact hl) B.ns (fun h' hn hs => h h' ?_ hs) (by rw [V.sc, hk]; rfl)
  exact ⟨B.G0, hn, fun n c e => (B.cell n c e).sameBut hs (Nat.ne_of_gt (B.cgt e)), B.apart, B.above,
    fun b o hb e => (hs.2 b (Nat.ne_of_lt (B.low' e))).trans (B.keep b o hb e), tab_but B.tab (Nat.ne_of_lt B.loc) hs, B.bare, B.low, B.os⟩
/-- a local name is stored -/
theorem Bd'.st {x : Str} {v : Value} {Q : Unit → Shared → Prop} (B : Bd w s₀ env m cm s) (V : Ev env sc cs) (hl : sc.names.lookup x = some .local)
    (h : ∀ s', Bd w s₀ env (fun y => if y = x then some v else m y) cm s' → Oth env.locals s s' → Q () s')
    (hk : sc.kind = .function := by rfl) : wpAny M A (storeName env x v) Q E s := by
  refine wpAny_storeName_local (by rw [Env.kindOf, V.sc]; exact hl) B.ns (fun h' hn hs => h _ ?_ fun b o hb e => hs.extBut b o hb e) (by rw [V.sc, hk]; rfl)
  exact ⟨B.G0, hn, fun n c e => (B.cell n c e).sameBut hs (Nat.ne_of_gt (B.cgt e)), B.apart, B.above,
    fun b o hb e => (hs.2 b (Nat.ne_of_lt (B.low' e))).trans (B.keep b o hb e), tab_but B.tab (Nat.ne_of_lt B.loc) hs, B.bare, B.low, B.os⟩
/-- a cell's name is stored -/
theorem Bd'.stC {x : Str} {c : Addr} {v : Value} {Q : Unit → Shared → Prop} (B : Bd w s₀ env m cm s) (V : Ev env sc cs) (hl : sc.names.lookup x = some .cell) (hc₀ : cs.lookup x = some c)
    (h : ∀ s', Bd w s₀ env m (fun y => if y = x then some v else cm y) s' → Oth c s s' → Q () s')
    (hk : sc.kind = .function := by rfl) : wpAny M A (storeName env x v) Q E s := by
  have hc : env.cells.lookup x = some c := by rw [V.c]; exact hc₀
  have hLc := B.cgt hc
  refine wpAny_storeName_cell (by rw [V.sc]; exact hk) (by rw [Env.kindOf, V.sc]; exact hl) hc (B.cell x c hc) fun h' hv hs => h _ ?_ fun b o hb e => hs.extBut b o hb e
  refine ⟨B.G0, B.ns.sameBut hs (Nat.ne_of_lt hLc), fun n c' e => ?_, B.apart, B.above,
    fun b o hb e => (hs.2 b (Nat.ne_of_lt (Nat.lt_trans (B.low' e) hLc))).trans (B.keep b o hb e), tab_but B.tab (Nat.ne_of_lt (Nat.lt_trans B.loc hLc)) hs, B.bare, B.low, B.os⟩
  by_cases hn : n = x
  · subst hn; rw [hc] at e; cases e; simpa using hv
  · have hcc : c' ≠ c := fun q => hn (name_of_addr B.apart (mem_of_lookup e) (q ▸ mem_of_lookup hc))
    simpa [hn] using (B.cell n c' e).sameBut hs hcc
end

/-- a frame to read from -/
structure Rd (w : World) (env : Env) (m cm : Str → Option Value) (h : Heap) (gs : Array GenState) : Prop where
  G : Gd' w h gs
  ns : h.Ns env.locals m
  cell : ∀ n c, env.cells.lookup n = some c → h.IsCell c (cm n)
theorem Rd.eff {w : World} {env : Env} {m cm : Str → Option Value} {s s' : Shared} (R : Rd w env m cm s.heap s.gens) (e : Eff s s') : Rd w env m cm s'.heap s'.gens := by
  obtain ⟨ps, _, t⟩ := R.G.tab
  refine ⟨R.G.eff e, R.ns.at' fun o q => e.keep _ o (fun z => ?_) q, fun n c q => ?_⟩
  · obtain ⟨o', es, ep, e1, e2, _⟩ := R.ns
    rw [z, t] at e1; cases e1; cases e2
  · obtain ⟨o, ho, hd⟩ := R.cell n c q
    exact ⟨o, e.keep c o (fun z => by rw [z, t] at ho; cases ho; cases hd) ho, hd⟩
theorem Bd'.rd {w : World} {s₀ : Shared} {env : Env} {m cm : Str → Option Value} {s : Shared} (B : Bd w s₀ env m cm s) : Rd w env m cm s.heap s.gens := ⟨B.G, B.ns, B.cell⟩

section
variable {sc : Scope} {cs : List (Str × Addr)} {w : World} {s : Shared} {env : Env} {m cm : Str → Option Value} {M : Model} {A : Around} {E : Value → Shared → Prop}
/-- a local name is read -/
theorem Rd.ld {x : Str} {pos : Pos} {v : Value} {Q : Value → Shared → Prop} (B : Rd w env m cm s.heap s.gens) (V : Ev env sc cs) (hl : sc.names.lookup x = some .local) (hv : m x = some v) (h : Q v s)
    (hk : sc.kind = .function := by rfl) (hd : (x == ("__debug__" : Str)) = false := by decide) :
    wpAny M A (eval (.Name x pos) env) Q E s := wpAny_Name (wpAny_loadName_local (by rw [V.sc]; exact hk) (by rw [Env.kindOf, V.sc]; exact hl) B.ns hv h) hd
/-- a cell's name is read -/
theorem Rd.ldC {x : Str} {pos : Pos} {c : Addr} {v : Value} {Q : Value → Shared → Prop} (B : Rd w env m cm s.heap s.gens) (V : Ev env sc cs) (hl : sc.names.lookup x = some .cell) (hc : cs.lookup x = some c) (hv : cm x = some v) (h : Q v s)
    (hk : sc.kind = .function := by rfl) (hd : (x == ("__debug__" : Str)) = false := by decide) :
    wpAny M A (eval (.Name x pos) env) Q E s :=
  have hc' : env.cells.lookup x = some c := by rw [V.c]; exact hc
  wpAny_Name (wpAny_loadName_cell (by rw [V.sc]; exact hk) (by rw [Env.kindOf, V.sc]; exact hl) hc' (hv ▸ B.cell x c hc') h) hd
theorem Rd.ldF {x : Str} {pos : Pos} {c : Addr} {v : Value} {Q : Value → Shared → Prop} (B : Rd w env m cm s.heap s.gens) (V : Ev env sc cs) (hl : sc.names.lookup x = some .free) (hc : cs.lookup x = some c) (hv : cm x = some v) (h : Q v s)
    (hk : sc.kind = .function := by rfl) (hd : (x == ("__debug__" : Str)) = false := by decide) (hd' : (x == ("__classdict__" : Str)) = false := by decide) :
    wpAny M A (eval (.Name x pos) env) Q E s :=
  have hc' : env.cells.lookup x = some c := by rw [V.c]; exact hc
  wpAny_Name (wpAny_loadName_free (by rw [V.sc]; exact hk) (by rw [Env.kindOf, V.sc]; exact hl) hc' (hv ▸ B.cell x c hc') h hd') hd
/-- a name of the top -/
theorem Rd.name {x : Str} {pos : Pos} {v : Value} {Q : Value → Shared → Prop} (B : Rd w env m cm s.heap s.gens) (V : Ev env sc cs) (hx : sc.names.lookup x = some .globalImplicit) (e : nsIn (KK w) mainGlobals x = some (some v)) (h : Q v s)
    (hk : sc.kind = .function := by rfl) (hd : (x == ("__debug__" : Str)) = false := by decide) :
    wpAny M A (eval (.Name x pos) env) Q E s :=
  let ⟨mg, n⟩ := B.G.g
  Name_function_global (by rw [V.sc]; exact hk) (by rw [Env.kindOf, V.sc]; exact hx) (loadGlobal_global (env := env) (by rw [V.g]; exact n) (mg_of B.G.K n e) h) hd
/-- a built-in name -/
theorem Rd.built {x : Str} {pos : Pos} {v : Value} {Q : Value → Shared → Prop} (B : Rd w env m cm s.heap s.gens) (V : Ev env sc cs) (hx : sc.names.lookup x = some .globalImplicit) (e : nsIn (KK w) mainGlobals x = some none) (hv : bootBuiltins x = some v) (h : Q v s) (hn : x ≠ "__name__" := by decide)
    (hk : sc.kind = .function := by rfl) (hd : (x == ("__debug__" : Str)) = false := by decide) :
    wpAny M A (eval (.Name x pos) env) Q E s :=
  let ⟨mg, n⟩ := B.G.g
  let ⟨mb, nb, r⟩ := B.G.b
  Name_function_global (by rw [V.sc]; exact hk) (by rw [Env.kindOf, V.sc]; exact hx) (loadGlobal_builtin (env := env) (by rw [V.g]; exact n) (mg_none_of B.G.K n e) (by rw [V.b]; exact nb) ((r x hn).trans hv) h) hd
end

section
variable {w : World} {A : Around} {s : Shared} {R : Result → Shared → Prop}
/-- a def is called: its arguments bound without a further object -/
theorem enter {f : Addr} {oc : Value} {od : Option Addr} {fd : FuncData} {sl : Array (Option Value)} {body : List Stmt} {args : Args} {binds : List (Str × Value)} (G : Gd w s) (hA : A.depth < recursionLimit)
    (ho : (KK w).lookup f = some ⟨oc, od, .func fd, sl⟩) (hcd : codeIn (KK w) fd.code fd.qualname = true) (hbody : fd.body = .stmts body) (hbind : bindArgs fd args = pure binds) (hclo : fd.closure = [])
    {sc : Scope} (hsc : fd.scope = sc) (hkind₀ : (binds.all fun y => sc.names.lookup y.1 == some .local || sc.names.lookup y.1 == some .cell) = true)
    (hg : fd.globals = mainGlobals) (hb : fd.builtins = builtinsNs)
    {cd : Value} (hcd' : fd.code = cd)
    (h : ∀ env, Ev env sc (cellsFrom (env.locals + 1) sc.names []) → env.code = cd → ∀ s₁, Bd w s env (bindL (fun n => sc.names.lookup n) binds fun _ => none) (bindC (fun n => sc.names.lookup n) binds fun _ => none) s₁ →
      wpAny (model Pg w) (A.deeper env) (execs body env) (fun fl s' => R (.ok (.ret (match fl with | .ret v => v | _ => .none))) s') (fun _ _ => False) s₁)
    (hco : sc.isCoroutine = false := by rfl) (hgen : sc.isGenerator = false := by rfl) (hk : sc.kind = .function := by rfl) :
    codeAny (model Pg w) A (.call (.ref f) args) R s := by
  subst hsc hcd'
  have hkind := kindsX hkind₀
  refine codeAny_call_function hA (G.K _ _ ho) rfl hco hgen hbody (codeRec_of G.K hcd) ?_
  rw [hbind, hclo]
  refine wpAny_pure (wpAny_newFunctionEnv_cells hk (hkind _) fun env he s' x => ?_)
  refine ⟨G.lim.keeps x.toInCall.keep, ?_⟩
  obtain ⟨h', tk, rfl, hk'⟩ := x.done
  subst he
  refine codeAny_func (wpAny_mono (h _ ⟨rfl, hg, hb, rfl⟩ rfl _ ⟨G, x.toInCall.ns, x.cell, x.apart, x.above, fun b o _ e => hk' b o e, G.tab.keeps hk', G.bare, x.toInCall.fresh, rfl⟩) (fun _ _ y => y) fun _ _ y => y.elim)
/-- the same, where the last arguments are laid into a tuple -/
theorem enterV {f : Addr} {oc : Value} {od : Option Addr} {fd : FuncData} {sl : Array (Option Value)} {body : List Stmt} {args : Args} {vs : List Value} {binds : Value → List (Str × Value)} (G : Gd w s) (hA : A.depth < recursionLimit)
    (ho : (KK w).lookup f = some ⟨oc, od, .func fd, sl⟩) (hcd : codeIn (KK w) fd.code fd.qualname = true) (hbody : fd.body = .stmts body) (hbind : bindArgs fd args = newTuple vs >>= fun t => pure (binds t)) (hclo : fd.closure = [])
    {sc : Scope} (hsc : fd.scope = sc) (hkind₀ : ∀ t, ((binds t).all fun y => sc.names.lookup y.1 == some .local || sc.names.lookup y.1 == some .cell) = true) (hvs : vs.length ≤ sizeLine)
    (hg : fd.globals = mainGlobals) (hb : fd.builtins = builtinsNs)
    {cd : Value} (hcd' : fd.code = cd)
    (h : ∀ T env, Ev env sc (cellsFrom (env.locals + 1) sc.names []) → env.code = cd → T < env.locals → ∀ s₁, Bd w s env (bindL (fun n => sc.names.lookup n) (binds (.ref T)) fun _ => none) (bindC (fun n => sc.names.lookup n) (binds (.ref T)) fun _ => none) s₁ →
      s.heap.get? T = none → s₁.heap.get? T = some { cls := .type "tuple", data := .seq vs.toArray } →
      wpAny (model Pg w) (A.deeper env) (execs body env) (fun fl s' => R (.ok (.ret (match fl with | .ret v => v | _ => .none))) s') (fun _ _ => False) s₁)
    (hco : sc.isCoroutine = false := by rfl) (hgen : sc.isGenerator = false := by rfl) (hk : sc.kind = .function := by rfl) :
    codeAny (model Pg w) A (.call (.ref f) args) R s := by
  subst hsc hcd'
  have hkind := fun t => kindsX (hkind₀ t)
  refine codeAny_call_function hA (G.K _ _ ho) rfl hco hgen hbody (codeRec_of G.K hcd) ?_
  rw [hbind, hclo]
  refine wpAny_bind (wpAny_newTuple (wpAny_pure ?_) hvs)
  have k1 : ∀ b o, s.heap.get? b = some o → (s.heap.push { cls := .type "tuple", data := .seq vs.toArray }).get? b = some o := fun _ _ e => Heap.get?_push_of_some _ e
  refine wpAny_newFunctionEnv_cells hk (hkind _ _) fun env he s' x => ?_
  refine ⟨(G.lim.keeps k1).keeps x.toInCall.keep, ?_⟩
  obtain ⟨h', tk, rfl, hk'⟩ := x.done
  have hL : env.locals = s.heap.objs.size + 1 := by rw [he]; exact Heap.size_push ..
  subst he
  refine codeAny_func (wpAny_mono (h s.heap.objs.size _ ⟨rfl, hg, hb, rfl⟩ rfl (by rw [hL]; exact Nat.lt_succ_self _) _ ⟨G, x.toInCall.ns, x.cell, x.apart, x.above, fun b o _ e => hk' b o (k1 b o e), G.tab.keeps fun b o e => hk' b o (k1 b o e), G.bare, by rw [hL]; exact Nat.le_succ _, rfl⟩ ?_ ?_) (fun _ _ y => y) fun _ _ y => y.elim)
  · cases e : s.heap.get? s.heap.objs.size with
    | none => rfl
    | some o => exact absurd (Heap.lt_size e) (Nat.lt_irrefl _)
  · exact hk' _ _ (Heap.get?_push_size _ rfl)
end

end Bs

section Gl
section
variable {sc : Scope} {cs : List (Str × Addr)} {w : World} {s : Shared} {env : Env} {m cm : Str → Option Value} {M : Model} {A : Around} {E : Value → Shared → Prop}
theorem gld {x : Str} {pos : Pos} {v : Value} {Q : Value → Shared → Prop} (B : s.heap.Ns env.locals m) (V : Ev env sc cs) (hl : sc.names.lookup x = some .local) (hv : m x = some v) (h : Q v s)
    (hk : sc.kind = .function := by rfl) (hd : (x == ("__debug__" : Str)) = false := by decide) :
    wpAny M A (eval (.Name x pos) env) Q E s := wpAny_Name (wpAny_loadName_local (by rw [V.sc]; exact hk) (by rw [Env.kindOf, V.sc]; exact hl) B hv h) hd
theorem gldF {x : Str} {pos : Pos} {c : Addr} {v : Value} {Q : Value → Shared → Prop} (B : ∀ n a, cs.lookup n = some a → s.heap.IsCell a (cm n)) (V : Ev env sc cs) (hl : sc.names.lookup x = some .free) (hc : cs.lookup x = some c) (hv : cm x = some v) (h : Q v s)
    (hk : sc.kind = .function := by rfl) (hd : (x == ("__debug__" : Str)) = false := by decide) (hd' : (x == ("__classdict__" : Str)) = false := by decide) :
    wpAny M A (eval (.Name x pos) env) Q E s :=
  have hc' : env.cells.lookup x = some c := by rw [V.c]; exact hc
  wpAny_Name (wpAny_loadName_free (by rw [V.sc]; exact hk) (by rw [Env.kindOf, V.sc]; exact hl) hc' (hv ▸ B x c hc) h hd') hd
end

end Gl

local macro_rules | `(tactic| walk_at "eval Name") => `(tactic| first
  | refine Rd.ld (by first | assumption | exact Bd'.rd (by assumption)) (by assumption) (by rfl) (by first | rfl | assumption) ?_
  | refine Rd.ldC (by first | assumption | exact Bd'.rd (by assumption)) (by assumption) (by rfl) (by rfl) (by first | rfl | assumption) ?_
  | refine Rd.name (by first | assumption | exact Bd'.rd (by assumption)) (by assumption) (by rfl) (by rfl) ?_
  | refine Rd.built (by first | assumption | exact Bd'.rd (by assumption)) (by assumption) (by rfl) (by rfl) (by boot_by_name) ?_
  | refine gld (by assumption) (by assumption) (by rfl) (by first | rfl | assumption) ?_
  | refine gldF (by assumption) (by assumption) (by rfl) (by rfl) (by first | rfl | assumption) ?_)

section Ru

/-- an iterator that is drawn from, its items bound to a target, turn by turn -/
structure Turns (w : World) (A : Around) (target : Expr) (xs : List Str) (I : Addr) (fp wr : List Addr) (n : Nat) (St : Nat → Heap → Prop) (V : Nat → (Str → Option Value) → Heap → Prop) : Prop where
  sub : ∀ b ∈ wr, b ∈ fp
  live : ∀ i h, St i h → ∀ b ∈ wr, ∃ o, h.get? b = some o
  frame : ∀ i h h', St i h → (∀ b ∈ fp, ∀ o, h.get? b = some o → h'.get? b = some o) → St i h'
  item : ∀ i (s : Shared) (cenv : Env) (m : Str → Option Value) (Q : Unit → Shared → Prop) (E : Value → Shared → Prop), i < n → St i s.heap → s.heap.Ns cenv.locals m → cenv.locals ∉ fp →
    (∀ x ∈ xs, cenv.kindOf x = some .local) → cenv.scope.kind = .function →
    (∀ h' tk m', V i m' h' → (∀ x, x ∉ xs → m' x = m x) → St (i + 1) h' → h'.Ns cenv.locals m' → (∀ b o, b ∉ wr → b ≠ cenv.locals → s.heap.get? b = some o → h'.get? b = some o) → Q () { s with heap := h', toks := tk }) →
    wpAny (model Pg w) A (pyNext (.ref I)) (fun r s₁ => match r with
      | none => False
      | some v => wpAny (model Pg w) A (letOwnedTupleGo target (.ref I) v) (fun _ s₂ => wpAny (model Pg w) A (assign target cenv v) Q E s₂) E s₁) E s
  done : ∀ (s : Shared) (Q : Option Value → Shared → Prop) (E : Value → Shared → Prop), St n s.heap →
    (∀ h' tk, (∀ b o, b ∉ wr → s.heap.get? b = some o → h'.get? b = some o) → Q none { s with heap := h', toks := tk }) → wpAny (model Pg w) A (pyNext (.ref I)) Q E s
  self : ∀ i (s : Shared) (Q : Value → Shared → Prop) (E : Value → Shared → Prop), St i s.heap → Q (.ref I) s → wpAny (model Pg w) A (pyIter (.ref I)) Q E s

theorem Turns.name {w : World} {A : Around} {x : Str} {px : Pos} {I : Addr} {fp wr : List Addr} {n : Nat} {P : Nat → Value → Prop} {St : Nat → Heap → Prop} (W : Walks Pg w A I fp wr n P St) (hl : ∀ i h, St i h → ∀ b ∈ wr, ∃ o, h.get? b = some o) :
    Turns w A (.Name x px) [x] I fp wr n St (fun i m _ => ∃ v, P i v ∧ m x = some v) where
  sub := W.sub
  live := hl
  frame := W.frame
  item := fun i s cenv m Q E hi hst hn hC hx hk hQ => by
    refine W.item i s _ E hi hst fun v h' tk hP hst' hk' => ?_
    refine wpAny_of_eq (rfl : letOwnedTupleGo (.Name x px) (.ref I) v = pure ()) ?_
    have hCw : cenv.locals ∉ wr := fun h => hC (W.sub _ h)
    refine wpAny_assign_Name (wpAny_storeName_local (hx x List.mem_cons_self) (hn.at' fun o e => hk' _ o hCw e) (fun h₂ hn₂ hs₂ => ?_) (by rw [hk]; rfl))
    exact hQ h₂ _ _ ⟨v, hP, by simp⟩ (fun y hy => by simp at hy; simp [hy]) (W.frame _ _ _ hst' fun b hb o e => hs₂.extBut b o (fun q => hC (q ▸ hb)) e) hn₂ fun b o hb hbC e => hs₂.extBut b o hbC (hk' b o hb e)
  done := W.done
  self := W.self

/-- a tuple of two is laid out into two local names -/
theorem twoNames {w : World} {A : Around} {E : Value → Shared → Prop} {s : Shared} {cenv : Env} {m : Str → Option Value} {T : Addr} {va vb : Value} {xa xb : Str} {pa pb pt : Pos} {kt : Nat} {Q : Unit → Shared → Prop} (hh : A.handled = none) (hT : s.heap.IsTuple T #[va, vb]) (hn : s.heap.Ns cenv.locals m)
    (hxa : cenv.kindOf xa = some .local) (hxb : cenv.kindOf xb = some .local) (hk : cenv.scope.kind = .function)
    (h : ∀ h' tk, h'.Ns cenv.locals (fun y => if y = xb then some vb else if y = xa then some va else m y) → (∀ b o, b ≠ cenv.locals → s.heap.get? b = some o → h'.get? b = some o) → Q () { s with heap := h', toks := tk }) :
    wpAny (model Pg w) A (assign (.Tuple [.Name xa pa, .Name xb pb] kt pt) cenv (.ref T)) Q E s := by
  have fn : (cenv.scope.kind == .class || (cenv.scope.kind == .module && cenv.locals != cenv.globals)) = false := by rw [hk]; rfl
  refine wpAny_assign_Tuple hh hT rfl rfl fun h0 k0 => ?_
  have keep : ∀ b o, s.heap.get? b = some o → h0.get? b = some o := fun b o e => k0 b o (Nat.ne_of_lt (Heap.lt_size e)) e
  refine wpAny_bind (wpAny_holding (wpAny_assign_Name (wpAny_storeName_local hxa (hn.at' fun o e => keep _ o e) (fun h1 n1 k1 => ?_) fn)))
  refine wpAny_bind (wpAny_holding (wpAny_assign_Name (wpAny_storeName_local hxb n1 (fun h2 n2 k2 => wpAny_pure ?_) fn)))
  exact h h2 _ n2 fun b o hb e => k2.extBut b o hb (k1.extBut b o hb (keep b o e))
theorem Turns.pair {w : World} {A : Around} {xa xb : Str} {pa pb pt : Pos} {kt : Nat} {I : Addr} {fp wr : List Addr} {n : Nat} {Pt : Nat → Array Value → Prop} {St : Nat → Heap → Prop} {Mid : Nat → Addr → Heap → Prop} (hh : A.handled = none)
    (W : WalksU Pg w A I fp wr n Pt St Mid) (hsz : ∀ i vals, Pt i vals → ∃ va vb, vals = #[va, vb]) (hab : xa ≠ xb) (hl : ∀ i h, St i h → ∀ b ∈ wr, ∃ o, h.get? b = some o) :
    Turns w A (.Tuple [.Name xa pa, .Name xb pb] kt pt) [xa, xb] I fp wr n St (fun i m _ => ∃ va vb, Pt i #[va, vb] ∧ m xa = some va ∧ m xb = some vb) where
  sub := W.sub
  live := hl
  frame := W.frame
  item := fun i s cenv m Q E hi hst hn hC hx hk hQ => by
    have hCw : cenv.locals ∉ wr := fun h => hC (W.sub _ h)
    refine W.item i s _ E hi hst fun T vals h₁ tk₁ hPv hT₁ hmid hk₁ => ?_
    obtain ⟨va, vb, rfl⟩ := hsz i vals hPv
    refine W.go _ _ _ i T _ _ _ hmid fun h₁' hst₁ hk₁' => ?_
    refine twoNames hh (let ⟨o, e, r⟩ := hT₁; ⟨o, hk₁' _ o (W.apart i T _ hmid) e, r⟩) (hn.at' fun o e => hk₁' _ o hCw (hk₁ _ o hCw e)) (hx xa List.mem_cons_self) (hx xb (List.mem_cons_of_mem _ List.mem_cons_self)) hk fun h₂ tk₂ hn₂ k₂ => ?_
    exact hQ h₂ _ _ ⟨va, vb, hPv, by simp [hab], by simp⟩ (fun y hy => by simp at hy; simp [hy]) (W.frame _ _ _ hst₁ fun b hb o e => k₂ b o (fun q => hC (q ▸ hb)) e) hn₂ fun b o hbw hbC e => k₂ b o hbC (hk₁' b o hbw (hk₁ b o hbw e))
  done := W.done
  self := W.self

theorem Turns.draw {w : World} {A : Around} {target : Expr} {xs : List Str} {I : Addr} {fp wr : List Addr} {n : Nat} {St : Nat → Heap → Prop} {V : Nat → (Str → Option Value) → Heap → Prop} (W : Turns w A target xs I fp wr n St V) {i : Nat} {s : Shared} {cenv : Env}
    {m : Str → Option Value} {Q : Unit → Shared → Prop} {N : Shared → Prop} {E : Value → Shared → Prop} (hi : i < n) (hst : St i s.heap) (hn : s.heap.Ns cenv.locals m) (hf : cenv.locals ∉ fp)
    (hx : ∀ x ∈ xs, cenv.kindOf x = some .local) (hk : cenv.scope.kind = .function)
    (h : ∀ h' tk m', V i m' h' → (∀ x, x ∉ xs → m' x = m x) → St (i + 1) h' → h'.Ns cenv.locals m' → (∀ b o, b ∉ wr → b ≠ cenv.locals → s.heap.get? b = some o → h'.get? b = some o) → Q () { s with heap := h', toks := tk }) :
    wpAny (model Pg w) A (pyNext (.ref I)) (fun r s₁ => match r with
      | none => N s₁
      | some v => wpAny (model Pg w) A (letOwnedTupleGo target (.ref I) v) (fun _ s₂ => wpAny (model Pg w) A (assign target cenv v) Q E s₂) E s₁) E s := by
  refine wpAny_mono (W.item i s cenv m Q E hi hst hn hf hx hk h) (fun r s₁ h₁ => ?_) fun _ _ e => e
  cases r with
  | none => exact h₁.elim
  | some v => exact h₁

section
variable {w : World} {A : Around} {R : Result → Shared → Prop} {s : Shared}
theorem compLoop_any {elt target iter : Expr} {ifs : List Expr} {scope : Scope} {pos : Pos} {it acc : Value} {env : Env} (I : Nat → Shared → Prop)
    (turn : ∀ n s, I n s → ∀ E : Value → Shared → Prop, wpAny (model Pg w) A (pyNext it) (fun r s₁ => match r with
      | none => R (.ok .next) s₁
      | some v => wpAny (model Pg w) A (letOwnedTupleGo target it v) (fun _ s₁' => wpAny (model Pg w) A (assign target env v) (fun _ s₂ =>
          wpAny (model Pg w) A (forIn ifs true fun c r => if r = true then do let ok ← isTrue c env (eval c env); pure (ForInStep.yield ok) else pure (ForInStep.yield r)) (fun ok s₃ =>
            if ok = true then wpAny (model Pg w) A (eval elt env) (fun x s₄ =>
              wpAny (model Pg w) A (call (.builtin "list.append") [acc, x]) (fun _ s₅ => ∃ m, m < n ∧ I m s₅) E s₄) E s₃
            else ∃ m, m < n ∧ I m s₃) E s₂) E s₁') E s₁) E s)
    (n : Nat) (h : I n s) :
    codeAny (model Pg w) A (.compLoop (.ListComp elt [⟨target, iter, ifs, 0⟩] scope pos) 0 it acc env) R s := by
  refine codeAny_loop rfl I (fun n s hI => ?_) n h
  show wpAny _ A ((compTurn (.ListComp elt [⟨target, iter, ifs, 0⟩] scope pos) 0 it acc env).onRaise (fun x => do noteFrame x env; theTreesLotGoes x)) _ _ s
  refine wpAny_noted ?_
  rw [compTurn_list]
  refine wpAny_bind (wpAny_standAt (wpAny_bind (wpAny_mono (turn n s hI _) (fun r s₁ h₁ => ?_) fun _ _ h' => h')))
  cases r with
  | none => exact wpAny_pure h₁
  | some v =>
    refine wpAny_bind (wpAny_mono h₁ (fun _ s₁' h₁' => ?_) fun _ _ h' => h')
    refine wpAny_bind (wpAny_mono h₁' (fun _ s₂ h₂ => wpAny_bind (wpAny_mono h₂ (fun ok s₃ h₃ => ?_) fun _ _ h' => h')) fun _ _ h' => h')
    cases ok with
    | false => exact wpAny_pure ⟨rfl, h₃⟩
    | true =>
      exact wpAny_bind (wpAny_bind (wpAny_mono h₃ (fun x s₄ h₄ => wpAny_bind (wpAny_mono h₄ (fun _ s₅ h₅ => wpAny_pure (wpAny_pure ⟨rfl, h₅⟩)) fun _ _ h' => h')) fun _ _ h' => h'))
end

/-- a list that was made: what stands in it -/
abbrev lst (ys : List Value) : Obj := { cls := .type "list", data := .seq ys.toArray ys.length }
def Holds1 (h : Heap) (y : Value) : Option (Array Value) → Prop
  | none => True
  | some vs => ∃ a n, y = .ref a ∧ h.get? a = some { cls := .type "list", data := .seq vs n }
/-- an item that a turn made: a plain value, or a fresh list -/
def ElemOk (off : List Addr) (g h : Heap) (F : Nat → Value → Option (Array Value) → Prop) (i : Nat) (y : Value) : Prop :=
  ∃ d, F i y d ∧ Holds1 h y d ∧ (d ≠ none → ∀ a, y = .ref a → g.get? a = none ∧ a ∉ off)
theorem ElemOk.keep {off : List Addr} {g h h' : Heap} {F : Nat → Value → Option (Array Value) → Prop} {i : Nat} {y : Value} (x : ElemOk off g h F i y) (k : ∀ b o, b ∉ off → h.get? b = some o → h'.get? b = some o) : ElemOk off g h' F i y := by
  obtain ⟨d, h1, h2, h3⟩ := x
  refine ⟨d, h1, ?_, h3⟩
  cases d with
  | none => trivial
  | some vs =>
    obtain ⟨a, n, e, q⟩ := h2
    exact ⟨a, n, e, k a _ (h3 (by simp) a e).2 q⟩
theorem paired_mono {α β : Type} {F F' : α → β → Prop} : ∀ {l₁ : List α} {l₂ : List β}, Paired F l₁ l₂ → (∀ a b, F a b → F' a b) → Paired F' l₁ l₂
  | _, _, .nil, _ => .nil
  | _, _, .cons x r, h => .cons (h _ _ x) (paired_mono r h)
theorem filter_range_succ (pz : Nat → Bool) (i : Nat) : (List.range (i + 1)).filter pz = (List.range i).filter pz ++ (if pz i then [i] else []) := by
  rw [List.range_succ, List.filter_append]
  congr 1
  cases h : pz i <;> simp [h]

/-- the scope of a comprehension's block, as its frame sees it -/
def rl (scope sc : Scope) : Scope := { scope with names := scope.names.map fun (n, k) => if (k == .free && sc.kind == .function && sc.names.lookup n == some .cell) then (n, .cell) else (n, k) }
theorem relabel_eq {scope sc : Scope} {env : Env} (e : env.scope = sc) : relabel scope env = rl scope sc := by
  subst e; rfl
def ClOk (cs : List (Str × Addr)) : List (Str × Addr) → Prop
  | [] => True
  | p :: r => cs.lookup p.1 = some p.2 ∧ ClOk cs r
theorem ClOk.get {cs : List (Str × Addr)} : ∀ {cl : List (Str × Addr)}, ClOk cs cl → ∀ n c, cl.lookup n = some c → cs.lookup n = some c
  | p :: r, h, n, c, e => by
    rw [List.lookup_cons] at e
    cases hn : n == p.1 with
    | true => rw [hn] at e; cases e; rw [eq_of_beq hn]; exact h.1
    | false => rw [hn] at e; exact ClOk.get h.2 n c e

section
variable {w : World} {A : Around} {E : Value → Shared → Prop} {s s₀ : Shared} {env : Env} {m₀ cm : Str → Option Value} {sc : Scope} {cs : List (Str × Addr)}

/-- what a comprehension asks of its source and of its turns -/
def CompSt (w : World) (A : Around) (s : Shared) (cm : Str → Option Value) (sc : Scope) (elt target : Expr) (ifs : List Expr) (scope : Scope) (cl : List (Str × Addr)) (Q : Value → Shared → Prop) (it : Value) (s₂ : Shared) : Prop :=
  Eff s s₂ ∧ ∃ xs I fp wr n St V, ∃ (pz : Nat → Bool) (F : Nat → Value → Option (Array Value) → Prop), it = .ref I ∧ Turns w A target xs I fp wr n St V ∧ (∀ x ∈ xs, scope.names.lookup x = some .local) ∧ n ≤ sizeLine ∧ St 0 s₂.heap ∧ (∀ b ∈ fp, b < s₂.heap.objs.size) ∧
    (∀ b ∈ wr, s.heap.get? b = none) ∧ 194 ∉ fp ∧
    (∀ i cenv m s₃ E', i < n → V i m s₃.heap → Ev cenv (rl scope sc) cl → Rd w cenv m cm s₃.heap s₃.gens → Eff s s₃ →
      wpAny (model Pg w) A (forIn ifs true fun c r => if r = true then do let ok ← isTrue c cenv (eval c cenv); pure (ForInStep.yield ok) else pure (ForInStep.yield r)) (fun ok s₄ => ok = pz i ∧ Eff s₃ s₄) E' s₃) ∧
    (∀ i cenv m sd s₃ E', i < n → V i m sd.heap → (Eff s sd ∧ Eff sd s₃) → pz i = true → Ev cenv (rl scope sc) cl → Rd w cenv m cm s₃.heap s₃.gens → Eff s s₃ →
      wpAny (model Pg w) A (eval elt cenv) (fun y s₄ => Eff s₃ s₄ ∧ ∃ d, F i y d ∧ Holds1 s₄.heap y d ∧ (d ≠ none → ∀ a, y = .ref a → s₃.heap.get? a = none)) E' s₃) ∧
    (∀ D ys s', Eff s s' → s.heap.get? D = none → s'.heap.get? D = some (lst ys) → Paired (ElemOk [D] s.heap s'.heap F) ((List.range n).filter pz) ys → Q (.ref D) s')

/-- what stands behind the making of a list and of a block's frame -/
theorem afterBlock {h h' : Heap} {o f : Obj} (k : Heap.SameBut (h.push o).objs.size ((h.push o).push f) h') (ho : o.isFreed = false) :
    (h.push o).objs.size = h.objs.size + 1 ∧ (∀ b x, h.get? b = some x → h'.get? b = some x) ∧ h'.get? h.objs.size = some o := by
  have z := Heap.size_push h (o := o)
  refine ⟨z, fun b x e => k.extBut b x (fun q => ?_) (Heap.get?_push_of_some _ (Heap.get?_push_of_some _ e)), k.extBut _ _ (fun q => ?_) (Heap.get?_push_of_some _ (Heap.get?_push_size _ ho))⟩
  · have := Heap.lt_size e
    rw [q, z] at this
    exact absurd this (Nat.not_lt.mpr (Nat.le_succ _))
  · rw [z] at q; exact Nat.succ_ne_self _ q.symm
theorem compBlock {elt target iter : Expr} {ifs : List Expr} {scope : Scope} {cl : List (Str × Addr)} {pos : Pos} {Q : Value → Shared → Prop} {s₂ : Shared} {it : Value} (B : Bd w s₀ env m₀ cm s) (V : Ev env sc cs) (hcl : ClOk cs cl)
    (hcell : ∀ y ∈ scope.names, y.2 ≠ .cell) (hkind : scope.kind = .function) {RR : Value → Addr → Result → Shared → Prop}
    (h : CompSt w A s cm sc elt target ifs scope cl Q it s₂)
    (hRR : ∀ D C m' s', D ≠ C → s.heap.get? C = none → C ≠ 194 → D ≠ 194 → s'.heap.Ns C m' → (∀ h', Heap.SameBut C s'.heap h' → Q (.ref D) { s' with heap := h' }) → Eff s s' → RR (.ref D) C (.ok .next) s') :
    wpAny (model Pg w) A (newList []) (fun acc s₃ => wpAny (model Pg w) A (newFunctionEnv scope env.globals cl [] env.qual none .none (some env)) (fun cenv s₄ =>
      codeAny (model Pg w) A (.compStart (.ListComp elt [⟨target, iter, ifs, 0⟩] scope pos) 0 it acc { cenv with scope := relabel scope env }) (RR acc cenv.locals) s₄) E s₃) E s₂ := by
  obtain ⟨e02, xs, I, fp, wr, n, St, Vv, pz, F, rfl, W, hxs, hsz, hst, hfp, hwr, hTf, htests, helt, hfin⟩ := h
  have hT2 : 194 < s₂.heap.objs.size := (B.eff e02).G.lt
  refine wpAny_newObj_type (wpAny_newFunctionEnv hcell (fun y hy => absurd hy List.not_mem_nil) (fun h₁ hns₁ hsb₁ => ?_) hkind)
  dsimp only at hns₁ hsb₁ ⊢
  obtain ⟨hC, old, hacc⟩ := afterBlock (o := { cls := .type "list", dict := none, data := .seq ([] : List Value).toArray }) hsb₁ rfl
  have new : ∀ a, s₂.heap.objs.size ≤ a → s.heap.get? a = none := fun a ha => by
    cases e : s.heap.get? a with
    | none => rfl
    | some o =>
      have := e02.keep a o (fun q => Nat.lt_irrefl _ (Nat.lt_of_lt_of_le hT2 (q ▸ ha))) e
      rw [Heap.get?_none_of_le ha] at this
      cases this
  have hD₀ := new _ (Nat.le_refl _)
  have hC₀ := new (s₂.heap.objs.size + 1) (Nat.le_succ _)
  generalize (s₂.heap.push _).objs.size = C at hns₁ hC ⊢
  generalize s₂.heap.objs.size = D at *
  subst hC
  have hDC : D ≠ D + 1 := Ne.symm (Nat.succ_ne_self _)
  have hDf : D ∉ fp := fun hm => absurd (hfp _ hm) (Nat.lt_irrefl _)
  have hCf : D + 1 ∉ fp := fun hm => absurd (hfp _ hm) (Nat.not_lt.mpr (Nat.le_succ _))
  have hst₁ : St 0 h₁ := W.frame _ _ _ hst fun b _ o e => old b o e
  have hD194 : D ≠ 194 := Nat.ne_of_gt hT2
  have hC194 : D + 1 ≠ 194 := Nat.ne_of_gt (Nat.lt_succ_of_lt hT2)
  have eff₁ : Eff s { s₂ with heap := h₁, toks := s₂.toks + ([] : List (Str × Value)).length } := e02.trans (Eff.of old)
  have hVc : Ev (compEnvC scope cl (D + 1) env) (rl scope sc) cl := ⟨relabel_eq V.sc, V.g, V.b, rfl⟩
  have hwf : ∀ b, b ∈ wr → b ∈ fp := W.sub
  have hCw : (D + 1) ∉ wr := fun q => hCf (hwf _ q)
  have hDw : D ∉ wr := fun q => hDf (hwf _ q)
  have hTw : 194 ∉ wr := fun q => hTf (hwf _ q)
  -- a change of wr, C and D alone is no change of what stood at s
  have step : ∀ (sx : Shared) (h' : Heap) (tk : Nat), Eff s sx → (∀ b o, b ∉ wr → b ≠ (D + 1) → b ≠ D → sx.heap.get? b = some o → h'.get? b = some o) → Eff s { sx with heap := h', toks := tk } := fun sx h' tk ex k =>
    ⟨fun b o hb e => k b o (fun q => by rw [hwr b q] at e; cases e) (fun q => by rw [q, hC₀] at e; cases e) (fun q => by rw [q, hD₀] at e; cases e) (ex.keep b o hb e),
      fun t => let ⟨ps, t1, t2⟩ := ex.tab t; ⟨ps, t1, k 194 _ hTw (Ne.symm hC194) (Ne.symm hD194) t2⟩, ex.bare, ex.os⟩
  have rdAt : ∀ (sx : Shared) m, Eff s sx → sx.heap.Ns (D + 1) m → Rd w (compEnvC scope cl (D + 1) env) m cm sx.heap sx.gens := fun sx m ex hn =>
    ⟨(B.eff ex).G, hn, fun nm c e => (B.eff ex).cell nm c (by rw [V.c]; exact hcl.get nm c e)⟩
  have loop : ∀ s₃ : Shared, s₃ = { s₂ with heap := h₁, toks := s₂.toks + ([] : List (Str × Value)).length } →
      codeAny (model Pg w) A (.compLoop (.ListComp elt [⟨target, iter, ifs, 0⟩] scope pos) 0 (.ref I) (.ref D) (compEnvC scope cl (D + 1) env)) (RR (.ref D) (D + 1)) s₃ := by
    rintro s₃ rfl
    refine compLoop_any (fun k s' => ∃ i m' ys, k = n + 1 - i ∧ i ≤ n ∧ St i s'.heap ∧ s'.heap.Ns (D + 1) m' ∧ s'.heap.get? D = some (lst ys) ∧ Eff s s' ∧
      Paired (ElemOk (194 :: D :: (D + 1) :: wr) s.heap s'.heap F) ((List.range i).filter pz) ys ∧ ys.length ≤ i) ?_ (n + 1)
      ⟨0, _, [], rfl, Nat.zero_le _, hst₁, hns₁, hacc, eff₁, by simpa using Paired.nil, Nat.le_refl _⟩
    rintro k s' ⟨i, m', ys, rfl, hi, hst', hn', hD', ex, hP, hl⟩ E'
    by_cases hlt : i < n
    · refine W.draw (cenv := compEnvC scope cl (D + 1) env) hlt hst' hn' hCf (fun x hx => lookup_relabel_local (hxs x hx)) (by simp [compEnvC, relabel, hkind]) fun h₂ tk₂ m₂ hV₂ _ hst₂ hn₂ hk₂ => ?_
      have hk₂' : ∀ b o, b ∉ wr → b ≠ (D + 1) → s'.heap.get? b = some o → h₂.get? b = some o := hk₂
      have e2 : Eff s { s' with heap := h₂, toks := tk₂ } := step s' h₂ tk₂ ex fun b o h1 h2 _ e => hk₂' b o h1 h2 e
      have hD₂ : h₂.get? D = some (lst ys) := hk₂' _ _ hDw hDC hD'
      have hP₂ : Paired (ElemOk (194 :: D :: (D + 1) :: wr) s.heap h₂ F) ((List.range i).filter pz) ys := paired_mono hP fun a y q => q.keep fun b o hb e => by
        simp only [List.mem_cons, not_or] at hb
        exact hk₂' b o hb.2.2.2 hb.2.2.1 e
      refine wpAny_mono (htests i (compEnvC scope cl (D + 1) env) m₂ { s' with heap := h₂, toks := tk₂ } E' hlt hV₂ hVc (rdAt { s' with heap := h₂, toks := tk₂ } m₂ e2 hn₂) e2) (fun ok s₃ h₃ => ?_) fun _ _ e => e
      obtain ⟨rfl, e3⟩ := h₃
      have ex3 := e2.trans e3
      have hn₃ : s₃.heap.Ns (D + 1) m₂ := hn₂.at' fun o e => e3.keep _ o hC194 e
      have hD₃ : s₃.heap.get? D = some (lst ys) := e3.keep _ _ hD194 hD₂
      have hst₃ : St (i + 1) s₃.heap := W.frame _ _ _ hst₂ fun b hb o e => e3.keep b o (fun q => hTf (q ▸ hb)) e
      have hP₃ : Paired (ElemOk (194 :: D :: (D + 1) :: wr) s.heap s₃.heap F) ((List.range i).filter pz) ys := paired_mono hP₂ fun a y q => q.keep fun b o hb e => e3.keep b o (fun q => hb (q ▸ List.mem_cons_self)) e
      cases hpz : pz i with
      | false =>
        simp only [Bool.false_eq_true, if_false]
        refine ⟨n + 1 - (i + 1), by omega, i + 1, m₂, ys, rfl, hlt, hst₃, hn₃, hD₃, ex3, ?_, by omega⟩
        rw [filter_range_succ, hpz]; simpa using hP₃
      | true =>
        simp only [if_true]
        refine wpAny_mono (helt i (compEnvC scope cl (D + 1) env) m₂ { s' with heap := h₂, toks := tk₂ } s₃ E' hlt hV₂ ⟨e2, e3⟩ hpz hVc (rdAt s₃ m₂ ex3 hn₃) ex3) (fun y s₄ h₄ => ?_) fun _ _ e => e
        obtain ⟨e4, d, hFd, hHd, hfr⟩ := h₄
        have ex4 := ex3.trans e4
        have hD₄ : s₄.heap.get? D = some (lst ys) := e4.keep _ _ hD194 hD₃
        refine append_at (hsz := by show ys.toArray.size ≤ sizeLine; rw [List.size_toArray]; exact Nat.le_trans hl (Nat.le_trans hi hsz)) hD₄ fun h₅ hs₅ hD₅ => ?_
        have e5 : Eff s { s₄ with heap := h₅ } := step s₄ h₅ s₄.toks ex4 fun b o _ _ h3 e => hs₅.extBut b o h3 e
        have hst₄ : St (i + 1) s₄.heap := W.frame _ _ _ hst₃ fun b hb o e => e4.keep b o (fun q => hTf (q ▸ hb)) e
        refine ⟨n + 1 - (i + 1), by omega, i + 1, m₂, ys ++ [y], rfl, hlt, W.frame _ _ _ hst₄ fun b hb o e => hs₅.extBut b o (fun q => hDf (q ▸ hb)) e, ?_, ?_, e5, ?_, by rw [List.length_append, List.length_singleton]; omega⟩
        · exact (hn₃.at' fun o e => e4.keep _ o hC194 e).sameBut hs₅ (Ne.symm hDC)
        · rw [hD₅]
          show some ({ cls := .type "list", data := .seq (ys.toArray.push y) (ys.length + 1) } : Obj) = some (lst (ys ++ [y]))
          rw [lst, List.length_append, List.length_singleton, List.push_toArray]
        · rw [filter_range_succ, hpz, if_pos rfl]
          have hP₅ : Paired (ElemOk (194 :: D :: (D + 1) :: wr) s.heap h₅ F) ((List.range i).filter pz) ys := paired_mono hP₃ fun a y' q => q.keep fun b o hb e => by
            simp only [List.mem_cons, not_or] at hb
            exact hs₅.extBut b o hb.2.1 (e4.keep b o hb.1 e)
          refine Paired.snoc hP₅ ⟨d, hFd, ?_, fun hd a ha => ?_⟩
          · cases d with
            | none => trivial
            | some vs =>
              obtain ⟨a, nn, ea, qa⟩ := hHd
              exact ⟨a, nn, ea, hs₅.extBut a _ (fun q => by have := hfr (by simp) a ea; rw [q, hD₃] at this; cases this) qa⟩
          · have f3 := hfr hd a ha
            have n1 : a ≠ 194 := fun q => by
              obtain ⟨ps, _, t⟩ := (B.eff ex3).tab
              rw [q, t] at f3; cases f3
            refine ⟨?_, ?_⟩
            · cases q : s.heap.get? a with
              | none => rfl
              | some o => rw [ex3.keep a o n1 q] at f3; cases f3
            · simp only [List.mem_cons, not_or]
              refine ⟨n1, (fun q => by rw [q, hD₃] at f3; cases f3), fun q => ?_, fun q => ?_⟩
              · obtain ⟨oC, _, _, eC, _⟩ := hn₃
                rw [q, eC] at f3; cases f3
              · obtain ⟨o, eo⟩ := W.live _ _ hst₃ a q
                rw [f3] at eo; cases eo
    · obtain rfl : i = n := Nat.le_antisymm hi (Nat.not_lt.mp hlt)
      refine W.done s' _ E' hst' fun h' tk' hk' => ?_
      have e6 : Eff s { s' with heap := h', toks := tk' } := step s' h' tk' ex fun b o h1 _ _ e => hk' b o h1 e
      refine hRR _ _ m' _ hDC hC₀ hC194 hD194 (hn'.at' fun o e => hk' _ o hCw e) (fun h'' hs'' => ?_) e6
      refine hfin _ ys _ (step { s' with heap := h', toks := tk' } h'' tk' e6 fun b o _ h2 _ e => hs''.extBut b o h2 e) hD₀ (hs''.extBut _ _ hDC (hk' _ _ hDw hD')) (paired_mono hP fun a y q => ?_)
      have q' := q.keep (h' := h'') fun b o hb e => by
        simp only [List.mem_cons, not_or] at hb
        exact hs''.extBut b o hb.2.2.1 (hk' b o hb.2.2.2 e)
      obtain ⟨d, q1, q2, q3⟩ := q'
      exact ⟨d, q1, q2, fun hd a ha => ⟨(q3 hd a ha).1, fun hm => (q3 hd a ha).2 (by rw [List.mem_singleton.mp hm]; simp)⟩⟩
  exact codeAny_compStart_list (loop _ rfl) (W.self 0 _ _ _ hst₁ (loop _ rfl))

/-- a list comprehension of one clause -/
theorem listComp {elt target iter : Expr} {ifs : List Expr} {scope : Scope} {cl : List (Str × Addr)} {pos : Pos} {Q : Value → Shared → Prop} (B : Bd w s₀ env m₀ cm s) (V : Ev env sc cs) (hcl : ClOk cs cl)
    (hclos : closureFor scope env = pure cl) (hcell : ∀ y ∈ scope.names, y.2 ≠ .cell) (hkind : scope.kind = .function)
    (hnames : ∀ y ∈ scope.names, y.2 = .local → scope.names.lookup y.1 = some .local) (hs : ∀ x, foldedSetIterable iter env x = pure x)
    (h : wpAny (model Pg w) A (eval iter env) (fun xv s₁ => wpAny (model Pg w) A (pyIter xv) (CompSt w A s cm sc elt target ifs scope cl Q) E s₁) E s) :
    wpAny (model Pg w) A (eval (.ListComp elt [⟨target, iter, ifs, 0⟩] scope pos) env) Q E s := by
  rw [eval_ListComp]
  refine wpAny_comprehension_free (use := none) rfl hs hclos hkind hnames (wpAny_mono h (fun xv s₁ h₁ => wpAny_mono h₁ (fun it s₂ h₂ => ?_) fun _ _ e => e) fun _ _ e => e)
  refine compBlock B V hcl hcell hkind (RR := fun acc C => compPost (model Pg w) A E none Q acc C) h₂ ?_
  intro D C m' s' hDC hC _ _ hn hq _
  exact ⟨m', hn, hq⟩

/-- the same, its list bound to a local name -/
theorem assignComp {elt target iter : Expr} {y : Str} {py : Pos} {ifs : List Expr} {scope : Scope} {cl : List (Str × Addr)} {pos spos : Pos} {Q : Flow → Shared → Prop} (B : Bd w s₀ env m₀ cm s) (V : Ev env sc cs) (hcl : ClOk cs cl)
    (hsw : swapsWith (.ListComp elt [⟨target, iter, ifs, 0⟩] scope pos) (some (.Name y py)) spos.line env = pure true) (hy : sc.names.lookup y = some .local) (hk : sc.kind = .function)
    (hclos : closureFor scope env = pure cl) (hcell : ∀ y ∈ scope.names, y.2 ≠ .cell) (hkind : scope.kind = .function)
    (hnames : ∀ y ∈ scope.names, y.2 = .local → scope.names.lookup y.1 = some .local) (hs : ∀ x, foldedSetIterable iter env x = pure x)
    (h : wpAny (model Pg w) A (eval iter env) (fun xv s₁ => wpAny (model Pg w) A (pyIter xv) (CompSt w A s cm sc elt target ifs scope cl (fun v s1 => ∀ (h' : Heap) (tk : Nat),
      Bd w s₀ env (fun z => if z = y then some v else m₀ z) cm { s1 with heap := h', toks := tk } → (∀ b o, b ≠ env.locals → s1.heap.get? b = some o → h'.get? b = some o) → Q .next { s1 with heap := h', toks := tk })) E s₁) E s) :
    wpAny (model Pg w) A (exec (.Assign [.Name y py] (.ListComp elt [⟨target, iter, ifs, 0⟩] scope pos) spos) env) Q E s := by
  rw [exec_Assign_Name_used _ _ _ _ hsw]
  refine wpAny_bind (wpAny_standAt (wpAny_bind ?_))
  show wpAny _ A (do let _ ← comprehension (.ListComp elt [⟨target, iter, ifs, 0⟩] scope pos) scope env _ (newList []) false (eval iter env) (some (assign (.Name y py) env))) _ _ s
  refine wpAny_bind (wpAny_mono (wpAny_comprehension_free (use := some (assign (.Name y py) env)) (Q := fun _ s' => Q .next s') rfl hs hclos hkind hnames
    (wpAny_mono h (fun xv s₁ h₁ => wpAny_mono h₁ (fun it s₂ h₂ => ?_) fun _ _ e => e) fun _ _ e => e)) (fun _ s' hq => wpAny_pure (wpAny_pure hq)) fun _ _ e => e)
  refine compBlock B V hcl hcell hkind (RR := fun acc C => compPost (model Pg w) A E (some (assign (.Name y py) env)) (fun _ s' => Q .next s') acc C) h₂ ?_
  intro D C m' s' hDC hC hC194 hD194 hn hq ex
  have B' := B.eff ex
  have hCL : C ≠ env.locals := fun q => by
    obtain ⟨o, _, _, e, _⟩ := B.ns
    rw [← q, hC] at e; cases e
  show wpAny _ A (assign (.Name y py) env (.ref D)) _ _ _
  refine wpAny_assign_Name (B'.st0 V hy (fun h₁ B₁ hs₁ => ?_) hk)
  refine ⟨m', hn.sameBut hs₁ hCL, fun h'' hs'' => ?_⟩
  have hh : Heap.SameBut C s'.heap (s'.heap.hide C) := ⟨Heap.hide_size _ _, fun b hb => Heap.hide_ne _ hb⟩
  refine hq (s'.heap.hide C) hh h'' _ (B₁.other hs'' hCL (fun n c e q => ?_) ?_ hC194) fun b o hb e => ?_
  · obtain ⟨o, ho, _⟩ := B.cell n c e
    rw [q, hC] at ho; cases ho
  · cases e0 : s₀.heap.get? C with
    | none => rfl
    | some o => have := B.keep C o hC194 e0; rw [hC] at this; cases this
  · have hbC : b ≠ C := fun q => by
      have := hideAll_none [C] (h := s'.heap) (b := C) List.mem_cons_self
      rw [q] at e
      rw [show hideAll s'.heap [C] = s'.heap.hide C from rfl] at this
      rw [this] at e; cases e
    exact hs''.extBut b o hbC (hs₁.extBut b o hb (Heap.of_hide e))
end

end Ru

section Rv
section
variable {w : World} {A : Around} {E : Value → Shared → Prop} {s s₀ s₁ : Shared} {env : Env} {m₀ cm : Str → Option Value} {sc : Scope} {cs : List (Str × Addr)}

theorem pyIter_str' {x : Str} {t : Tok} {Q : Value → Shared → Prop}
    (hQ : ∀ (o : Obj) (St : Nat → Heap → Prop), (∀ A' : Around, A'.handled = none → Walks Pg w A' s.heap.objs.size [s.heap.objs.size] [s.heap.objs.size] x.cps.size (SignAt x) St) → (∀ i h, St i h → ∃ o, h.get? s.heap.objs.size = some o) → St 0 (s.heap.push o) →
      Q (.ref s.heap.objs.size) { s with heap := s.heap.push o }) : wpAny (model Pg w) A (pyIter (.str x t)) Q E s := by
  cases ha : x.cps.all (· < 128)
  · exact wpAny_pyIter_wide ha (hQ _ _ (fun A' hA => Walks.strWide hA _ x t) (fun i h st => by obtain ⟨o, e, _⟩ := st; exact ⟨o, e⟩) ⟨_, Heap.get?_push_size _ rfl, rfl, rfl⟩)
  · exact wpAny_pyIter_ascii ha (hQ _ _ (fun A' hA => Walks.strAscii hA _ x t) (fun i h st => by obtain ⟨o, e, _⟩ := st; exact ⟨o, e⟩) ⟨_, Heap.get?_push_size _ rfl, rfl, rfl⟩)

theorem fresh_at {w : World} {s s₁ : Shared} (G : Gd w s) (e : Eff s s₁) : s.heap.get? s₁.heap.objs.size = none := by
  cases q : s.heap.get? s₁.heap.objs.size with
  | none => rfl
  | some o =>
    have h1 := (G.eff e).lt
    have := e.keep _ o (Nat.ne_of_gt h1) q
    exact absurd (Heap.lt_size this) (Nat.lt_irrefl _)

/-- a comprehension over a text's signs -/
theorem compStr {elt : Expr} {x : Str} {px : Pos} {ifs : List Expr} {scope : Scope} {cl : List (Str × Addr)} {Q : Value → Shared → Prop} {y : Str} {t : Tok} (pz : Nat → Bool) (F : Nat → Value → Option (Array Value) → Prop)
    (B : Bd w s₀ env m₀ cm s) (e : Eff s s₁) (hh : A.handled = none) (hx : scope.names.lookup x = some .local) (hy : y.cps.size ≤ sizeLine)
    (tests : ∀ i c t cenv m s₃ E', y.cps[i]? = some c → m x = some (.str ⟨#[c]⟩ t) → Ev cenv (rl scope sc) cl → Rd w cenv m cm s₃.heap s₃.gens → Eff s s₃ →
      wpAny (model Pg w) A (forIn ifs true fun c r => if r = true then do let ok ← isTrue c cenv (eval c cenv); pure (ForInStep.yield ok) else pure (ForInStep.yield r)) (fun ok s₄ => ok = pz i ∧ Eff s₃ s₄) E' s₃)
    (elts : ∀ i c t cenv m s₃ E', y.cps[i]? = some c → m x = some (.str ⟨#[c]⟩ t) → pz i = true → Ev cenv (rl scope sc) cl → Rd w cenv m cm s₃.heap s₃.gens → Eff s s₃ →
      wpAny (model Pg w) A (eval elt cenv) (fun v s₄ => Eff s₃ s₄ ∧ ∃ d, F i v d ∧ Holds1 s₄.heap v d ∧ (d ≠ none → ∀ a, v = .ref a → s₃.heap.get? a = none)) E' s₃)
    (fin : ∀ D ys s', Eff s s' → s.heap.get? D = none → s'.heap.get? D = some (lst ys) → Paired (ElemOk [D] s.heap s'.heap F) ((List.range y.cps.size).filter pz) ys → Q (.ref D) s') :
    wpAny (model Pg w) A (pyIter (.str y t)) (CompSt w A s cm sc elt (.Name x px) ifs scope cl Q) E s₁ := by
  refine pyIter_str' fun o St W hl hst => ?_
  have hf := fresh_at B.G e
  have hT := (B.eff e).G.lt
  refine ⟨e.trans (Eff.of fun _ _ q => Heap.get?_push_of_some _ q), [x], _, _, _, _, St, _, pz, F, rfl, Turns.name (W A hh) (fun i h st b hb => by rw [List.mem_singleton.mp hb]; exact hl i h st), ?_, hy, hst, ?_, ?_, ?_, ?_, ?_, fin⟩
  · intro y hy; rw [List.mem_singleton.mp hy]; exact hx
  · intro b hb
    show b < (s₁.heap.push o).objs.size
    rw [Heap.size_push, List.mem_singleton.mp hb]; exact Nat.lt_succ_self _
  · intro b hb; rw [List.mem_singleton.mp hb]; exact hf
  · intro hb; rw [← List.mem_singleton.mp hb] at hT; exact Nat.lt_irrefl _ hT
  · rintro i cenv m s₃ E' _ ⟨v, ⟨c, u, hc, rfl⟩, hm⟩ hV hR ex
    exact tests i c u cenv m s₃ E' hc hm hV hR ex
  · rintro i cenv m sd s₃ E' _ ⟨v, ⟨c, u, hc, rfl⟩, hm⟩ _ hpz hV hR ex
    exact elts i c u cenv m s₃ E' hc hm hpz hV hR ex

/-- a comprehension over a range by ones -/
theorem compRange {elt : Expr} {x : Str} {px : Pos} {ifs : List Expr} {scope : Scope} {cl : List (Str × Addr)} {Q : Value → Shared → Prop} {r : Addr} {b : Int} {t u v : Tok} {n : Nat} (pz : Nat → Bool) (F : Nat → Value → Option (Array Value) → Prop)
    (B : Bd w s₀ env m₀ cm s) (e : Eff s s₁) (hh : A.handled = none) (hx : scope.names.lookup x = some .local) (hr : IsRange s₁.heap r 0 b 1 t u v) (hsm : Builtin.Range.small 0 b 1 = true) (hn : Builtin.Range.rangeSize 0 b 1 = ((n : Nat) : Int)) (hsz : n ≤ sizeLine)
    (tests : ∀ (i : Nat) t cenv m s₃ E', i < n → m x = some (.int (i : Int) t) → Ev cenv (rl scope sc) cl → Rd w cenv m cm s₃.heap s₃.gens → Eff s s₃ →
      wpAny (model Pg w) A (forIn ifs true fun c r => if r = true then do let ok ← isTrue c cenv (eval c cenv); pure (ForInStep.yield ok) else pure (ForInStep.yield r)) (fun ok s₄ => ok = pz i ∧ Eff s₃ s₄) E' s₃)
    (elts : ∀ (i : Nat) t cenv m s₃ E', i < n → m x = some (.int (i : Int) t) → pz i = true → Ev cenv (rl scope sc) cl → Rd w cenv m cm s₃.heap s₃.gens → Eff s s₃ →
      wpAny (model Pg w) A (eval elt cenv) (fun v s₄ => Eff s₃ s₄ ∧ ∃ d, F i v d ∧ Holds1 s₄.heap v d ∧ (d ≠ none → ∀ a, v = .ref a → s₃.heap.get? a = none)) E' s₃)
    (fin : ∀ D ys s', Eff s s' → s.heap.get? D = none → s'.heap.get? D = some (lst ys) → Paired (ElemOk [D] s.heap s'.heap F) ((List.range n).filter pz) ys → Q (.ref D) s') :
    wpAny (model Pg w) A (pyIter (.ref r)) (CompSt w A s cm sc elt (.Name x px) ifs scope cl Q) E s₁ := by
  refine wpAny_pyIter_range hr hsm ?_
  have hf := fresh_at B.G e
  have hT := (B.eff e).G.lt
  refine ⟨e.trans (Eff.of fun _ _ q => Heap.get?_push_of_some _ q), [x], _, _, _, n, _, _, pz, F, rfl, Turns.name (LCg.range_walks hh 0 n) (fun i h st b hb => by rw [List.mem_singleton.mp hb]; exact ⟨_, st⟩), ?_, hsz, ?_, ?_, ?_, ?_, ?_, ?_, fin⟩
  · intro y hy; rw [List.mem_singleton.mp hy]; exact hx
  · show IsRangeIter _ _ _ _ _; rw [hn]; simpa using Heap.get?_push_size _ rfl
  · intro b hb
    show b < (s₁.heap.push _).objs.size
    rw [Heap.size_push, List.mem_singleton.mp hb]; exact Nat.lt_succ_self _
  · intro b hb; rw [List.mem_singleton.mp hb]; exact hf
  · intro hb; rw [← List.mem_singleton.mp hb] at hT; exact Nat.lt_irrefl _ hT
  · rintro i cenv m s₃ E' hi ⟨v, ⟨t, rfl⟩, hm⟩ hV hR ex
    exact tests i t cenv m s₃ E' hi (by rw [hm, Int.zero_add]) hV hR ex
  · rintro i cenv m sd s₃ E' hi ⟨v, ⟨t, rfl⟩, hm⟩ _ hpz hV hR ex
    exact elts i t cenv m s₃ E' hi (by rw [hm, Int.zero_add]) hpz hV hR ex

/-- a comprehension over enumerate of a text -/
theorem compEnum {elt : Expr} {xa xb : Str} {pa pb pt : Pos} {kt : Nat} {ifs : List Expr} {scope : Scope} {cl : List (Str × Addr)} {Q : Value → Shared → Prop} {y : Str} {t : Tok} (pz : Nat → Bool) (F : Nat → Value → Option (Array Value) → Prop)
    (B : Bd w s₀ env m₀ cm s) (e : Eff s s₁) (hh : A.handled = none) (hxa : scope.names.lookup xa = some .local) (hxb : scope.names.lookup xb = some .local) (hab : xa ≠ xb) (hy : y.cps.size ≤ sizeLine)
    (tests : ∀ i c u t cenv m s₃ E', y.cps[i]? = some c → m xa = some (.int (i : Nat) u) → m xb = some (.str ⟨#[c]⟩ t) → Ev cenv (rl scope sc) cl → Rd w cenv m cm s₃.heap s₃.gens → Eff s s₃ →
      wpAny (model Pg w) A (forIn ifs true fun c r => if r = true then do let ok ← isTrue c cenv (eval c cenv); pure (ForInStep.yield ok) else pure (ForInStep.yield r)) (fun ok s₄ => ok = pz i ∧ Eff s₃ s₄) E' s₃)
    (elts : ∀ i c u t cenv m s₃ E', y.cps[i]? = some c → m xa = some (.int (i : Nat) u) → m xb = some (.str ⟨#[c]⟩ t) → pz i = true → Ev cenv (rl scope sc) cl → Rd w cenv m cm s₃.heap s₃.gens → Eff s s₃ →
      wpAny (model Pg w) A (eval elt cenv) (fun v s₄ => Eff s₃ s₄ ∧ ∃ d, F i v d ∧ Holds1 s₄.heap v d ∧ (d ≠ none → ∀ a, v = .ref a → s₃.heap.get? a = none)) E' s₃)
    (fin : ∀ D ys s', Eff s s' → s.heap.get? D = none → s'.heap.get? D = some (lst ys) → Paired (ElemOk [D] s.heap s'.heap F) ((List.range y.cps.size).filter pz) ys → Q (.ref D) s') :
    wpAny (model Pg w) A (call (.type "enumerate") [.str y t]) (fun xv s₂ => wpAny (model Pg w) A (pyIter xv) (CompSt w A s cm sc elt (.Tuple [.Name xa pa, .Name xb pb] kt pt) ifs scope cl Q) E s₂) E s₁ := by
  refine call_enumerate_str fun h' he hit hsz hk => ?_
  refine wpAny_pyIter_enum he ?_
  have hT := (B.eff e).G.lt
  have hf := fresh_at B.G e
  have hf1 : s.heap.get? (s₁.heap.objs.size + 1) = none := by
    cases q : s.heap.get? (s₁.heap.objs.size + 1) with
    | none => rfl
    | some o =>
      have := e.keep _ o (Nat.ne_of_gt (Nat.lt_succ_of_lt hT)) q
      exact absurd (Heap.lt_size this) (Nat.not_lt.mpr (Nat.le_succ _))
  have key : ∀ {St : Nat → Heap → Prop}, Draws Pg w A.in1 s₁.heap.objs.size [s₁.heap.objs.size] y.cps.size (SignAt y) St → St 0 h' →
      CompSt w A s cm sc elt (.Tuple [.Name xa pa, .Name xb pb] kt pt) ifs scope cl Q (.ref (s₁.heap.objs.size + 1)) { s₁ with heap := h' } := fun {St} D hst => by
    have side1 : s₁.heap.objs.size + 1 ∉ [s₁.heap.objs.size] := fun hm => Nat.succ_ne_self _ (List.mem_singleton.mp hm)
    have W := WalksT.enumerateD D (s₁.heap.objs.size + 1) (Nat.succ_ne_self _) side1 (List.mem_singleton.mpr rfl)
    refine ⟨e.trans (Eff.of hk), [xa, xb], _, _, _, _, _, _, pz, F, rfl, Turns.pair hh W.toU (fun i vals h => by obtain ⟨t, x, _, e⟩ := h; exact ⟨_, _, e⟩) hab (fun i h st b hb => ?_), ?_, hy, ⟨⟨_, he⟩, hst⟩, ?_, ?_, ?_, ?_, ?_, fin⟩
    · obtain ⟨⟨old, h1⟩, h2⟩ := st
      rcases List.mem_cons.mp hb with rfl | hb
      · exact ⟨_, h1⟩
      · rw [List.mem_singleton.mp hb]; exact D.live _ _ h2
    · intro z hz
      rcases List.mem_cons.mp hz with rfl | hz
      · exact hxa
      · rw [List.mem_singleton.mp hz]; exact hxb
    · intro b hb
      show b < h'.objs.size
      rw [hsz]
      rcases List.mem_cons.mp hb with rfl | hb
      · exact Nat.lt_succ_self _
      · rw [List.mem_singleton.mp hb]; exact Nat.lt_succ_of_lt (Nat.lt_succ_self _)
    · intro b hb
      rcases List.mem_cons.mp hb with rfl | hb
      · exact hf1
      · rw [List.mem_singleton.mp hb]; exact hf
    · intro hb
      rcases List.mem_cons.mp hb with q | hb
      · rw [q] at hT; exact Nat.lt_irrefl _ (Nat.lt_trans (Nat.lt_succ_self _) hT)
      · rw [← List.mem_singleton.mp hb] at hT; exact Nat.lt_irrefl _ hT
    · rintro i cenv m s₃ E' _ ⟨va, vb, ⟨u, x, ⟨c, t', hc, rfl⟩, e1⟩, hma, hmb⟩ hV hR ex
      obtain ⟨rfl, rfl⟩ : va = .int (i : Nat) u ∧ vb = .str ⟨#[c]⟩ t' := by simpa using congrArg Array.toList e1
      exact tests i c u t' cenv m s₃ E' hc hma hmb hV hR ex
    · rintro i cenv m sd s₃ E' _ ⟨va, vb, ⟨u, x, ⟨c, t', hc, rfl⟩, e1⟩, hma, hmb⟩ _ hpz hV hR ex
      obtain ⟨rfl, rfl⟩ : va = .int (i : Nat) u ∧ vb = .str ⟨#[c]⟩ t' := by simpa using congrArg Array.toList e1
      exact elts i c u t' cenv m s₃ E' hc hma hmb hpz hV hR ex
  cases ha : y.cps.all (· < 128)
  · have hit' : h'.IsStrIter s₁.heap.objs.size "str_iterator" y t 0 := by simpa [strIterType, ha] using hit
    exact key (Draws.strWide (A := A.in1) hh s₁.heap.objs.size y t) hit'
  · have hit' : h'.IsStrIter s₁.heap.objs.size "str_ascii_iterator" y t 0 := by simpa [strIterType, ha] using hit
    exact key (Draws.strAscii (A := A.in1) hh s₁.heap.objs.size y t) hit'
end

end Rv

section Tx
/-- a text by its signs, a text of one sign -/
abbrev tx (l : List Nat) : Str := ⟨l.toArray⟩
abbrev sg (c : Nat) : Str := ⟨#[c]⟩
theorem tx_cps (y : Str) : tx y.cps.toList = y := by cases y; rfl
theorem empty_tx : (Str.ofString "" : Str) = ⟨#[]⟩ := by decide +kernel
theorem tx_append (a b : List Nat) : tx a ++ tx b = tx (a ++ b) := by
  show (⟨a.toArray ++ b.toArray⟩ : Str) = ⟨(a ++ b).toArray⟩
  simp
theorem join_tx : ∀ cs : List Nat, Txt.join (Str.ofString "") (cs.map sg) = tx cs := by
  intro cs
  show Builtin.Str.glued _ _ = _
  rw [StrLaws.glued_eq_join, empty_tx]
  induction cs with
  | nil => rfl
  | cons c r ih =>
    cases r with
    | nil => rfl
    | cons d r =>
      rw [List.map_cons, List.map_cons, join_cons_cons, ← List.map_cons, ih]
      show tx [c] ++ tx [] ++ tx (d :: r) = tx (c :: d :: r)
      rw [tx_append, tx_append]; rfl
theorem upper_tx {l : List Nat} (h : ∀ c ∈ l, isLet c) : Txt.upper (tx l) = tx (l.map up) := by
  have h1 : ∀ c ∈ (tx l).cps.toList, c < 128 := fun c hc => by have := h c (by simpa using hc); unfold isLet at this; omega
  rw [upper_ascii h1]
  show (⟨l.toArray.map up1⟩ : Str) = ⟨(l.map up).toArray⟩
  rw [List.map_toArray]; rfl
def lo (c : Nat) : Nat := if 65 ≤ c ∧ c ≤ 90 then c + 32 else c
theorem lower_tx {l : List Nat} (h : ∀ c ∈ l, isLet c) : Txt.lower (tx l) = tx (l.map lo) := by
  have h1 : ∀ c ∈ (tx l).cps.toList, c < 128 := fun c hc => by have := h c (by simpa using hc); unfold isLet at this; omega
  rw [lower_ascii h1]
  show (⟨l.toArray.map lo1⟩ : Str) = ⟨(l.map lo).toArray⟩
  rw [List.map_toArray]; rfl
theorem lo_isLet {c : Nat} (h : isLet c) : isLet (lo c) := by
  unfold lo isLet; unfold isLet at h; split <;> omega
theorem vowels_tx : (Str.ofString "AEIOU" : Str) = tx [65, 69, 73, 79, 85] := by decide +kernel
theorem in_vowels (c : Nat) : (!(Builtin.Str.occurrences (Str.ofString "AEIOU") (sg c) 0 (Str.ofString "AEIOU").length 1).isEmpty) = vow c := by
  rw [StrLaws.found_one, vowels_tx]
  unfold vow
  rw [Bool.eq_iff_iff]
  simp [or_assoc]

/-- the texts of one sign that a comprehension's turns made -/
theorem paired_signs {P : Nat → Nat → Prop} : ∀ {idx : List Nat} {ys : List Value}, Paired (fun i v => ∃ c t, v = Value.str (sg c) t ∧ P i c) idx ys → ∃ cs, StrsAre ys (cs.map sg) ∧ Paired P idx cs
  | _, _, .nil => ⟨[], .nil, .nil⟩
  | _, _, .cons ⟨c, t, e, p⟩ r => by
    obtain ⟨cs, h1, h2⟩ := paired_signs r
    subst e
    exact ⟨c :: cs, .cons _ t h1, .cons p h2⟩
theorem paired_len {α β : Type} {F : α → β → Prop} : ∀ {l₁ : List α} {l₂ : List β}, Paired F l₁ l₂ → l₂.length = l₁.length
  | _, _, .nil => rfl
  | _, _, .cons _ r => by simp [paired_len r]
theorem paired_all {α β : Type} {F : α → β → Prop} {p : β → Prop} : ∀ {l₁ : List α} {l₂ : List β}, Paired F l₁ l₂ → (∀ a b, F a b → p b) → ∀ b ∈ l₂, p b
  | _, _, .nil, _, _, hb => nomatch hb
  | _, _, .cons x r, h, b, hb => by
    rcases List.mem_cons.mp hb with rfl | hb
    · exact h _ _ x
    · exact paired_all r h b hb
theorem paired_map {f : Nat → Nat} : ∀ {idx cs : List Nat}, Paired (fun i c => c = f i) idx cs → cs = idx.map f
  | _, _, .nil => rfl
  | _, _, .cons e r => by rw [e, paired_map r]; rfl
/-- signs that a filter over places kept -/
theorem filter_places (l : List Nat) (p : Nat → Bool) : ((List.range l.length).filter fun i => p (l.getD i 0)).map (fun i => l.getD i 0) = l.filter p := by
  have e : (List.range l.length).map (fun i => l.getD i 0) = l := by
    apply List.ext_getElem
    · simp
    · intro i h₁ h₂; simp [List.getD_eq_getElem?_getD, h₂]
  conv => rhs; rw [← e, List.filter_map]
  rfl
/-- equal neighbours: one alone -/
theorem ddFrom_places : ∀ (l : List Nat) (p : Nat), ((List.range l.length).filter fun i => !((p :: l).getD i 0 == l.getD i 0)).map (fun i => l.getD i 0) = ddFrom p l
  | [], _ => rfl
  | c :: r, p => by
    have ih := ddFrom_places r c
    rw [List.length_cons, List.range_succ_eq_map, List.filter_cons]
    have e : ((List.map Nat.succ (List.range r.length)).filter fun i => !((p :: c :: r).getD i 0 == (c :: r).getD i 0)).map (fun i => (c :: r).getD i 0) = ddFrom c r := by
      rw [List.filter_map, List.map_map]
      exact ih
    unfold ddFrom
    by_cases h : p = c
    · subst h
      rw [if_pos rfl]
      have h0 : (!((p :: p :: r).getD 0 0 == (p :: r).getD 0 0)) = false := by simp
      rw [if_neg (by rw [h0]; exact Bool.false_ne_true)]
      exact e
    · rw [if_neg h]
      have h0 : (!((p :: c :: r).getD 0 0 == (c :: r).getD 0 0)) = true := by simpa using h
      rw [if_pos h0, List.map_cons, e]
      rfl
theorem dd_places (l : List Nat) : ((List.range l.length).filter fun i => i == 0 || !(l.getD (i - 1) 0 == l.getD i 0)).map (fun i => l.getD i 0) = dd l := by
  cases l with
  | nil => rfl
  | cons c r =>
    rw [List.length_cons, List.range_succ_eq_map, List.filter_cons]
    have h0 : ((0 : Nat) == 0 || !((c :: r).getD (0 - 1) 0 == (c :: r).getD 0 0)) = true := rfl
    rw [if_pos h0, List.map_cons, List.filter_map, List.map_map]
    show c :: _ = c :: ddFrom c r
    congr 1
    rw [← ddFrom_places r c]
    first | rfl | (congr 1; refine List.filter_congr fun i _ => ?_; simp [Function.comp_def])

end Tx

section CF
section
variable {w : World} {A : Around} {E : Value → Shared → Prop} {s : Shared} {env : Env} {Q : Value → Shared → Prop}
/-- a def of the text is called by its name -/
theorem callF {f : Addr} {oc : Value} {od : Option Addr} {fd : FuncData} {sl : Array (Option Value)} {pos : Pos} {e : Expr} {rest : List Expr} (ho : (KK w).lookup f = some ⟨oc, od, .func fd, sl⟩)
    (h : wpAny (model Pg w) A (spliced (backTo pos (starEach (e :: rest) env))) (fun vs s₁ => Gd w s₁ ∧ wpAny (model Pg w) A (call (.ref f) vs) Q E s₁) E s)
    (he : starEach (e :: rest) env = (false, eval e env) :: starEach rest env := by rfl) :
    wpAny (model Pg w) A (callWith pos (.ref f) [] (backTo pos (starEach (e :: rest) env)) []) Q E s :=
  callWith_def (o := ⟨oc, od, .func fd, sl⟩) (fd := fd) rfl (wpAny_mono h (fun vs s₁ h₁ => ⟨h₁.1.K f _ ho, h₁.2⟩) fun _ _ x => x) he

theorem seqIndex_nn {i : Int} {n : Nat} (h0 : 0 ≤ i) (hn : i < n) : seqIndex? i n = some i.toNat := by
  obtain ⟨k, rfl⟩ := Int.eq_ofNat_of_zero_le h0
  have hk : k < n := by omega
  simp only [seqIndex?]
  have e : (if (k : Int) < 0 then (k : Int) + n else k) = k := if_neg (by omega)
  simp [hk]
  omega
/-- a sign of a text -/
theorem itemStr {value slice : Expr} {x : Str} {t : Tok} {i : Int} {u : Tok} {c : Nat} (h0 : 0 ≤ i) (hi : i < 2 ^ 62) (hx : x.cps[i.toNat]? = some c) (h : ∀ t' tk, Q (.str (sg c) t') { s with toks := tk })
    (hs : subscripted slice false (.str x t) (.int i u) = operate [.str x t, .int i u] (getItem (.str x t) (.int i u)) := by with_unfolding_all rfl) :
    wpAny (model Pg w) A (subscriptTail value slice (.str x t) (.int i u)) Q E s := by
  have hlt : i < (x.length : Nat) := by
    have := (Array.getElem?_eq_some_iff.mp hx).1
    show i < (x.cps.size : Nat)
    omega
  refine tail_any (typeIs_str s x t) PyProof.Rows.slot_str_getitem.lookup (PyProof.Rows.getItem_str ?_ ?_ (h _ _)) hs
  · simp only [Bool.or_eq_false_iff, decide_eq_false_iff_not]; constructor <;> omega
  · rw [seqIndex_nn h0 hlt]; exact hx
theorem lenStr {x : Str} {t : Tok} (hx : x.cps.size < 2 ^ 62) (h : ∀ t' tk, Q (.int x.cps.size t') { s with toks := tk }) : wpAny (model Pg w) A (call (.builtin "len") [.str x t]) Q E s :=
  PyProof.Rows.len_str (by show ¬ ((x.cps.size : Nat) : Int) ≥ 2 ^ 63; omega) (h _ _)
theorem modInt {a b : Int} {t u : Tok} (hb : b ≠ 0) (h : ∀ t' tk, Q (.int (a.fmod b) t') { s with toks := tk }) : wpAny (model Pg w) A (binaryOp .Mod (.int a t) (.int b u)) Q E s := PyProof.Rows.mod_int' hb (h _ _)
end
theorem letters_tx : (Str.ofString "ABBELLNSIOUTY" : Str) = tx [65, 66, 66, 69, 76, 76, 78, 83, 73, 79, 85, 84, 89] := by decide +kernel

theorem slice_drop1 (c : Nat) (r : List Nat) : Txt.slice (tx (c :: r)) (some 1) none = tx r := by
  rw [slice_from_eq (b := ((tx (c :: r)).length : Int)) (by omega) (by show (1 : Int) ≤ ((c :: r).toArray.size : Nat); simp; omega) rfl]
  show (⟨(((c :: r).toArray.toList.drop 1).take _).toArray⟩ : Str) = ⟨r.toArray⟩
  congr 2
  simp only [List.drop_one, List.tail_cons]
  refine List.take_of_length_le ?_
  show r.length ≤ (((c :: r).toArray.size : Nat) - (1 : Int)).toNat
  simp
theorem slice_take3 {l : List Nat} (h : 3 ≤ l.length) : Txt.slice (tx l) none (some 3) = tx (l.take 3) := by
  have e := beq_iff_eq.mp (slice_closes_to (x := tx l) (j := 3) ⟨by omega, by show (3 : Int) ≤ (l.length : Nat); omega⟩)
  rw [e]
  rfl
theorem slice_last3 {l : List Nat} (h : 3 ≤ l.length) : Txt.slice (tx l) (some (-3)) none = tx (l.drop (l.length - 3)) := by
  have e0 : Txt.slice (tx l) (some (-3)) none = Txt.slice (tx l) (some ((l.length : Int) - 3)) none := by
    unfold Txt.slice
    have : Builtin.Str.strSliceIndices (some (-3)) none 1 (tx l).length = Builtin.Str.strSliceIndices (some ((l.length : Int) - 3)) none 1 (tx l).length := by
      have hl : (tx l).length = l.length := rfl
      rw [hl]
      simp only [Builtin.Str.strSliceIndices]
      have h1 : ((-3 : Int) < 0) := by omega
      have h2 : ¬ ((l.length : Int) - 3 < 0) := by omega
      rw [if_pos h1, if_neg h2]
      have h3 : (-3 : Int) + l.length = l.length - 3 := by omega
      rw [h3]
    rw [this]
  rw [e0, slice_from_eq (b := ((tx l).length : Int)) (by omega) (by show (l.length : Int) - 3 ≤ (l.length : Nat); omega) rfl]
  show (⟨((l.drop ((l.length : Int) - 3).toNat).take _).toArray⟩ : Str) = ⟨(l.drop (l.length - 3)).toArray⟩
  congr 2
  have h4 : ((l.length : Int) - 3).toNat = l.length - 3 := by omega
  rw [h4]
  refine List.take_of_length_le ?_
  show (l.drop (l.length - 3)).length ≤ (((l.length : Nat) : Int) - ((l.length : Int) - 3)).toNat
  rw [List.length_drop]; omega
section
variable {w : World} {A : Around} {E : Value → Shared → Prop} {s : Shared} {env : Env} {Q : Value → Shared → Prop}
theorem sliceStr {value : Expr} {lower upper : Option Expr} {p pos : Pos}
    (h : wpAny (model Pg w) A (eval value env) (fun o s₁ => wpAny (model Pg w) A (evalPart lower env) (fun vl s₂ => wpAny (model Pg w) A (evalPart upper env) (fun vu s₃ =>
      ∃ x t l u y, o = .str x t ∧ vl = partValue l ∧ vu = partValue u ∧ x.cps.size ≤ 1000000 ∧ Txt.slice x (l.map (·.1)) (u.map (·.1)) = y ∧ ∀ s' t', Eff s₃ s' → Q (.str y t') s') E s₂) E s₁) E s)
    (ht : ∀ o r, letTemporaryGo value o r = pure () := by intro _ _; rfl) :
    wpAny (model Pg w) A (eval (.Subscript value (.Slice lower upper none p) pos) env) Q E s := by
  refine wpAny_Subscript_str_slice (wpAny_mono h (fun o s₁ h₁ => wpAny_mono h₁ (fun vl s₂ h₂ => wpAny_mono h₂ (fun vu s₃ h₃ => ?_) fun _ _ e => e) fun _ _ e => e) fun _ _ e => e) ht
  obtain ⟨x, t, l, u, y, e1, e2, e3, hx, rfl, hq⟩ := h₃
  refine ⟨x, t, l, u, e1, e2, e3, ?_⟩
  have hk : Eff s₃ { s₃ with heap := s₃.heap.push { cls := .type "slice", data := .fields #[vl, vu, .none] } } := .of fun _ _ q => Heap.get?_push_of_some _ q
  have hle := Txt.slice_le x (l.map (·.1)) (u.map (·.1))
  unfold sliceMade slicePicked
  unfold Txt.slice at hq hle
  simp only [Option.map_none, Option.getD_none] at *
  split
  · rename_i hc
    have hq' := hq _ t hk
    rw [if_pos hc] at hq'
    exact hq'
  · rename_i hc
    rw [if_neg hc] at hle
    have hq' := hq _ s₃.toks (hk.trans (Eff.toks (tk := s₃.toks + 1)))
    rw [if_neg hc] at hq'
    refine ⟨?_, hq'⟩
    rw [PySem.sizeLine_eq]
    exact Nat.le_trans hle (Nat.le_trans hx (by decide))
theorem upperTx {l : List Nat} {t : Tok} (hl : ∀ c ∈ l, isLet c) (hn : l.length ≤ 5000000) (h : ∀ t' tk, Q (.str (tx (l.map up)) t') { s with toks := tk }) : wpAny (model Pg w) A (call (.builtin "str.upper") [.str (tx l) t]) Q E s := by
  refine SC.upper (PyProof.Rows.fit_upper (by show l.toArray.size ≤ _; rw [List.size_toArray]; omega)) ?_
  rw [upper_tx hl]
  exact h _ _
theorem lowerTx {l : List Nat} {t : Tok} (hl : ∀ c ∈ l, isLet c) (hn : l.length ≤ 5000000) (h : ∀ t' tk, Q (.str (tx (l.map lo)) t') { s with toks := tk }) : wpAny (model Pg w) A (call (.builtin "str.lower") [.str (tx l) t]) Q E s := by
  refine SC.lower (PyProof.Rows.fit_lower (by show l.toArray.size ≤ _; rw [List.size_toArray]; omega)) ?_
  rw [lower_tx hl]
  exact h _ _
theorem addTx {a b : List Nat} {t u : Tok} (hn : a.length + b.length ≤ 1000000) (h : ∀ t' tk, Q (.str (tx (a ++ b)) t') { s with toks := tk }) : wpAny (model Pg w) A (binaryOp .Add (.str (tx a) t) (.str (tx b) u)) Q E s := by
  refine PyProof.Rows.add_str (fun t' tk => ?_) (by show a.toArray.size + b.toArray.size ≤ _; rw [List.size_toArray, List.size_toArray, PySem.sizeLine_eq]; omega)
  rw [tx_append]
  exact h _ _
theorem joinTx {D : Addr} {ys : List Value} {cs : List Nat} {t : Tok} (hD : s.heap.get? D = some (lst ys)) (hs : StrsAre ys (cs.map sg)) (hn : cs.length ≤ 1000000) (h : ∀ t' tk, Q (.str (tx cs) t') { s with toks := tk }) :
    wpAny (model Pg w) A (call (.builtin "str.join") [.str (Str.ofString "") t, .ref D]) Q E s := by
  refine join_list (ys := cs.map sg) ⟨_, hD, rfl, _, rfl⟩ (by simpa using hs) ?_ fun t' k' => ?_
  · have e1 : (List.map (fun x => x.length) (List.map sg cs)).sum = cs.length := by
      clear hs hn h
      induction cs with
      | nil => rfl
      | cons c r ih => simp only [List.map_cons, List.sum_cons, ih, List.length_cons]; show 1 + _ = _; omega
    rw [e1, List.length_map, empty_tx]
    show cs.length + cs.length * 0 ≤ _
    omega
  · rw [join_tx]; exact h _ _
theorem notInVowels {c : Nat} {t u : Tok} (h : Q (.bool (!vow c)) s) : wpAny (model Pg w) A (compareOp .NotIn (.str (sg c) t) (.str (Str.ofString "AEIOU") u)) Q E s := by
  refine P.notIn_str ?_
  rw [in_vowels]; exact h
theorem neSg {c d : Nat} {t u : Tok} (h : Q (.bool (!(c == d))) s) : wpAny (model Pg w) A (compareOp .NotEq (.str (sg c) t) (.str (sg d) u)) Q E s := by
  refine PyProof.Rows.ne_str ?_
  have e : ((sg c : Str) != sg d) = !(c == d) := by
    rw [Bool.eq_iff_iff]; simp
  rw [e]; exact h
end
theorem cps_getD {l : List Nat} {i c : Nat} (h : (tx l).cps[i]? = some c) : l.getD i 0 = c := by
  have h' : l[i]? = some c := by simpa using h
  rw [List.getD_eq_getElem?_getD, h']; rfl
theorem cps_lt {l : List Nat} {i c : Nat} (h : (tx l).cps[i]? = some c) : i < l.length := by
  have h' : l[i]? = some c := by simpa using h
  exact (List.getElem?_eq_some_iff.mp h').1
theorem cps_get {l : List Nat} {i : Nat} (h : i < l.length) : (tx l).cps[i]? = some (l.getD i 0) := by
  have : l[i]? = some (l.getD i 0) := by rw [List.getD_eq_getElem?_getD, List.getElem?_eq_getElem h]; rfl
  simpa using this
/-- what a comprehension over signs made -/
theorem signs_made {off : List Addr} {g h : Heap} {f : Nat → Nat} {idx : List Nat} {ys : List Value} (hP : Paired (ElemOk off g h fun i v d => d = none ∧ ∃ c t, v = .str (sg c) t ∧ c = f i) idx ys) : StrsAre ys ((idx.map f).map sg) := by
  obtain ⟨cs, h1, h2⟩ := paired_signs (P := fun i c => c = f i) (paired_mono hP fun a b ⟨d, hd, _⟩ => hd.2)
  rw [paired_map h2] at h1
  exact h1

end CF

section Jn
theorem e_tx : (Str.ofString "e" : Str) = tx [101] := by decide +kernel
theorem a_tx : (Str.ofString "a" : Str) = tx [97] := by decide +kernel
theorem join_dbl : ∀ cs : List Nat, Txt.join (Str.ofString "") (cs.map fun c => tx [c, c]) = tx (dbl cs) := by
  intro cs
  show Builtin.Str.glued _ _ = _
  rw [StrLaws.glued_eq_join, empty_tx]
  induction cs with
  | nil => rfl
  | cons c r ih =>
    cases r with
    | nil => rfl
    | cons d r =>
      rw [List.map_cons, List.map_cons, join_cons_cons, ← List.map_cons (f := fun c => tx [c, c]), ih]
      show tx [c, c] ++ tx [] ++ tx (dbl (d :: r)) = tx (dbl (c :: d :: r))
      rw [tx_append, tx_append]; rfl
theorem dbl_len (l : List Nat) : (dbl l).length = 2 * l.length := by
  induction l with
  | nil => rfl
  | cons c r ih => show (c :: c :: dbl r).length = _; simp only [List.length_cons, ih]; omega
theorem dbl_mem {l : List Nat} : ∀ x ∈ dbl l, x ∈ l := by
  intro x hx
  obtain ⟨y, hy, h⟩ := List.mem_flatMap.mp hx
  simp at h
  rw [h]; exact hy
theorem paired_dbl {off : List Addr} {g h : Heap} {f : Nat → Nat} : ∀ {idx : List Nat} {ys : List Value}, Paired (ElemOk off g h (fun i v d => d = none ∧ ∃ t, v = .str (tx [f i, f i]) t)) idx ys → StrsAre ys ((idx.map f).map fun c => tx [c, c])
  | _, _, .nil => .nil
  | _, _, .cons ⟨_, ⟨_, t, e⟩, _⟩ r => by subst e; exact .cons _ t (paired_dbl r)
theorem twin_facts {d1 : Nat} {q1 W3 : List Nat} (e : W3 = d1 :: (101 :: dbl q1 ++ [97])) (hd1 : isLet d1) (hq1 : q1.length ≤ 8) (hq1' : ∀ c ∈ q1, isLet c) :
    code W3 = code (d1 :: q1) ∧ W3.length ≤ 30 ∧ W3 ≠ [] ∧ ∀ c ∈ W3, isLet c := by
  subst e
  refine ⟨code_twin d1 q1, ?_, List.cons_ne_nil _ _, ?_⟩
  · have := dbl_len q1
    simp only [List.length_cons, List.length_append, List.length_nil]
    omega
  · intro c hc
    rcases List.mem_cons.mp hc with rfl | hc
    · exact hd1
    · rcases List.mem_append.mp hc with hc | hc
      · rcases List.mem_cons.mp hc with rfl | hc
        · unfold isLet; omega
        · exact hq1' c (dbl_mem c hc)
      · rw [List.mem_singleton.mp hc]; unfold isLet; omega
theorem alike_places : ∀ a b : List Nat, ((List.range (min a.length b.length)).filter fun i => a.getD i 0 == b.getD i 0).length = alike a b
  | [], b => by simp [alike]
  | _ :: _, [] => by simp [alike]
  | x :: a, y :: b => by
    have ih := alike_places a b
    have e : min (x :: a).length (y :: b).length = min a.length b.length + 1 := by simp only [List.length_cons]; omega
    rw [e, List.range_succ_eq_map, List.filter_cons, List.filter_map]
    unfold alike at ih ⊢
    rw [List.zip_cons_cons, List.filter_cons]
    show (if (x == y) = true then _ else _ : List Nat).length = (if (x == y) = true then _ else _ : List (Nat × Nat)).length
    cases x == y with
    | true => rw [if_pos rfl, if_pos rfl, List.length_cons, List.length_cons, List.length_map, ← ih]; rfl
    | false => rw [if_neg (by decide), if_neg (by decide), List.length_map, ← ih]; rfl
theorem alike_in {a b : List Nat} {idx : List Nat} (e : idx = (List.range (min (tx a).cps.size (tx b).cps.size)).filter fun i => a.getD i 0 == b.getD i 0) : idx.length = alike a b := by
  rw [e, ← alike_places, show (tx a).cps.size = a.length from by simp, show (tx b).cps.size = b.length from by simp]
section
variable {w : World} {A : Around} {E : Value → Shared → Prop} {s : Shared} {Q : Value → Shared → Prop}
theorem eqSg {c d : Nat} {t u : Tok} (h : Q (.bool (c == d)) s) : wpAny (model Pg w) A (compareOp .Eq (.str (sg c) t) (.str (sg d) u)) Q E s := by
  refine PyProof.Rows.eq_str ?_
  have e : ((sg c : Str) == sg d) = (c == d) := by
    rw [Bool.eq_iff_iff]; simp
  rw [e]; exact h
theorem addE {a : List Nat} {t u : Tok} (hn : a.length ≤ 1000) (h : ∀ t2 tk, Q (.str (tx (a ++ [101])) t2) { s with toks := tk }) : wpAny (model Pg w) A (binaryOp .Add (.str (tx a) t) (.str (Str.ofString "e") u)) Q E s := by
  rw [e_tx]; exact addTx (by simp; omega) h
theorem addA {a : List Nat} {t u : Tok} (hn : a.length ≤ 1000) (h : ∀ t2 tk, Q (.str (tx (a ++ [97])) t2) { s with toks := tk }) : wpAny (model Pg w) A (binaryOp .Add (.str (tx a) t) (.str (Str.ofString "a") u)) Q E s := by
  rw [a_tx]; exact addTx (by simp; omega) h
theorem addTwin {d : Nat} {q : List Nat} {t u : Tok} (hn : q.length ≤ 8) (h : ∀ W3 t2 tk, W3 = d :: (101 :: dbl q ++ [97]) → Q (.str (tx W3) t2) { s with toks := tk }) : wpAny (model Pg w) A (binaryOp .Add (.str (tx ([d, 101] ++ dbl q)) t) (.str (Str.ofString "a") u)) Q E s :=
  addA (by have := dbl_len q; simp only [List.length_append, List.length_cons, List.length_nil]; omega) fun t2 tk => h _ t2 tk rfl
theorem neSame {a : List Nat} {t u : Tok} (h : Q (.bool false) s) : wpAny (model Pg w) A (compareOp .NotEq (.str (tx a) t) (.str (tx a) u)) Q E s := by
  refine PyProof.Rows.ne_str ?_
  rw [bne_self_eq_false]; exact h
theorem joinDbl {D : Addr} {ys : List Value} {cs : List Nat} {t : Tok} (hD : s.heap.get? D = some (lst ys)) (hs : StrsAre ys (cs.map fun c => tx [c, c])) (hn : cs.length ≤ 1000) (h : ∀ t2 tk, Q (.str (tx (dbl cs)) t2) { s with toks := tk }) :
    wpAny (model Pg w) A (call (.builtin "str.join") [.str (Str.ofString "") t, .ref D]) Q E s := by
  refine join_list (ys := cs.map fun c => tx [c, c]) ⟨_, hD, rfl, _, rfl⟩ (by simpa using hs) ?_ fun t2 k2 => ?_
  · have e1 : (List.map (fun x => x.length) (List.map (fun c => tx [c, c]) cs)).sum = 2 * cs.length := by
      clear hs hn h
      induction cs with
      | nil => rfl
      | cons c r ih => simp only [List.map_cons, List.sum_cons, ih, List.length_cons]; show 2 + _ = _; omega
    rw [e1, List.length_map, empty_tx]
    show 2 * cs.length + cs.length * 0 ≤ _
    omega
  · rw [join_dbl]; exact h _ _
end

end Jn

section Gn
section
variable {w : World} {A : Around} {E : Value → Shared → Prop} {s s₀ : Shared} {env : Env} {m₀ cm : Str → Option Value} {sc : Scope} {cs : List (Str × Addr)}
theorem codeEff {pos : Pos} {qual : Str} {scope : Scope} {Q : Value → Shared → Prop} (G : Gd w s) (hc : env.code = .ref 198)
    (h : ∀ code h' tk, Eff s { s with heap := h', toks := tk } → s.heap.objs.size ≤ h'.objs.size → Q code { s with heap := h', toks := tk }) : wpAny (model Pg w) A (genexprCode env pos qual scope) Q E s := by
  obtain ⟨ps, ht, hP⟩ := G.tab
  have hd : CodeHd s.heap 198 194 := codeHd_of_K G.K (by kernel_rfl)
  cases hf : codeAmong pos ps.toList with
  | some c' => exact wpAny_genexprCode_hit hc (hd.code hP ht) hf (h c' s.heap s.toks (.refl _) (Nat.le_refl _))
  | none =>
    refine wpAny_genexprCodeX hc (hd.code hP ht) (hd.tab hP) hf fun c' h' tk hx h1 h2 hcd _ htab _ => h _ h' tk ⟨fun b o hb e => hx b o hb e, fun _ => ?_, fun x => x, rfl⟩ (Nat.le_trans h1 (Nat.le_of_lt h2))
    obtain ⟨_, _, _, _, _, _, _, _, _, _, _, _, _, _, _, _, _, _, _, htr, _⟩ := hcd
    exact ⟨_, htr, htab.2⟩

/-- a generator that stands ready -/
def Gn (w : World) (A : Around) (h : Heap) (a : Addr) (n : Nat) (F : Nat → Value → Prop) (s : Shared) : Prop :=
  ∃ fp wr g St, WalksS Pg w A.in4 a fp wr (GenOnlyQ g) n F St ∧ St 0 s ∧ (∀ i s', St i s' → s'.TypeIs (.ref a) "generator") ∧ a ∈ fp ∧ (∀ b ∈ fp, b < s.heap.objs.size) ∧ (∀ b ∈ wr, h.get? b = none) ∧ 194 ∉ wr

/-- a generator expression's source and turns, its code noted -/
theorem genMade {wr : List Addr} {n₀ : Nat} {pz : Nat → Bool} {F : Nat → Value → Prop} {s₄ : Shared} {h₅ : Heap} {a tk : Nat} {gs : GenState} (G : Gd w s) (e : Eff s s₄) (hgb : gs.bare = true) (hwr : ∀ b ∈ wr, s.heap.get? b = none) (h4 : 194 ∉ wr)
    (hag : s₄.heap.objs.size < a) (hsz₅ : h₅.objs.size = a + 1) (hk₅ : ∀ b o, s₄.heap.get? b = some o → h₅.get? b = some o)
    (W : WalksS Pg w A.in4 a (a :: s₄.heap.objs.size :: List.range s₄.heap.objs.size) (s₄.heap.objs.size :: wr) (GenOnlyQ s₄.gens.size) (passing pz n₀ 0).length
              (fun j y => ∃ i, (passing pz n₀ 0)[j]? = some i ∧ F i y) (GenAt Pg w A.in4 a s₄.gens.size s₄.heap.objs.size (List.range s₄.heap.objs.size) wr pz n₀ F))
    (hat : GenAt Pg w A.in4 a s₄.gens.size s₄.heap.objs.size (List.range s₄.heap.objs.size) wr pz n₀ F 0 { s₄ with gens := s₄.gens.push gs, toks := tk, heap := h₅ }) :
    Eff s { s₄ with gens := s₄.gens.push gs, toks := tk, heap := h₅ } ∧ Gn w A s.heap a (passing pz n₀ 0).length (fun j y => ∃ i, (passing pz n₀ 0)[j]? = some i ∧ F i y) { s₄ with gens := s₄.gens.push gs, toks := tk, heap := h₅ } := by
  refine ⟨⟨fun b o hb q => hk₅ b o (e.keep b o hb q), fun t => (e.tab t).keeps hk₅, fun x => (e.bare x).push hgb, e.os⟩, _, _, _, _, W, hat, (fun i s' st => st.1.typeIs), List.mem_cons_self, ?_, ?_, ?_⟩
  · intro b hb
    show b < h₅.objs.size
    rw [hsz₅]
    rcases List.mem_cons.mp hb with rfl | hb
    · exact Nat.lt_succ_self _
    · rcases List.mem_cons.mp hb with rfl | hb
      · exact Nat.lt_succ_of_lt hag
      · exact Nat.lt_succ_of_lt (Nat.lt_trans (List.mem_range.mp hb) hag)
  · intro b hb
    rcases List.mem_cons.mp hb with rfl | hb
    · exact fresh_at G e
    · exact hwr b hb
  · intro hb
    rcases List.mem_cons.mp hb with q | hb
    · have := (G.eff e).lt
      rw [← q] at this; exact absurd this (Nat.lt_irrefl _)
    · exact h4 hb

theorem lim_ne : cStatics ≠ 194 := by decide
theorem eff_lim {s s' : Shared} (x : s.heap.NoLimit) (e : Eff s s') : s'.heap.NoLimit := let ⟨mc, n, r⟩ := x; ⟨mc, ns_but n (by decide) e.keep, r⟩
/-- sizes grow where all is kept -/
theorem genStr {elt iter : Expr} {x : Str} {px : Pos} {ifs : List Expr} {scope : Scope} {cl : List (Str × Addr)} {pos : Pos} {Q : Value → Shared → Prop} (B : Bd w s₀ env m₀ cm s) (V : Ev env sc cs) (hcode : env.code = .ref 198) (hcl : ClOk cs cl)
    (hh : A.handled = none) (hco : scope.isCoroutine = false) (hclos : closureFor scope env = pure cl) (hcell : ∀ y ∈ scope.names, y.2 ≠ .cell) (h0 : scope.names.lookup (".0" : Str) = some NameKind.local)
    (hx : scope.names.lookup x = some .local) (hkind : scope.kind = .function) (hroom : A.depth < recursionLimit)
    (h : wpAny (model Pg w) A (eval iter env) (fun xv s₁ => ∃ y t, xv = .str y t ∧ Eff s s₁ ∧ ∃ (pz : Nat → Bool) (F : Nat → Value → Prop),
      (∀ (A' : Around) E' i c t cenv m s₃, A'.handled = none → y.cps[i]? = some c → m x = some (.str (sg c) t) → Ev cenv scope cl → s₃.heap.Ns cenv.locals m → (∀ n a, cl.lookup n = some a → s₃.heap.IsCell a (cm n)) →
        wpAny (model Pg w) A' (forIn ifs true fun c r => if r = true then do let ok ← isTrue c cenv (eval c cenv); pure (ForInStep.yield ok) else pure (ForInStep.yield r)) (fun ok s₄ => ok = pz i ∧ Keeps s₃ s₄) E' s₃) ∧
      (∀ (A' : Around) E' i c t cenv m s₃, A'.handled = none → y.cps[i]? = some c → m x = some (.str (sg c) t) → pz i = true → Ev cenv scope cl → s₃.heap.Ns cenv.locals m → (∀ n a, cl.lookup n = some a → s₃.heap.IsCell a (cm n)) →
        wpAny (model Pg w) A' (eval elt cenv) (fun v s₄ => F i v ∧ Keeps s₃ s₄) E' s₃) ∧
      ∀ a s', Eff s s' → Gn w A s.heap a (passing pz y.cps.size 0).length (fun j v => ∃ i, (passing pz y.cps.size 0)[j]? = some i ∧ F i v) s' → Q (.ref a) s') E s)
    (hs : ∀ x, genFold iter env x = pure x) :
    wpAny (model Pg w) A (eval (.GeneratorExp elt [⟨.Name x px, iter, ifs, 0⟩] scope pos) env) Q E s := by
  refine wpAny_GeneratorExp_walksQ hh hco hclos hcell h0 hx hkind hroom (wpAny_mono h (fun xv s₁ h₁ => ?_) fun _ _ e => e) hs
  obtain ⟨y, t, rfl, e1, pz, F, ht, he, hQ⟩ := h₁
  refine pyIter_str' fun o St W hl hst => ?_
  have e2 : Eff s { s₁ with heap := s₁.heap.push o } := e1.trans (Eff.of fun _ _ q => Heap.get?_push_of_some _ q)
  have B2 := B.eff e2
  have hf := fresh_at B.G e1
  have h194 : 194 < s₁.heap.objs.size := (B.eff e1).G.lt
  refine ⟨B2.G.lim, codeEff B2.G hcode fun code h₄ tk₄ e4 hsz => ?_⟩
  have e24 := e2.trans e4
  have B4 := B.eff e24
  obtain ⟨mg, bm, ob, hmod⟩ := B4.G.mod
  have hmod' : BMod h₄ env.globals mg bm ob := by rw [V.g]; exact hmod
  refine wpAny_builtinsFor hmod'.ns hmod'.name hmod'.ne hmod'.obj hmod'.cls hmod'.dict hmod'.data ?_
  have hle : s₁.heap.objs.size < h₄.objs.size := Nat.lt_of_lt_of_le (by show _ < (s₁.heap.push o).objs.size; rw [Heap.size_push]; exact Nat.lt_succ_self _) hsz
  refine ⟨s₁.heap.objs.size, [s₁.heap.objs.size], [s₁.heap.objs.size], y.cps.size, _, St, pz, F, rfl, fun A' hA => W A' hA, ?_, ?_, B4.G.lim, ?_, ?_, ?_⟩
  · refine (W A hh).frame _ _ _ hst fun b hb o' e => e4.keep b o' ?_ e
    rw [List.mem_singleton.mp hb]; exact Nat.ne_of_gt h194
  · intro b hb; rw [List.mem_singleton.mp hb]; exact hle
  · intro hb
    obtain ⟨_, hn, _⟩ := B.G.lim
    have := hn.lt
    have e' := List.mem_singleton.mp hb
    obtain ⟨o', _, _, q, _⟩ := hn
    rw [e', hf] at q; cases q
  · intro href hhref
    have hcells : ∀ (s₂ : Shared), (∀ b ∈ List.range h₄.objs.size, b ∉ [s₁.heap.objs.size] → ∀ o, href.get? b = some o → s₂.heap.get? b = some o) → ∀ n a, cl.lookup n = some a → s₂.heap.IsCell a (cm n) := fun s₂ hk n a ha => by
      have hc := hcl.get n a ha
      obtain ⟨o', ho, hd⟩ := B.cell n a (by rw [V.c]; exact hc)
      have ho4 : h₄.get? a = some o' := e24.keep a o' (Nat.ne_of_gt (Nat.lt_trans B.loc (B.cgt (by rw [V.c]; exact hc)))) ho
      refine ⟨o', hk a (List.mem_range.mpr (Heap.lt_size ho4)) (fun q => ?_) o' (hhref a o' ho4), hd⟩
      rw [List.mem_singleton.mp q, hf] at ho; cases ho
    refine ⟨fun A' E' i v s₂ m₂ hA ⟨c, u, hc, ev⟩ hn hm hk => ?_, fun A' E' i v s₂ m₂ hA ⟨c, u, hc, ev⟩ hp hn hm hk => ?_⟩
    · subst ev; exact ht A' E' i c u _ m₂ s₂ hA hc hm ⟨rfl, V.g, rfl, rfl⟩ hn (hcells s₂ hk)
    · subst ev; exact he A' E' i c u _ m₂ s₂ hA hc hm hp ⟨rfl, V.g, rfl, rfl⟩ hn (hcells s₂ hk)
  · intro a h₅ tk gs hgb hag hsz₅ hk₅ WW hat
    obtain ⟨k1, k2⟩ := genMade B.G e24 hgb (fun b hb => by rw [List.mem_singleton.mp hb]; exact hf) (fun hb => Nat.ne_of_gt h194 (List.mem_singleton.mp hb).symm) hag hsz₅ hk₅ WW hat
    exact hQ a _ k1 k2

/-- enumerate over a text, made since s -/
def EnumOf (s : Shared) (y : Str) (t : Tok) (xv : Value) (s₁ : Shared) : Prop :=
  ∃ e I, xv = .ref e ∧ Eff s s₁ ∧ IsEnum s₁.heap e I 0 .none ∧ s₁.heap.IsStrIter I (strIterType y) y t 0 ∧ e < s₁.heap.objs.size ∧ I < s₁.heap.objs.size ∧ s.heap.get? e = none ∧ s.heap.get? I = none ∧ e ≠ I ∧ e ≠ 194 ∧ I ≠ 194
theorem enumStr {y : Str} {t : Tok} {s₁ : Shared} {Q : Value → Shared → Prop} (G : Gd w s) (e : Eff s s₁) (h : ∀ v s', EnumOf s y t v s' → Q v s') : wpAny (model Pg w) A (call (.type "enumerate") [.str y t]) Q E s₁ := by
  refine call_enumerate_str fun h' he hit hsz hk => h _ _ ?_
  have hT := (G.eff e).lt
  refine ⟨_, _, rfl, e.trans (Eff.of hk), he, hit, by show _ < h'.objs.size; rw [hsz]; exact Nat.lt_succ_self _, by show _ < h'.objs.size; rw [hsz]; exact Nat.lt_succ_of_lt (Nat.lt_succ_self _), ?_, fresh_at G e, Nat.succ_ne_self _, Nat.ne_of_gt (Nat.lt_succ_of_lt hT), Nat.ne_of_gt hT⟩
  cases q : s.heap.get? (s₁.heap.objs.size + 1) with
  | none => rfl
  | some o =>
    have := e.keep _ o (Nat.ne_of_gt (Nat.lt_succ_of_lt hT)) q
    exact absurd (Heap.lt_size this) (Nat.not_lt.mpr (Nat.le_succ _))

theorem genEnum {elt iter : Expr} {xa xb : Str} {pa pb pt : Pos} {kt : Nat} {ifs : List Expr} {scope : Scope} {cl : List (Str × Addr)} {pos : Pos} {Q : Value → Shared → Prop} (B : Bd w s₀ env m₀ cm s) (V : Ev env sc cs) (hcode : env.code = .ref 198) (hcl : ClOk cs cl)
    (hh : A.handled = none) (hco : scope.isCoroutine = false) (hclos : closureFor scope env = pure cl) (hcell : ∀ y ∈ scope.names, y.2 ≠ .cell) (h0 : scope.names.lookup (".0" : Str) = some NameKind.local)
    (hxa : scope.names.lookup xa = some .local) (hxb : scope.names.lookup xb = some .local) (hab : xa ≠ xb) (hkind : scope.kind = .function) (hroom : A.depth < recursionLimit)
    (h : wpAny (model Pg w) A (eval iter env) (fun xv s₁ => ∃ y t, EnumOf s y t xv s₁ ∧ ∃ (pz : Nat → Bool) (F : Nat → Value → Prop),
      (∀ (A' : Around) E' i c u t cenv m s₃, A'.handled = none → y.cps[i]? = some c → m xa = some (.int (i : Nat) u) → m xb = some (.str (sg c) t) → Ev cenv scope cl → s₃.heap.Ns cenv.locals m → (∀ n a, cl.lookup n = some a → s₃.heap.IsCell a (cm n)) →
        wpAny (model Pg w) A' (forIn ifs true fun c r => if r = true then do let ok ← isTrue c cenv (eval c cenv); pure (ForInStep.yield ok) else pure (ForInStep.yield r)) (fun ok s₄ => ok = pz i ∧ Keeps s₃ s₄) E' s₃) ∧
      (∀ (A' : Around) E' i c u t cenv m s₃, A'.handled = none → y.cps[i]? = some c → m xa = some (.int (i : Nat) u) → m xb = some (.str (sg c) t) → pz i = true → Ev cenv scope cl → s₃.heap.Ns cenv.locals m → (∀ n a, cl.lookup n = some a → s₃.heap.IsCell a (cm n)) →
        wpAny (model Pg w) A' (eval elt cenv) (fun v s₄ => F i v ∧ Keeps s₃ s₄) E' s₃) ∧
      ∀ a s', Eff s s' → Gn w A s.heap a (passing pz y.cps.size 0).length (fun j v => ∃ i, (passing pz y.cps.size 0)[j]? = some i ∧ F i v) s' → Q (.ref a) s') E s)
    (hs : ∀ x, genFold iter env x = pure x) :
    wpAny (model Pg w) A (eval (.GeneratorExp elt [⟨.Tuple [.Name xa pa, .Name xb pb] kt pt, iter, ifs, 0⟩] scope pos) env) Q E s := by
  refine wpAny_GeneratorExp_walksQT hh hco hclos hcell h0 hxa hxb hab hkind hroom (wpAny_mono h (fun xv s₁ h₁ => ?_) fun _ _ e => e) hs
  obtain ⟨y, t, ⟨e, I, rfl, e1, hen, hit, hel, hIl, he0, hI0, heI, he4, hI4⟩, pz, F, ht, hel', hQ⟩ := h₁
  refine wpAny_pyIter_enum hen ?_
  have B1 := B.eff e1
  refine ⟨B1.G.lim, codeEff B1.G hcode fun code h₄ tk₄ e4 hsz => ?_⟩
  have e14 := e1.trans e4
  have B4 := B.eff e14
  obtain ⟨mg, bm, ob, hmod⟩ := B4.G.mod
  have hmod' : BMod h₄ env.globals mg bm ob := by rw [V.g]; exact hmod
  refine wpAny_builtinsFor hmod'.ns hmod'.name hmod'.ne hmod'.obj hmod'.cls hmod'.dict hmod'.data ?_
  have key : ∀ {St : Nat → Heap → Prop}, (∀ A' : Around, A'.handled = none → Draws Pg w A' I [I] y.cps.size (SignAt y) St) → St 0 h₄ →
      ∃ I' fp wr n₀ Pt St₀ Mid pz F, Value.ref e = .ref I' ∧ (∀ A' : Around, A'.handled = none → WalksU Pg w A' I' fp wr n₀ Pt St₀ Mid) ∧ (∀ i vals, Pt i vals → ∃ va vb, vals = #[va, vb]) ∧ St₀ 0 h₄ ∧ (∀ b ∈ fp, b < h₄.objs.size) ∧ h₄.NoLimit ∧ cStatics ∉ wr ∧
          (∀ href : Heap, (∀ b o, h₄.get? b = some o → href.get? b = some o) →
            QuietGenT Pg w (genEnv scope cl h₄.objs.size code builtinsNs env) xa xb ifs elt (List.range h₄.objs.size) wr Pt pz F href) ∧
          (∀ a h₅ tk gs, gs.bare = true → h₄.objs.size < a → h₅.objs.size = a + 1 → (∀ b o, h₄.get? b = some o → h₅.get? b = some o) →
            WalksS Pg w A.in4 a (a :: h₄.objs.size :: List.range h₄.objs.size) (h₄.objs.size :: wr) (GenOnlyQ s₁.gens.size) (passing pz n₀ 0).length
              (fun j y => ∃ i, (passing pz n₀ 0)[j]? = some i ∧ F i y) (GenAt Pg w A.in4 a s₁.gens.size h₄.objs.size (List.range h₄.objs.size) wr pz n₀ F) →
            GenAt Pg w A.in4 a s₁.gens.size h₄.objs.size (List.range h₄.objs.size) wr pz n₀ F 0 { s₁ with gens := s₁.gens.push gs, toks := tk, heap := h₅ } →
            Q (.ref a) { s₁ with gens := s₁.gens.push gs, toks := tk, heap := h₅ }) := fun {St} D hst => by
    have side1 : e ∉ [I] := fun hm => heI (List.mem_singleton.mp hm)
    have hwr : ∀ b ∈ [e, I], s.heap.get? b = none := fun b hb => by
      rcases List.mem_cons.mp hb with rfl | hb
      · exact he0
      · rw [List.mem_singleton.mp hb]; exact hI0
    refine ⟨e, _, _, y.cps.size, _, _, _, pz, F, rfl, fun A' hA => (WalksT.enumerateD (D A'.in1 hA) e heI side1 (List.mem_singleton.mpr rfl)).toU, (fun i vals h => by obtain ⟨t, x, _, e⟩ := h; exact ⟨_, _, e⟩), ⟨⟨_, e4.keep e _ he4 hen⟩, hst⟩, ?_, B4.G.lim, ?_, ?_, ?_⟩
    · intro b hb
      have hb' : b ≠ 194 ∧ ∃ o, s₁.heap.get? b = some o := by
        rcases List.mem_cons.mp hb with rfl | hb
        · exact ⟨he4, _, hen⟩
        · rw [List.mem_singleton.mp hb]; exact ⟨hI4, let ⟨o, q, _⟩ := hit; ⟨o, q⟩⟩
      obtain ⟨n1, o, q⟩ := hb'
      exact Heap.lt_size (e4.keep b o n1 q)
    · intro hb
      obtain ⟨_, hn, _⟩ := B.G.lim
      obtain ⟨o', _, _, q, _⟩ := hn
      rw [hwr _ hb] at q; cases q
    · intro href hhref
      have hcells : ∀ (s₂ : Shared), (∀ b ∈ List.range h₄.objs.size, b ∉ [e, I] → ∀ o, href.get? b = some o → s₂.heap.get? b = some o) → ∀ n a, cl.lookup n = some a → s₂.heap.IsCell a (cm n) := fun s₂ hk n a ha => by
        have hc := hcl.get n a ha
        obtain ⟨o', ho, hd⟩ := B.cell n a (by rw [V.c]; exact hc)
        have ho4 : h₄.get? a = some o' := e14.keep a o' (Nat.ne_of_gt (Nat.lt_trans B.loc (B.cgt (by rw [V.c]; exact hc)))) ho
        exact ⟨o', hk a (List.mem_range.mpr (Heap.lt_size ho4)) (fun q => by rw [hwr a q] at ho; cases ho) o' (hhref a o' ho4), hd⟩
      refine ⟨fun A' E' i va vb s₂ m₂ hA hP hn hma hmb hk => ?_, fun A' E' i va vb s₂ m₂ hA hP hp hn hma hmb hk => ?_⟩
      all_goals
        obtain ⟨u, x, ⟨c, t', hc, rfl⟩, ev⟩ := hP
        obtain ⟨rfl, rfl⟩ : va = .int (i : Nat) u ∧ vb = .str ⟨#[c]⟩ t' := by simpa using congrArg Array.toList ev
      · exact ht A' E' i c u t' _ m₂ s₂ hA hc hma hmb ⟨rfl, V.g, rfl, rfl⟩ hn (hcells s₂ hk)
      · exact hel' A' E' i c u t' _ m₂ s₂ hA hc hma hmb hp ⟨rfl, V.g, rfl, rfl⟩ hn (hcells s₂ hk)
    · intro a h₅ tk gs hgb hag hsz₅ hk₅ WW hat
      obtain ⟨k1, k2⟩ := genMade (s₄ := { s₁ with heap := h₄, toks := tk₄ }) B.G e14 hgb hwr (fun hb => by
        rcases List.mem_cons.mp hb with q | hb
        · exact he4 q.symm
        · exact hI4 (List.mem_singleton.mp hb).symm) hag hsz₅ hk₅ WW hat
      exact hQ a _ k1 k2
  have hit4 : h₄.IsStrIter I (strIterType y) y t 0 := let ⟨o, q, r⟩ := hit; ⟨o, e4.keep I o hI4 q, r⟩
  cases ha : y.cps.all (· < 128)
  · have hit' : h₄.IsStrIter I "str_iterator" y t 0 := by simpa [strIterType, ha] using hit4
    exact key (fun A' hA => Draws.strWide hA I y t) hit'
  · have hit' : h₄.IsStrIter I "str_ascii_iterator" y t 0 := by simpa [strIterType, ha] using hit4
    exact key (fun A' hA => Draws.strAscii hA I y t) hit'

/-- the signs that a generator gives, joined -/
theorem joinGn {t : Tok} {a : Addr} {n₀ : Nat} {pz : Nat → Bool} {F : Nat → Value → Prop} {f : Nat → Nat} {s₁ : Shared} {Q : Value → Shared → Prop} (e : Eff s s₁) (X : Gn w A s.heap a (passing pz n₀ 0).length (fun j v => ∃ i, (passing pz n₀ 0)[j]? = some i ∧ F i v) s₁)
    (hF : ∀ i v, F i v → ∃ u, v = .str (sg (f i)) u) (hn : n₀ ≤ 1000000) (h : ∀ s' t', Eff s s' → Q (.str (tx (((List.range n₀).filter pz).map f)) t') s') :
    wpAny (model Pg w) A (call (.builtin "str.join") [.str (Str.ofString "") t, .ref a]) Q E s₁ := by
  obtain ⟨fp, wr, g, St, W, hst, hT, ha, hfp, hwr, h4⟩ := X
  have W := W.in4_2
  have hlen : (passing pz n₀ 0).length ≤ n₀ := by
    have := List.length_filter_le pz (List.range n₀)
    rw [List.length_range] at this
    exact this
  refine SC.joinGen W hT hst hfp ha (fun j v hv => let ⟨i, _, hi⟩ := hv; let ⟨u, e⟩ := hF i v hi; ⟨_, u, e⟩) (fun s' lt hm hacc => ?_) (by rw [PySem.sizeLine_eq]; omega)
  have hl : lt.map (·.1) = (((List.range n₀).filter pz).map f).map sg := by
    rw [List.map_map]
    apply List.ext_getElem?
    intro j
    have hsz : lt.length = (passing pz n₀ 0).length := by simpa [strValues] using hacc.1
    have hpa : passing pz n₀ 0 = (List.range n₀).filter pz := rfl
    by_cases hj : j < (passing pz n₀ 0).length
    · have hj' : j < lt.length := hsz ▸ hj
      obtain ⟨i, hi, hFi⟩ := hacc.2 j (.str lt[j].1 lt[j].2) (by simp [strValues, List.getElem?_eq_getElem hj'])
      obtain ⟨u, hv⟩ := hF i _ hFi
      injection hv with h1 _
      rw [hpa] at hi
      rw [List.getElem?_map, List.getElem?_map, hi, List.getElem?_eq_getElem hj']
      simp [h1]
    · rw [List.getElem?_eq_none (by simpa [hsz] using Nat.le_of_not_lt hj), List.getElem?_eq_none (by simpa [hpa] using Nat.le_of_not_lt hj)]
  rw [hl]
  have e' : Eff s s' := ⟨fun b o hb q => hm.heap b o (fun hmem => by rw [hwr b hmem] at q; cases q) (e.keep b o hb q), fun t => let ⟨ps, t1, t2⟩ := e.tab t; ⟨ps, t1, hm.heap _ _ h4 t2⟩, fun x => (e.bare x).movedS hm, hm.os.trans e.os⟩
  rw [join_tx]
  refine ⟨joinOk_of ?_, fun t' k => h { s' with toks := k } t' (e'.trans Eff.toks)⟩
  have e1 : ∀ cs : List Nat, (List.map (fun x => x.length) (List.map sg cs)).sum = cs.length := by
    intro cs
    induction cs with
    | nil => rfl
    | cons c r ih => simp only [List.map_cons, List.sum_cons, ih, List.length_cons]; show 1 + _ = _; omega
  rw [e1, List.length_map, List.length_map, empty_tx]
  show (List.filter pz (List.range n₀)).length + (List.filter pz (List.range n₀)).length * 0 ≤ _
  have : (List.filter pz (List.range n₀)).length ≤ n₀ := hlen
  omega
end

end Gn

section Zp
open Sem (wp)
theorem wpAny_loadIfAlive {M : Model} {A : Around} {E : Value → Shared → Prop} {s : Shared} {a : Addr} {Q : Option Obj → Shared → Prop} (h : Q (s.heap.get? a) s) : wpAny M A (loadIfAlive a) Q E s := fun _ _ _ => h
section
variable {prog : Program} {w : World} {A : Around} {E : Value → Shared → Prop} {s : Shared}
/-- the end of an iterator is told -/
theorem stopHere {α : Type} {Q : α → Shared → Prop} (hh : A.handled = none) (h : ∀ h' e, (∀ b o, s.heap.get? b = some o → h'.get? b = some o) → (∃ o, h'.get? e = some o ∧ o.cls = .type "StopIteration") → E (.ref e) { s with heap := h' }) :
    wpAny (model prog w) A (Builtin.SmallTypes.stopIteration : Sem α) Q E s := by
  unfold Builtin.SmallTypes.stopIteration newExc newTuple
  refine wpAny_bind (wpAny_bind (wpAny_newObj_type ?_ (by size_fits)))
  refine wpAny_bind (m := firstArgMember _ _) (wpAny_of_eq (a := Value.none) rfl ?_)
  refine wpAny_newObj_type (wpAny_raiseNew_none hh (h _ _ (fun b o e => ?_) ⟨_, Heap.get?_push_size _ rfl, rfl⟩)) (by size_fits)
  exact Heap.get?_push_of_some _ (Heap.get?_push_of_some _ e)
/-- a tuple's iterator is asked: it hands over its next item, or it tells its end -/
theorem nextTup {it l : Addr} {i : Nat} {items : Array Value} {Q : Value → Shared → Prop} (hh : A.handled = none) (hit : s.heap.IsTupleIter it l i) (hl : s.heap.IsTuple l items)
    (more : ∀ x h', items[i]? = some x → h'.IsTupleIter it l (i + 1) → Heap.SameBut it s.heap h' → Q x { s with heap := h' })
    (last : items[i]? = none → ∀ h' e, Heap.ExtBut it s.heap h' → (∃ o, h'.get? e = some o ∧ o.cls = .type "StopIteration") → E (.ref e) { s with heap := h' }) :
    wpAny (model prog w) A (Builtin.SmallTypes.nextOf (.ref it)) Q E s := by
  have hT := hit.typeIs
  obtain ⟨⟨ic, idd, ida, isl⟩, ho, rfl, rfl⟩ := hit
  obtain ⟨_, hol, _, _, hdl⟩ := hl
  refine wpAny_bind (wpAny_callSpecial?_slot hT F.slot_tuple_iterator_next (wpAny_call_entry F.slot_tuple_iterator_next hT F.entry_tuple_iterator_next ?body (F.args_tuple_iterator_next_1 _)))
  show wpAny _ _ (field (.ref it) 0 >>= _) _ _ s
  refine wpAny_bind (wpAny_field ho rfl rfl ?_)
  show wpAny _ _ (field (.ref it) 1 >>= _) _ _ s
  refine wpAny_bind (wpAny_field ho rfl rfl (wpAny_bind (wpAny_seqItems hol hdl ?_)))
  have step : ∀ f : Array Value → Array Value, Heap.SameBut it s.heap (s.heap.update it (Obj.mapFields f)) := fun f => Heap.SameBut.update ..
  rw [Int.toNat_natCast]
  cases hx : items[i]? with
  | some x =>
    simp only [hx]
    refine wpAny_bind (wpAny_setField ho rfl (by simp) ?_)
    exact wpAny_pure ⟨x, rfl, wpAny_pure (more x _ hx ⟨_, Heap.get?_update_self _ ho rfl, rfl, rfl⟩ (step _))⟩
  | none =>
    simp only [hx]
    refine wpAny_bind (wpAny_rule (wpAny_bind (wpAny_setField (i := 0) ho rfl (by simp) ?_)))
    exact stopHere hh fun h' e k he => last hx h' e (fun b o hb q => k b o ((step _).extBut b o hb q)) he
end
theorem tupleIter_at {h h' : Heap} {a t : Addr} {i : Nat} (x : h.IsTupleIter a t i) (k : ∀ o, h.get? a = some o → h'.get? a = some o) : h'.IsTupleIter a t i := let ⟨o, ho, r⟩ := x; ⟨o, k o ho, r⟩
theorem tuple_at {h h' : Heap} {a : Addr} {its : Array Value} (x : h.IsTuple a its) (k : ∀ o, h.get? a = some o → h'.get? a = some o) : h'.IsTuple a its := let ⟨o, ho, r⟩ := x; ⟨o, k o ho, r⟩
theorem drawsTuple {w : World} {A : Around} (hh : A.handled = none) (it l : Addr) (hne : l ≠ it) (items : Array Value) :
    Draws Pg w A it [it, l] items.size (fun i v => items[i]? = some v) (fun i h => h.IsTupleIter it l i ∧ h.IsTuple l items) where
  live := fun _ _ st => let ⟨o, ho, _⟩ := st.1; ⟨o, ho⟩
  frame := fun _ _ _ st hk => ⟨tupleIter_at st.1 fun o e => hk it (by simp) o e, tuple_at st.2 fun o e => hk l (by simp) o e⟩
  item := fun i s Q E hi st hQ => by
    exact nextTup hh st.1 st.2 (fun x h' hx hit' hs' => hQ x h' s.toks hx ⟨hit', st.2.extBut hs'.extBut hne⟩ hs') fun hx => absurd hx (by simp [hi])
  done := fun s Q E st hE => nextTup hh st.1 st.2 (fun x _ hx => absurd hx (by simp)) fun _ => hE

/-- a source of a zip -/
structure Src where
  it : Addr
  fp : List Addr
  n : Nat
  P : Nat → Value → Prop
  St : Nat → Heap → Prop
abbrev zobj (f0 : Value) (b : Bool) (TI TO : Addr) : Obj := { cls := .type "zip", dict := none, data := .fields #[f0, .bool b, .bool false, .ref TI, .ref TO], slots := #[] }
abbrev itsOf (rs : List Src) : List Value := rs.map fun r => .ref r.it
structure ZApart (z TI TO : Addr) (rs : List Src) : Prop where
  TIz : TI ≠ z
  TOz : TO ≠ z
  TITO : TI ≠ TO
  off : ∀ r ∈ rs, z ∉ r.fp ∧ TO ∉ r.fp ∧ r.it ≠ TI ∧ r.it ∈ r.fp
  pw : ∀ (i j : Nat) (a b : Src), i ≠ j → rs[i]? = some a → rs[j]? = some b → a.it ∉ b.fp
theorem ZApart.ne {z TI TO : Addr} {rs : List Src} (D : ZApart z TI TO rs) {r : Src} (hr : r ∈ rs) : r.it ≠ z ∧ r.it ≠ TO := 
  let ⟨a, b, _, d⟩ := D.off r hr; ⟨fun e => a (e ▸ d), fun e => b (e ▸ d)⟩

/-- the first k sources stand at i + 1, the others at i -/
def Half (rs : List Src) (i k : Nat) (h : Heap) : Prop := ∀ (j : Nat) (r : Src), rs[j]? = some r → r.St (if j < k then i + 1 else i) h
abbrev OffZ (z TO : Addr) (rs : List Src) (h h' : Heap) : Prop := ∀ b o, b ≠ z → b ≠ TO → b ∉ rs.map (·.it) → h.get? b = some o → h'.get? b = some o

section
variable {prog : Program} {w : World} {A : Around} {E : Value → Shared → Prop} {s : Shared} {z TI TO : Addr} {rs : List Src} {i : Nat}
/-- one source is drawn from -/
theorem half_draw (hD : ∀ r ∈ rs, Draws prog w A r.it r.fp r.n r.P r.St) (D : ZApart z TI TO rs) {k : Nat} {r : Src} (hr : rs[k]? = some r) (hi : i < r.n) (hH : Half rs i k s.heap) {Q : Value → Shared → Prop}
    (h : ∀ x h' tk, r.P i x → Half rs i (k + 1) h' → Heap.SameBut r.it s.heap h' → Q x { s with heap := h', toks := tk }) : wpAny (model prog w) A (Builtin.SmallTypes.nextOf (.ref r.it)) Q E s := by
  have hm : r ∈ rs := List.mem_of_getElem? hr
  refine (hD r hm).item i s _ E hi (by have := hH k r hr; simpa using this) fun x h' tk hP hst hs => h x h' tk hP (fun j q hq => ?_) hs
  by_cases hj : j = k
  · subst hj; rw [hr] at hq; cases hq
    rw [if_pos (Nat.lt_succ_self _)]; exact hst
  · have h0 := hH j q hq
    have e : (if j < k + 1 then i + 1 else i) = (if j < k then i + 1 else i) := by
      by_cases h1 : j < k
      · rw [if_pos h1, if_pos (by omega)]
      · rw [if_neg h1, if_neg (by omega)]
    rw [e]
    refine (hD q (List.mem_of_getElem? hq)).frame _ _ _ h0 fun b hb o ho => hs.extBut b o (fun eb => ?_) ho
    exact D.pw k j r q (Ne.symm hj) hr hq (eb ▸ hb)
/-- a change of z, TO alone -/
theorem half_off (hD : ∀ r ∈ rs, Draws prog w A r.it r.fp r.n r.P r.St) (D : ZApart z TI TO rs) {k : Nat} {h h' : Heap} (hH : Half rs i k h) (hk : ∀ b o, b ≠ z → b ≠ TO → h.get? b = some o → h'.get? b = some o) : Half rs i k h' := fun j r hr =>
  (hD r (List.mem_of_getElem? hr)).frame _ _ _ (hH j r hr) fun b hb o ho => hk b o (fun e => (D.off r (List.mem_of_getElem? hr)).1 (e ▸ hb)) (fun e => (D.off r (List.mem_of_getElem? hr)).2.1 (e ▸ hb)) ho
end
/-- the values drawn -/
def Drawn (rs : List Src) (i k : Nat) (vs : Array Value) : Prop := ∀ (j : Nat) (r : Src), j < k → rs[j]? = some r → ∃ v, vs[j]? = some v ∧ r.P i v
theorem Drawn.set {rs : List Src} {i k : Nat} {vs : Array Value} {r : Src} {x : Value} (h : Drawn rs i k vs) (hk : k < vs.size) (hr : rs[k]? = some r) (hx : r.P i x) : Drawn rs i (k + 1) (vs.setIfInBounds k x) := fun j q hj hq => by
  by_cases e : j = k
  · subst e; rw [hr] at hq; cases hq
    exact ⟨x, by simp [hk], hx⟩
  · obtain ⟨v, hv, hp⟩ := h j q (by omega) hq
    exact ⟨v, by rw [Array.getElem?_setIfInBounds_ne (by omega)]; exact hv, hp⟩
theorem Drawn.push {rs : List Src} {i : Nat} {vs : Array Value} {r : Src} {x : Value} (h : Drawn rs i vs.size vs) (hr : rs[vs.size]? = some r) (hx : r.P i x) : Drawn rs i (vs.push x).size (vs.push x) := fun j q hj hq => by
  rw [Array.size_push] at hj
  by_cases e : j = vs.size
  · subst e; rw [hr] at hq; cases hq
    exact ⟨x, by simp, hx⟩
  · obtain ⟨v, hv, hp⟩ := h j q (by omega) hq
    exact ⟨v, by rw [Array.getElem?_push, if_neg e]; exact hv, hp⟩
theorem rest_of {rs : List Src} {k : Nat} {x : Value × Nat} {rest : List (Value × Nat)} (e : x :: rest = ((rs.drop k).map fun r => Value.ref r.it).zipIdx k) : ∃ r, rs[k]? = some r ∧ x = (.ref r.it, k) ∧ rest = ((rs.drop (k + 1)).map fun r => Value.ref r.it).zipIdx (k + 1) := by
  cases h : rs.drop k with
  | nil => rw [h] at e; simp at e
  | cons r t =>
    rw [h] at e
    simp only [List.map_cons, List.zipIdx_cons, List.cons.injEq] at e
    have hk : k < rs.length := by
      rcases Nat.lt_or_ge k rs.length with q | q
      · exact q
      · rw [List.drop_of_length_le q] at h; cases h
    have h2 : rs[k]? = some r := by
      have := congrArg List.head? h
      simpa [List.head?_drop] using this
    have h3 : rs.drop (k + 1) = t := by
      have := congrArg List.tail h
      simpa [List.tail_drop] using this
    exact ⟨r, h2, e.1, by rw [h3]; exact e.2⟩

/-- the state of a zip before its i-th turn -/
structure ZSt (z TI TO : Addr) (rs : List Src) (i : Nat) (h : Heap) : Prop where
  z : ∃ f0 b, h.get? z = some (zobj f0 b TI TO) ∧ (f0 = .none ∨ ∃ T t, f0 = .int T t)
  ti : h.IsTuple TI (itsOf rs).toArray
  to : ∃ vs : Array Value, h.IsTuple TO vs ∧ vs.size = rs.length
  st : ∀ r ∈ rs, r.St i h

section
variable {prog : Program} {w : World} {A : Around} {E : Value → Shared → Prop} {s : Shared} {z TI TO : Addr} {rs : List Src} {i : Nat}
theorem sameBut_refl (a : Addr) (h : Heap) : Heap.SameBut a h h := ⟨rfl, fun _ _ => rfl⟩
theorem owned_free {f0 : Value} {b : Bool} {Q : Bool → Shared → Prop} (hz : s.heap.get? z = some (zobj f0 b TI TO)) (hf0 : f0 = .none ∨ ∃ T t, f0 = .int T t)
    (h : ∀ r b' h', h'.get? z = some (zobj f0 b' TI TO) → Heap.SameBut z s.heap h' → Q r { s with heap := h' }) : wpAny (model prog w) A (Builtin.SmallTypes.ownedTupleIsFree (.ref z)) Q E s := by
  unfold Builtin.SmallTypes.ownedTupleIsFree
  refine wpAny_bind (wpAny_field hz rfl (x := f0) rfl ?_)
  rcases hf0 with rfl | ⟨T, t, rfl⟩
  · exact wpAny_pure (h true b s.heap hz (sameBut_refl _ _))
  · dsimp only
    refine wpAny_bind (wpAny_loadIfAlive ?_)
    cases s.heap.get? T.toNat with
    | none => exact wpAny_pure (h true b s.heap hz (sameBut_refl _ _))
    | some o =>
      refine wpAny_bind (wpAny_field hz rfl (x := .bool b) rfl ?_)
      cases b with
      | true => exact wpAny_pure (h false true s.heap hz (sameBut_refl _ _))
      | false => exact wpAny_bind (wpAny_setField_rec hz (by simp) fun h' hz' hs' => wpAny_pure (h false true h' hz' hs'))
theorem Half.zero {h : Heap} (hst : ∀ r ∈ rs, r.St i h) : Half rs i 0 h := fun j r hr => by
  rw [if_neg (Nat.not_lt_zero _)]; exact hst r (List.mem_of_getElem? hr)
theorem Half.full {h : Heap} (hH : Half rs i rs.length h) : ∀ r ∈ rs, r.St (i + 1) h := fun r hr => by
  obtain ⟨j, hj, e⟩ := List.mem_iff_getElem.mp hr
  have := hH j r (by rw [List.getElem?_eq_getElem hj, e])
  rw [if_pos hj] at this; exact this

theorem zip_item (hD : ∀ r ∈ rs, Draws prog w A r.it r.fp r.n r.P r.St) (D : ZApart z TI TO rs) (hne : rs ≠ []) (hsz : rs.length ≤ 1000) (hi : ∀ r ∈ rs, i < r.n) (S : ZSt z TI TO rs i s.heap) {Q : Value → Shared → Prop}
    (hQ : ∀ T vs h' tk, vs.size = rs.length → Drawn rs i rs.length vs → h'.IsTuple T vs → T ≠ z → T ≠ TO → T ∉ rs.map (·.it) → ZSt z TI TO rs (i + 1) h' → OffZ z TO rs s.heap h' → Q (.ref T) { s with heap := h', toks := tk }) :
    wpAny (model prog w) A (Builtin.«zip.__next__» ⟨[.ref z], []⟩) (fun fin s' => ∃ v, fin = .done (.ret v) ∧ Q v s') E s := by
  obtain ⟨⟨f0, b, hz, hf0⟩, hti, ⟨vs, hto, hvs⟩, hst⟩ := S
  show wpAny _ _ (field (.ref z) 2 >>= _) _ _ _
  refine wpAny_bind (wpAny_field hz rfl (x := .bool false) rfl ?_)
  show wpAny _ _ (field (.ref z) 3 >>= _) _ _ _
  refine wpAny_bind (wpAny_field hz rfl (x := .ref TI) rfl ?_)
  obtain ⟨oti, hoti, cti, nti, dti⟩ := id hti
  refine wpAny_bind (wpAny_seqItems hoti dti ?_)
  have hemp : (itsOf rs).toArray.isEmpty = false := by cases rs with | nil => exact absurd rfl hne | cons r t => simp [itsOf]
  simp only [hemp, Bool.false_eq_true, if_false]
  show wpAny _ _ (Builtin.SmallTypes.ownedTupleIsFree (.ref z) >>= _) _ _ _
  refine wpAny_bind (owned_free hz hf0 fun r b1 h1 hz1 hs1 => ?_)
  have hti1 : h1.IsTuple TI (itsOf rs).toArray := hti.extBut hs1.extBut D.TIz
  have hto1 : h1.IsTuple TO vs := hto.extBut hs1.extBut D.TOz
  have hH1 : Half rs i 0 h1 := half_off hD D (Half.zero hst) fun b o h1 _ e => hs1.extBut b o h1 e
  have off1 : OffZ z TO rs s.heap h1 := fun b o hb _ _ e => hs1.extBut b o hb e
  cases r with
  | true =>
    simp only [if_true]
    refine wpAny_bind (wpAny_rule ?_)
    refine wpAny_bind (wpAny_field hz1 rfl (x := .ref TO) rfl ?_)
    refine wpAny_bind (wpAny_setField_rec hz1 (by simp) fun h₂ hz₂ hs₂ => ?_)
    refine wpAny_bind ?_
    refine wpAny_forIn_list _ (fun rest acc s' => ∃ k ks h' tk, rest = ((rs.drop k).map fun r => Value.ref r.it).zipIdx k ∧ acc = ⟨none, PUnit.unit⟩ ∧ k ≤ rs.length ∧ s' = { s with heap := h', toks := tk } ∧
      h'.get? z = some (zobj .ellipsis b1 TI TO) ∧ h'.IsTuple TI (itsOf rs).toArray ∧ h'.IsTuple TO ks ∧ ks.size = rs.length ∧ Drawn rs i k ks ∧ Half rs i k h' ∧ OffZ z TO rs s.heap h') _ ?_ ?_ _ _
      ⟨0, vs, h₂, s.toks, ?_, rfl, Nat.zero_le _, rfl, ?_⟩
    · rintro x rest acc s' ⟨k, ks, h', tk, hrest, rfl, hk, rfl, hz', hti', hto', hks, hdr, hH, hoff⟩
      obtain ⟨r, hr, rfl, hrest'⟩ := rest_of hrest
      have hm : r ∈ rs := List.mem_of_getElem? hr
      have hklt : k < rs.length := (List.getElem?_eq_some_iff.mp hr).1
      refine wpAny_bind (wpAny_onRaise ?_)
      show wpAny _ _ (Builtin.SmallTypes.nextOf (.ref r.it) >>= _) _ _ _
      refine wpAny_bind (half_draw hD D hr (hi r hm) hH fun x h₃ tk₃ hPx hH₃ hs₃ => wpAny_pure ?_)
      replace hs₃ : Heap.SameBut r.it h' h₃ := hs₃
      have hto₃ : h₃.IsTuple TO ks := hto'.extBut hs₃.extBut (Ne.symm (D.ne hm).2)
      obtain ⟨⟨oc, od, oda, osl⟩, hot, ct, nt, dt⟩ := id hto₃
      dsimp only at ct dt
      subst ct dt
      refine wpAny_bind (wpAny_seqItems hot rfl ?_)
      have hks' : ks.size ≤ 1000 := by omega
      refine wpAny_bind (wpAny_updateSeq hot rfl (wpAny_bind (wpAny_letGo (wpAny_pure ?_))) (by rw [PySem.sizeLine_eq]; omega) (by show (ks.setIfInBounds k x).size ≤ _; rw [Array.size_setIfInBounds, PySem.sizeLine_eq]; omega))
      have hs₄ : Heap.SameBut TO h₃ (h₃.update TO (Obj.mapSeq (·.setIfInBounds k x))) := Heap.SameBut.update ..
      refine ⟨k + 1, ks.setIfInBounds k x, _, tk₃, hrest', rfl, hklt, rfl, hs₄.extBut _ _ (Ne.symm D.TOz) (hs₃.extBut _ _ (Ne.symm (D.ne hm).1) hz'),
        (hti'.extBut hs₃.extBut (Ne.symm (D.off r hm).2.2.1)).extBut hs₄.extBut D.TITO, ⟨_, Heap.get?_update_self _ hot rfl, rfl, _, rfl⟩, by rw [Array.size_setIfInBounds]; exact hks,
        hdr.set (by rw [hks]; exact hklt) hr hPx, half_off hD D hH₃ fun b o _ h2 e => hs₄.extBut b o h2 e, fun b o h1 h2 h3 e => hs₄.extBut b o h2 (hs₃.extBut b o (fun q => h3 (List.mem_map.mpr ⟨r, hm, q.symm⟩)) (hoff b o h1 h2 h3 e))⟩
    · rintro acc s' ⟨k, ks, h', tk, hrest, rfl, hk, rfl, hz', hti', hto', hks, hdr, hH, hoff⟩
      have hkn : k = rs.length := by
        have := congrArg List.length hrest
        simp at this
        omega
      subst hkn
      obtain ⟨ot, hot, ct, nt, dt⟩ := id hto'
      refine wpAny_bind (wpAny_seqItems hot dt ?_)
      refine wpAny_bind (wpAny_newTuple ?_ (by rw [Array.length_toList, PySem.sizeLine_eq]; omega))
      refine wpAny_bind ?_
      unfold Builtin.SmallTypes.ownedTupleHandOut
      have hz₅ : (h'.push { cls := .type "tuple", data := .seq ks.toList.toArray }).get? z = some (zobj .ellipsis b1 TI TO) := Heap.get?_push_of_some _ hz'
      refine wpAny_bind (wpAny_setField_rec hz₅ (by simp) fun h₇ hz₇ hs₇ => ?_)
      refine wpAny_setField_rec hz₇ (by simp) fun h₈ hz₈ hs₈ => ?_
      replace hs₇ : Heap.SameBut z (h'.push { cls := .type "tuple", data := .seq ks.toList.toArray }) h₇ := hs₇
      replace hs₈ : Heap.SameBut z h₇ h₈ := hs₈
      have up : ∀ c o, c ≠ z → h'.get? c = some o → h₈.get? c = some o := fun c o c1 e => hs₈.extBut _ _ c1 (hs₇.extBut _ _ c1 (Heap.get?_push_of_some _ e))
      have Tz : h'.objs.size ≠ z := Nat.ne_of_gt (Heap.lt_size hz')
      refine wpAny_pure ⟨_, rfl, hQ _ ks h₈ tk hks hdr ⟨_, hs₈.extBut _ _ Tz (hs₇.extBut _ _ Tz (Heap.get?_push_size _ rfl)), rfl, 0, by simp⟩ Tz (Nat.ne_of_gt (Heap.lt_size hot)) (fun hm => ?_)
        ⟨⟨_, _, hz₈, .inr ⟨_, _, rfl⟩⟩, tuple_at hti' fun o e => up _ o D.TIz e, ⟨ks, tuple_at hto' fun o e => up _ o D.TOz e, hks⟩, fun r hr => (half_off hD D hH fun b o h1 _ e => up b o h1 e).full r hr⟩ fun b o h1 h2 h3 e => up b o h1 (hoff b o h1 h2 h3 e)⟩
      obtain ⟨r, hr, e⟩ := List.mem_map.mp hm
      obtain ⟨o, ho⟩ := (hD r hr).live _ _ (hH.full r hr)
      exact Nat.ne_of_lt (Heap.lt_size ho) e
    · simp [itsOf]
    · replace hs₂ : Heap.SameBut z h1 h₂ := hs₂
      exact ⟨hz₂, hti1.extBut hs₂.extBut D.TIz, hto1.extBut hs₂.extBut D.TOz, hvs, fun j r hj _ => absurd hj (Nat.not_lt_zero _), half_off hD D hH1 fun b o h1 _ e => hs₂.extBut b o h1 e, fun b o x1 x2 x3 e => hs₂.extBut b o x1 (off1 b o x1 x2 x3 e)⟩
  | false =>
    simp only [Bool.false_eq_true, if_false]
    refine wpAny_bind ?_
    refine wpAny_forIn_array' _ (fun rest acc s' => ∃ ks h' tk, rest = ((rs.drop ks.size).map fun r => Value.ref r.it) ∧ acc = ⟨none, ks⟩ ∧ ks.size ≤ rs.length ∧ s' = { s with heap := h', toks := tk } ∧
      h'.get? z = some (zobj f0 b1 TI TO) ∧ h'.IsTuple TI (itsOf rs).toArray ∧ h'.IsTuple TO vs ∧ Drawn rs i ks.size ks ∧ Half rs i ks.size h' ∧ OffZ z TO rs s.heap h') _ ?_ ?_ _ _
      ⟨#[], h1, s.toks, by simp [itsOf], rfl, Nat.zero_le _, rfl, hz1, hti1, hto1, fun j r hj _ => absurd hj (Nat.not_lt_zero _), hH1, off1⟩
    · rintro x rest acc s' ⟨ks, h', tk, hrest, rfl, hk, rfl, hz', hti', hto', hdr, hH, hoff⟩
      obtain ⟨r, hr, rfl, hrest'⟩ : ∃ r, rs[ks.size]? = some r ∧ x = .ref r.it ∧ rest = ((rs.drop (ks.size + 1)).map fun r => Value.ref r.it) := by
        cases h : rs.drop ks.size with
        | nil => rw [h] at hrest; simp at hrest
        | cons r t =>
          rw [h] at hrest
          simp only [List.map_cons, List.cons.injEq] at hrest
          have h2 : rs[ks.size]? = some r := by
            have := congrArg List.head? h
            simpa [List.head?_drop] using this
          have h3 : rs.drop (ks.size + 1) = t := by
            have := congrArg List.tail h
            simpa [List.tail_drop] using this
          exact ⟨r, h2, hrest.1, by rw [h3]; exact hrest.2⟩
      have hm : r ∈ rs := List.mem_of_getElem? hr
      have hklt : ks.size < rs.length := (List.getElem?_eq_some_iff.mp hr).1
      refine wpAny_bind (wpAny_holding ?_)
      show wpAny _ _ (Builtin.SmallTypes.nextOf (.ref r.it) >>= _) _ _ _
      refine wpAny_bind (half_draw hD D hr (hi r hm) hH fun x h₃ tk₃ hPx hH₃ hs₃ => wpAny_pure (wpAny_pure ?_))
      replace hs₃ : Heap.SameBut r.it h' h₃ := hs₃
      exact ⟨ks.push x, h₃, tk₃, by rw [Array.size_push]; exact hrest', rfl, by rw [Array.size_push]; exact hklt, rfl, hs₃.extBut _ _ (Ne.symm (D.ne hm).1) hz', hti'.extBut hs₃.extBut (Ne.symm (D.off r hm).2.2.1),
        hto'.extBut hs₃.extBut (Ne.symm (D.ne hm).2), hdr.push hr hPx, by rw [Array.size_push]; exact hH₃, fun b o h1 h2 h3 e => hs₃.extBut b o (fun q => h3 (List.mem_map.mpr ⟨r, hm, q.symm⟩)) (hoff b o h1 h2 h3 e)⟩
    · rintro acc s' ⟨ks, h', tk, hrest, rfl, hk, rfl, hz', hti', hto', hdr, hH, hoff⟩
      have hkn : ks.size = rs.length := by
        have := congrArg List.length hrest
        simp at this
        omega
      rw [hkn] at hdr hH
      obtain ⟨ot, hot, _⟩ := id hto'
      refine wpAny_bind (wpAny_newTuple ?_ (by show ks.toList.length ≤ _; rw [Array.length_toList, PySem.sizeLine_eq]; omega))
      have up : ∀ c o, h'.get? c = some o → (h'.push { cls := .type "tuple", data := .seq ks.toList.toArray }).get? c = some o := fun c o e => Heap.get?_push_of_some _ e
      refine wpAny_pure ⟨_, rfl, hQ _ ks _ tk hkn hdr ⟨_, Heap.get?_push_size _ rfl, rfl, 0, by simp⟩ (Nat.ne_of_gt (Heap.lt_size hz')) (Nat.ne_of_gt (Heap.lt_size hot)) (fun hm => ?_)
        ⟨⟨_, _, up _ _ hz', hf0⟩, tuple_at hti' fun o e => up _ o e, ⟨vs, tuple_at hto' fun o e => up _ o e, hvs⟩, fun r hr => (half_off hD D hH fun b o _ _ e => up b o e).full r hr⟩ fun b o h1 h2 h3 e => up b o (hoff b o h1 h2 h3 e)⟩
      obtain ⟨r, hr, e⟩ := List.mem_map.mp hm
      obtain ⟨o, ho⟩ := (hD r hr).live _ _ (hH.full r hr)
      exact Nat.ne_of_lt (Heap.lt_size ho) e

theorem zip_end (hh : A.handled = none) (hD : ∀ r ∈ rs, Draws prog w A r.it r.fp r.n r.P r.St) (D : ZApart z TI TO rs) (hsz : rs.length ≤ 1000) {jj : Nat} {rj : Src} (hj : rs[jj]? = some rj) (hjn : rj.n = i) (hi : ∀ k r, k < jj → rs[k]? = some r → i < r.n) (S : ZSt z TI TO rs i s.heap) {Q : Fin → Shared → Prop}
    (hE : ∀ h' tk e, OffZ z TO rs s.heap h' → (∃ o, h'.get? e = some o ∧ o.cls = .type "StopIteration") → E (.ref e) { s with heap := h', toks := tk }) :
    wpAny (model prog w) A (Builtin.«zip.__next__» ⟨[.ref z], []⟩) Q E s := by
  obtain ⟨⟨f0, b, hz, hf0⟩, hti, ⟨vs, hto, hvs⟩, hst⟩ := S
  have hjlt : jj < rs.length := (List.getElem?_eq_some_iff.mp hj).1
  show wpAny _ _ (field (.ref z) 2 >>= _) _ _ _
  refine wpAny_bind (wpAny_field hz rfl (x := .bool false) rfl ?_)
  show wpAny _ _ (field (.ref z) 3 >>= _) _ _ _
  refine wpAny_bind (wpAny_field hz rfl (x := .ref TI) rfl ?_)
  obtain ⟨oti, hoti, cti, nti, dti⟩ := id hti
  refine wpAny_bind (wpAny_seqItems hoti dti ?_)
  have hemp : (itsOf rs).toArray.isEmpty = false := by cases rs with | nil => simp at hj | cons r t => simp [itsOf]
  simp only [hemp, Bool.false_eq_true, if_false]
  show wpAny _ _ (Builtin.SmallTypes.ownedTupleIsFree (.ref z) >>= _) _ _ _
  refine wpAny_bind (owned_free hz hf0 fun r b1 h1 hz1 hs1 => ?_)
  have hto1 : h1.IsTuple TO vs := hto.extBut hs1.extBut D.TOz
  have hH1 : Half rs i 0 h1 := half_off hD D (Half.zero hst) fun b o h1 _ e => hs1.extBut b o h1 e
  have off1 : OffZ z TO rs s.heap h1 := fun b o hb _ _ e => hs1.extBut b o hb e
  cases r with
  | true =>
    simp only [if_true]
    refine wpAny_bind (wpAny_rule ?_)
    refine wpAny_bind (wpAny_field hz1 rfl (x := .ref TO) rfl ?_)
    refine wpAny_bind (wpAny_setField_rec hz1 (by simp) fun h₂ hz₂ hs₂ => ?_)
    replace hs₂ : Heap.SameBut z h1 h₂ := hs₂
    refine wpAny_bind ?_
    refine wpAny_forIn_list _ (fun rest acc s' => ∃ k ks h' tk, rest = ((rs.drop k).map fun r => Value.ref r.it).zipIdx k ∧ acc = ⟨none, PUnit.unit⟩ ∧ k ≤ jj ∧ s' = { s with heap := h', toks := tk } ∧
      h'.get? z = some (zobj .ellipsis b1 TI TO) ∧ h'.IsTuple TO ks ∧ ks.size = rs.length ∧ Half rs i k h' ∧ OffZ z TO rs s.heap h') _ ?_ ?_ _ _
      ⟨0, vs, h₂, s.toks, by simp [itsOf], rfl, Nat.zero_le _, rfl, hz₂, hto1.extBut hs₂.extBut D.TOz, hvs, half_off hD D hH1 fun b o h1 _ e => hs₂.extBut b o h1 e, fun b o x1 x2 x3 e => hs₂.extBut b o x1 (off1 b o x1 x2 x3 e)⟩
    · rintro x rest acc s' ⟨k, ks, h', tk, hrest, rfl, hk, rfl, hz', hto', hks, hH, hoff⟩
      obtain ⟨r, hr, rfl, hrest'⟩ := rest_of hrest
      have hm : r ∈ rs := List.mem_of_getElem? hr
      refine wpAny_bind (wpAny_onRaise ?_)
      show wpAny _ _ (Builtin.SmallTypes.nextOf (.ref r.it) >>= _) _ _ _
      by_cases hkj : k = jj
      · subst hkj
        rw [hj] at hr
        cases hr
        refine wpAny_bind ((hD rj hm).done _ _ _ (by have := hH k rj hj; rw [if_neg (Nat.lt_irrefl _), ← hjn] at this; exact this) fun h₃ e hx₃ he => ?_)
        obtain ⟨oe, hoe, hce⟩ := he
        have hz₃ : h₃.get? z = some (zobj .ellipsis b1 TI TO) := hx₃ _ _ (Ne.symm (D.ne hm).1) hz'
        have hez : e ≠ z := fun q => by rw [q, hz₃] at hoe; cases hoe; simp at hce
        refine wpAny_setField_rec hz₃ (by simp) fun h₄ _ hs₄ => hE h₄ _ e (fun b o h1 h2 h3 q => hs₄.extBut _ _ h1 (hx₃ b o (fun q' => h3 (List.mem_map.mpr ⟨rj, hm, q'.symm⟩)) (hoff b o h1 h2 h3 q))) ⟨oe, hs₄.extBut _ _ hez hoe, hce⟩
      · have hkj' : k < jj := by omega
        refine wpAny_bind (half_draw hD D hr (hi k r hkj' hr) hH fun x h₃ tk₃ hPx hH₃ hs₃ => wpAny_pure ?_)
        replace hs₃ : Heap.SameBut r.it h' h₃ := hs₃
        have hto₃ : h₃.IsTuple TO ks := hto'.extBut hs₃.extBut (Ne.symm (D.ne hm).2)
        obtain ⟨⟨oc, od, oda, osl⟩, hot, ct, nt, dt⟩ := id hto₃
        dsimp only at ct dt
        subst ct dt
        refine wpAny_bind (wpAny_seqItems hot rfl ?_)
        have hks' : ks.size ≤ 1000 := by omega
        refine wpAny_bind (wpAny_updateSeq hot rfl (wpAny_bind (wpAny_letGo (wpAny_pure ?_))) (by rw [PySem.sizeLine_eq]; omega) (by show (ks.setIfInBounds k x).size ≤ _; rw [Array.size_setIfInBounds, PySem.sizeLine_eq]; omega))
        have hs₄ : Heap.SameBut TO h₃ (h₃.update TO (Obj.mapSeq (·.setIfInBounds k x))) := Heap.SameBut.update ..
        exact ⟨k + 1, ks.setIfInBounds k x, _, tk₃, hrest', rfl, hkj', rfl, hs₄.extBut _ _ (Ne.symm D.TOz) (hs₃.extBut _ _ (Ne.symm (D.ne hm).1) hz'),
          ⟨_, Heap.get?_update_self _ hot rfl, rfl, _, rfl⟩, by rw [Array.size_setIfInBounds]; exact hks,
          half_off hD D hH₃ fun b o _ h2 e => hs₄.extBut b o h2 e, fun b o h1 h2 h3 e => hs₄.extBut b o h2 (hs₃.extBut b o (fun q => h3 (List.mem_map.mpr ⟨r, hm, q.symm⟩)) (hoff b o h1 h2 h3 e))⟩
    · rintro acc s' ⟨k, ks, h', tk, hrest, rfl, hk, rfl, _⟩
      have := congrArg List.length hrest
      simp at this
      omega
  | false =>
    simp only [Bool.false_eq_true, if_false]
    refine wpAny_bind ?_
    refine wpAny_forIn_array' _ (fun rest acc s' => ∃ ks h' tk, rest = ((rs.drop ks.size).map fun r => Value.ref r.it) ∧ acc = ⟨none, ks⟩ ∧ ks.size ≤ jj ∧ s' = { s with heap := h', toks := tk } ∧
      Half rs i ks.size h' ∧ OffZ z TO rs s.heap h') _ ?_ ?_ _ _
      ⟨#[], h1, s.toks, by simp [itsOf], rfl, Nat.zero_le _, rfl, hH1, off1⟩
    · rintro x rest acc s' ⟨ks, h', tk, hrest, rfl, hk, rfl, hH, hoff⟩
      obtain ⟨r, hr, rfl, hrest'⟩ : ∃ r, rs[ks.size]? = some r ∧ x = .ref r.it ∧ rest = ((rs.drop (ks.size + 1)).map fun r => Value.ref r.it) := by
        cases h : rs.drop ks.size with
        | nil => rw [h] at hrest; simp at hrest
        | cons r t =>
          rw [h] at hrest
          simp only [List.map_cons, List.cons.injEq] at hrest
          have h2 : rs[ks.size]? = some r := by
            have := congrArg List.head? h
            simpa [List.head?_drop] using this
          have h3 : rs.drop (ks.size + 1) = t := by
            have := congrArg List.tail h
            simpa [List.tail_drop] using this
          exact ⟨r, h2, hrest.1, by rw [h3]; exact hrest.2⟩
      have hm : r ∈ rs := List.mem_of_getElem? hr
      refine wpAny_bind (wpAny_holding ?_)
      show wpAny _ _ (Builtin.SmallTypes.nextOf (.ref r.it) >>= _) _ _ _
      by_cases hkj : ks.size = jj
      · rw [hkj, hj] at hr
        cases hr
        refine wpAny_bind ((hD rj hm).done _ _ _ (by have := hH jj rj hj; rw [hkj, if_neg (Nat.lt_irrefl _), ← hjn] at this; exact this) fun h₃ e hx₃ he => ?_)
        exact hE h₃ _ e (fun b o h1 h2 h3 q => hx₃ b o (fun q' => h3 (List.mem_map.mpr ⟨rj, hm, q'.symm⟩)) (hoff b o h1 h2 h3 q)) he
      · have hkj' : ks.size < jj := by omega
        refine wpAny_bind (half_draw hD D hr (hi _ r hkj' hr) hH fun x h₃ tk₃ hPx hH₃ hs₃ => wpAny_pure (wpAny_pure ?_))
        replace hs₃ : Heap.SameBut r.it h' h₃ := hs₃
        exact ⟨ks.push x, h₃, tk₃, by rw [Array.size_push]; exact hrest', rfl, by rw [Array.size_push]; exact hkj', rfl, by rw [Array.size_push]; exact hH₃, fun b o h1 h2 h3 e => hs₃.extBut b o (fun q => h3 (List.mem_map.mpr ⟨r, hm, q.symm⟩)) (hoff b o h1 h2 h3 e)⟩
    · rintro acc s' ⟨ks, h', tk, hrest, rfl, hk, rfl, _⟩
      have := congrArg List.length hrest
      simp at this
      omega
/-- a zip of nothing -/
theorem zip_none (hh : A.handled = none) (S : ZSt z TI TO [] i s.heap) {Q : Fin → Shared → Prop}
    (hE : ∀ h' e, (∀ b o, s.heap.get? b = some o → h'.get? b = some o) → (∃ o, h'.get? e = some o ∧ o.cls = .type "StopIteration") → E (.ref e) { s with heap := h' }) :
    wpAny (model prog w) A (Builtin.«zip.__next__» ⟨[.ref z], []⟩) Q E s := by
  obtain ⟨⟨f0, b, hz, hf0⟩, hti, _, hst⟩ := S
  show wpAny _ _ (field (.ref z) 2 >>= _) _ _ _
  refine wpAny_bind (wpAny_field hz rfl (x := .bool false) rfl ?_)
  show wpAny _ _ (field (.ref z) 3 >>= _) _ _ _
  refine wpAny_bind (wpAny_field hz rfl (x := .ref TI) rfl ?_)
  obtain ⟨oti, hoti, cti, nti, dti⟩ := id hti
  refine wpAny_bind (wpAny_seqItems hoti dti ?_)
  have hemp : (itsOf []).toArray.isEmpty = true := rfl
  simp only [hemp, if_true]
  refine wpAny_bind (wpAny_rule ?_)
  refine wpAny_bind ?_
  exact stopHere hh hE

theorem zipTurns {w : World} {A : Around} (hh : A.handled = none) {x : Str} {px : Pos} {z TI TO : Addr} {rs : List Src} {N : Nat} (hD : ∀ r ∈ rs, Draws Pg w A.in1 r.it r.fp r.n r.P r.St) (D : ZApart z TI TO rs) (hsz : rs.length ≤ 1000)
    (hN : ∀ r ∈ rs, N ≤ r.n) (hE : rs = [] ∧ N = 0 ∨ ∃ (j : Nat) (r : Src), rs[j]? = some r ∧ r.n = N ∧ ∀ (k : Nat) (r : Src), k < j → rs[k]? = some r → N < r.n) :
    Turns w A (.Name x px) [x] z (z :: TI :: TO :: rs.flatMap (·.fp)) (z :: TO :: rs.map (·.it)) N (fun i h => i ≤ N ∧ ZSt z TI TO rs i h)
      (fun i m h => ∃ T vs, m x = some (.ref T) ∧ h.IsTuple T vs ∧ vs.size = rs.length ∧ Drawn rs i rs.length vs ∧ T ∉ z :: TO :: rs.map (·.it)) where
  sub := fun b hb => by
    simp only [List.mem_cons] at hb ⊢
    rcases hb with rfl | rfl | hb
    · exact .inl rfl
    · exact .inr (.inr (.inl rfl))
    · obtain ⟨r, hr, rfl⟩ := List.mem_map.mp hb
      exact .inr (.inr (.inr (List.mem_flatMap.mpr ⟨r, hr, (D.off r hr).2.2.2⟩)))
  live := fun i h ⟨_, st⟩ b hb => by
    obtain ⟨⟨f0, bb, hz, _⟩, _, ⟨vs, ⟨o, ho, _⟩, _⟩, hst⟩ := st
    simp only [List.mem_cons] at hb
    rcases hb with rfl | rfl | hb
    · exact ⟨_, hz⟩
    · exact ⟨_, ho⟩
    · obtain ⟨r, hr, rfl⟩ := List.mem_map.mp hb
      exact (hD r hr).live _ _ (hst r hr)
  frame := fun i h h' ⟨hi, st⟩ hk => by
    obtain ⟨⟨f0, bb, hz, hf⟩, hti, ⟨vs, hto, hvs⟩, hst⟩ := st
    exact ⟨hi, ⟨f0, bb, hk _ (by simp) _ hz, hf⟩, tuple_at hti fun o e => hk _ (by simp) o e, ⟨vs, tuple_at hto fun o e => hk _ (by simp) o e, hvs⟩,
      fun r hr => (hD r hr).frame _ _ _ (hst r hr) fun b hb o e => hk b (by simp only [List.mem_cons]; exact .inr (.inr (.inr (List.mem_flatMap.mpr ⟨r, hr, hb⟩)))) o e⟩
  item := fun i s cenv m Q E hi ⟨_, st⟩ hn hC hx hk hQ => by
    have hne : rs ≠ [] := fun e => by
      rcases hE with ⟨_, q⟩ | ⟨j, r, hr, _⟩
      · omega
      · subst e; simp at hr
    have hT : s.TypeIs (.ref z) "zip" := let ⟨f0, b, hz, _⟩ := st.z; ⟨_, hz, rfl⟩
    have hCz : cenv.locals ≠ z := fun e => hC (by simp [e])
    have hCO : cenv.locals ≠ TO := fun e => hC (by simp [e])
    have hCi : cenv.locals ∉ rs.map (·.it) := fun hm => by
      obtain ⟨r, hr, e⟩ := List.mem_map.mp hm
      exact hC (by simp only [List.mem_cons]; exact .inr (.inr (.inr (List.mem_flatMap.mpr ⟨r, hr, e ▸ (D.off r hr).2.2.2⟩))))
    unfold pyNext
    refine wpAny_bind (wpAny_attempt (wpAny_callSpecial?_slot (name := Str.ofString "__next__") hT F.slot_zip_next
      (wpAny_call_entry F.slot_zip_next hT F.entry_zip_next
        (zip_item hD D hne hsz (fun r hr => Nat.lt_of_lt_of_le hi (hN r hr)) st fun T vs h' tk h1 h2 h3 h4 h5 h6 st' off => wpAny_pure ?_) (F.args_zip_next_1 _))))
    show wpAny _ _ (letOwnedTupleGo (.Name x px) (.ref z) (.ref T)) _ _ _
    refine wpAny_of_eq (rfl : letOwnedTupleGo (.Name x px) (.ref z) (.ref T) = pure ()) ?_
    have hn' : h'.Ns cenv.locals m := hn.at' fun o e => off _ o hCz hCO hCi e
    have hTC : T ≠ cenv.locals := fun e => by
      obtain ⟨o, ho, _, n, hd⟩ := h3
      obtain ⟨o', es, ep, ho', hd', _⟩ := hn'
      rw [e, ho'] at ho; cases ho
      rw [hd'] at hd; cases hd
    refine wpAny_assign_Name (wpAny_storeName_local (hx x List.mem_cons_self) hn' (fun h₂ hn₂ hs₂ => ?_) (by rw [hk]; rfl))
    replace hs₂ : Heap.SameBut cenv.locals h' h₂ := hs₂
    refine hQ h₂ _ _ ⟨T, vs, by simp, tuple_at h3 fun o e => hs₂.extBut _ o hTC e, h1, h2, by simp only [List.mem_cons, not_or]; exact ⟨h4, h5, h6⟩⟩ (fun y hy => by simp at hy; simp [hy]) ⟨hi, ?_⟩ hn₂ fun b o hb hbC e => hs₂.extBut b o hbC (off b o (fun q => hb (by simp [q])) (fun q => hb (by simp [q])) (fun q => hb (by simp only [List.mem_cons]; exact .inr (.inr q))) e)
    obtain ⟨⟨f0, bb, hz, hf⟩, hti, ⟨vs', hto, hvs⟩, hst⟩ := st'
    exact ⟨⟨f0, bb, hs₂.extBut _ _ (Ne.symm hCz) hz, hf⟩, tuple_at hti fun o e => hs₂.extBut _ o (fun q => hC (by simp [q])) e, ⟨vs', tuple_at hto fun o e => hs₂.extBut _ o (Ne.symm hCO) e, hvs⟩,
      fun r hr => (hD r hr).frame _ _ _ (hst r hr) fun b hb o e => hs₂.extBut b o (fun q => hC (by rw [← q]; simp only [List.mem_cons]; exact .inr (.inr (.inr (List.mem_flatMap.mpr ⟨r, hr, hb⟩))))) e⟩
  done := fun s Q E ⟨_, st⟩ hQ => by
    have hT : s.TypeIs (.ref z) "zip" := let ⟨f0, b, hz, _⟩ := st.z; ⟨_, hz, rfl⟩
    unfold pyNext
    have fin : ∀ {h' : Heap} {tk e : Nat}, (∀ b o, b ∉ z :: TO :: rs.map (·.it) → s.heap.get? b = some o → h'.get? b = some o) → (∃ o, h'.get? e = some o ∧ o.cls = .type "StopIteration") →
        wpAny (model Pg w) A (isInstance (.ref e) (.type "StopIteration") >>= fun b => if b = true then pure none else throw (.ref e)) Q E { s with heap := h', toks := tk } := fun hk ⟨o, ho, hc⟩ =>
      wpAny_bind (wpAny_isInstance (T := "StopIteration") (b := true) ⟨o, ho, hc⟩ isSubtype_stop (wpAny_pure (hQ _ _ hk)))
    rcases hE with ⟨rfl, rfl⟩ | ⟨j, r, hr, hrn, hlt⟩
    · refine wpAny_bind (wpAny_attempt (wpAny_callSpecial?_slot (name := Str.ofString "__next__") hT F.slot_zip_next
        (wpAny_call_entry F.slot_zip_next hT F.entry_zip_next (zip_none (A := A.in1) (i := 0) hh st fun h' e hk he => ?_) (F.args_zip_next_1 _))))
      exact fin (tk := s.toks) (fun b o _ q => hk b o q) he
    · refine wpAny_bind (wpAny_attempt (wpAny_callSpecial?_slot (name := Str.ofString "__next__") hT F.slot_zip_next
        (wpAny_call_entry F.slot_zip_next hT F.entry_zip_next (zip_end (A := A.in1) hh hD D hsz hr hrn hlt st fun h' tk e hk he => ?_) (F.args_zip_next_1 _))))
      exact fin (fun b o hb q => hk b o (fun x => hb (by simp [x])) (fun x => hb (by simp [x])) (fun x => hb (by simp only [List.mem_cons]; exact .inr (.inr x))) q) he
  self := fun i s Q E ⟨_, st⟩ hQ => by
    have hT : s.TypeIs (.ref z) "zip" := let ⟨f0, b, hz, _⟩ := st.z; ⟨_, hz, rfl⟩
    refine wpAny_pyIter_slot hT F.slot_zip_iter (wpAny_call_entry F.slot_zip_iter hT F.entry_zip_iter ?_ (F.args_zip_iter_1 _))
    show wpAny _ _ (ret (.ref z)) _ _ s
    exact wpAny_pure ⟨_, rfl, "zip", _, hT, F.slot_zip_next.lookup, hQ⟩
end

end Zp

section Zn

/-- a value over which a zip runs -/
structure ZSrc where
  val : Value
  o : Obj
  n : Nat
  P : Nat → Value → Prop
  fp : Addr → List Addr
  St : Addr → Nat → Heap → Prop
structure ZOk (w : World) (k : ZSrc) (h : Heap) : Prop where
  push : ∀ (A : Around) E (s : Shared) (Q : Value → Shared → Prop), (∀ b o, h.get? b = some o → s.heap.get? b = some o) → Q (.ref s.heap.objs.size) { s with heap := s.heap.push k.o } → wpAny (model Pg w) A (pyIter k.val) Q E s
  nf : k.o.isFreed = false
  D : ∀ (A : Around) it, A.handled = none → h.get? it = none → Draws Pg w A it (k.fp it) k.n k.P (k.St it)
  st0 : ∀ it h', h'.get? it = some k.o → (∀ b o, h.get? b = some o → h'.get? b = some o) → k.St it 0 h'
  fpIt : ∀ it, it ∈ k.fp it
  fpOld : ∀ it b, b ∈ k.fp it → b = it ∨ ∃ o, h.get? b = some o ∧ o.cls ≠ .none

theorem list_at {h h' : Heap} {a : Addr} {its : Array Value} (x : h.IsList a its) (k : ∀ o, h.get? a = some o → h'.get? a = some o) : h'.IsList a its := let ⟨o, ho, r⟩ := x; ⟨o, k o ho, r⟩
abbrev zList (l : Addr) (its : Array Value) : ZSrc := ⟨.ref l, { cls := .type "list_iterator", data := .fields #[.ref l, .int 0 0] }, its.size, fun i v => its[i]? = some v, fun it => [it, l], fun it i h => h.IsListIter it l i ∧ h.IsList l its⟩
abbrev zTup (l : Addr) (its : Array Value) : ZSrc := ⟨.ref l, { cls := .type "tuple_iterator", data := .fields #[.ref l, .int 0 0] }, its.size, fun i v => its[i]? = some v, fun it => [it, l], fun it i h => h.IsTupleIter it l i ∧ h.IsTuple l its⟩
abbrev zStr (y : Str) (t : Tok) : ZSrc := ⟨.str y t, { cls := .type (strIterType y), data := .fields #[.str y t, .int 0 0] }, y.cps.size, SignAt y, fun it => [it], fun it i h => h.IsStrIter it (strIterType y) y t i⟩
theorem ne_of_some_none {h : Heap} {l it : Addr} {o : Obj} (e : h.get? l = some o) (f : h.get? it = none) : l ≠ it := fun q => by rw [q, f] at e; cases e
theorem zList_ok {w : World} {h : Heap} {l : Addr} {its : Array Value} (x : h.IsList l its) : ZOk w (zList l its) h where
  push := fun A E s Q hk hQ => wpAny_pyIter_list (list_at x fun o e => hk _ o e) hQ
  nf := rfl
  D := fun A it hA hit => Draws.list hA it l (let ⟨o, ho, _⟩ := x; ne_of_some_none ho hit) its
  st0 := fun it h' e hk => ⟨⟨_, e, rfl, rfl⟩, list_at x fun o e => hk _ o e⟩
  fpIt := fun it => List.mem_cons_self
  fpOld := fun it b hb => by
    rcases List.mem_cons.mp hb with e | hb
    · exact .inl e
    · obtain ⟨o, ho, hc, _⟩ := x
      rw [List.mem_singleton.mp hb]; exact .inr ⟨o, ho, by rw [hc]; exact fun q => nomatch q⟩
theorem zTup_ok {w : World} {h : Heap} {l : Addr} {its : Array Value} (x : h.IsTuple l its) : ZOk w (zTup l its) h where
  push := fun A E s Q hk hQ => wpAny_pyIter_tuple (tuple_at x fun o e => hk _ o e) hQ
  nf := rfl
  D := fun A it hA hit => drawsTuple hA it l (let ⟨o, ho, _⟩ := x; ne_of_some_none ho hit) its
  st0 := fun it h' e hk => ⟨⟨_, e, rfl, rfl⟩, tuple_at x fun o e => hk _ o e⟩
  fpIt := fun it => List.mem_cons_self
  fpOld := fun it b hb => by
    rcases List.mem_cons.mp hb with e | hb
    · exact .inl e
    · obtain ⟨o, ho, hc, _⟩ := x
      rw [List.mem_singleton.mp hb]; exact .inr ⟨o, ho, by rw [hc]; exact fun q => nomatch q⟩
theorem zStr_ok {w : World} {h : Heap} {y : Str} {t : Tok} : ZOk w (zStr y t) h where
  push := fun A E s Q hk hQ => by
    cases ha : y.cps.all (· < 128)
    · refine wpAny_pyIter_wide ha ?_
      simpa [strIterType, ha] using hQ
    · refine wpAny_pyIter_ascii ha ?_
      simpa [strIterType, ha] using hQ
  nf := rfl
  D := fun A it hA hit => by
    cases ha : y.cps.all (· < 128)
    · have := Draws.strWide (prog := Pg) (w := w) hA it y t
      have e : strIterType y = "str_iterator" := by simp [strIterType, ha]
      rw [← e] at this; exact this
    · have := Draws.strAscii (prog := Pg) (w := w) hA it y t
      have e : strIterType y = "str_ascii_iterator" := by simp [strIterType, ha]
      rw [← e] at this; exact this
  st0 := fun it h' e hk => ⟨_, e, rfl, rfl⟩
  fpIt := fun it => List.mem_cons_self
  fpOld := fun it b hb => .inl (List.mem_singleton.mp hb)

def pushAll (h : Heap) : List Obj → Heap
  | [] => h
  | o :: r => pushAll (h.push o) r
theorem pushAll_size : ∀ (os : List Obj) (h : Heap), (pushAll h os).objs.size = h.objs.size + os.length
  | [], h => rfl
  | o :: r, h => by
    show (pushAll (h.push o) r).objs.size = _
    rw [pushAll_size r, Heap.size_push, List.length_cons]; omega
theorem pushAll_keep : ∀ (os : List Obj) (h : Heap) (b : Addr) (o : Obj), h.get? b = some o → (pushAll h os).get? b = some o
  | [], _, _, _, e => e
  | _ :: r, _, b, o, e => pushAll_keep r _ b o (Heap.get?_push_of_some _ e)
theorem pushAll_get : ∀ (os : List Obj) (h : Heap) (j : Nat) (o : Obj), os[j]? = some o → o.isFreed = false → (pushAll h os).get? (h.objs.size + j) = some o
  | [], _, j, o, e, _ => by simp at e
  | x :: r, h, 0, o, e, hf => by
    simp at e; subst e
    exact pushAll_keep r _ _ _ (Heap.get?_push_size _ hf)
  | x :: r, h, j + 1, o, e, hf => by
    have e' : r[j]? = some o := by simpa using e
    have := pushAll_get r (h.push x) j o e' hf
    rw [Heap.size_push] at this
    rw [show h.objs.size + (j + 1) = h.objs.size + 1 + j by omega]
    exact this

theorem iterAll_ok {w : World} {A : Around} {E : Value → Shared → Prop} {s : Shared} {ks : List ZSrc} (hk : ∀ k ∈ ks, ZOk w k s.heap) {Q : List Value → Shared → Prop}
    (h : Q ((List.range' s.heap.objs.size ks.length).map .ref) { s with heap := pushAll s.heap (ks.map (·.o)) }) : wpAny (model Pg w) A (Builtin.SmallTypes.iterAll (ks.map (·.val))) Q E s := by
  unfold Builtin.SmallTypes.iterAll
  refine wpAny_bind ?_
  refine wpAny_forIn_list _ (fun rest acc s' => ∃ j, rest = (ks.drop j).map (·.val) ∧ j ≤ ks.length ∧ acc = ((List.range' s.heap.objs.size j).map Value.ref).toArray ∧ s' = { s with heap := pushAll s.heap ((ks.take j).map (·.o)) }) _ ?_ ?_ _ _ ⟨0, by simp, Nat.zero_le _, by simp, by simp [pushAll]⟩
  · rintro x rest acc s' ⟨j, hr, hj, rfl, rfl⟩
    cases hd : ks.drop j with
    | nil => rw [hd] at hr; simp at hr
    | cons k rr =>
      rw [hd] at hr
      simp only [List.map_cons, List.cons.injEq] at hr
      obtain ⟨rfl, rfl⟩ := hr
      have hjlt : j < ks.length := by
        rcases Nat.lt_or_ge j ks.length with q | q
        · exact q
        · rw [List.drop_of_length_le q] at hd; cases hd
      have hkj : ks[j]? = some k := by
        have := congrArg List.head? hd
        simpa [List.head?_drop] using this
      have hrr : ks.drop (j + 1) = rr := by
        have := congrArg List.tail hd
        simpa [List.tail_drop] using this
      have hkm : k ∈ ks := List.mem_of_getElem? hkj
      refine wpAny_bind (wpAny_holding ((hk k hkm).push _ _ _ _ (fun b o e => pushAll_keep _ _ _ _ e) (wpAny_pure ?_)))
      refine ⟨j + 1, by rw [hrr], hjlt, ?_, ?_⟩
      · dsimp only
        rw [pushAll_size, List.length_map, List.length_take, Nat.min_eq_left hj, List.range'_concat, List.map_append, Nat.one_mul]
        simp
      · dsimp only
        have e : ks.take (j + 1) = ks.take j ++ [k] := by rw [List.take_add_one, hkj]; rfl
        have app : ∀ (os : List Obj) (h : Heap) (o : Obj), pushAll h (os ++ [o]) = (pushAll h os).push o := fun os => by
          induction os with
          | nil => intro h o; rfl
          | cons x r ih => intro h o; exact ih (h.push x) o
        rw [e, List.map_append, List.map_cons, List.map_nil, app]
  · rintro acc s' ⟨j, hr, hj, rfl, rfl⟩
    have e : j = ks.length := by
      have := congrArg List.length hr
      simp at this
      omega
    subst e
    rw [List.take_length]
    exact wpAny_pure h

theorem args_zip (args : List Value) (h : args.length ≤ 8) : checkTypeCall "zip" ⟨args, []⟩ = pure () ∧ checkBuiltinCall "zip.__new__" ⟨.type "zip" :: args, []⟩ = pure () ∧ ∀ obj, argsOk "object.__init__" ⟨obj :: args, []⟩ := by
  refine ⟨?_, ?_, fun obj => ?_⟩
  · rcases args with _ | ⟨a, _ | ⟨b, _ | ⟨c, _ | ⟨d, _ | ⟨e, _ | ⟨f, _ | ⟨g, _ | ⟨i, _ | ⟨j, r⟩⟩⟩⟩⟩⟩⟩⟩⟩ <;> first | kernel_rfl | (simp at h; omega)
  · rcases args with _ | ⟨a, _ | ⟨b, _ | ⟨c, _ | ⟨d, _ | ⟨e, _ | ⟨f, _ | ⟨g, _ | ⟨i, _ | ⟨j, r⟩⟩⟩⟩⟩⟩⟩⟩⟩ <;> first | kernel_rfl | (simp at h; omega)
  · unfold argsOk
    rw [signature?_of (id := "object.__init__") (n := ['_', '_', 't', 'i', 'n', 'i', '_', '_']) (o := ['t', 'c', 'e', 'j', 'b', 'o']) (by kernel_rfl) F.owner_object]
    rcases args with _ | ⟨a, _ | ⟨b, _ | ⟨c, _ | ⟨d, _ | ⟨e, _ | ⟨f, _ | ⟨g, _ | ⟨i, _ | ⟨j, r⟩⟩⟩⟩⟩⟩⟩⟩⟩
    · kernel_rfl
    · kernel_rfl
    · kernel_rfl
    · kernel_rfl
    · kernel_rfl
    · kernel_rfl
    · kernel_rfl
    · kernel_rfl
    · kernel_rfl
    · simp at h

def srcsOf (ks : List ZSrc) (a : Addr) : List Src := match ks with
  | [] => []
  | k :: r => ⟨a, k.fp a, k.n, k.P, k.St a⟩ :: srcsOf r (a + 1)
theorem srcs_len : ∀ (ks : List ZSrc) (a : Addr), (srcsOf ks a).length = ks.length
  | [], _ => rfl
  | _ :: r, a => by show (srcsOf r (a + 1)).length + 1 = r.length + 1; rw [srcs_len r]
theorem srcs_get : ∀ (ks : List ZSrc) (a : Addr) (j : Nat) (r : Src), (srcsOf ks a)[j]? = some r → ∃ k, ks[j]? = some k ∧ r = ⟨a + j, k.fp (a + j), k.n, k.P, k.St (a + j)⟩
  | [], _, j, r, e => by simp [srcsOf] at e
  | k :: t, a, 0, r, e => by simp [srcsOf] at e; exact ⟨k, rfl, e.symm⟩
  | k :: t, a, j + 1, r, e => by
    have e' : (srcsOf t (a + 1))[j]? = some r := by simpa [srcsOf] using e
    obtain ⟨k', h1, h2⟩ := srcs_get t (a + 1) j r e'
    refine ⟨k', by simpa using h1, ?_⟩
    rw [h2, show @Eq Nat (a + 1 + j) (a + (j + 1)) from (Nat.add_assoc a 1 j).trans (congrArg (a + ·) (Nat.add_comm 1 j))]
theorem srcs_its : ∀ (ks : List ZSrc) (a : Addr), itsOf (srcsOf ks a) = (List.range' a ks.length).map .ref
  | [], _ => rfl
  | k :: t, a => by
    show Value.ref a :: itsOf (srcsOf t (a + 1)) = _
    rw [srcs_its t, List.length_cons, List.range'_succ]; rfl

theorem call_zipK {w : World} {A : Around} {E : Value → Shared → Prop} {s : Shared} {ks : List ZSrc} {Q : Value → Shared → Prop} (hk : ∀ k ∈ ks, ZOk w k s.heap) (hlen : ks.length ≤ 8)
    (h : ∀ z TI TO h', ZApart z TI TO (srcsOf ks s.heap.objs.size) → ZSt z TI TO (srcsOf ks s.heap.objs.size) 0 h' → (∀ b o, s.heap.get? b = some o → h'.get? b = some o) → z < h'.objs.size → TI < h'.objs.size → TO < h'.objs.size → s.heap.objs.size + ks.length ≤ TI → s.heap.objs.size + ks.length ≤ TO → s.heap.objs.size + ks.length ≤ z →
      Q (.ref z) { s with heap := h' }) : wpAny (model Pg w) A (call (.type "zip") (ks.map (·.val))) Q E s := by
  obtain ⟨a1, a2, a3⟩ := args_zip (ks.map (·.val)) (by simpa using hlen)
  let H1 := pushAll s.heap (ks.map (·.o))
  let H2 := H1.push { cls := .type "tuple", data := .seq ((List.range' s.heap.objs.size ks.length).map Value.ref).toArray }
  let H3 := H2.push { cls := .type "tuple", data := .seq (((List.range' s.heap.objs.size ks.length).map Value.ref).map fun _ => Value.none).toArray }
  let H4 := H3.push (zobj .none false H1.objs.size H2.objs.size)
  have g : MeetsIn Pg w (Builtin.«zip.__new__» ⟨.type "zip" :: ks.map (·.val), []⟩) (fun _ R s₁ => s₁ = s ∧ R (.ok (.ret (.ref H3.objs.size))) { s with heap := H4 }) := MeetsIn.of_wp fun A R s₁ ⟨e, hR⟩ => by
    subst e
    have hsub := sub_zip
    have hnc : ∀ (rest : List Value) (Q : Value × List Value → Shared → Prop) E, Q (.type "zip", rest) s₁ → wpAny (model Pg w) A.in1 (Builtin.SmallTypes.newClass "zip" ⟨.type "zip" :: rest, []⟩) Q E s₁ := fun rest Q E hq => by
      unfold Builtin.SmallTypes.newClass
      repeat (any_goals (first | assumption | wp_step))
    unfold Builtin.«zip.__new__»
    refine wpAny_bind (hnc _ _ _ ?_)
    dsimp only
    rw [if_neg (by decide)]
    refine wpAny_bind (iterAll_ok hk ?_)
    refine wpAny_bind (wpAny_newTuple (wpAny_bind (wpAny_newTuple (wpAny_bind ?_) (by simp [PySem.sizeLine_eq]; omega))) (by simp [PySem.sizeLine_eq]; omega))
    unfold Builtin.SmallTypes.newRecord
    dsimp only
    exact wpAny_newObj_type (wpAny_pure ⟨_, rfl, hR⟩) (hd := by simp [sizeOk, Builtin.SmallTypes.ownedTupleFields, PySem.sizeLine_eq])
  refine callType_newIn F.called_zip (by decide) a1 a2 a3 F.entry_zip_new g ⟨rfl, ?_⟩
  have s1 : H1.objs.size = s.heap.objs.size + ks.length := by rw [pushAll_size, List.length_map]
  have s2 : H2.objs.size = s.heap.objs.size + ks.length + 1 := by rw [Heap.size_push, s1]
  have s3 : H3.objs.size = s.heap.objs.size + ks.length + 2 := by rw [Heap.size_push, s2]
  have s4 : H4.objs.size = s.heap.objs.size + ks.length + 3 := by rw [Heap.size_push, s3]
  have keep1 : ∀ b o, s.heap.get? b = some o → H1.get? b = some o := fun b o e => pushAll_keep _ _ _ _ e
  have up1 : ∀ b o, H1.get? b = some o → H4.get? b = some o := fun b o e => Heap.get?_push_of_some _ (Heap.get?_push_of_some _ (Heap.get?_push_of_some _ e))
  have gz : H4.get? H3.objs.size = some (zobj .none false H1.objs.size H2.objs.size) := Heap.get?_push_size _ rfl
  have gTI : H4.get? H1.objs.size = some _ := Heap.get?_push_of_some _ (Heap.get?_push_of_some _ (Heap.get?_push_size _ rfl))
  have gTO : H4.get? H2.objs.size = some _ := Heap.get?_push_of_some _ (Heap.get?_push_size _ rfl)
  have lt0 : ∀ b o, s.heap.get? b = some o → b < s.heap.objs.size := fun b o e => Heap.lt_size e
  have hmem : ∀ r ∈ srcsOf ks s.heap.objs.size, ∃ j k, ks[j]? = some k ∧ j < ks.length ∧ r = ⟨s.heap.objs.size + j, k.fp (s.heap.objs.size + j), k.n, k.P, k.St (s.heap.objs.size + j)⟩ := fun r hr => by
    obtain ⟨j, hj, e⟩ := List.mem_iff_getElem.mp hr
    obtain ⟨k, h1, h2⟩ := srcs_get ks _ j r (by rw [List.getElem?_eq_getElem hj, e])
    exact ⟨j, k, h1, (List.getElem?_eq_some_iff.mp h1).1, h2⟩
  have fpb : ∀ (j : Nat) (k : ZSrc), ks[j]? = some k → ∀ b ∈ k.fp (s.heap.objs.size + j), b = s.heap.objs.size + j ∨ b < s.heap.objs.size := fun j k hj b hb => by
    rcases (hk k (List.mem_of_getElem? hj)).fpOld _ b hb with e | ⟨o, ho, _⟩
    · exact .inl e
    · exact .inr (Heap.lt_size ho)
  refine ⟨⟨_, gz, rfl⟩, h _ _ _ H4 ⟨?_, ?_, ?_, ?_, ?_⟩ ⟨⟨_, _, gz, .inl rfl⟩, ⟨_, gTI, rfl, 0, by rw [srcs_its]⟩, ⟨_, ⟨_, gTO, rfl, 0, rfl⟩, by simp [srcs_len]⟩, ?_⟩ (fun b o e => up1 b o (keep1 b o e)) ?_ ?_ ?_ ?_ ?_ ?_⟩
  · show @Ne Nat H1.objs.size H3.objs.size; omega
  · show @Ne Nat H2.objs.size H3.objs.size; omega
  · show @Ne Nat H1.objs.size H2.objs.size; omega
  · intro r hr
    obtain ⟨j, k, h1, h2, rfl⟩ := hmem r hr
    refine ⟨fun hb => ?_, fun hb => ?_, ?_, (hk k (List.mem_of_getElem? h1)).fpIt _⟩
    · rcases fpb j k h1 _ hb with e | e
      · have e' : @Eq Nat H3.objs.size (s.heap.objs.size + j) := e
        omega
      · have e' : @LT.lt Nat _ H3.objs.size s.heap.objs.size := e
        omega
    · rcases fpb j k h1 _ hb with e | e
      · have e' : @Eq Nat H2.objs.size (s.heap.objs.size + j) := e
        omega
      · have e' : @LT.lt Nat _ H2.objs.size s.heap.objs.size := e
        omega
    · show @Ne Nat (s.heap.objs.size + j) H1.objs.size; omega
  · intro i j a b hij ha hb hmm
    obtain ⟨ka, ha1, rfl⟩ := srcs_get ks _ i a ha
    obtain ⟨kb, hb1, rfl⟩ := srcs_get ks _ j b hb
    rcases fpb j kb hb1 _ hmm with e | e
    · have e' : @Eq Nat (s.heap.objs.size + i) (s.heap.objs.size + j) := e
      omega
    · have e' : @LT.lt Nat _ (s.heap.objs.size + i) s.heap.objs.size := e
      omega
  · intro r hr
    obtain ⟨j, k, h1, h2, rfl⟩ := hmem r hr
    refine (hk k (List.mem_of_getElem? h1)).st0 _ H4 (up1 _ _ ?_) fun b o e => up1 b o (keep1 b o e)
    exact pushAll_get _ _ j _ (by rw [List.getElem?_map, h1]; rfl) (hk k (List.mem_of_getElem? h1)).nf
  · show @LT.lt Nat _ H3.objs.size H4.objs.size; omega
  · show @LT.lt Nat _ H1.objs.size H4.objs.size; omega
  · show @LT.lt Nat _ H2.objs.size H4.objs.size; omega
  · show @LE.le Nat _ (s.heap.objs.size + ks.length) H1.objs.size; omega
  · show @LE.le Nat _ (s.heap.objs.size + ks.length) H2.objs.size; omega
  · show @LE.le Nat _ (s.heap.objs.size + ks.length) H3.objs.size; omega

end Zn

section Lp

section
variable {w : World} {A : Around} {s : Shared} {env : Env} {sc : Scope} {cs : List (Str × Addr)} {R : Result → Shared → Prop}
/-- a loop over a source -/
theorem forTurns {target : Expr} {xs : List Str} {I : Addr} {fp wr : List Addr} {n : Nat} {St : Nat → Heap → Prop} {Vv : Nat → (Str → Option Value) → Heap → Prop} {body : List Stmt} {m : Str → Option Value}
    (W : Turns w A target xs I fp wr n St Vv) (V : Ev env sc cs) (hx : ∀ x ∈ xs, sc.names.lookup x = some .local) (hk : sc.kind = .function) (hLf : env.locals ∉ fp)
    (J : Nat → (Str → Option Value) → Shared → Prop) (hst : St 0 s.heap) (h0 : J 0 m s) (hn : ∀ i m s, J i m s → s.heap.Ns env.locals m)
    (step : ∀ i m s' h' tk m' E', i < n → J i m s' → Vv i m' h' → (∀ x, x ∉ xs → m' x = m x) → (∀ b o, b ∉ wr → b ≠ env.locals → s'.heap.get? b = some o → h'.get? b = some o) → h'.Ns env.locals m' → St (i + 1) h' →
      wpAny (model Pg w) A (execs body env) (fun f s₃ => f = .next ∧ ∃ m₃, J (i + 1) m₃ s₃ ∧ (∀ b ∈ fp, ∀ o, h'.get? b = some o → s₃.heap.get? b = some o)) E' { s' with heap := h', toks := tk })
    (done : ∀ m s' h' tk, J n m s' → (∀ b o, b ∉ wr → s'.heap.get? b = some o → h'.get? b = some o) → R (.ok .next) { s' with heap := h', toks := tk }) :
    codeAny (model Pg w) A (.forLoop target (.ref I) body [] env) R s := by
  refine codeAny_forLoop_any (fun k s' => ∃ i m', k = n + 1 - i ∧ i ≤ n ∧ St i s'.heap ∧ J i m' s') ?_ (n + 1) ⟨0, m, rfl, Nat.zero_le _, hst, h0⟩
  rintro k s' ⟨i, m', rfl, hi, hst', hJ⟩
  by_cases hlt : i < n
  · refine W.draw (cenv := env) hlt hst' (hn _ _ _ hJ) hLf (fun x h => by rw [Env.kindOf, V.sc]; exact hx x h) (by rw [V.sc]; exact hk) fun h' tk m₂ hV hm₂ hst₂ hn₂ hk₂ => ?_
    refine wpAny_mono (step i m' s' h' tk m₂ _ hlt hJ hV hm₂ hk₂ hn₂ hst₂) (fun f s₃ h₃ => ?_) fun _ _ e => e
    obtain ⟨rfl, m₃, hJ₃, hkp⟩ := h₃
    exact ⟨n + 1 - (i + 1), by omega, i + 1, m₃, rfl, hlt, W.frame _ _ _ hst₂ hkp, hJ₃⟩
  · obtain rfl : i = n := Nat.le_antisymm hi (Nat.not_lt.mp hlt)
    refine W.done s' _ _ hst' fun h' tk' hk' => ?_
    exact wpAny_pure (done m' s' h' tk' hJ hk')
end

/-- a source that stands ready, made since s -/
def SrcOk (w : World) (A : Around) (s : Shared) (target : Expr) (xs : List Str) (n : Nat) (V : Nat → (Str → Option Value) → Heap → Prop) (it : Value) (s₂ : Shared) : Prop :=
  Eff s s₂ ∧ ∃ I fp wr St, it = .ref I ∧ Turns w A target xs I fp wr n St V ∧ St 0 s₂.heap ∧ (∀ b ∈ fp, b < s₂.heap.objs.size) ∧ (∀ b ∈ wr, s.heap.get? b = none) ∧ 194 ∉ fp

section
variable {w : World} {A : Around} {E : Value → Shared → Prop} {s s₀ s₁ : Shared} {env : Env} {m₀ cm : Str → Option Value} {sc : Scope} {cs : List (Str × Addr)}
theorem compOf {elt target : Expr} {ifs : List Expr} {scope : Scope} {cl : List (Str × Addr)} {Q : Value → Shared → Prop} {it : Value} {xs : List Str} {n : Nat} {V : Nat → (Str → Option Value) → Heap → Prop} (pz : Nat → Bool) (F : Nat → Value → Option (Array Value) → Prop)
    (S : SrcOk w A s target xs n V it s₁) (hxs : ∀ x ∈ xs, scope.names.lookup x = some .local) (hn : n ≤ sizeLine)
    (tests : ∀ i cenv m s₃ E', i < n → V i m s₃.heap → Ev cenv (rl scope sc) cl → Rd w cenv m cm s₃.heap s₃.gens → Eff s s₃ →
      wpAny (model Pg w) A (forIn ifs true fun c r => if r = true then do let ok ← isTrue c cenv (eval c cenv); pure (ForInStep.yield ok) else pure (ForInStep.yield r)) (fun ok s₄ => ok = pz i ∧ Eff s₃ s₄) E' s₃)
    (elts : ∀ i cenv m sd s₃ E', i < n → V i m sd.heap → (Eff s sd ∧ Eff sd s₃) → pz i = true → Ev cenv (rl scope sc) cl → Rd w cenv m cm s₃.heap s₃.gens → Eff s s₃ →
      wpAny (model Pg w) A (eval elt cenv) (fun y s₄ => Eff s₃ s₄ ∧ ∃ d, F i y d ∧ Holds1 s₄.heap y d ∧ (d ≠ none → ∀ a, y = .ref a → s₃.heap.get? a = none)) E' s₃)
    (fin : ∀ D ys s', Eff s s' → s.heap.get? D = none → s'.heap.get? D = some (lst ys) → Paired (ElemOk [D] s.heap s'.heap F) ((List.range n).filter pz) ys → Q (.ref D) s') :
    CompSt w A s cm sc elt target ifs scope cl Q it s₁ := by
  obtain ⟨e, I, fp, wr, St, rfl, W, hst, hfp, hwr, h4⟩ := S
  exact ⟨e, xs, I, fp, wr, n, St, V, pz, F, rfl, W, hxs, hn, hst, hfp, hwr, h4, tests, elts, fin⟩

theorem lt_of_get {h : Heap} {a : Addr} {o : Obj} (e : h.get? a = some o) : a < h.objs.size := Heap.lt_size e
/-- over a list's items -/
theorem srcList {x : Str} {px : Pos} {l : Addr} {its : Array Value} {Q : Value → Shared → Prop} (G : Gd w s) (e : Eff s s₁) (hh : A.handled = none) (hl : s₁.heap.IsList l its)
    (h : ∀ it s₂, SrcOk w A s (.Name x px) [x] its.size (fun i m _ => ∃ v, its[i]? = some v ∧ m x = some v) it s₂ → Eff s₁ s₂ → Q it s₂) : wpAny (model Pg w) A (pyIter (.ref l)) Q E s₁ := by
  obtain ⟨ol, hol, hcl, _⟩ := id hl
  have hT := (G.eff e).lt
  have hl4 : l ≠ 194 := (G.eff e).ne hol (by rw [hcl]; exact fun q => nomatch q)
  have hne : l ≠ s₁.heap.objs.size := Nat.ne_of_lt (Heap.lt_size hol)
  have e2 : Eff s₁ { s₁ with heap := s₁.heap.push { cls := .type "list_iterator", data := .fields #[.ref l, .int 0 0] } } := .of fun _ _ q => Heap.get?_push_of_some _ q
  refine wpAny_pyIter_list hl (h _ _ ⟨e.trans e2, _, _, _, _, rfl, Turns.name (Walks.list hh _ l hne its) (fun i h st b hb => ?_), ⟨⟨_, Heap.get?_push_size _ rfl, rfl, rfl⟩, hl.push _⟩, ?_, ?_, ?_⟩ e2)
  · rw [List.mem_singleton.mp hb]; exact let ⟨o, q, _⟩ := st.1; ⟨o, q⟩
  · intro b hb
    show b < (s₁.heap.push _).objs.size
    rw [Heap.size_push]
    rcases List.mem_cons.mp hb with rfl | hb
    · exact Nat.lt_succ_self _
    · rw [List.mem_singleton.mp hb]; exact Nat.lt_succ_of_lt (Heap.lt_size hol)
  · intro b hb; rw [List.mem_singleton.mp hb]; exact fresh_at G e
  · intro hb
    rcases List.mem_cons.mp hb with q | hb
    · exact Nat.ne_of_lt hT q
    · exact hl4 (List.mem_singleton.mp hb).symm
/-- over a tuple's items -/
theorem srcTup {x : Str} {px : Pos} {l : Addr} {its : Array Value} {Q : Value → Shared → Prop} (G : Gd w s) (e : Eff s s₁) (hh : A.handled = none) (hl : s₁.heap.IsTuple l its)
    (h : ∀ it s₂, SrcOk w A s (.Name x px) [x] its.size (fun i m _ => ∃ v, its[i]? = some v ∧ m x = some v) it s₂ → Eff s₁ s₂ → Q it s₂) : wpAny (model Pg w) A (pyIter (.ref l)) Q E s₁ := by
  obtain ⟨ol, hol, hcl, _⟩ := id hl
  have hT := (G.eff e).lt
  have hl4 : l ≠ 194 := (G.eff e).ne hol (by rw [hcl]; exact fun q => nomatch q)
  have hne : l ≠ s₁.heap.objs.size := Nat.ne_of_lt (Heap.lt_size hol)
  have e2 : Eff s₁ { s₁ with heap := s₁.heap.push { cls := .type "tuple_iterator", data := .fields #[.ref l, .int 0 0] } } := .of fun _ _ q => Heap.get?_push_of_some _ q
  refine wpAny_pyIter_tuple hl (h _ _ ⟨e.trans e2, _, _, _, _, rfl, Turns.name (Walks.tuple hh _ l hne its) (fun i h st b hb => ?_), ⟨⟨_, Heap.get?_push_size _ rfl, rfl, rfl⟩, hl.push _⟩, ?_, ?_, ?_⟩ e2)
  · rw [List.mem_singleton.mp hb]; exact let ⟨o, q, _⟩ := st.1; ⟨o, q⟩
  · intro b hb
    show b < (s₁.heap.push _).objs.size
    rw [Heap.size_push]
    rcases List.mem_cons.mp hb with rfl | hb
    · exact Nat.lt_succ_self _
    · rw [List.mem_singleton.mp hb]; exact Nat.lt_succ_of_lt (Heap.lt_size hol)
  · intro b hb; rw [List.mem_singleton.mp hb]; exact fresh_at G e
  · intro hb
    rcases List.mem_cons.mp hb with q | hb
    · exact Nat.ne_of_lt hT q
    · exact hl4 (List.mem_singleton.mp hb).symm
end

end Lp

section Zs

theorem two_min {r1 r2 : Src} : (∀ r ∈ [r1, r2], min r1.n r2.n ≤ r.n) ∧ ∃ (j : Nat) (r : Src), [r1, r2][j]? = some r ∧ r.n = min r1.n r2.n ∧ ∀ (k : Nat) (r : Src), k < j → [r1, r2][k]? = some r → min r1.n r2.n < r.n := by
  refine ⟨fun r hr => ?_, ?_⟩
  · rcases List.mem_cons.mp hr with rfl | hr
    · exact Nat.min_le_left ..
    · rw [List.mem_singleton.mp hr]; exact Nat.min_le_right ..
  · rcases Nat.le_total r1.n r2.n with q | q
    · exact ⟨0, r1, rfl, (Nat.min_eq_left q).symm, fun k r hk _ => absurd hk (Nat.not_lt_zero _)⟩
    · by_cases q' : r1.n = r2.n
      · exact ⟨0, r1, rfl, by rw [q']; exact (Nat.min_self _).symm, fun k r hk _ => absurd hk (Nat.not_lt_zero _)⟩
      · refine ⟨1, r2, rfl, (Nat.min_eq_right q).symm, fun k r hk hr => ?_⟩
        obtain rfl : k = 0 := by omega
        obtain rfl : r1 = r := by simpa using hr
        rw [Nat.min_eq_right q]; omega
theorem zipTwo {w : World} {A : Around} (hh : A.handled = none) {x : Str} {px : Pos} {z TI TO : Addr} {r1 r2 : Src} (hD : ∀ r ∈ [r1, r2], Draws Pg w A.in1 r.it r.fp r.n r.P r.St) (D : ZApart z TI TO [r1, r2]) :
    Turns w A (.Name x px) [x] z (z :: TI :: TO :: [r1, r2].flatMap (·.fp)) (z :: TO :: [r1, r2].map (·.it)) (min r1.n r2.n) (fun i h => i ≤ min r1.n r2.n ∧ ZSt z TI TO [r1, r2] i h)
      (fun i m h => ∃ T vs, m x = some (.ref T) ∧ h.IsTuple T vs ∧ vs.size = [r1, r2].length ∧ Drawn [r1, r2] i [r1, r2].length vs ∧ T ∉ z :: TO :: [r1, r2].map (·.it)) :=
  zipTurns (x := x) (px := px) (N := min r1.n r2.n) hh hD D (by simp) two_min.1 (.inr two_min.2)
/-- a zip with a target of two names -/
theorem zipTurns2 {w : World} {A : Around} (hh : A.handled = none) {xa xb : Str} {pa pb pt : Pos} {kt : Nat} {z TI TO : Addr} {r1 r2 : Src} (hD : ∀ r ∈ [r1, r2], Draws Pg w A.in1 r.it r.fp r.n r.P r.St) (D : ZApart z TI TO [r1, r2]) (hab : xa ≠ xb) :
    Turns w A (.Tuple [.Name xa pa, .Name xb pb] kt pt) [xa, xb] z (z :: TI :: TO :: [r1, r2].flatMap (·.fp)) (z :: TO :: [r1, r2].map (·.it)) (min r1.n r2.n) (fun i h => i ≤ min r1.n r2.n ∧ ZSt z TI TO [r1, r2] i h)
      (fun i m h => ∃ va vb, r1.P i va ∧ r2.P i vb ∧ m xa = some va ∧ m xb = some vb) where
  sub := (zipTwo (x := xa) (px := pa) hh hD D).sub
  live := (zipTwo (x := xa) (px := pa) hh hD D).live
  frame := fun i h h' ⟨hi, st⟩ hk => by
    obtain ⟨⟨f0, bb, hz, hf⟩, hti, ⟨vs, hto, hvs⟩, hst⟩ := st
    exact ⟨hi, ⟨f0, bb, hk _ (by simp) _ hz, hf⟩, tuple_at hti fun o e => hk _ (by simp) o e, ⟨vs, tuple_at hto fun o e => hk _ (by simp) o e, hvs⟩,
      fun r hr => (hD r hr).frame _ _ _ (hst r hr) fun b hb o e => hk b (by simp only [List.mem_cons]; exact .inr (.inr (.inr (List.mem_flatMap.mpr ⟨r, hr, hb⟩)))) o e⟩
  item := fun i s cenv m Q E hi ⟨_, st⟩ hn hC hx hk hQ => by
    have hT : s.TypeIs (.ref z) "zip" := let ⟨f0, b, hz, _⟩ := st.z; ⟨_, hz, rfl⟩
    have hCz : cenv.locals ≠ z := fun e => hC (by simp [e])
    have hCO : cenv.locals ≠ TO := fun e => hC (by simp [e])
    have hCi : cenv.locals ∉ [r1, r2].map (·.it) := fun hm => by
      obtain ⟨r, hr, e⟩ := List.mem_map.mp hm
      exact hC (by simp only [List.mem_cons]; exact .inr (.inr (.inr (List.mem_flatMap.mpr ⟨r, hr, e ▸ (D.off r hr).2.2.2⟩))))
    unfold pyNext
    refine wpAny_bind (wpAny_attempt (wpAny_callSpecial?_slot (name := Str.ofString "__next__") hT F.slot_zip_next
      (wpAny_call_entry F.slot_zip_next hT F.entry_zip_next
        (zip_item hD D (by simp) (by simp) (fun r hr => by
            rcases List.mem_cons.mp hr with rfl | hr
            · exact Nat.lt_of_lt_of_le hi (Nat.min_le_left ..)
            · rw [List.mem_singleton.mp hr]; exact Nat.lt_of_lt_of_le hi (Nat.min_le_right ..)) st fun T vs h' tk h1 h2 h3 h4 h5 h6 st' off => wpAny_pure ?_) (F.args_zip_next_1 _))))
    show wpAny _ _ (letOwnedTupleGo (.Tuple [.Name xa pa, .Name xb pb] kt pt) (.ref z) (.ref T)) _ _ _
    have hn' : h'.Ns cenv.locals m := hn.at' fun o e => off _ o hCz hCO hCi e
    obtain ⟨va, hva, hPa⟩ := h2 0 r1 (by simp) rfl
    obtain ⟨vb, hvb, hPb⟩ := h2 1 r2 (by simp) rfl
    have hvs : vs = #[va, vb] := by
      apply Array.ext_getElem?
      intro j
      rcases j with _ | _ | j
      · rw [hva]; rfl
      · rw [hvb]; rfl
      · rw [Array.getElem?_eq_none (by rw [h1]; simp), Array.getElem?_eq_none (by simp)]
    subst hvs
    obtain ⟨⟨f0, bb, hz, hf⟩, hti, ⟨vs', hto, hvs⟩, hst⟩ := st'
    have go : ∀ (P : Unit → Shared → Prop), (∀ h₂ f0', h₂.get? z = some (zobj f0' bb TI TO) → (f0' = .none ∨ ∃ T t, f0' = .int T t) → Heap.SameBut z h' h₂ → P () { s with heap := h₂, toks := tk }) →
        wpAny (model Pg w) A (letOwnedTupleGo (.Tuple [.Name xa pa, .Name xb pb] kt pt) (.ref z) (.ref T)) P E { s with heap := h', toks := tk } := fun P hP => by
      unfold letOwnedTupleGo
      refine wpAny_bind (wpAny_load hz ?_)
      show wpAny _ _ (if (["enumerate", "zip", "dict_itemiterator", "dict_reverseitemiterator", "odict_iterator", "itertools.zip_longest", "itertools.pairwise"].contains "zip" &&
        (#[f0, .bool bb, .bool false, .ref TI, .ref TO] : Array Value)[0]? == some (rawInt T)) = true then _ else _) _ _ _
      split
      · refine wpAny_bind (wpAny_rule ?_)
        show wpAny _ _ (setField (.ref z) 0 .none) _ _ _
        exact wpAny_setField_rec hz (by simp) fun h₂ hz₂ hs₂ => hP h₂ _ hz₂ (.inl rfl) hs₂
      · exact wpAny_pure (hP h' _ hz hf (sameBut_refl _ _))
    refine go _ fun h₂ f0' hz₂ hf₂ hs₂ => ?_
    have hT₂ : h₂.IsTuple T #[va, vb] := h3.extBut hs₂.extBut h4
    refine twoNames hh hT₂ (hn'.at' fun o e => hs₂.extBut _ o hCz e) (hx xa List.mem_cons_self) (hx xb (List.mem_cons_of_mem _ List.mem_cons_self)) hk fun h₅ tk₅ hn₅ up => ?_
    have up' : ∀ b o, b ≠ z → b ≠ cenv.locals → h'.get? b = some o → h₅.get? b = some o := fun b o h1 h2 e => up b o h2 (hs₂.extBut b o h1 e)
    have inF : ∀ r ∈ [r1, r2], ∀ b ∈ r.fp, b ≠ z ∧ b ≠ cenv.locals := fun r hr b hb => ⟨fun q => (D.off r hr).1 (q ▸ hb), fun q => hC (by rw [← q]; simp only [List.mem_cons]; exact .inr (.inr (.inr (List.mem_flatMap.mpr ⟨r, hr, hb⟩))))⟩
    refine hQ h₅ _ _ ⟨va, vb, hPa, hPb, by simp [hab], by simp⟩ (fun y hy => by simp at hy; simp [hy]) ⟨hi, ⟨f0', bb, up _ _ (Ne.symm hCz) hz₂, hf₂⟩, tuple_at hti fun o e => up' _ o D.TIz (fun q => hC (by simp [q])) e, ⟨vs', tuple_at hto fun o e => up' _ o D.TOz (Ne.symm hCO) e, hvs⟩,
      fun r hr => (hD r hr).frame _ _ _ (hst r hr) fun b hb o e => up' b o (inF r hr b hb).1 (inF r hr b hb).2 e⟩ hn₅ fun b o hb hbC e => up' b o (fun q => hb (by simp [q])) hbC (off b o (fun q => hb (by simp [q])) (fun q => hb (by simp [q])) (fun q => hb (by simp only [List.mem_cons]; exact .inr (.inr q))) e)
  done := (zipTwo (x := xa) (px := pa) hh hD D).done
  self := fun i s Q E ⟨_, st⟩ hQ => by
    have hT : s.TypeIs (.ref z) "zip" := let ⟨f0, b, hz, _⟩ := st.z; ⟨_, hz, rfl⟩
    refine wpAny_pyIter_slot hT F.slot_zip_iter (wpAny_call_entry F.slot_zip_iter hT F.entry_zip_iter ?_ (F.args_zip_iter_1 _))
    show wpAny _ _ (ret (.ref z)) _ _ s
    exact wpAny_pure ⟨_, rfl, "zip", _, hT, F.slot_zip_next.lookup, hQ⟩

/-- a zip that was made since s -/
structure ZMade (w : World) (s : Shared) (rs : List Src) (z TI TO : Addr) (s' : Shared) : Prop where
  eff : Eff s s'
  D : ZApart z TI TO rs
  st : ZSt z TI TO rs 0 s'.heap
  dr : ∀ (A : Around), A.handled = none → ∀ r ∈ rs, Draws Pg w A r.it r.fp r.n r.P r.St
  fp : ∀ b ∈ z :: TI :: TO :: rs.flatMap (·.fp), b < s'.heap.objs.size
  wr : ∀ b ∈ z :: TI :: TO :: rs.map (·.it), s.heap.get? b = none
  no : 194 ∉ z :: TI :: TO :: rs.flatMap (·.fp)

section
variable {w : World} {A : Around} {E : Value → Shared → Prop} {s s₀ s₁ : Shared}
theorem none_above {w : World} {s s₁ : Shared} (G : Gd w s) (e : Eff s s₁) {b : Addr} (hb : s₁.heap.objs.size ≤ b) : s.heap.get? b = none := by
  cases q : s.heap.get? b with
  | none => rfl
  | some o =>
    have h1 := (G.eff e).lt
    have hb4 : b ≠ 194 := fun x => by rw [x] at hb; exact Nat.lt_irrefl _ (Nat.lt_of_lt_of_le h1 hb)
    exact absurd (Heap.lt_size (e.keep b o hb4 q)) (Nat.not_lt.mpr hb)
theorem zipCall {ks : List ZSrc} {Q : Value → Shared → Prop} (G : Gd w s) (e : Eff s s₁) (hk : ∀ k ∈ ks, ZOk w k s₁.heap) (hlen : ks.length ≤ 8)
    (h : ∀ a z TI TO s₂, ZMade w s (srcsOf ks a) z TI TO s₂ → Eff s₁ s₂ → Q (.ref z) s₂) : wpAny (model Pg w) A (call (.type "zip") (ks.map (·.val))) Q E s₁ := by
  have hT := (G.eff e).lt
  refine call_zipK hk hlen fun z TI TO h' D st kp z1 z2 z3 z4 z5 z6 => ?_
  have e2 : Eff s₁ { s₁ with heap := h' } := .of kp
  have hb : ∀ r ∈ srcsOf ks s₁.heap.objs.size, s₁.heap.objs.size ≤ r.it ∧ ∀ b ∈ r.fp, b = r.it ∨ ∃ o, s₁.heap.get? b = some o ∧ o.cls ≠ .none := fun r hr => by
    obtain ⟨j, hj, q⟩ := List.mem_iff_getElem.mp hr
    obtain ⟨k, h1, h2⟩ := srcs_get ks _ j r (by rw [List.getElem?_eq_getElem hj, q])
    subst h2
    exact ⟨Nat.le_add_right _ _, fun b hb => (hk k (List.mem_of_getElem? h1)).fpOld _ b hb⟩
  have le0 : ∀ {b : Addr}, s₁.heap.objs.size + ks.length ≤ b → s₁.heap.objs.size ≤ b := fun h => Nat.le_trans (Nat.le_add_right _ _) h
  have dr : ∀ (A : Around), A.handled = none → ∀ r ∈ srcsOf ks s₁.heap.objs.size, Draws Pg w A r.it r.fp r.n r.P r.St := fun A hA r hr => by
    obtain ⟨j, hj, q⟩ := List.mem_iff_getElem.mp hr
    obtain ⟨k, h1, h2⟩ := srcs_get ks _ j r (by rw [List.getElem?_eq_getElem hj, q])
    subst h2
    refine (hk k (List.mem_of_getElem? h1)).D A _ hA ?_
    cases q : s₁.heap.get? (s₁.heap.objs.size + j) with
    | none => rfl
    | some o => exact absurd (Heap.lt_size q) (Nat.not_lt.mpr (Nat.le_add_right _ _))
  refine h s₁.heap.objs.size z TI TO _ ⟨e.trans e2, D, st, dr, ?_, ?_, ?_⟩ e2
  · intro b hbm
    simp only [List.mem_cons] at hbm
    rcases hbm with rfl | rfl | rfl | hbm
    · exact z1
    · exact z2
    · exact z3
    · obtain ⟨r, hr, hbr⟩ := List.mem_flatMap.mp hbm
      rcases (hb r hr).2 b hbr with rfl | ⟨o, ho, _⟩
      · obtain ⟨o, ho⟩ := (dr { A with handled := none } rfl r hr).live _ _ (st.st r hr)
        exact Heap.lt_size ho
      · exact Heap.lt_size (kp b o ho)
  · intro b hbm
    simp only [List.mem_cons] at hbm
    rcases hbm with rfl | rfl | rfl | hbm
    · exact none_above G e (le0 z6)
    · exact none_above G e (le0 z4)
    · exact none_above G e (le0 z5)
    · obtain ⟨r, hr, rfl⟩ := List.mem_map.mp hbm
      exact none_above G e (hb r hr).1
  · intro hbm
    simp only [List.mem_cons] at hbm
    have big : ∀ {b : Addr}, s₁.heap.objs.size ≤ b → 194 ≠ b := fun h q => by rw [← q] at h; exact Nat.lt_irrefl _ (Nat.lt_of_lt_of_le hT h)
    rcases hbm with q | q | q | hbm
    · exact big (le0 z6) q
    · exact big (le0 z4) q
    · exact big (le0 z5) q
    · obtain ⟨r, hr, hbr⟩ := List.mem_flatMap.mp hbm
      rcases (hb r hr).2 _ hbr with q | ⟨o, ho, hc⟩
      · exact big (hb r hr).1 q
      · exact (G.eff e).ne ho hc rfl

theorem zipIter1 {x : Str} {px : Pos} {rs : List Src} {z TI TO : Addr} {N : Nat} {Q : Value → Shared → Prop} (hh : A.handled = none) (Z : ZMade w s rs z TI TO s₁) (hsz : rs.length ≤ 1000)
    (hN : ∀ r ∈ rs, N ≤ r.n) (hE : rs = [] ∧ N = 0 ∨ ∃ (j : Nat) (r : Src), rs[j]? = some r ∧ r.n = N ∧ ∀ (k : Nat) (r : Src), k < j → rs[k]? = some r → N < r.n)
    (h : ∀ it, SrcOk w A s (.Name x px) [x] N (fun i m h => ∃ T vs, m x = some (.ref T) ∧ h.IsTuple T vs ∧ vs.size = rs.length ∧ Drawn rs i rs.length vs ∧ T ∉ z :: TO :: rs.map (·.it)) it s₁ → Q it s₁) : wpAny (model Pg w) A (pyIter (.ref z)) Q E s₁ := by
  have W := zipTurns (x := x) (px := px) hh (Z.dr A.in1 hh) Z.D hsz hN hE
  refine W.self 0 _ _ _ ⟨Nat.zero_le _, Z.st⟩ (h _ ⟨Z.eff, _, _, _, _, rfl, W, ⟨Nat.zero_le _, Z.st⟩, Z.fp, fun b hb => Z.wr b ?_, Z.no⟩)
  simp only [List.mem_cons] at hb ⊢
  rcases hb with q | q | q
  · exact .inl q
  · exact .inr (.inr (.inl q))
  · exact .inr (.inr (.inr q))
theorem zipIter2 {xa xb : Str} {pa pb pt : Pos} {kt : Nat} {r1 r2 : Src} {z TI TO : Addr} {Q : Value → Shared → Prop} (hh : A.handled = none) (Z : ZMade w s [r1, r2] z TI TO s₁) (hab : xa ≠ xb)
    (h : ∀ it, SrcOk w A s (.Tuple [.Name xa pa, .Name xb pb] kt pt) [xa, xb] (min r1.n r2.n) (fun i m h => ∃ va vb, r1.P i va ∧ r2.P i vb ∧ m xa = some va ∧ m xb = some vb) it s₁ → Q it s₁) : wpAny (model Pg w) A (pyIter (.ref z)) Q E s₁ := by
  have W := zipTurns2 (pa := pa) (pb := pb) (pt := pt) (kt := kt) hh (Z.dr A.in1 hh) Z.D hab
  refine W.self 0 _ _ _ ⟨Nat.zero_le _, Z.st⟩ (h _ ⟨Z.eff, _, _, _, _, rfl, W, ⟨Nat.zero_le _, Z.st⟩, Z.fp, fun b hb => Z.wr b ?_, Z.no⟩)
  simp only [List.mem_cons] at hb ⊢
  rcases hb with q | q | q
  · exact .inl q
  · exact .inr (.inr (.inl q))
  · exact .inr (.inr (.inr q))
end

end Zs

section Mp

namespace MF
theorem owner_map : Manifest.owners.lookup (String.ofList ['p', 'a', 'm'].reverse) = some Manifest.sig_map := by kernel_rfl
theorem slot_map_next : Slot "map" "__next__" "map.__next__" :=
  .of (owner := "map") (n := "__next__") (by rw [typeLookup_type, builtinLookup_eq_fast]; kernel_rfl) (by decide +kernel) (by decide +kernel) (by decide +kernel)
    (by first | exact .inl (by decide +kernel) | exact .inr (by decide +kernel)) (by rw [isSubtype_type]; kernel_rfl)
theorem entry_map_next : entryFor table "map.__next__" = some Builtin.«map.__next__» := entryFor_of_tree (by kernel_rfl)
theorem args_map_next_1 (a : Value) : argsOk "map.__next__" ⟨[a], []⟩ := by
  unfold argsOk; rw [signature?_of (id := "map.__next__") (n := ['_', '_', 't', 'x', 'e', 'n', '_', '_']) (o := ['p', 'a', 'm']) (by kernel_rfl) owner_map]; kernel_rfl
theorem slot_map_iter : Slot "map" "__iter__" "map.__iter__" :=
  .of (owner := "map") (n := "__iter__") (by rw [typeLookup_type, builtinLookup_eq_fast]; kernel_rfl) (by decide +kernel) (by decide +kernel) (by decide +kernel)
    (by first | exact .inl (by decide +kernel) | exact .inr (by decide +kernel)) (by rw [isSubtype_type]; kernel_rfl)
theorem entry_map_iter : entryFor table "map.__iter__" = some Builtin.«dict_keyiterator.__iter__» :=
  entryFor_alias (id' := "dict_keyiterator.__iter__") (by kernel_rfl) (by first | rfl | decide +kernel | (unfold String.splitOn; simp +decide [String.splitOnAux])) (by decide +kernel) (by kernel_rfl)
theorem args_map_iter_1 (a : Value) : argsOk "map.__iter__" ⟨[a], []⟩ := by
  unfold argsOk; rw [signature?_of (id := "map.__iter__") (n := ['_', '_', 'r', 'e', 't', 'i', '_', '_']) (o := ['p', 'a', 'm']) (by kernel_rfl) owner_map]; kernel_rfl
theorem slot_map_init : Slot "map" "__init__" "object.__init__" :=
  .of (owner := "object") (n := "__init__") (by rw [typeLookup_type, builtinLookup_eq_fast]; kernel_rfl) (by decide +kernel) (by decide +kernel) (by decide +kernel)
    (by first | exact .inl (by decide +kernel) | exact .inr (by decide +kernel)) (by rw [isSubtype_type]; kernel_rfl)
theorem mro_map : mroOf (.type "map") = pure [.type "map", .type "object"] := by rw [mroOf_type]; kernel_rfl
theorem lookup_map_new : typeLookup (.type "map") "__new__" = pure (some (.builtin "map.__new__")) := by rw [typeLookup_type, builtinLookup_eq_fast]; kernel_rfl
theorem called_map : TypeCalled "map" "map.__new__" "object.__init__" :=
  ⟨by decide +kernel, by decide +kernel, ⟨_, _, mro_map⟩, madeBy_type mro_map lookup_map_new (by decide +kernel), by decide +kernel, by rw [isSubtype_type]; kernel_rfl, slot_map_init⟩
theorem typeCall_map_2 (a b : Value) : checkTypeCall "map" ⟨[a, b], []⟩ = pure () := by kernel_rfl
theorem newCall_map_2 (a b : Value) : checkBuiltinCall "map.__new__" ⟨[.type "map", a, b], []⟩ = pure () := by kernel_rfl
theorem entry_map_new : entryFor table "map.__new__" = some Builtin.«map.__new__» := entryFor_of_tree (by kernel_rfl)
theorem sub_map : isSubtype (.type "map") (.type "map") = pure true := by rw [isSubtype_type]; kernel_rfl
theorem map_no_len : typeLookup (.type "map") "__len__" = pure none := by rw [typeLookup_type, builtinLookup_eq_fast]; kernel_rfl
theorem map_no_hint : typeLookup (.type "map") "__length_hint__" = pure none := by rw [typeLookup_type, builtinLookup_eq_fast]; kernel_rfl
end MF
abbrev mobj (TI : Addr) : Obj := { cls := .type "map", data := .fields #[.ref TI, .builtin "len"] }
/-- lists in a list, their lengths told -/
def LensAre (h : Heap) (its : Array Value) (len : Nat → Nat) : Prop := ∀ j v, its[j]? = some v → ∃ l xs, v = .ref l ∧ h.IsList l xs ∧ xs.size = len j ∧ xs.size ≤ 1000000
def refsOf (its : Array Value) : List Addr := its.toList.flatMap fun v => match v with | .ref a => [a] | _ => []
theorem refs_mem {its : Array Value} {j : Nat} {l : Addr} (h : its[j]? = some (.ref l)) : l ∈ refsOf its := List.mem_flatMap.mpr ⟨.ref l, List.mem_of_getElem? (by simpa using h), List.mem_singleton.mpr rfl⟩
theorem LensAre.at {h h' : Heap} {its : Array Value} {len : Nat → Nat} (x : LensAre h its len) (k : ∀ b ∈ refsOf its, ∀ o, h.get? b = some o → h'.get? b = some o) : LensAre h' its len := fun j v hv => by
  obtain ⟨l, xs, rfl, hl, r⟩ := x j v hv
  exact ⟨l, xs, rfl, list_at hl fun o e => k l (refs_mem hv) o e, r⟩
theorem LensAre.live {h : Heap} {its : Array Value} {len : Nat → Nat} (x : LensAre h its len) {b : Addr} (hb : b ∈ refsOf its) : ∃ o, h.get? b = some o ∧ o.cls ≠ .none := by
  obtain ⟨v, hv, hb⟩ := List.mem_flatMap.mp hb
  cases v with
  | ref a =>
    rw [List.mem_singleton] at hb
    subst hb
    obtain ⟨j, hj⟩ := List.mem_iff_getElem?.mp hv
    obtain ⟨l, xs, e, ⟨o, ho, hc, _⟩, _⟩ := x j (.ref b) (by simpa using hj)
    cases e
    exact ⟨o, ho, by rw [hc]; exact fun q => nomatch q⟩
  | _ => simp at hb
structure MSt (m TI it l : Addr) (its : Array Value) (len : Nat → Nat) (i : Nat) (h : Heap) : Prop where
  m : h.get? m = some (mobj TI)
  ti : h.IsTuple TI #[.ref it]
  it : h.IsListIter it l i
  l : h.IsList l its
  lens : LensAre h its len

section
variable {w : World} {A : Around} {E : Value → Shared → Prop} {s : Shared} {m TI it l : Addr} {its : Array Value} {len : Nat → Nat}
theorem mapWalks (hh : A.handled = none) (hm : m ≠ it) (ht : TI ≠ it) (hl : l ≠ it) (hr : it ∉ refsOf its) :
    Walks Pg w A m (m :: TI :: it :: l :: refsOf its) [it] its.size (fun i v => ∃ t, v = .int (len i) t) (MSt m TI it l its len) where
  sub := fun b hb => by rw [List.mem_singleton.mp hb]; simp
  frame := fun i h h' st hk => ⟨hk _ (by simp) _ st.m, tuple_at st.ti fun o e => hk _ (by simp) o e, st.it.at fun o e => hk _ (by simp) o e, list_at st.l fun o e => hk _ (by simp) o e, st.lens.at fun b hb o e => hk b (by simp [hb]) o e⟩
  item := fun i s Q E hi st hQ => by
    have hT : s.TypeIs (.ref m) "map" := ⟨_, st.m, rfl⟩
    obtain ⟨v, hv⟩ : ∃ v, its[i]? = some v := ⟨_, Array.getElem?_eq_getElem hi⟩
    obtain ⟨l', xs, rfl, hl', hx1, hx2⟩ := st.lens i v hv
    unfold pyNext
    refine wpAny_bind (wpAny_attempt (wpAny_callSpecial?_slot (name := Str.ofString "__next__") hT MF.slot_map_next
      (wpAny_call_entry MF.slot_map_next hT MF.entry_map_next ?_ (MF.args_map_next_1 _))))
    show wpAny _ _ (field (.ref m) 0 >>= _) _ _ _
    refine wpAny_bind (wpAny_field st.m rfl (x := .ref TI) rfl ?_)
    obtain ⟨oti, hoti, cti, nti, dti⟩ := id st.ti
    refine wpAny_bind (wpAny_seqItems hoti dti ?_)
    dsimp only
    rw [← Array.forIn_toList]
    simp only [List.forIn_cons, List.forIn_nil]
    refine wpAny_bind (wpAny_bind (wpAny_bind (wpAny_holding (wpAny_nextOf_list_item st.it st.l hv fun h' hit' hs' => wpAny_pure (wpAny_pure ?_)))))
    have hm' : h'.get? m = some (mobj TI) := hs'.extBut _ _ hm st.m
    have hl'' : h'.IsList l' xs := list_at hl' fun o e => hs'.extBut _ o (fun q => hr (q ▸ refs_mem hv)) e
    refine wpAny_bind (wpAny_field hm' rfl (x := .builtin "len") rfl ?_)
    refine wpAny_bind (wpAny_holding ?_)
    show wpAny _ _ (call (.builtin "len") [.ref l']) _ _ _
    refine call_len_list hl'' (by omega) ?_
    refine wpAny_bind (wpAny_letGo (wpAny_pure ⟨_, rfl, wpAny_pure ?_⟩))
    refine hQ _ h' _ ⟨_, by rw [← hx1]⟩ ⟨hm', st.ti.extBut hs'.extBut ht, hit', st.l.extBut hs'.extBut hl, st.lens.at fun b hb o e => hs'.extBut b o (fun q => hr (q ▸ hb)) e⟩ fun b o hb e => hs'.extBut b o (fun q => hb (List.mem_singleton.mpr q)) e
  done := fun s Q E st hQ => by
    have hT : s.TypeIs (.ref m) "map" := ⟨_, st.m, rfl⟩
    unfold pyNext
    refine wpAny_bind (wpAny_attempt (wpAny_callSpecial?_slot (name := Str.ofString "__next__") hT MF.slot_map_next
      (wpAny_call_entry MF.slot_map_next hT MF.entry_map_next ?_ (MF.args_map_next_1 _))))
    show wpAny _ _ (field (.ref m) 0 >>= _) _ _ _
    refine wpAny_bind (wpAny_field st.m rfl (x := .ref TI) rfl ?_)
    obtain ⟨oti, hoti, cti, nti, dti⟩ := id st.ti
    refine wpAny_bind (wpAny_seqItems hoti dti ?_)
    dsimp only
    rw [← Array.forIn_toList]
    simp only [List.forIn_cons, List.forIn_nil]
    refine wpAny_bind (wpAny_bind (wpAny_bind (wpAny_holding (wpAny_nextOf_list_end (A := A.in1) hh st.it st.l (by simp) fun h' e hx he => ?_))))
    obtain ⟨o, ho, hc⟩ := he
    refine wpAny_bind (wpAny_isInstance (T := "StopIteration") (b := true) ⟨o, ho, hc⟩ isSubtype_stop (wpAny_pure (hQ h' s.toks fun b o hb e => hx b o (fun q => hb (List.mem_singleton.mpr q)) e)))
  self := fun i s Q E st hQ => by
    have hT : s.TypeIs (.ref m) "map" := ⟨_, st.m, rfl⟩
    refine wpAny_pyIter_slot hT MF.slot_map_iter (wpAny_call_entry MF.slot_map_iter hT MF.entry_map_iter ?_ (MF.args_map_iter_1 _))
    show wpAny _ _ (ret (.ref m)) _ _ s
    exact wpAny_pure ⟨_, rfl, "map", _, hT, MF.slot_map_next.lookup, hQ⟩

/-- map(len, l), made since s -/
def MMade (s : Shared) (l : Addr) (its : Array Value) (len : Nat → Nat) (v : Value) (s' : Shared) : Prop :=
  Eff s s' ∧ ∃ m TI it, v = .ref m ∧ MSt m TI it l its len 0 s'.heap ∧ m ≠ it ∧ TI ≠ it ∧ l ≠ it ∧ it ∉ refsOf its ∧ s.heap.get? it = none ∧ it ≠ 194
variable {s₁ : Shared}
theorem mapCall {Q : Value → Shared → Prop} (G : Gd w s) (e : Eff s s₁) (hl : s₁.heap.IsList l its) (hlen : LensAre s₁.heap its len) (h : ∀ v s₂, MMade s l its len v s₂ → Q v s₂) :
    wpAny (model Pg w) A (call (.type "map") [.builtin "len", .ref l]) Q E s₁ := by
  have hT := (G.eff e).lt
  have g : MeetsIn Pg w (Builtin.«map.__new__» ⟨[.type "map", .builtin "len", .ref l], []⟩) (fun _ R s₂ => s₂ = s₁ ∧ R (.ok (.ret (.ref (s₁.heap.objs.size + 2)))) { s₁ with heap := ((s₁.heap.push { cls := .type "list_iterator", data := .fields #[.ref l, .int 0 0] }).push { cls := .type "tuple", data := .seq #[.ref s₁.heap.objs.size] }).push (mobj (s₁.heap.objs.size + 1)) }) := MeetsIn.of_wp fun A R s₂ ⟨e2, hR⟩ => by
    subst e2
    have hsub := MF.sub_map
    have hnc : ∀ (rest : List Value) (Q : Value × List Value → Shared → Prop) E, Q (.type "map", rest) s₂ → wpAny (model Pg w) A.in1 (Builtin.SmallTypes.newClass "map" ⟨.type "map" :: rest, []⟩) Q E s₂ := fun rest Q E hq => by
      unfold Builtin.SmallTypes.newClass
      repeat (any_goals (first | assumption | wp_step))
    unfold Builtin.«map.__new__»
    refine wpAny_bind (hnc _ _ _ ?_)
    dsimp only
    refine wpAny_bind (wpAny_of_eq (a := ()) (by first | rfl | kernel_rfl) ?_)
    rw [if_neg (by simp)]
    have hk : ∀ k ∈ [zList l its], ZOk w k s₂.heap := fun k hk => by rw [List.mem_singleton.mp hk]; exact zList_ok hl
    refine wpAny_bind (iterAll_ok (ks := [zList l its]) hk ?_)
    refine wpAny_bind (wpAny_newTuple (wpAny_bind ?_) (by simp [PySem.sizeLine_eq]))
    unfold Builtin.SmallTypes.newRecord
    dsimp only
    refine wpAny_newObj_type (wpAny_pure ⟨_, rfl, ?_⟩) (hd := by simp [sizeOk, PySem.sizeLine_eq])
    show R (.ok (.ret (.ref ((s₂.heap.push { cls := .type "list_iterator", data := .fields #[.ref l, .int 0 0] }).push { cls := .type "tuple", data := .seq #[.ref s₂.heap.objs.size] }).objs.size))) { s₂ with heap := ((s₂.heap.push { cls := .type "list_iterator", data := .fields #[.ref l, .int 0 0] }).push { cls := .type "tuple", data := .seq #[.ref s₂.heap.objs.size] }).push (mobj (s₂.heap.push { cls := .type "list_iterator", data := .fields #[.ref l, .int 0 0] }).objs.size) }
    simp only [Heap.size_push]
    exact hR
  refine callType_newIn MF.called_map (by decide) (MF.typeCall_map_2 _ _) (MF.newCall_map_2 _ _) (fun obj => F.args_object_init_3 obj _ _) MF.entry_map_new g ⟨rfl, ?_⟩
  have z1 : (s₁.heap.push { cls := .type "list_iterator", data := .fields #[.ref l, .int 0 0] }).objs.size = s₁.heap.objs.size + 1 := Heap.size_push ..
  have z2 : ((s₁.heap.push { cls := .type "list_iterator", data := .fields #[.ref l, .int 0 0] }).push { cls := .type "tuple", data := .seq #[.ref s₁.heap.objs.size] }).objs.size = s₁.heap.objs.size + 2 := by rw [Heap.size_push, z1]
  have up : ∀ b o, s₁.heap.get? b = some o → (((s₁.heap.push { cls := .type "list_iterator", data := .fields #[.ref l, .int 0 0] }).push { cls := .type "tuple", data := .seq #[.ref s₁.heap.objs.size] }).push (mobj (s₁.heap.objs.size + 1))).get? b = some o := fun b o q => Heap.get?_push_of_some _ (Heap.get?_push_of_some _ (Heap.get?_push_of_some _ q))
  have g1 : (((s₁.heap.push { cls := .type "list_iterator", data := .fields #[.ref l, .int 0 0] }).push { cls := .type "tuple", data := .seq #[.ref s₁.heap.objs.size] }).push (mobj (s₁.heap.objs.size + 1))).get? s₁.heap.objs.size = some _ := Heap.get?_push_of_some _ (Heap.get?_push_of_some _ (Heap.get?_push_size _ rfl))
  have g2 : (((s₁.heap.push { cls := .type "list_iterator", data := .fields #[.ref l, .int 0 0] }).push { cls := .type "tuple", data := .seq #[.ref s₁.heap.objs.size] }).push (mobj (s₁.heap.objs.size + 1))).get? (s₁.heap.objs.size + 1) = some { cls := .type "tuple", data := .seq #[.ref s₁.heap.objs.size] } := by
    have := Heap.get?_push_of_some (mobj (s₁.heap.objs.size + 1)) (Heap.get?_push_size (s₁.heap.push { cls := .type "list_iterator", data := .fields #[.ref l, .int 0 0] }) (o := { cls := .type "tuple", data := .seq #[.ref s₁.heap.objs.size] }) rfl)
    rw [z1] at this; exact this
  have g3 : (((s₁.heap.push { cls := .type "list_iterator", data := .fields #[.ref l, .int 0 0] }).push { cls := .type "tuple", data := .seq #[.ref s₁.heap.objs.size] }).push (mobj (s₁.heap.objs.size + 1))).get? (s₁.heap.objs.size + 2) = some (mobj (s₁.heap.objs.size + 1)) := by
    have := Heap.get?_push_size ((s₁.heap.push { cls := .type "list_iterator", data := .fields #[.ref l, .int 0 0] }).push { cls := .type "tuple", data := .seq #[.ref s₁.heap.objs.size] }) (o := mobj (s₁.heap.objs.size + 1)) rfl
    rw [z2] at this; exact this
  show _ ∧ _
  refine ⟨⟨_, g3, rfl⟩, h _ _ ⟨e.trans (Eff.of up), _, _, _, rfl, ⟨g3, ⟨_, g2, rfl, 0, rfl⟩, ⟨_, g1, rfl, rfl⟩, list_at hl fun o q => up _ o q, hlen.at fun b _ o q => up b o q⟩, ?_, ?_, ?_, ?_, fresh_at G e, Nat.ne_of_gt hT⟩⟩
  · exact Nat.ne_of_gt (Nat.lt_add_of_pos_right (by decide))
  · exact Nat.succ_ne_self _
  · obtain ⟨o, ho, _⟩ := hl; exact Nat.ne_of_lt (Heap.lt_size ho)
  · intro hm
    obtain ⟨o, ho, _⟩ := hlen.live hm
    exact Nat.lt_irrefl _ (Heap.lt_size ho)

theorem fp_lt {i : Nat} {h : Heap} (st : MSt m TI it l its len i h) : ∀ b ∈ m :: TI :: it :: l :: refsOf its, b < h.objs.size := fun b hb => by
  simp only [List.mem_cons] at hb
  rcases hb with rfl | rfl | rfl | rfl | hb
  · exact Heap.lt_size st.m
  · obtain ⟨o, ho, _⟩ := st.ti; exact Heap.lt_size ho
  · obtain ⟨o, ho, _⟩ := st.it; exact Heap.lt_size ho
  · obtain ⟨o, ho, _⟩ := st.l; exact Heap.lt_size ho
  · obtain ⟨o, ho, _⟩ := st.lens.live hb; exact Heap.lt_size ho
theorem effOf {it : Addr} {s s₁ : Shared} (e : Eff s s₁) (hn : s.heap.get? it = none) (h4 : it ≠ 194) {h' : Heap} {tk : Nat} (k : ∀ b o, b ∉ [it] → s₁.heap.get? b = some o → h'.get? b = some o) : Eff s { s₁ with heap := h', toks := tk } :=
  ⟨fun b o hb q => k b o (fun x => by rw [List.mem_singleton.mp x, hn] at q; cases q) (e.keep b o hb q), fun t => let ⟨ps, t1, t2⟩ := e.tab t; ⟨ps, t1, k 194 _ (fun x => h4 (List.mem_singleton.mp x).symm) t2⟩, e.bare, e.os⟩
/-- the greatest length -/
theorem maxMap {v : Value} {Q : Value → Shared → Prop} (hh : A.handled = none) (M : MMade s l its len v s₁) (h2 : its.size = 2) (h : ∀ t s', Eff s s' → Q (.int ((max (len 0) (len 1) : Nat) : Int) t) s') :
    wpAny (model Pg w) A (call (.builtin "max") [v]) Q E s₁ := by
  obtain ⟨e, m, TI, it, rfl, st, n1, n2, n3, n4, hn, h4⟩ := M
  have W := mapWalks (w := w) (A := A.in1) (len := len) (its := its) hh n1 n2 n3 n4
  refine call_max_walk (W.self 0 _ _ _ st ⟨_, _, _, _, _, _, _, rfl, W, st, fp_lt st, by omega, CmpOf.ints_gt (fun i => (len i : Int)) fun i v hv => hv, fun v h' tk hv hk => ?_⟩)
  rw [h2] at hv
  have hb : argBest (fun i j => decide ((len i : Int) > (len j : Int))) (2 - 1) = if len 1 > len 0 then 1 else 0 := by
    show (if decide ((len 1 : Int) > (len 0 : Int)) = true then 1 else 0) = _
    by_cases q : len 1 > len 0
    · rw [if_pos q, if_pos (by simpa using q)]
    · rw [if_neg q, if_neg (by simpa using q)]
  rw [hb] at hv
  obtain ⟨t, rfl⟩ := hv
  have := h t { s₁ with heap := h', toks := tk } (effOf e hn h4 hk)
  by_cases q : len 1 > len 0
  · rw [if_pos q]; rw [show max (len 0) (len 1) = len 1 by omega] at this; exact this
  · rw [if_neg q]; rw [show max (len 0) (len 1) = len 0 by omega] at this; exact this

/-- the lengths, laid into a list -/
theorem listMap {v : Value} {Q : Value → Shared → Prop} (hh : A.handled = none) (M : MMade s l its len v s₁) (hs : its.size ≤ 1000) (G : Gd w s)
    (h : ∀ D (vs : Array Value) n s', Eff s s' → s.heap.get? D = none → s'.heap.get? D = some { cls := .type "list", data := .seq vs n } → vs.size = its.size → (∀ (j : Nat) (v : Value), vs[j]? = some v → ∃ t, v = .int (len j) t) → Q (.ref D) s') :
    wpAny (model Pg w) A (call (.type "list") [v]) Q E s₁ := by
  obtain ⟨e, m, TI, it, rfl, st, n1, n2, n3, n4, hn, h4⟩ := M
  have W := mapWalks (w := w) (A := A.in1.in1) (len := len) (its := its) hh n1 n2 n3 n4
  have hT := (G.eff e).lt
  generalize hD : s₁.heap.objs.size = S
  have hSf : S ∉ m :: TI :: it :: l :: refsOf its := fun hm => by have := fp_lt st _ hm; rw [hD] at this; exact Nat.lt_irrefl _ this
  refine callType_codes (Q₁ := fun obj s₂ => obj = .ref S ∧ s₂ = { s₁ with heap := s₁.heap.push { cls := .type "list", data := .seq #[] } }) F.called_list (F.typeCall_list_1 _) F.entry_list_init
    (code_list_new _ ⟨by rw [hD], rfl⟩) fun obj s₂ h₂ => ?_
  obtain ⟨rfl, rfl⟩ := h₂
  have hS : (s₁.heap.push { cls := .type "list", data := .seq #[] }).get? S = some { cls := .type "list", data := .seq #[] } := hD ▸ Heap.get?_push_size _ rfl
  have up : ∀ b o, s₁.heap.get? b = some o → (s₁.heap.push { cls := .type "list", data := .seq #[] }).get? b = some o := fun b o q => Heap.get?_push_of_some _ q
  refine ⟨⟨_, hS, rfl⟩, F.args_list_init_2 _ _, ?_⟩
  show wpAny _ _ (do let old ← Builtin.List.listItems (.ref S); Builtin.List.listUpdate (.ref S) (fun _ => #[]); letGo old.toList.reverse; Builtin.List.listExtendWith (.ref S) (.ref m) .none) _ _ _
  refine wpAny_bind ?_
  unfold Builtin.List.listItems
  refine wpAny_bind (wpAny_seqItems hS rfl (wpAny_pure ?_))
  show wpAny _ _ (updateSeq S (fun _ => #[]) >>= fun _ => letGo (#[] : Array Value).toList.reverse >>= fun _ => Builtin.List.listExtendWith (.ref S) (.ref m) .none) _ _ _
  refine wpAny_bind (wpAny_updateSeq hS rfl ?_)
  have hS₂ := Heap.get?_update_self (Obj.mapSeq (fun _ => (#[] : Array Value))) hS rfl
  refine wpAny_bind (wpAny_letGo ?_)
  have oth : ∀ b o, b ≠ S → s₁.heap.get? b = some o → ((s₁.heap.push { cls := .type "list", data := .seq #[] }).update S (Obj.mapSeq (fun _ => (#[] : Array Value)))).get? b = some o := fun b o hb q => (Heap.get?_update_other _ _ (Ne.symm hb)).trans (up b o q)
  have st₂ : MSt m TI it l its len 0 ((s₁.heap.push { cls := .type "list", data := .seq #[] }).update S (Obj.mapSeq (fun _ => (#[] : Array Value)))) := W.frame _ _ _ st fun b hb o q => oth b o (fun x => hSf (x ▸ hb)) q
  have hT₂ : Shared.TypeIs { s₁ with heap := (s₁.heap.push { cls := .type "list", data := .seq #[] }).update S (Obj.mapSeq (fun _ => (#[] : Array Value))) } (.ref m) "map" := ⟨_, st₂.m, rfl⟩
  have hSm : S ≠ m := fun q => hSf (by simp [q])
  unfold Builtin.List.listExtendWith
  refine wpAny_bind (wpAny_typeOf hT₂ ?_)
  have h1 : Builtin.List.listSameRef (.ref S) (.ref m) = false := by simp [Builtin.List.listSameRef, hSm]
  have h2 : (Value.type "map" == Value.type "list") = false := by decide
  have h3 : (Value.type "map" == Value.type "tuple") = false := by decide
  simp only [h1, h2, h3, Bool.or_false, Bool.false_eq_true, if_false]
  refine wpAny_bind (W.self 0 _ _ _ st₂ ?_)
  refine wpAny_bind (wpAny_holding ?_)
  unfold Builtin.List.listLengthHint
  refine wpAny_bind (wpAny_specialOf hT₂ MF.map_no_len ?_)
  show wpAny _ _ (specialOf (Value.ref m) (Str.ofString "__length_hint__") >>= _) _ _ _
  refine wpAny_bind (wpAny_specialOf hT₂ MF.map_no_hint ?_)
  refine wpAny_pure ?_
  show wpAny _ _ (rule "list.extend.makes-room" >>= fun _ => Builtin.List.listTouch (.ref S) >>= fun _ =>
    again (.builtin "list.extend.loop" ⟨[.ref S, .ref m, .none], []⟩)) _ _ _
  refine wpAny_bind (wpAny_rule ?_)
  refine wpAny_bind ?_
  show wpAny _ _ (updateSeq S (·.push .none) >>= fun _ => updateSeq S (·.pop)) _ _ _
  refine wpAny_bind (wpAny_updateSeq hS₂ rfl ?_)
  have hS₃ := Heap.get?_update_self (Obj.mapSeq (·.push Value.none)) hS₂ rfl
  refine wpAny_updateSeq (hz := by seq_fits) hS₃ rfl ?_
  have hS₄ := Heap.get?_update_self (Obj.mapSeq (·.pop)) hS₃ rfl
  have oth₂ : ∀ b o, b ≠ S → s₁.heap.get? b = some o → ((((s₁.heap.push { cls := .type "list", data := .seq #[] }).update S (Obj.mapSeq (fun _ => (#[] : Array Value)))).update S (Obj.mapSeq (·.push Value.none))).update S (Obj.mapSeq (·.pop))).get? b = some o :=
    fun b o hb q => (Heap.get?_update_other _ _ (Ne.symm hb)).trans ((Heap.get?_update_other _ _ (Ne.symm hb)).trans (oth b o hb q))
  refine wpAny_pure ⟨plainId_quiet F.plain_extend_loop _, codeAny_extend_loopS W.toS (by rw [PySem.sizeLine_eq]; omega) _ hSf _ its.size 0 _ _ _ rfl (Nat.zero_le _) (W.frame _ _ _ st fun b hb o q => oth₂ b o (fun x => hSf (x ▸ hb)) q) hS₄ (ItemsOf.nil _) fun s' acc' c' hm hS' hacc => ?_⟩
  rw [Moved.eq_with hm]
  have hS0 : s.heap.get? S = none := by rw [← hD]; exact fresh_at G e
  have hS4 : S ≠ 194 := by rw [← hD]; exact Nat.ne_of_gt hT
  have kk : ∀ b o, b ∉ [S, it] → s₁.heap.get? b = some o → s'.heap.get? b = some o := fun b o hb q => hm.heap b o hb (oth₂ b o (fun x => hb (by simp [x])) q)
  refine ⟨rfl, h S acc' c' _ ⟨fun b o hb q => kk b o (fun x => ?_) (e.keep b o hb q), fun t => let ⟨ps, t1, t2⟩ := e.tab t; ⟨ps, t1, kk 194 _ (fun x => ?_) t2⟩, e.bare, e.os⟩ hS0 hS' hacc.1 hacc.2⟩
  · rcases List.mem_cons.mp x with x | x
    · rw [x, hS0] at q; cases q
    · rw [List.mem_singleton.mp x, hn] at q; cases q
  · rcases List.mem_cons.mp x with x | x
    · exact hS4 x.symm
    · exact h4 (List.mem_singleton.mp x).symm
end

end Mp

section St
theorem tuple_no_set : isSubtype (.type "tuple") (.type "set") = pure false := by rw [isSubtype_type]; kernel_rfl
theorem tuple_no_frozenset : isSubtype (.type "tuple") (.type "frozenset") = pure false := by rw [isSubtype_type]; kernel_rfl
section
variable {w : World} {A : Around} {R : Result → Shared → Prop} {E : Value → Shared → Prop} {S I T : Addr} {items : Array Value} {i n : Nat} {σ : Str → Bool} {s : Shared}
/-- a text of a tuple is laid into a set: one turn of the loop that fills it -/
theorem set_turn {x : Str} {t : Tok} (hSI : S ≠ I) (hST : S ≠ T) (hTI : T ≠ I) (hit : s.heap.IsTupleIter I T i) (hT : s.heap.IsTuple T items) (hx : items[i]? = some (.str x t))
    (hS : s.heap.SetOf (strKind Pg w) S σ n) (hn : n + 1 < scanBound)
    (next : ∀ h' tk, h'.IsTupleIter I T (i + 1) → h'.IsTuple T items → h'.SetOf (strKind Pg w) S (fun k => σ k || decide (k = x)) (if σ x then n else n + 1) →
      (∀ b o, b ≠ S → b ≠ I → s.heap.get? b = some o → h'.get? b = some o) → codeAny (model Pg w) A (.builtin "set.update.loop" ⟨[.ref S, .ref I], []⟩) R { s with heap := h', toks := tk }) :
    codeAny (model Pg w) A (.builtin "set.update.loop" ⟨[.ref S, .ref I], []⟩) R s := by
  refine codeAny_builtin PyProof.Rows.F.entry_set_update_loop ?_
  rw [Around.under_plainId PyProof.Rows.F.plain_set_update_loop _]
  refine wpAny_bind (wpAny_pyNext_tuple_item hit hT hx fun h1 hit1 hs1 => wpAny_bind (wpAny_holding ?_))
  obtain ⟨o, es, ep, tb, ho, rest⟩ := hS
  have hS1 : h1.SetOf (strKind Pg w) S σ n := ⟨o, es, ep, tb, hs1.extBut S o hSI ho, rest⟩
  refine wpAny_holding (wpAny_bind ((strKind Pg w).pyHash (k := x) (strKind_is _ _ _ _) ?_))
  refine wpAny_setAddHashed_of (knd := strKind Pg w) (s := { s with heap := h1, toks := s.toks + 1 }) (strKind_is _ _ _ _) rfl hS1 hn fun h2 hs2 hS2 => wpAny_pure ⟨plainId_quiet PyProof.Rows.F.plain_set_update_loop _, ?_⟩
  refine next h2 _ ?_ ?_ hS2 fun b o h1 h2 e => hs2.extBut b o h1 (hs1.extBut b o h2 e)
  · exact tupleIter_at hit1 fun o e => hs2.extBut I o (Ne.symm hSI) e
  · exact tuple_at hT fun o e => hs2.extBut T o (Ne.symm hST) (hs1.extBut T o hTI e)
theorem set_stop (hh : A.handled = none) (hit : s.heap.IsTupleIter I T i) (hT : s.heap.IsTuple T items) (hx : items[i]? = none) (h : ∀ h', Heap.ExtBut I s.heap h' → R (.ok (.ret .none)) { s with heap := h' }) :
    codeAny (model Pg w) A (.builtin "set.update.loop" ⟨[.ref S, .ref I], []⟩) R s := by
  refine codeAny_builtin PyProof.Rows.F.entry_set_update_loop ?_
  rw [Around.under_plainId PyProof.Rows.F.plain_set_update_loop _]
  exact wpAny_bind (wpAny_pyNext_tuple_end hh hit hT hx fun h' k => wpAny_pure (h h' k))
abbrev emptySet (led : Bool) : Obj := { cls := .type "set", dict := none, data := .set #[] 0 (.fresh 0 0 led) }
/-- the loop over a tuple of two texts -/
theorem set_fill {a b : Str} {t u : Tok} {led : Bool} (hh : A.handled = none) (hSI : S ≠ I) (hST : S ≠ T) (hTI : T ≠ I) (hit : s.heap.IsTupleIter I T 0) (hT : s.heap.IsTuple T #[.str a t, .str b u]) (hS : s.heap.get? S = some (emptySet led))
    (h : ∀ σ h' tk, h'.SetOf (strKind Pg w) S σ (if a = b then 1 else 2) → (∀ b o, b ≠ S → b ≠ I → s.heap.get? b = some o → h'.get? b = some o) → R (.ok (.ret .none)) { s with heap := h', toks := tk }) :
    codeAny (model Pg w) A (.builtin "set.update.loop" ⟨[.ref S, .ref I], []⟩) R s := by
  have h0 := (PyProof.Rows.setObjOf_fresh (knd := strKind Pg w) led).setOf hS (by unfold scanBound; omega)
  refine set_turn hSI hST hTI hit hT rfl h0 (by unfold scanBound; omega) fun h1 k1 i1 t1 s1 e1 => ?_
  refine set_turn hSI hST hTI i1 t1 rfl s1 (by unfold scanBound; simp) fun h2 k2 i2 t2 s2 e2 => ?_
  refine set_stop hh i2 t2 rfl fun h3 x3 => ?_
  obtain ⟨o, es, ep, tb, ho, r1, r2, r3, r4, r5, r6, hn⟩ := s2
  refine h _ h3 _ ⟨o, es, ep, tb, x3 S o hSI ho, r1, r2, r3, r4, r5, r6, hn.trans ?_⟩ fun b o q1 q2 e => x3 b o q2 (e2 b o q1 q2 (e1 b o q1 q2 e))
  by_cases q : a = b
  · subst q; simp
  · have q' : b ≠ a := fun z => q z.symm
    simp [q, q']
end
section
variable {w : World} {A : Around} {E : Value → Shared → Prop} {s : Shared}
/-- set.__init__ of an empty set, given a tuple of two texts -/
theorem set_init_two {T S : Addr} {a b : Str} {t u : Tok} {led : Bool} {R : Result → Shared → Prop} (hh : A.handled = none) (hS : s.heap.get? S = some (emptySet led)) (hST : S ≠ T) (hT : s.heap.IsTuple T #[.str a t, .str b u])
    (h : ∀ σ h' tk, h'.SetOf (strKind Pg w) S σ (if a = b then 1 else 2) → (∀ b o, b ≠ S → s.heap.get? b = some o → h'.get? b = some o) → R (.ok (.ret .none)) { s with heap := h', toks := tk }) :
    codeAny (model Pg w) A (.call (.builtin "set.__init__") ⟨[.ref S, .ref T], []⟩) R s := by
  refine codeAny_call_builtin F.called_set.init.plain F.entry_set_init (check_set_init_1 ⟨_, hS, rfl⟩ ?_)
  have h1 := tuple_no_set
  have h2 := tuple_no_frozenset
  have h3 : (Value.type "tuple" == Value.type "dict") = false := by decide
  obtain ⟨⟨oc, od, oda, osl⟩, ho, rfl, n, rfl⟩ := hT
  unfold Builtin.«set.__init__» noKeywords Builtin.Frozenset.updateFrom
  generalize hP : pyIter = P
  wp_walk
  subst hP
  have hTt : s.heap.IsTuple T #[.str a t, .str b u] := ⟨_, ho, rfl, n, rfl⟩
  refine wpAny_pyIter_tuple hTt (wpAny_bind (wpAny_runValue ?_))
  have up : ∀ b o, s.heap.get? b = some o → (s.heap.push { cls := .type "tuple_iterator", data := .fields #[.ref T, .int 0 0] }).get? b = some o := fun b o e => Heap.get?_push_of_some _ e
  refine set_fill (by simp [hh]) (Nat.ne_of_lt (Heap.lt_size hS)) hST (Nat.ne_of_lt (Heap.lt_size ho)) ⟨_, Heap.get?_push_size _ rfl, rfl, rfl⟩ (hTt.push _) (up _ _ hS) fun σ h' tk hσ k => ?_
  exact wpAny_pure (wpAny_pure (h σ h' tk hσ fun b o hb e => k b o hb (Nat.ne_of_lt (Heap.lt_size e)) (up b o e)))
set_option maxHeartbeats 3200000 in
/-- set of a tuple of two texts -/
theorem call_set_two {T : Addr} {a b : Str} {t u : Tok} {Q : Value → Shared → Prop} (hh : A.handled = none) (hT : s.heap.IsTuple T #[.str a t, .str b u])
    (h : ∀ σ h' tk, h'.SetOf (strKind Pg w) s.heap.objs.size σ (if a = b then 1 else 2) → (∀ b o, s.heap.get? b = some o → h'.get? b = some o) → Q (.ref s.heap.objs.size) { s with heap := h', toks := tk }) :
    wpAny (model Pg w) A (call (.type "set") [.ref T]) Q E s := by
  obtain ⟨c, tl, hmro⟩ := F.called_set.mro
  have m1 := F.called_set.made
  have m2 := F.called_set.sub
  have m3 := F.called_set.notType
  have m4 := F.called_set.canCreate
  have m5 := F.typeCall_set_1 (.ref T)
  refine wpAny_call (codeAny_of_tree (wpAny_pure ⟨Code.quiet_builtin _ (by decide +kernel), codeAny_builtin F.entry_type_call ?_⟩))
  rw [Around.under_plain (weight_type_call_type "set" [.ref T] []) rfl]
  repeat (any_goals (first | assumption | wp_step))
  have hS : ∀ led, (s.heap.push (emptySet led)).get? s.heap.objs.size = some (emptySet led) := fun _ => Heap.get?_push_size _ rfl
  refine codeAny_mono (code_set_new_1 (.ref T) (E := E) (Q₁ := fun obj s₁ => ∃ led, obj = .ref s.heap.objs.size ∧ s₁ = { s with heap := s.heap.push (emptySet led) }) fun led => ⟨led, rfl, rfl⟩) fun r s₁ hr => ?_
  rcases r with e | (_ | _ | _ | v)
  · exact hr
  iterate 3 exact hr.elim
  obtain ⟨led, rfl, rfl⟩ := hr
  refine wpAny_bind (wpAny_isInstance ⟨_, hS led, rfl⟩ m2 (wpAny_bind (wpAny_holding (wpAny_callSpecial?_slot ⟨_, hS led, rfl⟩ F.called_set.init (wpAny_call ?_)))))
  have hTt : (s.heap.push (emptySet led)).IsTuple T #[.str a t, .str b u] := hT.push _
  have hne : s.heap.objs.size ≠ T := by obtain ⟨o, ho, _⟩ := hT; exact Nat.ne_of_gt (Heap.lt_size ho)
  refine set_init_two (by simp [hh]) (hS led) hne hTt fun σ h' tk hσ k => wpAny_pure ?_
  exact h σ h' tk hσ fun b o e => k b o (Nat.ne_of_lt (Heap.lt_size e)) (Heap.get?_push_of_some _ e)
end

end St

section C1
def lawAt (ns : List Int) (k d : Int) : Int := if k < ns.length then ns.getD k.toNat 0 else d
theorem at_spec {w : World} {A : Around} {E : Value → Shared → Prop} {s : Shared} {Q : Value → Shared → Prop} {l : Addr} {vs : List Value} {ns : List Int} {k d : Int} {tk td : Tok}
    (G : Gd w s) (hA : A.depth + 2 < recursionLimit) (hl : s.heap.IsList l vs.toArray) (hi : IntsAre vs ns) (h0 : 0 ≤ k) (hn : ns.length ≤ 63)
    (h : ∀ s' t, Eff s s' → Q (.int (lawAt ns k d) t) s') : wpAny (model Pg w) A (call (.ref 216) [.ref l, .int k tk, .int d td]) Q E s := by
  refine wpAny_call (enter (binds := [("script", .ref l), ("k", .int k tk), ("other", .int d td)]) G (by omega) (by rfl) (by kernel_rfl) rfl rfl rfl rfl rfl rfl rfl rfl ?_)
  intro env V hcode s₁ B
  dsimp only at V hcode B
  have hl₁ := G.lst hl B.end
  have e1 := B.end
  have hle := hi.length
  refine wpAny_execs_cons ?_
  refine wpAny_Return_some ?_
  walk1; walk1; walk1; walk1; walk1; walk1; walk1; walk1; walk1
  refine call_len_list hl₁ (by rw [List.size_toArray, hle]; omega) ?_
  walk1; walk1
  by_cases hk : k < (ns.length : Int)
  · rw [if_pos (by rw [List.size_toArray, hle]; simpa using hk)]
    walk1; walk1; walk1
    obtain ⟨t, ht⟩ := hi.get k.toNat (ns.getD k.toNat 0) (by rw [List.getD_eq_getElem?_getD, List.getElem?_eq_getElem (by omega)]; rfl)
    refine tail_any hl₁.typeIs slot_list_getitem.lookup (wpAny_getItem_list hl₁ h0 (by omega) (by simpa using ht) ?_) (by with_unfolding_all rfl)
    have := h _ t (e1.trans (Eff.toks (tk := s₁.toks + 1 + 1)))
    rw [lawAt, if_pos hk] at this
    exact this
  · rw [if_neg (by rw [List.size_toArray, hle]; simpa using hk)]
    walk1
    have := h _ td (e1.trans (Eff.toks (tk := s₁.toks + 1 + 1)))
    rw [lawAt, if_neg hk] at this
    exact this

end C1

section C2
def isWord (y : Str) : Prop := y.cps.size ≤ 8 ∧ ∀ c ∈ y.cps.toList, 65 ≤ c ∧ c ≤ 90
theorem word_spec {w : World} {A : Around} {E : Value → Shared → Prop} {s : Shared} {Q : Value → Shared → Prop} {l : Addr} {vs : List Value} {ns : List Int} {k d : Int} {t1 t2 t3 t4 : Tok}
    (G : Gd w s) (hh : A.handled = none) (hA : A.depth + 4 < recursionLimit) (hl : s.heap.IsList l vs.toArray) (hi : IntsAre vs ns) (hn : ns.length ≤ 63) (h0 : 0 ≤ k) (hk : k ≤ 9)
    (h : ∀ s' t y, Eff s s' → isWord y → Q (.str y t) s') : wpAny (model Pg w) A (call (.ref 221) [.ref l, .int k t1, .int 8 t2, .str "ABBELLNSIOUTY" t3, .int d t4]) Q E s := by
  refine wpAny_call (enter (binds := [("script", .ref l), ("start", .int k t1), ("most", .int 8 t2), ("letters", .str "ABBELLNSIOUTY" t3), ("other", .int d t4)]) G (by omega) (by rfl) (by kernel_rfl) rfl rfl rfl rfl rfl rfl rfl rfl ?_)
  intro env V hcode s₁ B
  dsimp only at V hcode B
  have hl₁ := G.lst hl B.end
  refine wpAny_execs_cons ?_
  walk1; walk1; walk1; walk1
  refine callF (by rfl) ?_
  walk1; walk1; walk1; walk1; walk1; walk1; walk1
  refine ⟨B.G, at_spec B.G (by show A.depth + 1 + 2 < _; omega) hl₁ hi h0 hn fun s2 t5 e2 => ?_⟩
  have B2 := B.eff e2
  walk1; walk1; walk1; walk1; walk1
  refine Bd'.st (by exact B2) V (by rfl) fun s3 B3 o3 => ?_
  have hl3 : s3.heap.IsList l vs.toArray := G.lst hl B3.end
  generalize hm : (lawAt ns k d).fmod (8 + 1) = many at B3
  have hm0 : 0 ≤ many ∧ many ≤ 8 := by
    have h1 := Int.fmod_nonneg_of_pos (lawAt ns k d) (b := 8 + 1) (by omega)
    have h2 := Int.fmod_lt_of_pos (lawAt ns k d) (b := 8 + 1) (by omega)
    omega
  walk1; walk1; walk1; walk1; walk1
  dsimp only
  walk1; walk1
  refine listComp (by exact B3) V (cl := [("start", env.locals + 1 + 1), ("script", env.locals + 1), ("other", env.locals + 1 + 1 + 1 + 1), ("letters", env.locals + 1 + 1 + 1)]) ⟨rfl, rfl, rfl, rfl, trivial⟩
    (by unfold closureFor cellOf; rw [V.c]; rfl) (by decide) rfl (by decide) (fun _ => rfl) ?_
  walk1; walk1; walk1; walk1; walk1
  walk1
  refine call_range_1 ?_
  refine compRange (fun _ => true) (fun i v d => d = none ∧ ∃ c t, v = .str (sg c) t ∧ (65 ≤ c ∧ c ≤ 90)) (n := many.toNat) B3 (.of fun _ _ q => Heap.get?_push_of_some _ q) hh rfl (Heap.get?_push_size _ rfl)
    (small_one (by omega) (by omega) (by omega) (by omega)) (by rw [rangeSize_nat]; congr 2; omega) (by rw [PySem.sizeLine_eq]; omega) ?_ ?_ ?_
  · intro i t cenv m s₃ E' hi hm hV hR ex
    exact wpAny_tests_nil ⟨rfl, .refl _⟩
  · intro i t cenv m s₄ E' hi2 hm _ hV hR ex
    have hl4 := Gd'.lst (s := { s3 with toks := s3.toks + 1 }) B3.G hl3 ex
    walk1; walk1; walk1; walk1; walk1
    refine callF (by rfl) ?_
    walk1; walk1; walk1; walk1; walk1; walk1; walk1; walk1; walk1; walk1; walk1; walk1; walk1; walk1
    walk1; walk1
    have hi3 : (i : Int) * (i : Int) ≤ 64 := by
      have h1 : (i : Int) ≤ 8 := by omega
      have h2 : (0 : Int) ≤ i := by omega
      calc (i : Int) * i ≤ 8 * 8 := Int.mul_le_mul h1 h1 h2 (by omega)
        _ = 64 := rfl
    refine PyProof.Rows.mul_int ?_ ?mm
    case mm => exact IntMulOk.of_left (PySem.intBits_le_64 (by omega) (by omega))
    walk1; walk1
    refine ⟨hR.G, at_spec hR.G (by show A.depth + 1 + 2 < _; omega) hl4 hi (by omega) hn fun s5 t6 e5 => ?_⟩
    have hR5 := hR.eff ((Eff.toks (s := s₄)).trans e5)
    walk1; walk1; walk1; walk1; walk1
    walk1
    refine lenStr ?y1 fun t7 k7 => ?_
    case y1 => rw [letters_tx]; decide
    refine modInt ?y2 fun t8 k8 => ?_
    case y2 => rw [letters_tx]; decide
    generalize hx : (lawAt ns (k + 1 + i) (d + i * i)).fmod _ = x
    have hx0 : 0 ≤ x ∧ x < 13 := by
      rw [letters_tx] at hx
      have h1 := Int.fmod_nonneg_of_pos (lawAt ns (k + 1 + i) (d + i * i)) (b := 13) (by omega)
      have h2 := Int.fmod_lt_of_pos (lawAt ns (k + 1 + i) (d + i * i)) (b := 13) (by omega)
      rw [← hx]
      exact ⟨h1, h2⟩
    obtain ⟨n, rfl⟩ := Int.eq_ofNat_of_zero_le hx0.1
    have hn13 : n < 13 := by omega
    have hq : ∃ c, (Str.ofString "ABBELLNSIOUTY").cps[n]? = some c ∧ 65 ≤ c ∧ c ≤ 90 := by
      rw [letters_tx]
      clear hx hx0
      revert n hn13
      decide
    obtain ⟨c, hc, hc2⟩ := hq
    refine itemStr hx0.1 (by omega) hc fun t9 k9 => ?_
    exact ⟨((Eff.toks (s := s₄)).trans e5).trans Eff.toks, none, ⟨rfl, c, _, rfl, hc2⟩, trivial, fun h => absurd rfl h⟩
  · intro D ys s' ex hD hDs hP
    have hP' := paired_mono hP (F' := fun i v => ∃ c t, v = .str (sg c) t ∧ (65 ≤ c ∧ c ≤ 90)) fun a b ⟨d, hd, _⟩ => hd.2
    obtain ⟨ls, hls, hpl⟩ := paired_signs hP'
    have hlen := paired_len hpl
    walk1
    have hl16 : ls.length ≤ 8 := by
      rw [hlen]
      have := List.length_filter_le (fun _ => true) (List.range many.toNat)
      rw [List.length_range] at this
      omega
    refine join_list (ys := ls.map sg) ⟨_, hDs, rfl, _, rfl⟩ (by simpa using hls) ?_ fun t' k' => ?_
    · have e1 : (List.map (fun x => x.length) (List.map sg ls)).sum = ls.length := by
        clear hls hpl hlen hl16
        induction ls with
        | nil => rfl
        | cons c r ih => simp only [List.map_cons, List.sum_cons, ih, List.length_cons]; show 1 + _ = _; omega
      rw [e1, List.length_map, empty_tx]
      show ls.length + ls.length * 0 ≤ _
      omega
    · rw [join_tx]
      refine h _ t' _ ((B3.end.trans (Eff.toks (tk := s3.toks + 1))).trans (ex.trans Eff.toks)) ⟨?_, fun c hc => ?_⟩
      · show ls.toArray.size ≤ 8; rw [List.size_toArray]; exact hl16
      · exact paired_all hpl (p := fun c => 65 ≤ c ∧ c ≤ 90) (fun _ _ h => h) c (by simpa using hc)

end C2

section C3
theorem lawcode_spec {w : World} {A : Around} {E : Value → Shared → Prop} {s : Shared} {Q : Value → Shared → Prop} {W : List Nat} {t1 : Tok}
    (G : Gd w s) (hh : A.handled = none) (hA : A.depth + 4 < recursionLimit) (hW : W ≠ []) (hL : ∀ c ∈ W, isLet c) (hn : W.length ≤ 1000)
    (h : ∀ s' t, Eff s s' → Q (.str (tx (code W)) t) s') : wpAny (model Pg w) A (call (.ref 226) [.str (tx W) t1]) Q E s := by
  refine wpAny_call (enter (binds := [("word", .str (tx W) t1)]) G (by omega) (by rfl) (by kernel_rfl) rfl rfl rfl rfl rfl rfl rfl rfl ?_)
  intro env V hcode s₁ B
  dsimp only at V hcode B
  refine wpAny_execs_cons ?_
  walk1; walk1; walk1; walk1; walk1
  refine upperTx hL (by omega) fun t2 k2 => ?_
  refine Bd'.st (by exact B) V (by rfl) fun s2 B2 o2 => ?_
  obtain ⟨c₀, r₀, rfl⟩ : ∃ c r, W = c :: r := by cases W with | nil => exact absurd rfl hW | cons c r => exact ⟨c, r, rfl⟩
  refine wpAny_execs_cons ?_
  walk1; walk1; walk1; walk1; walk1
  refine itemStr (c := up c₀) (by omega) (by omega) rfl fun t3 k3 => ?_
  walk1; walk1; walk1; walk1; walk1
  refine listComp (by exact B2) V (cl := []) trivial (by unfold closureFor cellOf; rw [V.c]; rfl) (by decide) rfl (by decide) (fun _ => rfl) ?_
  refine sliceStr ?_
  walk1
  rw [evalPart_some]
  walk1
  rw [evalPart_none]
  refine wpAny_pure ⟨_, t2, some (1, _), none, _, rfl, rfl, rfl, by show (List.map up (c₀ :: r₀)).toArray.size ≤ _; simp at hn ⊢; omega, slice_drop1 (up c₀) (r₀.map up), fun s3 t4 e3 => ?_⟩
  have e3' := (Eff.toks (s := s2)).trans e3
  refine compStr (fun i => !vow ((r₀.map up).getD i 0)) (fun i v d => d = none ∧ ∃ c t, v = .str (sg c) t ∧ c = (r₀.map up).getD i 0) B2 e3 hh rfl ?_ ?_ ?_ ?_
  · show (List.map up r₀).toArray.size ≤ _; rw [PySem.sizeLine_eq]; simp at hn ⊢; omega
  · intro i c t cenv m s₃ E' hc hm hV hR ex
    refine wpAny_tests_one ?_
    walk1; walk1; walk1
    refine notInVowels (wpAny_truthy_bool ⟨?_, Eff.toks⟩)
    rw [cps_getD hc]
  · intro i c t cenv m s₃ E' hc hm _ hV hR ex
    walk1
    exact ⟨.refl _, none, ⟨rfl, c, t, rfl, (cps_getD hc).symm⟩, trivial, fun q => absurd rfl q⟩
  intro D ys s4 e4 _ hD hP
  have B4 := B2.eff e4
  have hys := signs_made hP
  rw [show ((List.range (tx (List.map up r₀)).cps.size).filter fun i => !vow ((List.map up r₀).getD i 0)).map (fun i => (List.map up r₀).getD i 0) = (r₀.map up).filter fun x => !vow x from by
    rw [show (tx (List.map up r₀)).cps.size = (r₀.map up).length from by simp]; exact filter_places (r₀.map up) fun x => !vow x] at hys
  have hkl := kept_len (c₀ :: r₀)
  have hfl := List.length_filter_le (fun x => !vow x) (r₀.map up)
  rw [List.length_map] at hfl
  rw [List.length_cons] at hn
  walk1
  refine joinTx hD hys (by omega) fun t5 k5 => ?_
  refine addTx (a := [up c₀]) (by rw [List.length_singleton]; omega) fun t6 k6 => ?_
  rw [show [up c₀] ++ (r₀.map up).filter (fun x => !vow x) = kept (c₀ :: r₀) from rfl]
  generalize hK : kept (c₀ :: r₀) = K at *
  have hKn : K.length ≤ 1000 := by rw [List.length_cons] at hkl; omega
  refine Bd'.stC (by exact B4) V (by rfl) (by rfl) fun s5 B5 o5 => ?_
  refine wpAny_execs_cons ?_
  walk1; walk1; walk1; walk1; walk1; walk1
  refine listComp (by exact B5) V (cl := [("kept", env.locals + 1)]) ⟨rfl, trivial⟩ (by unfold closureFor cellOf; rw [V.c]; rfl) (by decide) rfl (by decide) (fun _ => rfl) ?_
  walk1; walk1; walk1; walk1; walk1
  walk1
  refine compEnum (fun i => i == 0 || !(K.getD (i - 1) 0 == K.getD i 0)) (fun i v d => d = none ∧ ∃ c t, v = .str (sg c) t ∧ c = K.getD i 0) B5 (.refl _) hh rfl rfl (by decide) ?_ ?_ ?_ ?_
  · show K.toArray.size ≤ _; rw [PySem.sizeLine_eq, List.size_toArray]; omega
  · intro i c u t cenv m s₃ E' hc hm1 hm2 hV hR ex
    refine wpAny_tests_one ?_
    walk1; walk1; walk1; walk1; walk1
    refine wpAny_truthy_bool ?_
    cases hi0 : ((i : Int) == 0) with
    | true =>
      rw [if_pos rfl]
      have : i = 0 := by simpa using hi0
      subst this
      exact ⟨rfl, Eff.toks⟩
    | false =>
      rw [if_neg Bool.false_ne_true]
      have hi1 : i ≠ 0 := by simpa using hi0
      have hci := cps_lt hc
      walk1; walk1; walk1; walk1; walk1; walk1; walk1; walk1
      refine itemStr (c := K.getD (i - 1) 0) (by omega) (by omega) (by rw [show ((i : Int) - 1).toNat = i - 1 by omega]; exact cps_get (by omega)) fun t9 k9 => ?_
      walk1
      refine neSg (wpAny_truthy_bool ?_)
      rw [cps_getD hc]
      have hi2 : (i == 0) = false := by simpa using hi1
      rw [hi2]
      cases hz : (K.getD (i - 1) 0 == c) with
      | true =>
        rw [if_neg (by decide)]
        walk1
        exact ⟨rfl, Eff.toks⟩
      | false => exact ⟨rfl, Eff.toks⟩
  · intro i c u t cenv m s₃ E' hc hm1 hm2 _ hV hR ex
    walk1
    exact ⟨.refl _, none, ⟨rfl, c, t, rfl, (cps_getD hc).symm⟩, trivial, fun q => absurd rfl q⟩
  intro D' ys' s6 e6 _ hD' hP'
  have B6 := B5.eff e6
  have hys' := signs_made hP'
  rw [show ((List.range (tx K).cps.size).filter fun i => i == 0 || !(K.getD (i - 1) 0 == K.getD i 0)).map (fun i => K.getD i 0) = dd K from by
    rw [show (tx K).cps.size = K.length from by simp]; exact dd_places K] at hys'
  have hdl := dd_len K
  walk1
  refine joinTx hD' hys' (by omega) fun t7 k7 => ?_
  generalize hS : dd K = S at *
  refine Bd'.st (by exact B6) V (by rfl) fun s7 B7 o7 => ?_
  refine wpAny_execs_cons ?_
  walk1; walk1; walk1; walk1; walk1; walk1; walk1; walk1; walk1
  refine lenStr (by show S.toArray.size < _; rw [List.size_toArray]; omega) fun t8 k8 => ?_
  walk1; walk1
  refine wpAny_truthy_bool ?_
  have hsz : (tx S).cps.size = S.length := by simp
  rw [hsz]
  have hcode : code (c₀ :: r₀) = shrink S := by unfold code; rw [hK, hS]
  rw [hcode] at h
  unfold shrink at h
  by_cases h6 : S.length > 6
  · rw [if_pos (decide_eq_true (by omega))]
    rw [if_pos h6] at h
    walk1
    refine sliceStr ?_
    walk1
    rw [evalPart_none, evalPart_some]
    refine wpAny_pure ?_
    walk1
    refine ⟨_, t7, none, some (3, _), _, rfl, rfl, rfl, by show S.toArray.size ≤ _; rw [List.size_toArray]; omega, slice_take3 (by omega), fun s8 t10 e8 => ?_⟩
    have B8 := B7.eff ((Eff.toks (s := s7)).trans e8)
    refine sliceStr ?_
    walk1
    rw [evalPart_some]
    walk1; walk1; walk1
    rw [evalPart_none]
    refine wpAny_pure ?_
    refine ⟨_, t7, some (-3, _), none, _, rfl, rfl, rfl, by show S.toArray.size ≤ _; rw [List.size_toArray]; omega, slice_last3 (by omega), fun s9 t11 e9 => ?_⟩
    have B9 := B8.eff ((Eff.toks (s := s8)).trans e9)
    refine addTx (by rw [List.length_take, List.length_drop]; omega) fun t12 k12 => ?_
    exact h _ _ (B9.end.trans Eff.toks)
  · rw [if_neg (by rw [decide_eq_true_eq]; omega)]
    rw [if_neg h6] at h
    walk1
    exact h _ _ (B7.end.trans Eff.toks)

end C3

section C4
theorem mra_spec {w : World} {A : Around} {E : Value → Shared → Prop} {s : Shared} {Q : Value → Shared → Prop} {W : List Nat} {v : Value} {t1 : Tok}
    (G : Gd w s) (hh : A.handled = none) (hA : A.depth + 4 < recursionLimit) (hL : ∀ c ∈ W, isLet c) (hn : W.length ≤ 1000)
    (h : ∀ s' t, Eff s s' → Q (.str (tx (code W)) t) s') : wpAny (model Pg w) A (call (.ref 199) [v, .str (tx W) t1]) Q E s := by
  refine wpAny_call (enter (binds := [("self", v), ("word", .str (tx W) t1)]) G (by omega) (by rfl) (by kernel_rfl) rfl rfl rfl rfl rfl rfl rfl rfl ?_)
  intro env V hcode s₁ B
  dsimp only at V hcode B
  refine wpAny_execs_cons ?_
  walk1; walk1; walk1; walk1
  have hx0 : (tx W).length = W.length := by show W.toArray.size = _; simp
  refine P.truthy_str (by rw [hx0]; omega) ?_
  rw [hx0]
  by_cases hW : W = []
  · subst hW
    rw [if_pos (by decide)]
    walk1
    walk1
    walk1
    exact h _ _ (B.end.trans Eff.toks)
  obtain ⟨c₀, r₀, rfl⟩ : ∃ c r, W = c :: r := by cases W with | nil => exact absurd rfl hW | cons c r => exact ⟨c, r, rfl⟩
  rw [List.length_cons, if_neg (by rw [show (((r₀.length + 1 : Nat) : Int) != 0) = true from by rw [bne_iff_ne]; omega]; decide)]
  walk1
  refine wpAny_execs_cons ?_
  walk1; walk1; walk1; walk1; walk1
  refine upperTx hL (by omega) fun t2 k2 => ?_
  refine Bd'.stC (by exact B) V (by rfl) (by rfl) fun s2 B2 o2 => ?_
  refine wpAny_execs_cons ?_
  walk1; walk1; walk1; walk1; walk1
  refine itemStr (c := up c₀) (by omega) (by omega) rfl fun t3 k3 => ?_
  walk1; walk1; walk1; walk1; walk1
  refine genStr (by exact B2) V hcode (cl := []) trivial hh rfl (by unfold closureFor cellOf; rw [V.c]; rfl) (by decide) rfl rfl rfl (by show A.depth + 1 < _; omega) ?_ (fun _ => rfl)
  refine sliceStr ?_
  walk1
  rw [evalPart_some]
  walk1
  rw [evalPart_none]
  refine wpAny_pure ⟨_, t2, some (1, _), none, _, rfl, rfl, rfl, by show (List.map up (c₀ :: r₀)).toArray.size ≤ _; simp at hn ⊢; omega, slice_drop1 (up c₀) (r₀.map up), fun s3 t4 e3 => ?_⟩
  have e3' := (Eff.toks (s := s2)).trans e3
  refine ⟨_, _, rfl, e3', fun i => !vow ((r₀.map up).getD i 0), fun i v => ∃ t, v = .str (sg ((r₀.map up).getD i 0)) t, ?_, ?_, ?_⟩
  · intro A' E' i c t cenv m s₃ hA' hc hm V' hns hcl
    refine wpAny_tests_one ?_
    walk1; walk1; walk1
    refine notInVowels (wpAny_truthy_bool ⟨?_, _, _, rfl, fun _ _ e => e⟩)
    show _ = !vow ((List.map up r₀).getD i 0)
    rw [cps_getD hc]
  · intro A' E' i c t cenv m s₃ hA' hc hm _ V' hns hcl
    walk1
    exact ⟨⟨t, by rw [cps_getD hc]⟩, _, _, rfl, fun _ _ e => e⟩
  intro a s4 e4 hg
  walk1
  have hfl := List.length_filter_le (fun x => !vow x) (r₀.map up)
  rw [List.length_map] at hfl
  rw [List.length_cons] at hn
  refine joinGn e4 hg (f := fun i => (r₀.map up).getD i 0) (fun i v h => h) (by show (List.map up r₀).toArray.size ≤ _; simp; omega) fun s5 t5 e5 => ?_
  rw [show ((List.range (tx (List.map up r₀)).cps.size).filter fun i => !vow ((List.map up r₀).getD i 0)).map (fun i => (List.map up r₀).getD i 0) = (r₀.map up).filter fun x => !vow x from by
    rw [show (tx (List.map up r₀)).cps.size = (r₀.map up).length from by simp]; exact filter_places (r₀.map up) fun x => !vow x]
  refine addTx (a := [up c₀]) (by rw [List.length_singleton]; omega) fun t6 k6 => ?_
  have hkl := kept_len (c₀ :: r₀)
  rw [List.length_cons] at hkl
  rw [show [up c₀] ++ (r₀.map up).filter (fun x => !vow x) = kept (c₀ :: r₀) from rfl]
  generalize hK : kept (c₀ :: r₀) = K at *
  have hKn : K.length ≤ 1000 := by omega
  have B5 := B2.eff ((Eff.toks (s := s2)).trans e5)
  refine Bd'.stC (by exact B5) V (by rfl) (by rfl) fun s6 B6 o6 => ?_
  refine wpAny_execs_cons ?_
  walk1; walk1; walk1; walk1; walk1; walk1
  refine genEnum (by exact B6) V hcode (cl := [("word", env.locals + 1)]) ⟨rfl, trivial⟩ hh rfl (by unfold closureFor cellOf; rw [V.c]; rfl) (by decide) rfl rfl rfl (by decide) rfl (by show A.depth + 1 < _; omega) ?_ (fun _ => rfl)
  walk1; walk1; walk1; walk1; walk1; walk1
  refine enumStr B6.G Eff.toks fun ev s7 hev => ?_
  refine ⟨_, _, hev, fun i => i == 0 || !(K.getD (i - 1) 0 == K.getD i 0), fun i v => ∃ t, v = .str (sg (K.getD i 0)) t, ?_, ?_, ?_⟩
  · intro A' E' i c u t cenv m s₃ hA' hc hm1 hm2 V' hns hcl
    refine wpAny_tests_one ?_
    walk1; walk1; walk1; walk1; walk1
    refine wpAny_truthy_bool ?_
    cases hi0 : ((i : Int) == 0) with
    | true =>
      rw [if_pos rfl]
      have : i = 0 := by simpa using hi0
      subst this
      exact ⟨rfl, _, _, rfl, fun _ _ e => e⟩
    | false =>
      rw [if_neg Bool.false_ne_true]
      have hi1 : i ≠ 0 := by simpa using hi0
      have hci := cps_lt hc
      walk1; walk1; walk1; walk1; walk1; walk1; walk1; walk1
      refine itemStr (c := K.getD (i - 1) 0) (by omega) (by omega) (by rw [show ((i : Int) - 1).toNat = i - 1 by omega]; exact cps_get (by omega)) fun t9 k9 => ?_
      walk1
      refine neSg (wpAny_truthy_bool ?_)
      have hi2 : (i == 0) = false := by simpa using hi1
      show if (!(K.getD (i - 1) 0 == c)) = true then _ = (i == 0 || !(K.getD (i - 1) 0 == K.getD i 0)) ∧ _ else _
      rw [cps_getD hc, hi2]
      cases hz : (K.getD (i - 1) 0 == c) with
      | true =>
        rw [if_neg (by decide)]
        walk1
        exact ⟨by show _ = (i == 0 || !(K.getD (i - 1) 0 == K.getD i 0)); rw [cps_getD hc, hi2, hz]; rfl, _, _, rfl, fun _ _ e => e⟩
      | false => exact ⟨rfl, _, _, rfl, fun _ _ e => e⟩
  · intro A' E' i c u t cenv m s₃ hA' hc hm1 hm2 _ V' hns hcl
    walk1
    exact ⟨⟨t, by rw [cps_getD hc]⟩, _, _, rfl, fun _ _ e => e⟩
  intro a' s8 e8 hg'
  walk1
  refine joinGn e8 hg' (f := fun i => K.getD i 0) (fun i v h => h) (by show K.toArray.size ≤ _; rw [List.size_toArray]; omega) fun s9 t9 e9 => ?_
  rw [show ((List.range (tx K).cps.size).filter fun i => i == 0 || !(K.getD (i - 1) 0 == K.getD i 0)).map (fun i => K.getD i 0) = dd K from by
    rw [show (tx K).cps.size = K.length from by simp]; exact dd_places K]
  have hdl := dd_len K
  generalize hS : dd K = S at *
  have B9 := B6.eff ((Eff.toks (s := s6)).trans e9)
  refine Bd'.stC (by exact B9) V (by rfl) (by rfl) fun sA BA oA => ?_
  refine wpAny_execs_cons ?_
  walk1; walk1; walk1; walk1; walk1; walk1; walk1; walk1
  refine lenStr (by show S.toArray.size < _; rw [List.size_toArray]; omega) fun tB kB => ?_
  walk1; walk1
  refine wpAny_truthy_bool ?_
  have hsz : (tx S).cps.size = S.length := by simp
  rw [hsz]
  have hcode : code (c₀ :: r₀) = shrink S := by unfold code; rw [hK, hS]
  rw [hcode] at h
  unfold shrink at h
  by_cases h6 : S.length > 6
  · rw [if_pos (decide_eq_true (by omega))]
    rw [if_pos h6] at h
    walk1; walk1; walk1
    refine sliceStr ?_
    walk1
    rw [evalPart_none, evalPart_some]
    refine wpAny_pure ?_
    walk1
    refine ⟨_, t9, none, some (3, _), _, rfl, rfl, rfl, by show S.toArray.size ≤ _; rw [List.size_toArray]; omega, slice_take3 (by omega), fun s8 t10 e8 => ?_⟩
    have B8 := BA.eff ((Eff.toks (s := sA)).trans e8)
    refine sliceStr ?_
    walk1
    rw [evalPart_some]
    walk1; walk1; walk1
    rw [evalPart_none]
    refine wpAny_pure ?_
    refine ⟨_, t9, some (-3, _), none, _, rfl, rfl, rfl, by show S.toArray.size ≤ _; rw [List.size_toArray]; omega, slice_last3 (by omega), fun s9 t11 e9 => ?_⟩
    have B9 := B8.eff ((Eff.toks (s := s8)).trans e9)
    refine addTx (by rw [List.length_take, List.length_drop]; omega) fun t12 k12 => ?_
    exact h _ _ (B9.end.trans Eff.toks)
  · rw [if_neg (by rw [decide_eq_true_eq]; omega)]
    rw [if_neg h6] at h
    walk1; walk1; walk1; walk1
    exact h _ _ (BA.end.trans Eff.toks)

end C4

section D2
theorem ident_spec {w : World} {A : Around} {E : Value → Shared → Prop} {s : Shared} {Q : Value → Shared → Prop} {a b : Nat} {t u : Tok}
    (G : Gd w s) (hh : A.handled = none) (hA : A.depth + 4 < recursionLimit)
    (h : ∀ s', Eff s s' → Q (.bool (a == b)) s') : wpAny (model Pg w) A (call (.ref 95) [.str (sg a) t, .str (sg b) u]) Q E s := by
  refine wpAny_call (enterV (vs := [.str (sg a) t, .str (sg b) u]) (binds := fun T => [("elements", T)]) G (by omega) (by rfl) (by kernel_rfl) rfl (by rfl) rfl rfl (fun _ => by rfl) (by rw [PySem.sizeLine_eq]; simp) rfl rfl rfl ?_)
  intro T env V hcode hTL s₁ B hT0 hT
  dsimp only at V hcode B
  refine wpAny_execs_cons ?_
  refine wpAny_Try_except ?_
  walk1; walk1; walk1; walk1; walk1; walk1; walk1; walk1
  walk1; walk1; walk1; walk1; walk1
  refine call_set_two hh ⟨_, hT, rfl, 0, rfl⟩ fun σ h' tk hS hk => ?_
  have e2 : Eff s₁ { s₁ with heap := h', toks := tk } := .of hk
  have B2 := B.eff e2
  walk1
  obtain ⟨so, hso, hex, es, ep, tb, hd, _, _, hn, hf⟩ := hS.objOf
  have hsz : es.size = if a = b then 1 else 2 := by
    rw [hn]
    by_cases e : a = b
    · rw [if_pos e, if_pos (by rw [e])]
    · rw [if_neg e, if_neg fun q => e (by simpa using q)]
  have hle : es.size ≤ 2 := by rw [hsz]; split <;> omega
  refine call_len_set hso hex hd hf (by omega) ?_
  walk1; walk1
  have e1 : (((es.size : Nat) : Int) == 1) = (a == b) := by
    rw [hsz]
    by_cases e : a = b
    · subst e; simp
    · have : (a == b) = false := by simpa using e
      rw [if_neg e, this]; rfl
  rw [e1]
  exact h _ (B2.end.trans Eff.toks)

end D2

section In
/-- an instance of MRA -/
def Inst (h : Heap) (p : Addr) : Prop := ∃ ox es n, InstAt h p ox 207 (some (dictOf es n)) ∧ ox.data = .plain ∧ ox.dict.isSome = true ∧ ∀ name ∈ (["_calc_mra", "maximum", "similarity", "distance", "_ident", "__call__"] : List Str), getL name es = some none
theorem Inst.eff {w : World} {s s' : Shared} {p : Addr} (G : Gd w s) (I : Inst s.heap p) (e : Eff s s') : Inst s'.heap p := by
  obtain ⟨ox, es, n, ⟨h1, h2, h3, h4⟩, r⟩ := I
  refine ⟨ox, es, n, ⟨e.keep p ox (G.ne h1 (by rw [h2]; exact fun q => nomatch q)) h1, h2, h3, ?_⟩, r⟩
  cases hd : ox.dict with
  | none => rw [hd] at h4; exact h4
  | some dx =>
    rw [hd] at h4
    exact e.keep dx _ (G.ne h4 (fun q => nomatch q)) h4
theorem instMeth {w : World} {A : Around} {E : Value → Shared → Prop} {s : Shared} {p f : Addr} {name : Str} {pl : Sem Bool} {Q : Value × List Value → Shared → Prop} (G : Gd w s) (I : Inst s.heap p)
    (hn : name ∈ (["_calc_mra", "maximum", "similarity", "distance", "_ident", "__call__"] : List Str)) (hf : findIn (KK w) (.ref 207) name = some (some (.ref f))) (ht : typeIn (KK w) (.ref f) = some (.type "function"))
    (h : Q (.ref f, [.ref p]) s) : wpAny (model Pg w) A (getMethod (.ref p) name pl) Q E s := by
  obtain ⟨ox, es, n, I, _, _, r⟩ := I
  exact method_fn (K := KK w) G.K I (by kernel_rfl) (by kernel_rfl) hf ht (by show (lookIn name (dictOf es n)).map _ = _; rw [lookIn_dict, r name hn]; rfl) h

section
variable {w : World} {A : Around} {E : Value → Shared → Prop} {s s₀ s₁ : Shared} {env : Env} {m₀ cm : Str → Option Value} {sc : Scope} {cs : List (Str × Addr)}
theorem compTup {elt : Expr} {x : Str} {px : Pos} {ifs : List Expr} {scope : Scope} {cl : List (Str × Addr)} {Q : Value → Shared → Prop} {l : Addr} {its : Array Value} (pz : Nat → Bool) (F : Nat → Value → Option (Array Value) → Prop)
    (G : Gd w s) (e : Eff s s₁) (hh : A.handled = none) (hl : s₁.heap.IsTuple l its) (hx : scope.names.lookup x = some .local) (hn : its.size ≤ 1000)
    (tests : ∀ i v cenv m s₃ E', its[i]? = some v → m x = some v → Ev cenv (rl scope sc) cl → Rd w cenv m cm s₃.heap s₃.gens → Eff s s₃ →
      wpAny (model Pg w) A (forIn ifs true fun c r => if r = true then do let ok ← isTrue c cenv (eval c cenv); pure (ForInStep.yield ok) else pure (ForInStep.yield r)) (fun ok s₄ => ok = pz i ∧ Eff s₃ s₄) E' s₃)
    (elts : ∀ i v cenv m s₃ E', its[i]? = some v → m x = some v → pz i = true → Ev cenv (rl scope sc) cl → Rd w cenv m cm s₃.heap s₃.gens → Eff s s₃ →
      wpAny (model Pg w) A (eval elt cenv) (fun y s₄ => Eff s₃ s₄ ∧ ∃ d, F i y d ∧ Holds1 s₄.heap y d ∧ (d ≠ none → ∀ a, y = .ref a → s₃.heap.get? a = none)) E' s₃)
    (fin : ∀ D ys s', Eff s s' → s.heap.get? D = none → s'.heap.get? D = some (lst ys) → Paired (ElemOk [D] s.heap s'.heap F) ((List.range its.size).filter pz) ys → Q (.ref D) s') :
    wpAny (model Pg w) A (pyIter (.ref l)) (CompSt w A s cm sc elt (.Name x px) ifs scope cl Q) E s₁ :=
  srcTup (x := x) (px := px) G e hh hl fun it s₂ S e2 => compOf pz F S (fun y hy => by rw [List.mem_singleton.mp hy]; exact hx) (by rw [PySem.sizeLine_eq]; omega)
    (fun i cenv m s₃ E' _ ⟨v, hv, hm⟩ hV hR ex => tests i v cenv m s₃ E' hv hm hV hR ex) (fun i cenv m sd s₃ E' _ ⟨v, hv, hm⟩ _ hpz hV hR ex => elts i v cenv m s₃ E' hv hm hpz hV hR ex) fin
theorem compLst {elt : Expr} {x : Str} {px : Pos} {ifs : List Expr} {scope : Scope} {cl : List (Str × Addr)} {Q : Value → Shared → Prop} {l : Addr} {its : Array Value} (pz : Nat → Bool) (F : Nat → Value → Option (Array Value) → Prop)
    (G : Gd w s) (e : Eff s s₁) (hh : A.handled = none) (hl : s₁.heap.IsList l its) (hx : scope.names.lookup x = some .local) (hn : its.size ≤ 1000)
    (tests : ∀ i v cenv m s₃ E', its[i]? = some v → m x = some v → Ev cenv (rl scope sc) cl → Rd w cenv m cm s₃.heap s₃.gens → Eff s s₃ →
      wpAny (model Pg w) A (forIn ifs true fun c r => if r = true then do let ok ← isTrue c cenv (eval c cenv); pure (ForInStep.yield ok) else pure (ForInStep.yield r)) (fun ok s₄ => ok = pz i ∧ Eff s₃ s₄) E' s₃)
    (elts : ∀ i v cenv m s₃ E', its[i]? = some v → m x = some v → pz i = true → Ev cenv (rl scope sc) cl → Rd w cenv m cm s₃.heap s₃.gens → Eff s s₃ →
      wpAny (model Pg w) A (eval elt cenv) (fun y s₄ => Eff s₃ s₄ ∧ ∃ d, F i y d ∧ Holds1 s₄.heap y d ∧ (d ≠ none → ∀ a, y = .ref a → s₃.heap.get? a = none)) E' s₃)
    (fin : ∀ D ys s', Eff s s' → s.heap.get? D = none → s'.heap.get? D = some (lst ys) → Paired (ElemOk [D] s.heap s'.heap F) ((List.range its.size).filter pz) ys → Q (.ref D) s') :
    wpAny (model Pg w) A (pyIter (.ref l)) (CompSt w A s cm sc elt (.Name x px) ifs scope cl Q) E s₁ :=
  srcList (x := x) (px := px) G e hh hl fun it s₂ S e2 => compOf pz F S (fun y hy => by rw [List.mem_singleton.mp hy]; exact hx) (by rw [PySem.sizeLine_eq]; omega)
    (fun i cenv m s₃ E' _ ⟨v, hv, hm⟩ hV hR ex => tests i v cenv m s₃ E' hv hm hV hR ex) (fun i cenv m sd s₃ E' _ ⟨v, hv, hm⟩ _ hpz hV hR ex => elts i v cenv m s₃ E' hv hm hpz hV hR ex) fin
end
theorem none_back {w : World} {s s' : Shared} (G : Gd w s) (e : Eff s s') {D : Addr} (h : s'.heap.get? D = none) : s.heap.get? D = none := by
  cases q : s.heap.get? D with
  | none => rfl
  | some o =>
    have hD : D ≠ 194 := fun x => by
      obtain ⟨ps, _, t⟩ := (G.eff e).tab
      rw [x, t] at h; cases h
    rw [e.keep D o hD q] at h; cases h
/-- a list of signs -/
def SL (h : Heap) (v : Value) (cs : List Nat) : Prop := ∃ l its, v = .ref l ∧ h.IsList l its ∧ StrsAre its.toList (cs.map sg)
theorem SL.eff {w : World} {s s' : Shared} {v : Value} {cs : List Nat} (G : Gd w s) (x : SL s.heap v cs) (e : Eff s s') : SL s'.heap v cs := let ⟨l, its, h1, h2, h3⟩ := x; ⟨l, its, h1, G.lst h2 e, h3⟩

section
variable {w : World} {A : Around} {E : Value → Shared → Prop} {s : Shared} {env : Env} {pos : Pos} {f : Value} {first : List Value} {Q : Value → Shared → Prop} {e : Expr} {rest : List Expr} {p : Pos}
theorem callM (G : Gd w s) (hk : keepIn (KK w) f = true) (h : wpAny (model Pg w) A (spliced (backTo pos (starEach (e :: rest) env))) (fun vs s₁ => Gd w s₁ ∧ wpAny (model Pg w) A (call f (first ++ vs)) Q E s₁) E s)
    (he : starEach (e :: rest) env = (false, eval e env) :: starEach rest env := by rfl) (hplain : (backTo pos (starEach rest env)).any (·.1) = false := by rfl) :
    wpAny (model Pg w) A (callWith pos f first (backTo pos (starEach (e :: rest) env)) []) Q E s :=
  callWith_K (K := KK w) G.K hk (wpAny_mono h (fun vs s₁ h₁ => ⟨h₁.1.K, h₁.2⟩) fun _ _ x => x) he hplain
/-- the items of a tuple or a list, laid out as arguments -/
theorem starSeq {a : Addr} {T : String} {its : Array Value} {ws : List Value} {Q : List Value → Shared → Prop} (hT : T = "list" ∨ T = "tuple") {o : Obj} {n : Nat} (ha : s.heap.get? a = some o) (hc : o.cls = .type T) (hd : o.data = .seq its n) (e : its.toList = ws) (hz : its.size ≤ 1000)
    (h : ∀ s', Eff s s' → Q ws s') : StarOf (model Pg w) A E (.ref a) Q s := by
  have hT' : s.TypeIs (.ref a) T := ⟨o, ha, hc⟩
  subst e
  have z : wpAny (model Pg w) A (collect (.ref a)) Q E s := by
    exact wpAny_collect_seq a hT ha hc hd (fun h' hk => h _ (.of hk)) (by rw [PySem.sizeLine_eq]; omega)
  unfold StarOf notIterableAtAll
  rcases hT with rfl | rfl
  · exact wpAny_bind (wpAny_specialOf hT' PySem.F.slot_list_iter.lookup (wpAny_pure ⟨rfl, z⟩))
  · exact wpAny_bind (wpAny_specialOf hT' PySem.F.slot_tuple_iter.lookup (wpAny_pure ⟨rfl, z⟩))
theorem callS (G : Gd w s) (hk : keepIn (KK w) f = true) (h : wpAny (model Pg w) A (eval e env) (fun v s₁ => StarOf (model Pg w) A E v (fun vs s₂ => Gd w s₂ ∧ wpAny (model Pg w) A (call f (first ++ vs)) Q E s₂) s₁) E s)
    (he : starEach [.Starred e p] env = [(true, eval e env)] := by rfl) :
    wpAny (model Pg w) A (callWith pos f first (backTo pos (starEach [.Starred e p] env)) []) Q E s := by
  rw [he]
  exact ks_call rfl (keeps_K (K := KK w) hk) (ks_lone (wpAny_mono h (fun v s₁ h₁ => by
    unfold StarOf at h₁ ⊢
    exact wpAny_mono h₁ (fun b s₂ h₂ => ⟨h₂.1, wpAny_mono h₂.2 (fun vs s₃ h₃ => ⟨h₃.1.K, h₃.2⟩) fun _ _ x => x⟩) fun _ _ x => x) fun _ _ x => x))
theorem callSzip (h : wpAny (model Pg w) A (eval e env) (fun v s₁ => StarOf (model Pg w) A E v (fun vs s₂ => wpAny (model Pg w) A (call (.type "zip") vs) Q E s₂) s₁) E s)
    (he : starEach [.Starred e p] env = [(true, eval e env)] := by rfl) :
    wpAny (model Pg w) A (callWith pos (.type "zip") [] (backTo pos (starEach [.Starred e p] env)) []) Q E s := by
  rw [he]
  refine ks_call (P := fun _ => True) rfl (fun h _ => ⟨.machine, .inr (.inl rfl), .now⟩) (ks_lone (wpAny_mono h (fun v s₁ h₁ => by
    unfold StarOf at h₁ ⊢
    exact wpAny_mono h₁ (fun b s₂ h₂ => ⟨h₂.1, wpAny_mono h₂.2 (fun vs s₃ h₃ => ⟨trivial, h₃⟩) fun _ _ x => x⟩) fun _ _ x => x) fun _ _ x => x))
/-- the instance itself, called with a star -/
theorem callSinst {x g : Addr} (hI : ∀ s', Eff s s' → Inst s'.heap x) (G : Gd w s) (h : wpAny (model Pg w) A (eval e env) (fun v s₁ => StarOf (model Pg w) A E v (fun vs s₂ => Eff s s₂ ∧ wpAny (model Pg w) A (call (.ref x) (first ++ vs)) Q E s₂) s₁) E s)
    (he : starEach [.Starred e p] env = [(true, eval e env)] := by rfl) :
    wpAny (model Pg w) A (callWith pos (.ref x) first (backTo pos (starEach [.Starred e p] env)) []) Q E s := by
  rw [he]
  unfold callWith
  refine wpAny_bind (wpAny_holding (wpAny_mono (ks_lone (Q := fun a s₁ => Eff s s₁ ∧ wpAny (model Pg w) A (call (.ref x) (first ++ a.pos) a.kw) Q E s₁) h) (fun a s₁ h₁ => wpAny_bind (wpAny_standAt ?_)) fun _ _ y => y))
  obtain ⟨ox, es, n, I, hd, _⟩ := hI s₁ h₁.1
  have L := kco_keeper (M := model Pg w) I hd
  have hst : (backTo pos [((true, eval e env) : Bool × Sem Value)]).any (·.1) = true := rfl
  simp only [hst, Bool.true_or]
  refine wpAny_bind (L.here ?_)
  dsimp only
  exact wpAny_bind (wpAny_mono (wpAny_operating h₁.2) (fun r s₂ hr => wpAny_bind (wpAny_holding (wpAny_point (wpAny_pure hr)))) fun _ _ y => y)
end

theorem strs_of : ∀ {vs : List Value} {cs : List Nat}, vs.length = cs.length → (∀ (j : Nat) (v : Value), vs[j]? = some v → ∃ c u, cs[j]? = some c ∧ v = Value.str (sg c) u) → StrsAre vs (cs.map sg)
  | [], [], _, _ => .nil
  | [], _ :: _, h, _ => by simp at h
  | _ :: _, [], h, _ => by simp at h
  | v :: vs, c :: cs, h, k => by
    obtain ⟨c', u, e1, e2⟩ := k 0 v rfl
    simp at e1; subst e1; subst e2
    exact .cons _ u (strs_of (by simpa using h) fun j v hv => by
      obtain ⟨c', u', e1, e2⟩ := k (j + 1) v (by simpa using hv)
      exact ⟨c', u', by simpa using e1, e2⟩)
theorem strs_get : ∀ {vs : List Value} {cs : List Nat}, StrsAre vs (cs.map sg) → ∀ (j : Nat) (v : Value), vs[j]? = some v → ∃ c u, cs[j]? = some c ∧ v = Value.str (sg c) u
  | _, [], .nil, j, v, h => by simp at h
  | _, c :: cs, .cons _ u r, 0, v, h => by simp at h; exact ⟨c, u, rfl, h.symm⟩
  | _, c :: cs, .cons _ u r, j + 1, v, h => by
    obtain ⟨c', u', e1, e2⟩ := strs_get r j v (by simpa using h)
    exact ⟨c', u', by simpa using e1, e2⟩
theorem strs_len {vs : List Value} {cs : List Nat} (h : StrsAre vs (cs.map sg)) : vs.length = cs.length := by
  have := h.length; simpa using this
section
variable {w : World} {A : Around} {E : Value → Shared → Prop} {s : Shared} {Q : Value → Shared → Prop}
theorem listStr {cs : List Nat} {t : Tok} (G : Gd w s) (hh : A.handled = none) (hn : cs.length ≤ 1000)
    (h : ∀ D acc c s', Eff s s' → s.heap.get? D = none → s'.heap.get? D = some { cls := .type "list", data := .seq acc c } → StrsAre acc.toList (cs.map sg) → Q (.ref D) s') : wpAny (model Pg w) A (call (.type "list") [.str (tx cs) t]) Q E s := by
  refine call_list_str hh _ _ (fun h' tk acc c kp hD hit => h _ acc c _ (.of kp) ?_ hD ?_) (by show cs.toArray.size ≤ _; rw [List.size_toArray, PySem.sizeLine_eq]; omega)
  · cases q : s.heap.get? s.heap.objs.size with
    | none => rfl
    | some o => exact absurd (Heap.lt_size q) (Nat.lt_irrefl _)
  · refine strs_of (by rw [Array.length_toList, hit.1]; simp) fun j v hv => ?_
    obtain ⟨c, u, e1, e2⟩ := hit.2 j v (by simpa using hv)
    exact ⟨c, u, by simpa using e1, e2⟩
theorem listTup {T : Addr} {its : Array Value} (ht : s.heap.IsTuple T its) (hn : its.size ≤ 1000)
    (h : ∀ D c s', Eff s s' → s.heap.get? D = none → s'.heap.get? D = some { cls := .type "list", data := .seq its c } → Q (.ref D) s') : wpAny (model Pg w) A (call (.type "list") [.ref T]) Q E s := by
  obtain ⟨o, ho, hc, n, hd⟩ := ht
  refine call_list_seq T (.inr rfl) ho hc hd (fun h' c kp hD => h _ c _ (.of kp) ?_ hD) (by rw [PySem.sizeLine_eq]; omega)
  cases q : s.heap.get? s.heap.objs.size with
  | none => rfl
  | some o => exact absurd (Heap.lt_size q) (Nat.lt_irrefl _)
end

abbrev SLF (f : Nat → List Nat) (i : Nat) (v : Value) (d : Option (Array Value)) : Prop := ∃ vs, d = some vs ∧ (∃ a, v = Value.ref a) ∧ StrsAre vs.toList ((f i).map sg)
theorem SL.of {off : List Addr} {g h : Heap} {f : Nat → List Nat} {i : Nat} {y : Value} (x : ElemOk off g h (SLF f) i y) : SL h y (f i) := by
  obtain ⟨d, ⟨vs, rfl, ⟨a, rfl⟩, hs⟩, ⟨a', n, e, hh⟩, _⟩ := x
  cases e
  exact ⟨a, vs, rfl, ⟨_, hh, rfl, n, rfl⟩, hs⟩
theorem twoLists {off : List Addr} {g h : Heap} {f : Nat → List Nat} {n : Nat} {ys : List Value} (hn : n = 2) (hP : Paired (ElemOk off g h (SLF f)) ((List.range n).filter fun _ => true) ys) : ∃ v0 v1, ys = [v0, v1] ∧ SL h v0 (f 0) ∧ SL h v1 (f 1) := by
  subst hn
  have e : (List.range 2).filter (fun _ => true) = [0, 1] := rfl
  rw [e] at hP
  cases hP with
  | cons h0 r => cases r with
    | cons h1 r => cases r with
      | nil => exact ⟨_, _, rfl, SL.of h0, SL.of h1⟩
/-- the lengths of two lists of signs -/
theorem lens2 {h : Heap} {v0 v1 : Value} {a b : List Nat} (h0 : SL h v0 a) (h1 : SL h v1 b) (ha : a.length ≤ 1000) (hb : b.length ≤ 1000) : LensAre h #[v0, v1] (fun i => if i = 0 then a.length else b.length) := fun j v hv => by
  obtain ⟨l, its, rfl, hl, hs⟩ := h0
  obtain ⟨l', its', rfl, hl', hs'⟩ := h1
  have e0 := strs_len hs
  have e1 := strs_len hs'
  rw [Array.length_toList] at e0 e1
  rcases j with _ | _ | j
  · simp at hv; subst hv; exact ⟨l, its, rfl, hl, by simp [e0], by omega⟩
  · simp at hv; subst hv; exact ⟨l', its', rfl, hl', by simp [e1], by omega⟩
  · simp at hv

theorem Bd'.newNe {w : World} {s₀ s : Shared} {env : Env} {m cm : Str → Option Value} (B : Bd w s₀ env m cm s) {D : Addr} (h : s.heap.get? D = none) : D ≠ env.locals := fun e => by
  obtain ⟨o, _, _, q, _⟩ := B.ns
  rw [e, q] at h; cases h
theorem list_ne_ns {h : Heap} {l L : Addr} {its : Array Value} {m : Str → Option Value} (x : h.IsList l its) (n : h.Ns L m) : l ≠ L := fun e => by
  obtain ⟨o, ho, _, k, hd⟩ := x
  obtain ⟨o', _, _, ho', hd', _⟩ := n
  rw [e, ho'] at ho; cases ho
  rw [hd'] at hd; cases hd
theorem SL.but {h h' : Heap} {L : Addr} {v : Value} {cs : List Nat} {m : Str → Option Value} (x : SL h v cs) (n : h.Ns L m) (k : ∀ b o, b ≠ L → h.get? b = some o → h'.get? b = some o) : SL h' v cs :=
  let ⟨l, its, h1, h2, h3⟩ := x; ⟨l, its, h1, list_at h2 fun o e => k l o (list_ne_ns h2 n) e, h3⟩

end In

section D1
theorem maximum_code {w : World} {A : Around} {E : Value → Shared → Prop} {s : Shared} {Q : Value → Shared → Prop} {p : Addr} {W1 W2 : List Nat} {t1 t2 : Tok}
    (G : Gd w s) (hh : A.handled = none) (hA : A.depth + 8 < recursionLimit) (I : Inst s.heap p) (hL1 : ∀ c ∈ W1, isLet c) (hn1 : W1.length ≤ 1000) (hL2 : ∀ c ∈ W2, isLet c) (hn2 : W2.length ≤ 1000)
    (h : ∀ s' t, Eff s s' → Q (.int ((max (code W1).length (code W2).length : Nat) : Int) t) s') : codeAny (model Pg w) A (.call (.ref 192) ⟨[.ref p, .str (tx W1) t1, .str (tx W2) t2], []⟩) (fun r s' => match r with | .ok (.ret v) => Q v s' | .ok _ => False | .error e => E e s') s := by
  refine (enterV (vs := [.str (tx W1) t1, .str (tx W2) t2]) (binds := fun T => [("self", .ref p), ("sequences", T)]) G (by omega) (by rfl) (by kernel_rfl) rfl (by rfl) rfl rfl (fun _ => by rfl) (by rw [PySem.sizeLine_eq]; simp) rfl rfl rfl ?_)
  intro T env V hcode hTL s₁ B hT0 hT
  dsimp only at V hcode B
  refine wpAny_execs_cons ?_
  refine assignComp (by exact B) V (cl := [("self", env.locals + 1)]) ⟨rfl, trivial⟩ (by unfold swapsWith Env.blockKind Env.kindOf; rw [V.sc]; rfl) (by rfl) rfl (by unfold closureFor cellOf; rw [V.c]; rfl) (by decide) rfl (by decide) (fun _ => rfl) ?_
  walk1
  have hTt : s₁.heap.IsTuple T #[.str (tx W1) t1, .str (tx W2) t2] := ⟨_, hT, rfl, 0, rfl⟩
  have I₁ := I.eff G B.end
  refine compTup (fun _ => true) (SLF fun i => code (if i = 0 then W1 else W2)) B.G (.refl _) hh hTt rfl (by simp) ?_ ?_ ?_
  · intro i v cenv m s₃ E' hv hm hVc hR ex
    exact wpAny_tests_nil ⟨rfl, .refl _⟩
  · intro i v cenv m s₃ E' hv hm _ hVc hR ex
    have hv' : ∃ W t, v = .str (tx W) t ∧ W = (if i = 0 then W1 else W2) ∧ (∀ c ∈ W, isLet c) ∧ W.length ≤ 1000 := by
      rcases i with _ | _ | i
      · simp at hv; exact ⟨W1, t1, hv.symm, rfl, hL1, hn1⟩
      · simp at hv; exact ⟨W2, t2, hv.symm, rfl, hL2, hn2⟩
      · simp at hv
    obtain ⟨W, t, rfl, hWi, hL, hn⟩ := hv'
    have I₃ := I₁.eff B.G ex
    walk1; walk1; walk1; walk1; walk1; walk1
    refine instMeth (f := 199) hR.G I₃ (by decide) (by kernel_rfl) (by kernel_rfl) ?_
    refine callM hR.G (by kernel_rfl) ?_
    walk1; walk1; walk1
    refine ⟨hR.G, mra_spec hR.G hh (by show A.depth + 1 + 4 < _; omega) hL hn fun s₄ t₄ e₄ => ?_⟩
    walk1
    have hcl := code_le W
    refine listStr (hR.G.eff e₄) hh (by omega) fun D acc c s₅ e₅ hD0 hD hst => ?_
    exact ⟨e₄.trans e₅, some acc, ⟨acc, rfl, ⟨D, rfl⟩, by show StrsAre _ ((code (if i = 0 then W1 else W2)).map sg); rw [← hWi]; exact hst⟩, ⟨D, c, rfl, hD⟩, fun _ a ha => by cases ha; exact none_back hR.G e₄ hD0⟩
  · intro D ys s₂ e2 hD0 hD hP h' tk B2 k2
    obtain ⟨v0, v1, rfl, hs0, hs1⟩ := twoLists (n := (#[.str (tx W1) t1, .str (tx W2) t2] : Array Value).size) rfl hP
    have Bs := B.eff e2
    have hD2 := k2 D _ (B.newNe hD0) hD
    have h0 := hs0.but Bs.ns k2
    have h1 := hs1.but Bs.ns k2
    walk1; walk1; walk1; walk1; walk1; walk1; walk1; walk1; walk1
    walk1; walk1; walk1; walk1; walk1
    refine mapCall B2.G (.refl _) (its := #[v0, v1]) ⟨_, hD2, rfl, _, rfl⟩ (lens2 h0 h1 (Nat.le_trans (code_le _) (by omega)) (Nat.le_trans (code_le _) (by omega))) fun v s₃ M => ?_
    walk1
    refine maxMap hh M rfl fun t s₄ e₄ => ?_
    exact h _ _ (B2.end.trans e₄)

end D1

section Hp
section
variable {w : World} {A : Around} {E : Value → Shared → Prop} {s : Shared}
/-- a list is lengthened in place -/
theorem iaddList {l b : Addr} {xs ys : Array Value} {n m : Nat} {Q : Value → Shared → Prop} (hl : s.heap.get? l = some { cls := .type "list", data := .seq xs n }) (hb : s.heap.get? b = some { cls := .type "list", data := .seq ys m }) (hx : xs.size ≤ 1000) (hy : ys.size ≤ 1000)
    (h : ∀ h' c, Heap.SameBut l s.heap h' → h'.get? l = some { cls := .type "list", data := .seq (xs ++ ys) c } → Q (.ref l) { s with heap := h' }) : wpAny (model Pg w) A (inplaceOp .Add (.ref l) (.ref b)) Q E s := by
  have ha : s.TypeIs (.ref l) "list" := ⟨_, hl, rfl⟩
  have hbT : s.TypeIs (.ref b) "list" := ⟨_, hb, rfl⟩
  unfold inplaceOp
  refine wpAny_holding ?_
  have hsq : isSeqSlot (some (.builtin "list.__iadd__")) = true := by decide +kernel
  have hfi : fillsInplaceSlot (.type "list") "add" (Operator.Add == .Add) = pure false := by
    unfold fillsInplaceSlot
    show (typeLookup (.type "list") (dunderI "add") >>= fun fi => pure (fi.isSome && !isSeqSlot fi)) = pure false
    rw [F.slot_list_iadd.lookup]
    show (pure (true && !isSeqSlot (some (.builtin "list.__iadd__"))) : Sem Bool) = _
    rw [hsq]; rfl
  have hsi : seqSlot? (.type "list") (dunderI "add") = pure (some (.builtin "list.__iadd__")) := PySem.seqSlot_of F.slot_list_iadd.lookup hsq
  refine wpAny_bind (wpAny_typeOf ha (wpAny_bind (wpAny_of_eq hfi ?_)))
  show wpAny _ A (if false = true then _ else _) Q E s
  rw [if_neg Bool.false_ne_true]
  refine wpAny_bind (wpAny_binaryOp1_none (nm := "add") ha hbT noFill_list_add ?_)
  refine wpAny_bind (wpAny_of_eq hsi ?_)
  refine wpAny_bind (wpAny_rule ?_)
  refine call_meets F.slot_list_iadd ha F.entry_list_iadd (F.args_list_iadd_2 _ _) (AutoSeq1.list___iadd___list_list_0 l xs n b ys m (by
      have : Builtin.List.listTooLong (xs.size + ys.size) = false := by
        unfold Builtin.List.listTooLong; rw [decide_eq_false_iff_not, PySem.sizeLine_eq]; omega
      rw [this]; simp) (by rw [PySem.sizeLine_eq]; omega) (by rw [PySem.sizeLine_eq]; omega)) ⟨hl, hb, ?_⟩
  exact h _ _ (Heap.SameBut.update ..) (Heap.get?_update_self _ hl rfl)

theorem newNone (s : Shared) : s.heap.get? s.heap.objs.size = none := by
  cases q : s.heap.get? s.heap.objs.size with
  | none => rfl
  | some o => exact absurd (Heap.lt_size q) (Nat.lt_irrefl _)
/-- the tail of a list of signs behind another one -/
theorem sl_tail {h : Heap} {l : Addr} {its : Array Value} {cs : List Nat} {k : Nat} (hs : StrsAre its.toList (cs.map sg)) : StrsAre (slicePick its (some (k : Int)) none none).toList ((cs.drop k).map sg) := by
  rw [slicePick_from']
  rw [List.map_drop]
  exact hs.drop' k
theorem addSL {l b : Addr} {xs ys : Array Value} {n m : Nat} {Q : Value → Shared → Prop} (hl : s.heap.get? l = some { cls := .type "list", data := .seq xs n }) (hb : s.heap.get? b = some { cls := .type "list", data := .seq ys m }) (hx : xs.size ≤ 1000) (hy : ys.size ≤ 1000)
    (h : ∀ D s', Eff s s' → s.heap.get? D = none → s'.heap.get? D = some { cls := .type "list", data := .seq (xs ++ ys) } → Q (.ref D) s') : wpAny (model Pg w) A (binaryOp .Add (.ref l) (.ref b)) Q E s :=
  P.add_list hl hb (h _ _ (.of fun _ _ e => Heap.get?_push_of_some _ e) (newNone s) (Heap.get?_push_size _ rfl)) (by rw [PySem.sizeLine_eq]; omega)

/-- all() asks a text of a tuple -/
theorem all_turn {I T : Addr} {its : Array Value} {i : Nat} {x : List Nat} {t : Tok} {R : Result → Shared → Prop} (hTI : T ≠ I) (hit : s.heap.IsTupleIter I T i) (hT : s.heap.IsTuple T its) (hx : its[i]? = some (.str (tx x) t)) (hn : x.length ≤ 1000)
    (more : x ≠ [] → ∀ h' tk, h'.IsTupleIter I T (i + 1) → h'.IsTuple T its → (∀ b o, b ≠ I → s.heap.get? b = some o → h'.get? b = some o) → codeAny (model Pg w) A (.builtin "all.loop" ⟨[.ref I], []⟩) R { s with heap := h', toks := tk })
    (stop : x = [] → ∀ h' tk, (∀ b o, b ≠ I → s.heap.get? b = some o → h'.get? b = some o) → R (.ok (.ret (.bool false))) { s with heap := h', toks := tk }) :
    codeAny (model Pg w) A (.builtin "all.loop" ⟨[.ref I], []⟩) R s := by
  have hlen : (tx x).length = x.length := by show x.toArray.size = _; simp
  refine codeAny_builtin F.entry_all_loop ?_
  rw [Around.under_plainId F.plain_all_loop _]
  refine wpAny_bind (wpAny_pyNext_tuple_item hit hT hx fun h1 hit1 hs1 => wpAny_bind (wpAny_holding (P.truthy_str (by rw [hlen]; omega) (wpAny_bind (wpAny_letGo ?_)))))
  rw [hlen]
  by_cases hx0 : x = []
  · subst hx0
    exact wpAny_bind (wpAny_rule (wpAny_pure (stop rfl h1 _ fun b o hb e => hs1.extBut b o hb e)))
  · rw [if_pos (bne_iff_ne.mpr (by have := List.length_pos_iff.mpr hx0; omega))]
    exact wpAny_pure ⟨plainId_quiet F.plain_all_loop _, more hx0 h1 _ hit1 (tuple_at hT fun o e => hs1.extBut T o hTI e) fun b o hb e => hs1.extBut b o hb e⟩
theorem all_stop (hh : A.handled = none) {I T : Addr} {its : Array Value} {i : Nat} {R : Result → Shared → Prop} (hit : s.heap.IsTupleIter I T i) (hT : s.heap.IsTuple T its) (hx : its[i]? = none)
    (h : ∀ h', Heap.ExtBut I s.heap h' → R (.ok (.ret (.bool true))) { s with heap := h' }) : codeAny (model Pg w) A (.builtin "all.loop" ⟨[.ref I], []⟩) R s := by
  refine codeAny_builtin F.entry_all_loop ?_
  rw [Around.under_plainId F.plain_all_loop _]
  exact wpAny_bind (wpAny_pyNext_tuple_end hh hit hT hx fun h' k => wpAny_bind (wpAny_rule (wpAny_pure (h h' k))))
/-- all() over a tuple of two texts -/
theorem allStrs {T : Addr} {x y : List Nat} {t u : Tok} {Q : Value → Shared → Prop} (hh : A.handled = none) (hT : s.heap.IsTuple T #[.str (tx x) t, .str (tx y) u]) (hx : x.length ≤ 1000) (hy : y.length ≤ 1000)
    (h : ∀ s', Eff s s' → Q (.bool (decide (x ≠ []) && decide (y ≠ []))) s') : wpAny (model Pg w) A (call (.builtin "all") [.ref T]) Q E s := by
  have hne : T ≠ s.heap.objs.size := let ⟨o, ho, _⟩ := hT; Nat.ne_of_lt (Heap.lt_size ho)
  have fin : ∀ {h' : Heap} tk, (∀ b o, b ≠ s.heap.objs.size → (s.heap.push { cls := .type "tuple_iterator", data := .fields #[.ref T, .int 0 0] }).get? b = some o → h'.get? b = some o) → Eff s { s with heap := h', toks := tk } :=
    fun tk k => .of fun b o e => k b o (Nat.ne_of_lt (Heap.lt_size e)) (Heap.get?_push_of_some _ e)
  refine call_function_tree F.kind_all F.plain_all F.entry_all (F.args_all1 _) (wpAny_bind (m := PySem.oneArg "all" _) (wpAny_pure (wpAny_bind (wpAny_pyIter_tuple hT ?_))))
  refine wpAny_pure ⟨plainId_quiet F.plain_all_loop _, all_turn hne ⟨_, Heap.get?_push_size _ rfl, rfl, rfl⟩ (hT.push _) rfl hx (fun q1 h1 k1 i1 t1 e1 => ?_) fun q1 h1 k1 e1 => ?_⟩
  · refine all_turn hne i1 t1 rfl hy (fun q2 h2 k2 i2 t2 e2 => all_stop (by simpa using hh) i2 t2 rfl fun h3 x3 => ?_) fun q2 h2 k2 e2 => ?_
    · have := h _ (fin k2 fun b o hb e => x3 b o hb (e2 b o hb (e1 b o hb e)))
      rw [decide_eq_true q1, decide_eq_true q2] at this
      exact this
    · have := h _ (fin k2 fun b o hb e => e2 b o hb (e1 b o hb e))
      rw [decide_eq_false (not_not_intro q2), Bool.and_false] at this
      exact this
  · have := h _ (fin k1 e1)
    rw [decide_eq_false (not_not_intro q1), Bool.false_and] at this
    exact this
end

section
variable {w : World} {A : Around} {E : Value → Shared → Prop} {s : Shared}
abbrev two (a b : Int) (t u : Tok) : Array Value := #[.int a t, .int b u]
theorem two_at {a b : Int} {t u : Tok} {i : Nat} {v : Value} (h : (two a b t u)[i]? = some v) : ∃ t', v = .int (if i = 0 then a else b) t' := by
  rcases i with _ | _ | i
  · simp at h; exact ⟨t, h.symm⟩
  · simp at h; exact ⟨u, h.symm⟩
  · simp at h
theorem effList {I : Addr} (hI : I = s.heap.objs.size) {o : Obj} {h' : Heap} {tk : Nat} (k : ∀ b o', b ∉ [I] → (s.heap.push o).get? b = some o' → h'.get? b = some o') : Eff s { s with heap := h', toks := tk } :=
  .of fun b o' e => k b o' (fun q => by rw [List.mem_singleton.mp q, hI] at e; exact Nat.lt_irrefl _ (Heap.lt_size e)) (Heap.get?_push_of_some _ e)
theorem fp2 {l : Addr} {its : Array Value} {o : Obj} (hl : s.heap.IsList l its) : ∀ b ∈ [s.heap.objs.size, l], b < (s.heap.push o).objs.size := fun b hb => by
  rw [Heap.size_push]
  rcases List.mem_cons.mp hb with rfl | hb
  · exact Nat.lt_succ_self _
  · obtain ⟨o, ho, _⟩ := hl
    rw [List.mem_singleton.mp hb]; exact Nat.lt_succ_of_lt (Heap.lt_size ho)
theorem maxL2 {l : Addr} {a b : Int} {t u : Tok} {Q : Value → Shared → Prop} (hh : A.handled = none) (hl : s.heap.IsList l (two a b t u)) (h : ∀ t' s', Eff s s' → Q (.int (max a b) t') s') : wpAny (model Pg w) A (call (.builtin "max") [.ref l]) Q E s := by
  have hne : l ≠ s.heap.objs.size := let ⟨o, ho, _⟩ := hl; Nat.ne_of_lt (Heap.lt_size ho)
  refine call_max_walk (wpAny_pyIter_list hl ⟨_, _, _, _, _, _, _, rfl, Walks.list (A := A.in1) hh _ l hne (two a b t u), ⟨⟨_, Heap.get?_push_size _ rfl, rfl, rfl⟩, hl.push _⟩, fp2 hl, by simp, CmpOf.ints_gt (fun i => if i = 0 then a else b) (fun i v hv => two_at hv), fun v h' tk hv hk => ?_⟩)
  have hb : argBest (fun i j => decide ((if i = 0 then a else b) > (if j = 0 then a else b))) (2 - 1) = if b > a then 1 else 0 := by
    show (if decide ((if (1 : Nat) = 0 then a else b) > (if (0 : Nat) = 0 then a else b)) = true then 1 else 0) = _
    rw [if_neg (by decide : ¬ (1 : Nat) = 0), if_pos (rfl : (0 : Nat) = 0)]
    by_cases q : b > a
    · rw [if_pos (decide_eq_true q), if_pos q]
    · rw [if_neg (by simpa using q), if_neg q]
  obtain ⟨t', rfl⟩ := two_at hv
  have hb' : argBest (fun i j => decide ((if i = 0 then a else b) > (if j = 0 then a else b))) ((two a b t u).size - 1) = if b > a then 1 else 0 := hb
  rw [hb']
  have := h t' { s with heap := h', toks := tk } (effList rfl hk)
  by_cases q : b > a
  · rw [if_pos q]; rw [show max a b = b by omega] at this; exact this
  · rw [if_neg q]; rw [show max a b = a by omega] at this; exact this
theorem minL2 {l : Addr} {a b : Int} {t u : Tok} {Q : Value → Shared → Prop} (hh : A.handled = none) (hl : s.heap.IsList l (two a b t u)) (h : ∀ t' s', Eff s s' → Q (.int (min a b) t') s') : wpAny (model Pg w) A (call (.builtin "min") [.ref l]) Q E s := by
  have hne : l ≠ s.heap.objs.size := let ⟨o, ho, _⟩ := hl; Nat.ne_of_lt (Heap.lt_size ho)
  refine call_min_walk (wpAny_pyIter_list hl ⟨_, _, _, _, _, _, _, rfl, Walks.list (A := A.in1) hh _ l hne (two a b t u), ⟨⟨_, Heap.get?_push_size _ rfl, rfl, rfl⟩, hl.push _⟩, fp2 hl, by simp, CmpOf.ints_lt (fun i => if i = 0 then a else b) (fun i v hv => two_at hv), fun v h' tk hv hk => ?_⟩)
  have hb : argBest (fun i j => decide ((if i = 0 then a else b) < (if j = 0 then a else b))) (2 - 1) = if b < a then 1 else 0 := by
    show (if decide ((if (1 : Nat) = 0 then a else b) < (if (0 : Nat) = 0 then a else b)) = true then 1 else 0) = _
    rw [if_neg (by decide : ¬ (1 : Nat) = 0), if_pos (rfl : (0 : Nat) = 0)]
    by_cases q : b < a
    · rw [if_pos (decide_eq_true q), if_pos q]
    · rw [if_neg (by simpa using q), if_neg q]
  obtain ⟨t', rfl⟩ := two_at hv
  have hb' : argBest (fun i j => decide ((if i = 0 then a else b) < (if j = 0 then a else b))) ((two a b t u).size - 1) = if b < a then 1 else 0 := hb
  rw [hb']
  have := h t' { s with heap := h', toks := tk } (effList rfl hk)
  by_cases q : b < a
  · rw [if_pos q]; rw [show min a b = b by omega] at this; exact this
  · rw [if_neg q]; rw [show min a b = a by omega] at this; exact this

/-- the static method of an instance -/
theorem instIdent {p : Addr} {pl : Sem Bool} {Q : Value × List Value → Shared → Prop} (G : Gd w s) (I : Inst s.heap p) (h : Q (.ref 95, []) { s with toks := s.toks + 1 }) : wpAny (model Pg w) A (getMethod (.ref p) "_ident" pl) Q E s := by
  obtain ⟨ox, es, n, I, _, _, r⟩ := I
  have hl : getL "_ident" es = some none := r _ (by decide)
  exact method_usual (K := KK w) (r := some (.ref 97)) G.K I (by kernel_rfl) (by kernel_rfl) (by kernel_rfl) (by kernel_rfl)
    (get_bind (K := KK w) G.K I (by kernel_rfl) (findObj_fn (g := .builtin "staticmethod.__get__") (f := 97) (by kernel_rfl) (by kernel_rfl) (by kernel_rfl) (by kernel_rfl) (by decide +kernel) (by show lookIn "_ident" (dictOf es n) = _; rw [lookIn_dict, hl])) (by kernel_rfl)
      (wpAny_call (sm_get (K := KK w) (f := .ref 95) (rest := (match recIn (KK w) 97 "staticmethod" with | some (_ :: r) => r | _ => [])) (s := { s with toks := s.toks + 1 }) G.K (by kernel_rfl) (handed_on (by kernel_rfl) h))))

theorem attrIdent {p : Addr} {ex : Bool} {Q : Value → Shared → Prop} (G : Gd w s) (I : Inst s.heap p) (h : Q (.ref 95) { s with toks := s.toks + 1 }) : wpAny (model Pg w) A (getAttr (.ref p) "_ident" ex) Q E s := by
  obtain ⟨ox, es, n, I, _, _, r⟩ := I
  have hl : getL "_ident" es = some none := r _ (by decide)
  exact get_bind (K := KK w) G.K I (by kernel_rfl) (findObj_fn (g := .builtin "staticmethod.__get__") (f := 97) (by kernel_rfl) (by kernel_rfl) (by kernel_rfl) (by kernel_rfl) (by decide +kernel) (by show lookIn "_ident" (dictOf es n) = _; rw [lookIn_dict, hl])) (by kernel_rfl)
      (wpAny_call (sm_get (K := KK w) (f := .ref 95) (rest := (match recIn (KK w) 97 "staticmethod" with | some (_ :: r) => r | _ => [])) (s := { s with toks := s.toks + 1 }) G.K (by kernel_rfl) (handed_on (by kernel_rfl) h)))
/-- a method called with a star -/
theorem starMeth {env : Env} {o e : Expr} {name : Str} {apos pos p : Pos} {Q : Value → Shared → Prop}
    (h : wpAny (model Pg w) A (eval o env) (fun ov s₁ => wpAny (model Pg w) A (getAttr ov name true) (fun f s₂ => wpAny (model Pg w) A (callWith pos f [] (backTo pos (starEach [.Starred e p] env)) []) Q E s₂) E s₁) E s)
    (he : eval (.Call (.Attribute o name apos) [.Starred e p] [] pos) env = (do
      let ov ← eval o env
      standAt apos.atName
      let (f, first) ← holding [ov] (do pure (← getAttr ov name true, ([] : List Value)))
      callWith pos f first (backTo pos (starEach [.Starred e p] env)) []) := by rfl) :
    wpAny (model Pg w) A (eval (.Call (.Attribute o name apos) [.Starred e p] [] pos) env) Q E s := by
  rw [he]
  exact wpAny_bind (wpAny_mono h (fun ov s₁ h₁ => wpAny_bind (wpAny_standAt (wpAny_bind (wpAny_holding (wpAny_bind (wpAny_mono h₁ (fun f s₂ h₂ => wpAny_pure h₂) fun _ _ x => x)))))) fun _ _ x => x)
end

end Hp

section Lk
section
variable {sc : Scope} {cs : List (Str × Addr)} {w : World} {s₀ sl s s' : Shared} {env : Env} {m cm ml cml : Str → Option Value}
/-- what stands apart from a frame stays -/
def Lk (env : Env) (s s' : Shared) : Prop := ∀ b o, b ≠ env.locals → (∀ n c, env.cells.lookup n = some c → b ≠ c) → b ≠ 194 → s.heap.get? b = some o → s'.heap.get? b = some o
theorem Lk.refl (env : Env) (s : Shared) : Lk env s s := fun _ _ _ _ _ e => e
theorem Lk.trans {s'' : Shared} (x : Lk env s s') (y : Lk env s' s'') : Lk env s s'' := fun b o h1 h2 h3 e => y b o h1 h2 h3 (x b o h1 h2 h3 e)
theorem Lk.eff {s'' : Shared} (x : Lk env s s') (e : Eff s' s'') : Lk env s s'' := x.trans fun b o _ _ h3 q => e.keep b o h3 q
theorem Lk.oth {s'' : Shared} (x : Lk env s s') (e : Oth env.locals s' s'') : Lk env s s'' := x.trans fun b o h1 _ _ q => e b o h1 q
theorem Lk.othC {s'' : Shared} (x : Lk env s s') {n : Str} {c : Addr} (hc : env.cells.lookup n = some c) (e : Oth c s' s'') : Lk env s s'' := x.trans fun b o _ h2 _ q => e b o (h2 n c hc) q
theorem Lk.new {s'' : Shared} (x : Lk env s s') {N : Addr} (hN : s.heap.get? N = none) (e : ∀ b o, b ≠ N → s'.heap.get? b = some o → s''.heap.get? b = some o) : Lk env s s'' := fun b o h1 h2 h3 q => e b o (fun z => by rw [z, hN] at q; cases q) (x b o h1 h2 h3 q)
/-- a frame behind a draw -/
theorem Bd'.drawn {wr : List Addr} {m' : Str → Option Value} {h' : Heap} {tk : Nat} (B : Bd w s₀ env m cm s) (Bl : Bd w s₀ env ml cml sl) (hwr : ∀ b ∈ wr, sl.heap.get? b = none) (hn : h'.Ns env.locals m')
    (k : ∀ b o, b ∉ wr → b ≠ env.locals → s.heap.get? b = some o → h'.get? b = some o) : Bd w s₀ env m' cm { s with heap := h', toks := tk } := by
  have h4 : 194 ∉ wr := fun hm => by
    obtain ⟨ps, _, t⟩ := Bl.tab
    rw [hwr _ hm] at t; cases t
  have tab' : TabOk h' := let ⟨ps, t1, t2⟩ := B.tab; ⟨ps, t1, k 194 _ h4 (Nat.ne_of_lt B.loc) t2⟩
  refine ⟨B.G0, hn, fun n c e => ?_, B.apart, B.above, fun b o hb e => ?_, tab', B.bare, B.low, B.os⟩
  · obtain ⟨o, ho, hd⟩ := B.cell n c e
    refine ⟨o, k c o (fun hm => ?_) (Nat.ne_of_gt (B.cgt e)) ho, hd⟩
    obtain ⟨o', ho', _⟩ := Bl.cell n c e
    rw [hwr _ hm] at ho'; cases ho'
  · refine k b o (fun hm => ?_) (Nat.ne_of_lt (B.low' e)) (B.keep b o hb e)
    have := Bl.keep b o hb e
    rw [hwr _ hm] at this; cases this
theorem Lk.drawn {wr : List Addr} {h' : Heap} {tk : Nat} {sB : Shared} (x : Lk env sB s) (hwr : ∀ b ∈ wr, sB.heap.get? b = none) (k : ∀ b o, b ∉ wr → b ≠ env.locals → s.heap.get? b = some o → h'.get? b = some o) : Lk env sB { s with heap := h', toks := tk } :=
  fun b o h1 h2 h3 q => k b o (fun hm => by rw [hwr b hm] at q; cases q) h1 (x b o h1 h2 h3 q)
/-- a thing of a frame's own heap is apart from the frame -/
theorem Bd'.offCell (B : Bd w s₀ env m cm s) {a : Addr} {its : Array Value} (hl : s.heap.IsList a its) : a ≠ env.locals ∧ (∀ n c, env.cells.lookup n = some c → a ≠ c) ∧ a ≠ 194 := by
  obtain ⟨o, ho, hc, n, hd⟩ := hl
  refine ⟨fun e => ?_, fun n c e q => ?_, B.G.ne ho (by rw [hc]; exact fun q => nomatch q)⟩
  · obtain ⟨o', _, _, ho', hd', _⟩ := B.ns
    rw [e, ho'] at ho; cases ho
    rw [hd'] at hd; cases hd
  · obtain ⟨o', ho', hd'⟩ := B.cell n c e
    rw [q, ho'] at ho; cases ho
    rw [hd'] at hd; cases hd
theorem Bd'.offCellT (B : Bd w s₀ env m cm s) {a : Addr} {its : Array Value} (hl : s.heap.IsTuple a its) : a ≠ env.locals ∧ (∀ n c, env.cells.lookup n = some c → a ≠ c) ∧ a ≠ 194 := by
  obtain ⟨o, ho, hc, n, hd⟩ := hl
  refine ⟨fun e => ?_, fun n c e q => ?_, B.G.ne ho (by rw [hc]; exact fun q => nomatch q)⟩
  · obtain ⟨o', _, _, ho', hd', _⟩ := B.ns
    rw [e, ho'] at ho; cases ho
    rw [hd'] at hd; cases hd
  · obtain ⟨o', ho', hd'⟩ := B.cell n c e
    rw [q, ho'] at ho; cases ho
    rw [hd'] at hd; cases hd
theorem SL.lk (B : Bd w s₀ env m cm s) {v : Value} {as : List Nat} (x : SL s.heap v as) (k : Lk env s s') : SL s'.heap v as :=
  let ⟨l, its, h1, h2, h3⟩ := x; let ⟨a, b, c⟩ := B.offCell h2; ⟨l, its, h1, list_at h2 fun o e => k l o a b c e, h3⟩
theorem lst_lk (B : Bd w s₀ env m cm s) {l : Addr} {its : Array Value} (x : s.heap.IsList l its) (k : Lk env s s') : s'.heap.IsList l its :=
  let ⟨a, b, c⟩ := B.offCell x; list_at x fun o e => k l o a b c e
end
theorem mism_take (a b : List Nat) (j : Nat) (x y : Nat) (ha : a[j]? = some x) (hb : b[j]? = some y) : mism (a.take (j + 1)) (b.take (j + 1)) = mism (a.take j) (b.take j) ++ (if x == y then [] else [(x, y)]) := by
  have la : j < a.length := (List.getElem?_eq_some_iff.mp ha).1
  have lb : j < b.length := (List.getElem?_eq_some_iff.mp hb).1
  unfold mism
  rw [List.take_add_one, List.take_add_one, ha, hb]
  show ((a.take j ++ [x]).zip (b.take j ++ [y])).filter _ = _
  rw [List.zip_append (by rw [List.length_take, List.length_take]; omega), List.filter_append]
  congr 1
  show ([(x, y)] : List (Nat × Nat)).filter _ = _
  cases h : x == y <;> simp [List.filter_cons, h]
theorem mism_full (a b : List Nat) : mism (a.take (min a.length b.length)) (b.take (min a.length b.length)) = mism a b := by
  unfold mism
  rw [← List.zip_eq_zip_take_min]

theorem twoInts {vs : Array Value} {len : Nat → Nat} (h2 : vs.size = 2) (h : ∀ (j : Nat) (v : Value), vs[j]? = some v → ∃ t, v = .int (len j) t) : ∃ t u, vs = two (len 0) (len 1) t u := by
  obtain ⟨t, e0⟩ := h 0 vs[0] (by simp [h2])
  obtain ⟨u, e1⟩ := h 1 vs[1] (by simp [h2])
  refine ⟨t, u, ?_⟩
  apply Array.ext
  · simp [h2]
  · intro i hi hi'
    rcases i with _ | _ | i
    · exact e0
    · exact e1
    · exact absurd hi (by rw [h2]; omega)
/-- the lengths of two lists of signs, laid into a list -/
theorem lensOf {w : World} {A : Around} {E : Value → Shared → Prop} {s : Shared} {D : Addr} {v0 v1 : Value} {a b : List Nat} {Q : Value → Shared → Prop} (G : Gd w s) (hh : A.handled = none) (hD : s.heap.IsList D #[v0, v1]) (h0 : SL s.heap v0 a) (h1 : SL s.heap v1 b) (ha : a.length ≤ 1000) (hb : b.length ≤ 1000)
    (h : ∀ L t u s', Eff s s' → s.heap.get? L = none → s'.heap.IsList L (two a.length b.length t u) → Q (.ref L) s') :
    wpAny (model Pg w) A (call (.type "map") [.builtin "len", .ref D]) (fun v s₁ => wpAny (model Pg w) A (call (.type "list") [v]) Q E s₁) E s := by
  refine mapCall G (.refl _) hD (lens2 h0 h1 ha hb) fun v s₂ M => ?_
  refine listMap hh M (by simp) G fun L vs n s₃ e hL0 hL hsz hv => ?_
  obtain ⟨t, u, rfl⟩ := twoInts (by rw [hsz]; rfl) hv
  exact h L t u s₃ e hL0 ⟨_, hL, rfl, n, rfl⟩

def iter2 (a b : List Nat) : Nat → List Nat × List Nat
  | 0 => (a, b)
  | i + 1 => (turnA (iter2 a b i).1 (iter2 a b i).2, turnB (iter2 a b i).1 (iter2 a b i).2)
theorem iter2_le {a b : List Nat} (ha : a.length ≤ 6) (hb : b.length ≤ 6) : ∀ i, (iter2 a b i).1.length ≤ 6 ∧ (iter2 a b i).2.length ≤ 6
  | 0 => ⟨ha, hb⟩
  | i + 1 => by
    have ih := iter2_le ha hb i
    have := turn_len (iter2 a b i).1 (iter2 a b i).2
    show (turnA _ _).length ≤ 6 ∧ (turnB _ _).length ≤ 6
    omega
/-- what stands between two turns of the comparing loop -/
def LoopJ (p : Addr) (M : Nat) (ab : Nat → List Nat × List Nat) (i : Nat) (m cm : Str → Option Value) (s : Shared) : Prop :=
  ∃ D v0 v1 L u0 u1, cm "self" = some (.ref p) ∧ m "sequences" = some (.ref D) ∧ s.heap.IsList D #[v0, v1] ∧ SL s.heap v0 (ab i).1 ∧ SL s.heap v1 (ab i).2 ∧
    m "lengths" = some (.ref L) ∧ s.heap.IsList L (two (ab i).1.length (ab i).2.length u0 u1) ∧ ∃ t, m "max_length" = some (.int (M : Nat) t)

theorem none_push (h : Heap) (o : Obj) : h.get? ((h.push o).objs.size) = none := by
  cases q : h.get? ((h.push o).objs.size) with
  | none => rfl
  | some x =>
    have := Heap.lt_size q
    rw [Heap.size_push] at this
    exact absurd this (Nat.not_lt.mpr (Nat.le_succ _))

end Lk

section Fl
section
variable {sc : Scope} {cs : List (Str × Addr)} {w : World} {A : Around} {E : Value → Shared → Prop} {s₀ s : Shared} {env : Env} {m cm : Str → Option Value} {Q : Flow → Shared → Prop} {Er : Value → Shared → Prop}
theorem set_of {x : Str} {v : Value} {m m' : Str → Option Value} (h : m' x = some v) (ho : ∀ y, y ∉ [x] → m' y = m y) : m' = fun y => if y = x then some v else m y := by
  funext y
  by_cases e : y = x
  · rw [if_pos e, e, h]
  · rw [if_neg e]; exact ho y (fun q => e (List.mem_singleton.mp q))
/-- a thing that is new at a frame's state is none of the frame's own -/
theorem Bd'.newOff (B : Bd w s₀ env m cm s) {a : Addr} (h : s.heap.get? a = none) : a ≠ env.locals ∧ (∀ n c, env.cells.lookup n = some c → a ≠ c) ∧ a ≠ 194 := by
  refine ⟨B.newNe h, fun n c e q => ?_, fun e => ?_⟩
  · obtain ⟨o, ho, _⟩ := B.cell n c e
    rw [q, ho] at h; cases h
  · obtain ⟨ps, _, t⟩ := B.tab
    rw [e, t] at h; cases h
/-- every list stays -/
def LsK (s s' : Shared) : Prop := ∀ l its, s.heap.IsList l its → s'.heap.IsList l its
theorem SL.ls {s s' : Shared} {v : Value} {as : List Nat} (x : SL s.heap v as) (k : LsK s s') : SL s'.heap v as := let ⟨l, its, h1, h2, h3⟩ := x; ⟨l, its, h1, k l its h2, h3⟩
/-- a loop over a range -/
theorem forRange {x : Str} {px : Pos} {body : List Stmt} {n : Nat} {b : Int} {t : Tok} (hb : b = n) (hn : n ≤ 1000) (B : Bd w s₀ env m cm s) (V : Ev env sc cs) (hx : sc.names.lookup x = some .local) (hk : sc.kind = .function) (hh : A.handled = none)
    (J : Nat → (Str → Option Value) → (Str → Option Value) → Shared → Prop) (h0 : J 0 m cm s)
    (hJ : ∀ i m cm s s' v, J i m cm s → LsK s s' → J i (fun y => if y = x then some v else m y) cm s')
    (hJ' : ∀ i m cm s s', J i m cm s → LsK s s' → J i m cm s')
    (step : ∀ i m cm s' E', i < n → Bd w s₀ env m cm s' → J i m cm s' → wpAny (model Pg w) A (execs body env) (fun f s₃ => f = .next ∧ ∃ m₃ cm₃, Bd w s₀ env m₃ cm₃ s₃ ∧ J (i + 1) m₃ cm₃ s₃ ∧ Lk env s' s₃) E' s')
    (done : ∀ m' cm' s', Bd w s₀ env m' cm' s' → J n m' cm' s' → Q .next s') :
    wpAny (model Pg w) A (call (.type "range") [.int b t]) (fun v s₁ => wpAny (model Pg w) A (pyIter v) (fun it s₂ =>
      codeAny (model Pg w) A (.forLoop (.Name x px) it body [] env) (fun r s' => match r with | .ok f => Q f s' | .error e => Er e s') s₂) E s₁) E s := by
  subst hb
  refine call_range_1 ?_
  refine wpAny_pyIter_range (Heap.get?_push_size _ rfl) (small_one (by omega) (by omega) (by omega) (by omega)) ?_
  generalize hS : ({ s with heap := s.heap.push { cls := .type "range", data := .fields #[.int 0 s.toks, .int (n : Nat) t, .int 1 (s.toks + 1)] }, toks := s.toks + 1 + 1 } : Shared) = S
  have eS : Eff s S := by rw [← hS]; exact .of fun b o e => Heap.get?_push_of_some _ e
  have hI0 : s.heap.get? S.heap.objs.size = none := by rw [← hS]; exact none_push _ _
  have BS := B.eff eS
  have hIS : S.heap.get? S.heap.objs.size = none := newNone S
  have e2 : Eff S { S with heap := S.heap.push { cls := .type "range_iterator", data := .fields #[rawInt 0, rawInt (Builtin.Range.rangeSize 0 (n : Int) 1), rawInt 1] } } := Eff.of fun b o e => Heap.get?_push_of_some _ e
  have BS2 := BS.eff e2
  have hoff := BS.newOff hIS
  have hwr : ∀ b ∈ [S.heap.objs.size], S.heap.get? b = none := fun b hb => by rw [List.mem_singleton.mp hb]; exact hIS
  refine forTurns (m := m) (Turns.name (LCg.range_walks (I := S.heap.objs.size) hh 0 n) (fun i h st b hb => by rw [List.mem_singleton.mp hb]; exact ⟨_, st⟩)) V (fun y hy => by rw [List.mem_singleton.mp hy]; exact hx) hk
    (fun hm => hoff.1 (List.mem_singleton.mp hm).symm) (fun i m s => (∃ cm, Bd w s₀ env m cm s ∧ J i m cm s) ∧ ∃ o, s.heap.get? S.heap.objs.size = some o ∧ o.cls ≠ .type "list") ?_ ⟨⟨cm, BS2, hJ' 0 m cm s _ h0 (fun l its x => B.G.lst x (eS.trans e2))⟩, _, Heap.get?_push_size _ rfl, (by show (Value.type "range_iterator") ≠ Value.type "list"; decide)⟩ (fun i m s h => let ⟨⟨_, hB, _⟩, _⟩ := h; hB.ns) ?_ ?_
  · show IsRangeIter _ _ _ _ _
    rw [rangeSize_nat]
    simpa using Heap.get?_push_size _ rfl
  · rintro i m' s' h' tk m'' E' hi ⟨⟨cm', hB', hJi⟩, oI, hoI, hcI⟩ ⟨v, _, hmx⟩ hmo hk' hns hst'
    have BB : Bd w s₀ env m'' cm' { s' with heap := h', toks := tk } := hB'.drawn BS hwr hns hk'
    have kk : LsK s' { s' with heap := h', toks := tk } := fun l its x => list_at x fun o e => hk' l o (fun q => by
      rw [List.mem_singleton.mp q, hoI] at e
      cases e
      obtain ⟨o', ho', hc', _⟩ := x
      rw [List.mem_singleton.mp q, hoI] at ho'
      cases ho'
      exact hcI hc') (list_ne_ns x hB'.ns) e
    have hJ2 := hJ i m' cm' s' _ v hJi kk
    rw [← set_of hmx hmo] at hJ2
    obtain ⟨oI', hoI'⟩ : ∃ o, h'.get? S.heap.objs.size = some o := ⟨_, hst'⟩
    refine wpAny_mono (step i m'' cm' _ E' hi BB hJ2) (fun f s₃ h₃ => ?_) fun _ _ e => e
    obtain ⟨rfl, m₃, cm₃, hB₃, hJ₃, hL₃⟩ := h₃
    have keepI : ∀ o, h'.get? S.heap.objs.size = some o → s₃.heap.get? S.heap.objs.size = some o := fun o e => hL₃ _ o hoff.1 hoff.2.1 hoff.2.2 e
    refine ⟨rfl, m₃, ⟨⟨cm₃, hB₃, hJ₃⟩, _, keepI _ hst', (by show (Value.type "range_iterator") ≠ Value.type "list"; decide)⟩, fun b hb o e => ?_⟩
    rw [List.mem_singleton.mp hb] at e ⊢
    exact keepI o e
  · rintro m' s' h' tk ⟨⟨cm', hB', hJn⟩, oI, hoI, hcI⟩ hk'
    have BB : Bd w s₀ env m' cm' { s' with heap := h', toks := tk } := hB'.drawn BS hwr (hB'.ns.at' fun o e => hk' _ o (fun q => hoff.1 (List.mem_singleton.mp q).symm) e) fun b o h1 _ e => hk' b o h1 e
    have kk : LsK s' { s' with heap := h', toks := tk } := fun l its x => list_at x fun o e => hk' l o (fun q => by
      rw [List.mem_singleton.mp q, hoI] at e
      cases e
      obtain ⟨o', ho', hc', _⟩ := x
      rw [List.mem_singleton.mp q, hoI] at ho'
      cases ho'
      exact hcI hc') e
    exact done m' cm' _ BB (hJ' n m' cm' s' _ hJn kk)

/-- a loop over a zip of two lists -/
theorem forZip2 {x : Str} {px : Pos} {body : List Stmt} {l0 l1 N : Addr} {its0 its1 : Array Value} (B : Bd w s₀ env m cm s) (V : Ev env sc cs) (hx : sc.names.lookup x = some .local) (hk : sc.kind = .function) (hh : A.handled = none)
    (hl0 : s.heap.IsList l0 its0) (hl1 : s.heap.IsList l1 its1) (hN : ∃ o, s.heap.get? N = some o) (hN0 : l0 ≠ N) (hN1 : l1 ≠ N)
    (J : List Addr → Nat → (Str → Option Value) → (Str → Option Value) → Shared → Prop) (h0 : ∀ wr s', (∀ b ∈ wr, s.heap.get? b = none) → Eff s s' → J wr 0 m cm s')
    (hJ : ∀ wr i m cm s1 s' v, (∀ b ∈ wr, s.heap.get? b = none) → Bd w s₀ env m cm s1 → J wr i m cm s1 → (∀ b o, b ∉ wr → b ≠ env.locals → s1.heap.get? b = some o → s'.heap.get? b = some o) → J wr i (fun y => if y = x then some v else m y) cm s')
    (step : ∀ wr i m cm s' T v0 v1 E', (∀ b ∈ wr, s.heap.get? b = none) → Bd w s₀ env m cm s' → m x = some (.ref T) → s'.heap.IsTuple T #[v0, v1] → its0[i]? = some v0 → its1[i]? = some v1 → T ∉ wr → J wr i m cm s' →
      wpAny (model Pg w) A (execs body env) (fun f s₃ => f = .next ∧ ∃ m₃ cm₃, Bd w s₀ env m₃ cm₃ s₃ ∧ J wr (i + 1) m₃ cm₃ s₃ ∧ ∀ b o, b ≠ N → b ≠ env.locals → (∀ n c, env.cells.lookup n = some c → b ≠ c) → b ≠ 194 → s'.heap.get? b = some o → s₃.heap.get? b = some o) E' s')
    (done : ∀ wr m' cm' s' s'', (∀ b ∈ wr, s.heap.get? b = none) → Bd w s₀ env m' cm' s' → J wr (min its0.size its1.size) m' cm' s' → Bd w s₀ env m' cm' s'' → (∀ b o, b ∉ wr → s'.heap.get? b = some o → s''.heap.get? b = some o) → (∀ b o, b ≠ N → b ≠ env.locals → (∀ n c, env.cells.lookup n = some c → b ≠ c) → b ≠ 194 → s.heap.get? b = some o → s''.heap.get? b = some o) → Q .next s'') :
    wpAny (model Pg w) A (call (.type "zip") [.ref l0, .ref l1]) (fun v s₁ => wpAny (model Pg w) A (pyIter v) (fun it s₂ =>
      codeAny (model Pg w) A (.forLoop (.Name x px) it body [] env) (fun r s' => match r with | .ok f => Q f s' | .error e => Er e s') s₂) E s₁) E s := by
  refine zipCall (ks := [zList l0 its0, zList l1 its1]) B.G (.refl _) (fun k hk => ?_) (by simp) fun a z TI TO s₂ Z e2 => ?_
  · rcases List.mem_cons.mp hk with rfl | hk
    · exact zList_ok hl0
    · rw [List.mem_singleton.mp hk]; exact zList_ok hl1
  have W := zipTwo (x := x) (px := px) hh (Z.dr A.in1 hh) Z.D
  refine W.self 0 _ _ _ ⟨Nat.zero_le _, Z.st⟩ ?_
  have B2 := B.eff e2
  have hwr : ∀ b ∈ z :: TO :: [(⟨a, (zList l0 its0).fp a, (zList l0 its0).n, (zList l0 its0).P, (zList l0 its0).St a⟩ : Src), ⟨a + 1, (zList l1 its1).fp (a + 1), (zList l1 its1).n, (zList l1 its1).P, (zList l1 its1).St (a + 1)⟩].map (·.it), s.heap.get? b = none := fun b hb => Z.wr b (by
    simp only [List.mem_cons] at hb ⊢
    rcases hb with q | q | q
    · exact .inl q
    · exact .inr (.inr (.inl q))
    · exact .inr (.inr (.inr q)))
  generalize hW : z :: TO :: [(⟨a, (zList l0 its0).fp a, (zList l0 its0).n, (zList l0 its0).P, (zList l0 its0).St a⟩ : Src), ⟨a + 1, (zList l1 its1).fp (a + 1), (zList l1 its1).n, (zList l1 its1).P, (zList l1 its1).St (a + 1)⟩].map (·.it) = wr at hwr
  have hfp : ∀ b ∈ z :: TI :: TO :: [(⟨a, (zList l0 its0).fp a, (zList l0 its0).n, (zList l0 its0).P, (zList l0 its0).St a⟩ : Src), ⟨a + 1, (zList l1 its1).fp (a + 1), (zList l1 its1).n, (zList l1 its1).P, (zList l1 its1).St (a + 1)⟩].flatMap (·.fp), s.heap.get? b = none ∨ b = l0 ∨ b = l1 := fun b hb => by
    simp only [List.mem_cons, List.flatMap_cons, List.flatMap_nil, List.mem_append, List.not_mem_nil, or_false] at hb
    rcases hb with q | q | q | (q | q) | (q | q)
    · exact .inl (Z.wr b (by simp [q]))
    · exact .inl (Z.wr b (by simp [q]))
    · exact .inl (Z.wr b (by simp [q]))
    · exact .inl (Z.wr b (by rw [q]; simp [srcsOf]))
    · exact .inr (.inl q)
    · exact .inl (Z.wr b (by rw [q]; simp [srcsOf]))
    · exact .inr (.inr q)
  have hNwr : N ∉ wr := fun hm => by obtain ⟨o, ho⟩ := hN; rw [hwr N hm] at ho; cases ho
  have off : ∀ b, (s.heap.get? b = none ∨ b = l0 ∨ b = l1) → b ≠ N ∧ b ≠ env.locals ∧ (∀ n c, env.cells.lookup n = some c → b ≠ c) ∧ b ≠ 194 := fun b hb => by
    rcases hb with q | rfl | rfl
    · exact ⟨fun e => by (obtain ⟨o, ho⟩ := hN; rw [← e, q] at ho; exact nomatch ho), B.newOff q⟩
    · exact ⟨hN0, B.offCell hl0⟩
    · exact ⟨hN1, B.offCell hl1⟩
  refine forTurns (m := m) W V (fun y hy => by rw [List.mem_singleton.mp hy]; exact hx) hk (fun hm => (off _ (hfp _ hm)).2.1 rfl) (fun i m s' => ∃ cm, Bd w s₀ env m cm s' ∧ J wr i m cm s' ∧ ∀ b o, b ≠ N → b ≠ env.locals → (∀ n c, env.cells.lookup n = some c → b ≠ c) → b ≠ 194 → s.heap.get? b = some o → s'.heap.get? b = some o) ⟨Nat.zero_le _, Z.st⟩ ⟨cm, B2, h0 wr _ hwr e2, fun b o _ _ _ h4 q => e2.keep b o h4 q⟩ (fun i m s h => let ⟨_, hB, _⟩ := h; hB.ns) ?_ ?_
  · rintro i m' s' h' tk m'' E' hi ⟨cm', hB', hJi, hKi⟩ ⟨T, vs, hmT, hTu, hvs, hdr, hTw⟩ hmo hk' hns hst'
    rw [hW] at hk' hTw
    have BB : Bd w s₀ env m'' cm' { s' with heap := h', toks := tk } := hB'.drawn B hwr hns hk'
    have hJ2 := hJ wr i m' cm' s' { s' with heap := h', toks := tk } (.ref T) hwr hB' hJi hk'
    rw [← set_of hmT hmo] at hJ2
    obtain ⟨x0, e0, p0⟩ := hdr 0 _ (by simp) rfl
    obtain ⟨x1, e1, p1⟩ := hdr 1 _ (by simp) rfl
    have hvs2 : vs = #[x0, x1] := by
      apply Array.ext_getElem?
      intro j
      rcases j with _ | _ | j
      · rw [e0]; rfl
      · rw [e1]; rfl
      · rw [Array.getElem?_eq_none (by rw [hvs]; simp), Array.getElem?_eq_none (by simp)]
    subst hvs2
    refine wpAny_mono (step wr i m'' cm' _ T x0 x1 E' hwr BB hmT hTu p0 p1 hTw hJ2) (fun f s₃ h₃ => ?_) fun _ _ e => e
    obtain ⟨rfl, m₃, cm₃, hB₃, hJ₃, hL₃⟩ := h₃
    exact ⟨rfl, m₃, ⟨cm₃, hB₃, hJ₃, fun b o h1 h2 h3 h4 q => hL₃ b o h1 h2 h3 h4 (hk' b o (fun z => by rw [hwr b z] at q; cases q) h2 (hKi b o h1 h2 h3 h4 q))⟩, fun b hb o e => let ⟨a1, a2, a3, a4⟩ := off b (hfp b hb); hL₃ b o a1 a2 a3 a4 e⟩
  · rintro m' s' h' tk ⟨cm', hB', hJn, hKn⟩ hk'
    rw [hW] at hk'
    have hLw : env.locals ∉ wr := fun hm => B.newNe (hwr _ hm) rfl
    have BB : Bd w s₀ env m' cm' { s' with heap := h', toks := tk } := hB'.drawn B hwr (hB'.ns.at' fun o e => hk' _ o hLw e) fun b o h1 _ e => hk' b o h1 e
    exact done wr m' cm' s' _ hwr hB' hJn BB hk' fun b o h1 h2 h3 h4 q => hk' b o (fun z => by rw [hwr b z] at q; cases q) (hKn b o h1 h2 h3 h4 q)
end

theorem newL {w : World} {A : Around} {E : Value → Shared → Prop} {s : Shared} {Q : Value → Shared → Prop} (h : ∀ D s', Eff s s' → s.heap.get? D = none → s'.heap.get? D = some { cls := .type "list", data := .seq #[] } → Q (.ref D) s') : wpAny (model Pg w) A (newList []) Q E s :=
  wpAny_newObj_type (h _ _ (Eff.of (tk := s.toks) fun _ _ e => Heap.get?_push_of_some _ e) (newNone s) (Heap.get?_push_size _ rfl))

def TOk (wr : List Addr) (h : Heap) (T : Addr) (q : Nat × Nat) : Prop := T ∉ wr ∧ ∃ t u, h.IsTuple T #[.str (sg q.1) t, .str (sg q.2) u]
/-- what stands between two turns of the loop over the pairs -/
def InnerJ (p N D : Addr) (v0 v1 : Value) (x y : List Nat) (M : Nat) (mn : Int) (wr : List Addr) (j : Nat) (m cm : Str → Option Value) (s : Shared) : Prop :=
  cm "self" = some (.ref p) ∧ (∃ t, cm "minlen" = some (.int mn t)) ∧ m "new_sequences" = some (.ref N) ∧ m "sequences" = some (.ref D) ∧ (∃ t, m "max_length" = some (.int (M : Nat) t)) ∧ s.heap.IsList D #[v0, v1] ∧ SL s.heap v0 x ∧ SL s.heap v1 y ∧
    ∃ (Ts : List Addr) (c : Nat), s.heap.get? N = some { cls := .type "list", data := .seq (Ts.map Value.ref).toArray c } ∧ Paired (TOk wr s.heap) Ts (mism (x.take j) (y.take j))
section
variable {w : World} {s₀ s S s' : Shared} {env : Env} {m cm : Str → Option Value} {p N D : Addr} {v0 v1 : Value} {x y : List Nat} {M : Nat} {mn : Int} {wr : List Addr} {j : Nat}
theorem InnerJ.draw (hwr : ∀ b ∈ wr, S.heap.get? b = none) (hD : S.heap.IsList D #[v0, v1]) (h0 : SL S.heap v0 x) (h1 : SL S.heap v1 y) (hN : ∃ o, S.heap.get? N = some o) (B : Bd w s₀ env m cm s) (X : InnerJ p N D v0 v1 x y M mn wr j m cm s)
    (k : ∀ b o, b ∉ wr → b ≠ env.locals → s.heap.get? b = some o → s'.heap.get? b = some o) (v : Value) : InnerJ p N D v0 v1 x y M mn wr j (fun z => if z = "chars" then some v else m z) cm s' := by
  obtain ⟨x1, x2, x3, x4, x5, x6, x7, x8, Ts, c, x9, x10⟩ := X
  have off : ∀ {b : Addr}, (∃ o, S.heap.get? b = some o) → b ∉ wr := fun ⟨o, ho⟩ hm => by rw [hwr _ hm] at ho; cases ho
  have lk : ∀ {l : Addr} {its : Array Value}, (∃ o, S.heap.get? l = some o) → s.heap.IsList l its → s'.heap.IsList l its := fun ho hl => list_at hl fun o e => k _ o (off ho) (B.offCell hl).1 e
  have sl : ∀ {v : Value} {z : List Nat}, SL S.heap v z → SL s.heap v z → SL s'.heap v z := fun ⟨l, its, e, hl, _⟩ ⟨l', its', e', hl', hs'⟩ => by
    subst e; cases e'
    exact ⟨l, its', rfl, lk (let ⟨o, ho, _⟩ := hl; ⟨o, ho⟩) hl', hs'⟩
  have hNl : s.heap.IsList N (Ts.map Value.ref).toArray := ⟨_, x9, rfl, c, rfl⟩
  refine ⟨x1, x2, x3, x4, x5, lk (let ⟨o, ho, _⟩ := hD; ⟨o, ho⟩) x6, sl h0 x7, sl h1 x8, Ts, c, k N _ (off hN) (B.offCell hNl).1 x9, paired_mono x10 fun T q ⟨h1, t, u, h2⟩ => ⟨h1, t, u, ?_⟩⟩
  exact tuple_at h2 fun o e => k T o h1 (B.offCellT h2).1 e
theorem InnerJ.move (hwr : ∀ b ∈ wr, S.heap.get? b = none) (hD : S.heap.IsList D #[v0, v1]) (h0 : SL S.heap v0 x) (h1 : SL S.heap v1 y) (hN : ∃ o, S.heap.get? N = some o) (X : InnerJ p N D v0 v1 x y M mn wr j m cm s)
    (k : ∀ b o, b ∉ wr → s.heap.get? b = some o → s'.heap.get? b = some o) : InnerJ p N D v0 v1 x y M mn wr j m cm s' := by
  obtain ⟨x1, x2, x3, x4, x5, x6, x7, x8, Ts, c, x9, x10⟩ := X
  have off : ∀ {b : Addr}, (∃ o, S.heap.get? b = some o) → b ∉ wr := fun ⟨o, ho⟩ hm => by rw [hwr _ hm] at ho; cases ho
  have lk : ∀ {l : Addr} {its : Array Value}, (∃ o, S.heap.get? l = some o) → s.heap.IsList l its → s'.heap.IsList l its := fun ho hl => list_at hl fun o e => k _ o (off ho) e
  have sl : ∀ {v : Value} {z : List Nat}, SL S.heap v z → SL s.heap v z → SL s'.heap v z := fun ⟨l, its, e, hl, _⟩ ⟨l', its', e', hl', hs'⟩ => by
    subst e; cases e'
    exact ⟨l, its', rfl, lk (let ⟨o, ho, _⟩ := hl; ⟨o, ho⟩) hl', hs'⟩
  exact ⟨x1, x2, x3, x4, x5, lk (let ⟨o, ho, _⟩ := hD; ⟨o, ho⟩) x6, sl h0 x7, sl h1 x8, Ts, c, k N _ (off hN) x9, paired_mono x10 fun T q ⟨h1, t, u, h2⟩ => ⟨h1, t, u, tuple_at h2 fun o e => k T o h1 e⟩⟩
theorem InnerJ.eff (B : Bd w s₀ env m cm s) (X : InnerJ p N D v0 v1 x y M mn wr j m cm s) (e : Eff s s') : InnerJ p N D v0 v1 x y M mn wr j m cm s' := by
  obtain ⟨x1, x2, x3, x4, x5, x6, x7, x8, Ts, c, x9, x10⟩ := X
  have hNl : s.heap.IsList N (Ts.map Value.ref).toArray := ⟨_, x9, rfl, c, rfl⟩
  exact ⟨x1, x2, x3, x4, x5, B.G.lst x6 e, x7.eff B.G e, x8.eff B.G e, Ts, c, e.keep N _ (B.offCell hNl).2.2 x9, paired_mono x10 fun T q ⟨h1, t, u, h2⟩ => ⟨h1, t, u, tuple_at h2 fun o q => e.keep T o (B.offCellT h2).2.2 q⟩⟩
/-- nothing changed, an equal pair -/
theorem InnerJ.skip (B : Bd w s₀ env m cm s) (X : InnerJ p N D v0 v1 x y M mn wr j m cm s) (e : Eff s s') {a b : Nat} (ha : x[j]? = some a) (hb : y[j]? = some b) (hab : (a == b) = true) : InnerJ p N D v0 v1 x y M mn wr (j + 1) m cm s' := by
  obtain ⟨x1, x2, x3, x4, x5, x6, x7, x8, Ts, c, x9, x10⟩ := X
  have hNl : s.heap.IsList N (Ts.map Value.ref).toArray := ⟨_, x9, rfl, c, rfl⟩
  refine ⟨x1, x2, x3, x4, x5, B.G.lst x6 e, x7.eff B.G e, x8.eff B.G e, Ts, c, e.keep N _ (B.offCell hNl).2.2 x9, ?_⟩
  rw [mism_take x y j a b ha hb, hab, if_pos rfl, List.append_nil]
  exact paired_mono x10 fun T q ⟨h1, t, u, h2⟩ => ⟨h1, t, u, tuple_at h2 fun o q => e.keep T o (B.offCellT h2).2.2 q⟩
/-- a pair is laid down -/
theorem InnerJ.add (B : Bd w s₀ env m cm s) (X : InnerJ p N D v0 v1 x y M mn wr j m cm s) {a b T : Nat} {t u : Tok} (ha : x[j]? = some a) (hb : y[j]? = some b) (hab : (a == b) = false) (hT : s.heap.IsTuple T #[.str (sg a) t, .str (sg b) u]) (hTw : T ∉ wr)
    (hDN : D ≠ N) (h0 : ∀ its, s.heap.IsList N its → v0 ≠ .ref N ∧ v1 ≠ .ref N) {Ts : List Addr} {c c' : Nat} (hNs : s.heap.get? N = some { cls := .type "list", data := .seq (Ts.map Value.ref).toArray c }) (k : ∀ b o, b ≠ N → s.heap.get? b = some o → s'.heap.get? b = some o)
    (hN' : s'.heap.get? N = some { cls := .type "list", data := .seq ((Ts.map Value.ref).toArray.push (.ref T)) c' }) : InnerJ p N D v0 v1 x y M mn wr (j + 1) m cm s' := by
  obtain ⟨x1, x2, x3, x4, x5, x6, x7, x8, Ts', c0, x9, x10⟩ := X
  have hTs : Ts' = Ts := by
    rw [hNs] at x9
    have := Option.some.inj x9
    injection this with _ _ h3
    injection h3 with h4
    have h5 := congrArg Array.toList h4
    simp only at h5
    exact ((List.map_inj_right (fun a b e => by cases e; rfl)).mp h5).symm
  subst hTs
  have nt : ∀ {T : Addr} {its : Array Value}, s.heap.IsTuple T its → T ≠ N := fun ⟨o, ho, hc, _⟩ e => by rw [e, hNs] at ho; cases ho; exact absurd hc (by simp)
  obtain ⟨n0, n1⟩ := h0 _ ⟨_, hNs, rfl, c, rfl⟩
  have sl : ∀ {v : Value} {z : List Nat}, v ≠ .ref N → SL s.heap v z → SL s'.heap v z := fun hv ⟨l, its, e, hl, hs⟩ => ⟨l, its, e, list_at hl fun o q => k l o (fun q' => hv (by rw [e, q'])) q, hs⟩
  refine ⟨x1, x2, x3, x4, x5, list_at x6 fun o q => k D o hDN q, sl n0 x7, sl n1 x8, Ts' ++ [T], c', ?_, ?_⟩
  · rw [hN']; congr 2; simp
  · rw [mism_take x y j a b ha hb, hab, if_neg Bool.false_ne_true]
    refine Paired.snoc (paired_mono x10 fun T q ⟨h1, t, u, h2⟩ => ⟨h1, t, u, tuple_at h2 fun o q => k T o (nt h2) q⟩) ⟨hTw, t, u, tuple_at hT fun o q => k T o (nt hT) q⟩
end

end Fl

section Cz
theorem tups {w : World} {wr : List Addr} {h : Heap} : ∀ {Ts : List Addr} {ms : List (Nat × Nat)}, Paired (TOk wr h) Ts ms → ∃ ks : List ZSrc, ks.map (·.val) = Ts.map Value.ref ∧ (∀ k ∈ ks, ZOk w k h) ∧ ks.length = ms.length ∧
    ∀ (j : Nat) (k : ZSrc), ks[j]? = some k → ∃ q t u, ms[j]? = some q ∧ k.n = 2 ∧ k.P = fun i v => (#[.str (sg q.1) t, .str (sg q.2) u] : Array Value)[i]? = some v
  | [], [], .nil => ⟨[], rfl, fun _ h => (nomatch h), rfl, fun j k e => by simp at e⟩
  | T :: Ts, q :: ms, .cons ⟨_, t, u, hT⟩ r => by
    obtain ⟨ks, h1, h2, h3, h4⟩ := tups (w := w) r
    refine ⟨zTup T #[.str (sg q.1) t, .str (sg q.2) u] :: ks, by rw [List.map_cons, List.map_cons, h1], fun k hk => ?_, by rw [List.length_cons, List.length_cons, h3], fun j k e => ?_⟩
    · rcases List.mem_cons.mp hk with rfl | hk
      · exact zTup_ok hT
      · exact h2 k hk
    · cases j with
      | zero => simp at e; subst e; exact ⟨q, t, u, rfl, rfl, rfl⟩
      | succ j => exact h4 j k (by simpa using e)
section
variable {w : World} {A : Around} {E : Value → Shared → Prop} {s s₀ s₁ : Shared} {env : Env} {m₀ cm : Str → Option Value} {sc : Scope} {cs : List (Str × Addr)}
theorem compZipT {elt : Expr} {x : Str} {px : Pos} {scope : Scope} {cl : List (Str × Addr)} {Q : Value → Shared → Prop} {wr : List Addr} {Ts : List Addr} {ms : List (Nat × Nat)} (G : Gd w s) (e : Eff s s₁) (hh : A.handled = none) (hX : Paired (TOk wr s₁.heap) Ts ms) (hl : ms.length ≤ 8)
    (hx : scope.names.lookup x = some .local)
    (elts : ∀ T (vs : Array Value) cenv m s₃ E', m x = some (.ref T) → s₃.heap.IsTuple T vs → vs.size ≤ 1000 → Ev cenv (rl scope sc) cl → Rd w cenv m cm s₃.heap s₃.gens → Eff s s₃ →
      wpAny (model Pg w) A (eval elt cenv) (fun y s₄ => Eff s₃ s₄ ∧ ∃ D c, y = .ref D ∧ s₃.heap.get? D = none ∧ s₄.heap.get? D = some { cls := .type "list", data := .seq vs c }) E' s₃)
    (fin : ∀ D ys s', Eff s s' → s.heap.get? D = none → s'.heap.get? D = some (lst ys) → (ms = [] ∧ ys = [] ∨ ∃ v0 v1, ys = [v0, v1] ∧ SL s'.heap v0 (ms.map (·.1)) ∧ SL s'.heap v1 (ms.map (·.2))) → Q (.ref D) s') :
    wpAny (model Pg w) A (call (.type "zip") (Ts.map Value.ref)) (fun xv s₂ => wpAny (model Pg w) A (pyIter xv) (CompSt w A s cm sc elt (.Name x px) [] scope cl Q) E s₂) E s₁ := by
  obtain ⟨ks, h1, h2, h3, h4⟩ := tups (w := w) hX
  rw [← h1]
  refine zipCall G e h2 (by omega) fun a z TI TO s₂ Z e2 => ?_
  have hrs : ∀ (j : Nat) (r : Src), (srcsOf ks a)[j]? = some r → ∃ q t u, ms[j]? = some q ∧ r.n = 2 ∧ r.P = fun i v => (#[.str (sg q.1) t, .str (sg q.2) u] : Array Value)[i]? = some v := fun j r hr => by
    obtain ⟨k, k1, rfl⟩ := srcs_get ks a j r hr
    exact h4 j k k1
  have hlen : (srcsOf ks a).length = ms.length := by rw [srcs_len, h3]
  refine zipIter1 (x := x) (px := px) (N := if ms = [] then 0 else 2) hh Z (by omega) (fun r hr => ?_) ?_ fun it S => ?_
  · split
    · exact Nat.zero_le _
    · obtain ⟨j, hj, ej⟩ := List.mem_iff_getElem.mp hr
      obtain ⟨q, t, u, _, hn, _⟩ := hrs j r (by rw [List.getElem?_eq_getElem hj, ej])
      omega
  · by_cases hm : ms = []
    · left
      rw [hm] at hlen
      exact ⟨List.length_eq_zero_iff.mp hlen, if_pos hm⟩
    · right
      rw [if_neg hm]
      have h0 : 0 < (srcsOf ks a).length := by
        rw [hlen]; exact List.length_pos_iff.mpr hm
      obtain ⟨q, t, u, _, hn, _⟩ := hrs 0 _ (List.getElem?_eq_getElem h0)
      exact ⟨0, _, List.getElem?_eq_getElem h0, hn, fun k r hk _ => absurd hk (Nat.not_lt_zero _)⟩
  refine compOf (fun _ => true) (SLF fun i => ms.map fun q => if i = 0 then q.1 else q.2) S (fun y hy => by rw [List.mem_singleton.mp hy]; exact hx) (by rw [PySem.sizeLine_eq]; split <;> omega) ?_ ?_ ?_
  · intro i cenv m s₃ E' hi hV hVc hR ex
    exact wpAny_tests_nil ⟨rfl, .refl _⟩
  · rintro i cenv m sd s₃ E' hi ⟨T, vs, hm, hT, hsz, hdr, _⟩ ed _ hVc hR ex
    have hi2 : i < 2 := by split at hi <;> omega
    have hT3 : s₃.heap.IsTuple T vs := by
      obtain ⟨o, ho, hc, r⟩ := hT
      exact ⟨o, ed.2.keep T o ((G.eff ed.1).ne ho (by rw [hc]; exact fun q => nomatch q)) ho, hc, r⟩
    refine wpAny_mono (elts T vs cenv m s₃ E' hm hT3 (by omega) hVc hR ex) (fun y s₄ hy => ?_) fun _ _ e => e
    obtain ⟨e4, D, c, rfl, hD0, hD⟩ := hy
    refine ⟨e4, some vs, ⟨vs, rfl, ⟨D, rfl⟩, ?_⟩, ⟨D, c, rfl, hD⟩, fun _ a ha => by cases ha; exact hD0⟩
    refine strs_of (by rw [Array.length_toList, hsz, hlen, List.length_map]) fun j v hv => ?_
    have hjr : j < (srcsOf ks a).length := by
      have := (List.getElem?_eq_some_iff.mp hv).1
      rw [Array.length_toList] at this; omega
    obtain ⟨v', hv', hp⟩ := hdr j _ hjr (List.getElem?_eq_getElem hjr)
    obtain ⟨q, t, u, hq, _, hP⟩ := hrs j _ (List.getElem?_eq_getElem hjr)
    rw [hP] at hp
    have hvv : v' = v := by
      have : vs[j]? = some v := by simpa using hv
      rw [hv'] at this; exact Option.some.inj this
    subst hvv
    rcases i with _ | _ | i
    · simp at hp
      exact ⟨q.1, t, by rw [List.getElem?_map, hq]; rfl, hp.symm⟩
    · simp at hp
      exact ⟨q.2, u, by rw [List.getElem?_map, hq]; rfl, hp.symm⟩
    · omega
  · intro D ys s' e' hD0 hD hP
    refine fin D ys s' e' hD0 hD ?_
    by_cases hm : ms = []
    · left
      rw [if_pos hm] at hP
      refine ⟨hm, ?_⟩
      cases hP with
      | nil => rfl
    · right
      rw [if_neg hm] at hP
      obtain ⟨v0, v1, rfl, a0, a1⟩ := twoLists rfl hP
      exact ⟨v0, v1, rfl, by simpa using a0, by simpa using a1⟩
end
theorem twoListsF {off : List Addr} {g h : Heap} {f : Nat → List Nat} {n : Nat} {ys : List Value} (hn : n = 2) (hP : Paired (ElemOk off g h (SLF f)) ((List.range n).filter fun _ => true) ys) :
    ∃ v0 v1, ys = [v0, v1] ∧ SL h v0 (f 0) ∧ SL h v1 (f 1) ∧ (∀ a, v0 = .ref a → g.get? a = none) ∧ (∀ a, v1 = .ref a → g.get? a = none) := by
  subst hn
  have e : (List.range 2).filter (fun _ => true) = [0, 1] := rfl
  rw [e] at hP
  cases hP with
  | cons h0 r => cases r with
    | cons h1 r => cases r with
      | nil =>
        refine ⟨_, _, rfl, SL.of h0, SL.of h1, fun a ha => ?_, fun a ha => ?_⟩
        · obtain ⟨d, ⟨vs, hd, _⟩, _, k⟩ := h0
          exact (k (by rw [hd]; simp) a ha).1
        · obtain ⟨d, ⟨vs, hd, _⟩, _, k⟩ := h1
          exact (k (by rw [hd]; simp) a ha).1
theorem sl_ne {h : Heap} {N a : Addr} {its : Array Value} {n : Nat} {v : Value} {cs : List Nat} (hN : h.get? N = some { cls := .type "list", data := .seq its n }) (x : SL h v cs) (h0 : its[0]? = some (.ref a)) : v ≠ .ref N := fun e => by
  obtain ⟨l, its', e', ⟨o, ho, _, k, hd⟩, hs⟩ := x
  rw [e] at e'; cases e'
  rw [hN] at ho; cases ho
  injection hd with h1 _
  subst h1
  obtain ⟨c, u, _, e2⟩ := strs_get hs 0 (.ref a) (by simpa using h0)
  cases e2
theorem SL.other {h h' : Heap} {N : Addr} {v : Value} {cs : List Nat} (x : SL h v cs) (hv : v ≠ .ref N) (k : ∀ b o, b ≠ N → h.get? b = some o → h'.get? b = some o) : SL h' v cs :=
  let ⟨l, its, e, hl, hs⟩ := x; ⟨l, its, e, list_at hl fun o q => k l o (fun q' => hv (by rw [e, q'])) q, hs⟩
section
variable {w : World} {A : Around} {E : Value → Shared → Prop} {s s₀ s₁ : Shared} {env : Env} {m₀ cm : Str → Option Value} {sc : Scope} {cs : List (Str × Addr)}
theorem compZip2 {elt : Expr} {xa xb : Str} {pa pb pt : Pos} {kt : Nat} {ifs : List Expr} {scope : Scope} {cl : List (Str × Addr)} {Q : Value → Shared → Prop} (k0 k1 : ZSrc) (pz : Nat → Bool) (F : Nat → Value → Option (Array Value) → Prop) (G : Gd w s) (e : Eff s s₁) (hh : A.handled = none) (hk0 : ZOk w k0 s₁.heap) (hk1 : ZOk w k1 s₁.heap)
    (hxa : scope.names.lookup xa = some .local) (hxb : scope.names.lookup xb = some .local) (hab : xa ≠ xb) (hn : k0.n ≤ 1000)
    (tests : ∀ i va vb cenv m s₃ E', k0.P i va → k1.P i vb → m xa = some va → m xb = some vb → Ev cenv (rl scope sc) cl → Rd w cenv m cm s₃.heap s₃.gens → Eff s s₃ →
      wpAny (model Pg w) A (forIn ifs true fun c r => if r = true then do let ok ← isTrue c cenv (eval c cenv); pure (ForInStep.yield ok) else pure (ForInStep.yield r)) (fun ok s₄ => ok = pz i ∧ Eff s₃ s₄) E' s₃)
    (elts : ∀ i va vb cenv m s₃ E', k0.P i va → k1.P i vb → m xa = some va → m xb = some vb → pz i = true → Ev cenv (rl scope sc) cl → Rd w cenv m cm s₃.heap s₃.gens → Eff s s₃ →
      wpAny (model Pg w) A (eval elt cenv) (fun y s₄ => Eff s₃ s₄ ∧ ∃ d, F i y d ∧ Holds1 s₄.heap y d ∧ (d ≠ none → ∀ a, y = .ref a → s₃.heap.get? a = none)) E' s₃)
    (fin : ∀ D ys s', Eff s s' → s.heap.get? D = none → s'.heap.get? D = some (lst ys) → Paired (ElemOk [D] s.heap s'.heap F) ((List.range (min k0.n k1.n)).filter pz) ys → Q (.ref D) s') :
    wpAny (model Pg w) A (call (.type "zip") [k0.val, k1.val]) (fun xv s₂ => wpAny (model Pg w) A (pyIter xv) (CompSt w A s cm sc elt (.Tuple [.Name xa pa, .Name xb pb] kt pt) ifs scope cl Q) E s₂) E s₁ := by
  refine zipCall (ks := [k0, k1]) G e (fun k hk => ?_) (by simp) fun a z TI TO s₂ Z e2 => ?_
  · rcases List.mem_cons.mp hk with rfl | hk
    · exact hk0
    · rw [List.mem_singleton.mp hk]; exact hk1
  refine zipIter2 (pa := pa) (pb := pb) (pt := pt) (kt := kt) (r1 := ⟨a, k0.fp a, k0.n, k0.P, k0.St a⟩) (r2 := ⟨a + 1, k1.fp (a + 1), k1.n, k1.P, k1.St (a + 1)⟩) hh Z hab fun it S => ?_
  refine compOf pz F S (fun y hy => ?_) (by rw [PySem.sizeLine_eq]; show min k0.n k1.n ≤ _; omega) ?_ ?_ fin
  · rcases List.mem_cons.mp hy with rfl | hy
    · exact hxa
    · rw [List.mem_singleton.mp hy]; exact hxb
  · rintro i cenv m s₃ E' hi ⟨va, vb, p1, p2, h1, h2⟩ hVc hR ex
    exact tests i va vb cenv m s₃ E' p1 p2 h1 h2 hVc hR ex
  · rintro i cenv m sd s₃ E' hi ⟨va, vb, p1, p2, h1, h2⟩ _ hpz hVc hR ex
    exact elts i va vb cenv m s₃ E' p1 p2 h1 h2 hpz hVc hR ex
/-- the tail of a list behind a place -/
theorem sliceTail {value lower : Expr} {p pos : Pos} {Q : Value → Shared → Prop}
    (h : wpAny (model Pg w) A (eval value env) (fun o s₁ => wpAny (model Pg w) A (eval lower env) (fun vl s₂ => ∃ l its k t, o = .ref l ∧ vl = .int (k : Nat) t ∧ s₂.heap.IsList l its ∧ its.size ≤ 1000 ∧
      ∀ D s', Eff s₂ s' → s₂.heap.get? D = none → s'.heap.get? D = some { cls := .type "list", data := .seq (slicePick its (some (k : Int)) none none) } → Q (.ref D) s') E s₁) E s)
    (ht : ∀ o r, letTemporaryGo value o r = pure () := by intro _ _; rfl) :
    wpAny (model Pg w) A (eval (.Subscript value (.Slice (some lower) none none p) pos) env) Q E s := by
  refine wpAny_Subscript_list_slice (wpAny_mono h (fun o s₁ h₁ => ?_) fun _ _ e => e) ht
  rw [evalPart_some]
  refine wpAny_mono h₁ (fun vl s₂ h₂ => ?_) fun _ _ e => e
  obtain ⟨l, its, k, t, rfl, rfl, hl, hsz, hq⟩ := h₂
  rw [evalPart_none]
  refine wpAny_pure ⟨l, its, some (k : Int), none, rfl, hl, by rw [PySem.sizeLine_eq]; omega, .int _ _, .none, ?_⟩
  have g := Heap.get?_push_size (s₂.heap.push { cls := .type "slice", data := .fields #[.int (k : Nat) t, .none, .none] }) (o := { cls := .type "list", data := .seq (slicePick its (some (k : Int)) none none) }) rfl
  rw [Heap.size_push] at g
  refine hq _ _ (Eff.of (tk := s₂.toks) fun b o e => Heap.get?_push_of_some _ (Heap.get?_push_of_some _ e)) ?_ g
  cases q : s₂.heap.get? (s₂.heap.objs.size + 1) with
  | none => rfl
  | some o => exact absurd (Heap.lt_size q) (Nat.not_lt.mpr (Nat.le_succ _))
end
theorem addLs {w : World} {A : Around} {E : Value → Shared → Prop} {s : Shared} {l b : Addr} {xs ys : Array Value} {Q : Value → Shared → Prop} (hl : s.heap.IsList l xs) (hb : s.heap.IsList b ys) (hx : xs.size ≤ 1000) (hy : ys.size ≤ 1000)
    (h : ∀ D s', Eff s s' → s.heap.get? D = none → s'.heap.get? D = some { cls := .type "list", data := .seq (xs ++ ys) } → Q (.ref D) s') : wpAny (model Pg w) A (binaryOp .Add (.ref l) (.ref b)) Q E s := by
  obtain ⟨⟨cls, dd, data, sl⟩, ho, hc, n, hd⟩ := id hl
  obtain ⟨⟨cls2, dd2, data2, sl2⟩, ho2, hc2, n2, hd2⟩ := id hb
  simp only at hc hd hc2 hd2
  subst hc hd hc2 hd2
  refine concat_meets ⟨_, ho, rfl⟩ ⟨_, ho2, rfl⟩ noFill_list_add seq_list_add PySem.F.slot_list_add PySem.F.entry_list_add (PySem.F.args_list_add_2 _ _) (list_addW l b xs ys n n2 dd dd2 sl sl2 (by rw [PySem.sizeLine_eq]; omega)) ⟨ho, ho2, ?_⟩
  exact h _ _ (.of fun _ _ e => Heap.get?_push_of_some _ e) (newNone s) (Heap.get?_push_size _ rfl)
theorem strs_append {vs ws : List Value} {a b : List Nat} (h : StrsAre vs (a.map sg)) (k : StrsAre ws (b.map sg)) : StrsAre (vs ++ ws) ((a ++ b).map sg) := by
  rw [List.map_append]; exact go h k
where
  go : ∀ {vs ws : List Value} {a b : List Str}, StrsAre vs a → StrsAre ws b → StrsAre (vs ++ ws) (a ++ b)
    | _, _, _, _, .nil, k => k
    | _, _, _, _, .cons x t r, k => .cons x t (go r k)

end Cz

section D3
set_option maxHeartbeats 8000000 in
theorem call_code {w : World} {A : Around} {E : Value → Shared → Prop} {s : Shared} {Q : Value → Shared → Prop} {p : Addr} {W1 W2 : List Nat} {t1 t2 : Tok}
    (G : Gd w s) (hh : A.handled = none) (hA : A.depth + 8 < recursionLimit) (I : Inst s.heap p) (hL1 : ∀ c ∈ W1, isLet c) (hn1 : W1.length ≤ 1000) (hL2 : ∀ c ∈ W2, isLet c) (hn2 : W2.length ≤ 1000)
    (h : ∀ s' t, Eff s s' → Q (.int ((if W1 = [] ∨ W2 = [] then 0 else told (code W1) (code W2) : Nat) : Int) t) s') : codeAny (model Pg w) A (.call (.ref 204) ⟨[.ref p, .str (tx W1) t1, .str (tx W2) t2], []⟩) (fun r s' => match r with | .ok (.ret v) => Q v s' | .ok _ => False | .error e => E e s') s := by
  refine (enterV (vs := [.str (tx W1) t1, .str (tx W2) t2]) (binds := fun T => [("self", .ref p), ("sequences", T)]) G (by omega) (by rfl) (by kernel_rfl) rfl (by rfl) rfl rfl (fun _ => by rfl) (by rw [PySem.sizeLine_eq]; simp) rfl rfl rfl ?_)
  intro T env V hcode hTL s₁ B hT0 hT
  dsimp only at V hcode B
  have hTt : s₁.heap.IsTuple T #[.str (tx W1) t1, .str (tx W2) t2] := ⟨_, hT, rfl, 0, rfl⟩
  have I₁ := I.eff G B.end
  refine wpAny_execs_cons ?_
  walk1; walk1; walk1; walk1; walk1; walk1; walk1; walk1; walk1
  refine allStrs hh hTt hn1 hn2 fun s₂ e₂ => ?_
  have B2 := B.eff e₂
  refine wpAny_truthy_bool ?_
  by_cases hW : W1 = [] ∨ W2 = []
  · rw [if_pos hW] at h
    have hb : (!(decide (W1 ≠ []) && decide (W2 ≠ []))) = true := by rcases hW with q | q <;> simp [q]
    rw [hb, if_pos rfl]
    walk1; walk1; walk1
    exact h _ _ (B2.end.trans Eff.toks)
  rw [if_neg hW] at h
  have hb : (!(decide (W1 ≠ []) && decide (W2 ≠ []))) = false := by
    have h1 : W1 ≠ [] := fun q => hW (.inl q)
    have h2 : W2 ≠ [] := fun q => hW (.inr q)
    simp [h1, h2]
  rw [hb, if_neg Bool.false_ne_true]
  walk1
  refine wpAny_execs_cons ?_
  have hTt2 : s₂.heap.IsTuple T #[.str (tx W1) t1, .str (tx W2) t2] := let ⟨o, ho, r⟩ := hTt; ⟨o, e₂.keep T o (B.offCellT hTt).2.2 ho, r⟩
  have I₂ := I₁.eff B.G e₂
  refine assignComp (by exact B2) V (cl := [("self", env.locals + 1)]) ⟨rfl, trivial⟩ (by unfold swapsWith Env.blockKind Env.kindOf; rw [V.sc]; rfl) (by rfl) rfl (by unfold closureFor cellOf; rw [V.c]; rfl) (by decide) rfl (by decide) (fun _ => rfl) ?_
  walk1
  refine compTup (fun _ => true) (SLF fun i => code (if i = 0 then W1 else W2)) B2.G (.refl _) hh hTt2 rfl (by simp) ?_ ?_ ?_
  · intro i v cenv m s₃ E' hv hm hVc hR ex
    exact wpAny_tests_nil ⟨rfl, .refl _⟩
  · intro i v cenv m s₃ E' hv hm _ hVc hR ex
    have hv' : ∃ W t, v = .str (tx W) t ∧ W = (if i = 0 then W1 else W2) ∧ (∀ c ∈ W, isLet c) ∧ W.length ≤ 1000 := by
      rcases i with _ | _ | i
      · simp at hv; exact ⟨W1, t1, hv.symm, rfl, hL1, hn1⟩
      · simp at hv; exact ⟨W2, t2, hv.symm, rfl, hL2, hn2⟩
      · simp at hv
    obtain ⟨W, t, rfl, hWi, hL, hn⟩ := hv'
    have I₃ := I₂.eff B2.G ex
    walk1; walk1; walk1; walk1; walk1; walk1
    refine instMeth (f := 199) hR.G I₃ (by decide) (by kernel_rfl) (by kernel_rfl) ?_
    refine callM hR.G (by kernel_rfl) ?_
    walk1; walk1; walk1
    refine ⟨hR.G, mra_spec hR.G hh (by show A.depth + 1 + 4 < _; omega) hL hn fun s₄ t₄ e₄ => ?_⟩
    walk1
    have hcl := code_le W
    refine listStr (hR.G.eff e₄) hh (by omega) fun D acc c s₅ e₅ hD0 hD hst => ?_
    exact ⟨e₄.trans e₅, some acc, ⟨acc, rfl, ⟨D, rfl⟩, by show StrsAre _ ((code (if i = 0 then W1 else W2)).map sg); rw [← hWi]; exact hst⟩, ⟨D, c, rfl, hD⟩, fun _ a ha => by cases ha; exact none_back hR.G e₄ hD0⟩
  intro D ys s₃ e3 hD0 hD hP h' tk B3 k3
  obtain ⟨v0, v1, rfl, hs0, hs1⟩ := twoLists (n := (#[.str (tx W1) t1, .str (tx W2) t2] : Array Value).size) rfl hP
  have Bs := B2.eff e3
  have hD2 : Heap.IsList h' D #[v0, v1] := ⟨_, k3 D _ (B2.newNe hD0) hD, rfl, _, rfl⟩
  have h0 := hs0.but Bs.ns k3
  have h1 := hs1.but Bs.ns k3
  have I3 : Inst h' p := I.eff (s' := { s₃ with heap := h', toks := tk }) G B3.end
  have ha6 : (code W1).length ≤ 6 := code_le W1
  have hb6 : (code W2).length ≤ 6 := code_le W2
  rw [show code (if (0 : Nat) = 0 then W1 else W2) = code W1 from rfl] at h0
  rw [show code (if (1 : Nat) = 0 then W1 else W2) = code W2 from rfl] at h1
  generalize code W1 = a at h h0 ha6
  generalize code W2 = b at h h1 hb6
  generalize hS3 : ({ s₃ with heap := h', toks := tk } : Shared) = S3 at *
  have E3 : h' = S3.heap := by rw [← hS3]
  rw [E3] at hD2 h0 h1 I3
  refine wpAny_execs_cons ?_
  walk1; walk1; walk1; walk1; walk1; walk1; walk1; walk1; walk1
  walk1; walk1; walk1; walk1
  refine mapCall B3.G (.refl _) hD2 (lens2 h0 h1 (by omega) (by omega)) fun mv S4 M => ?_
  walk1
  refine listMap hh M (by simp) B3.G fun L vs nL S5 e5 hL0 hL hsz hv => ?_
  obtain ⟨u0, u1, rfl⟩ := twoInts (by rw [hsz]; rfl) hv
  have hLl : S5.heap.IsList L (two a.length b.length u0 u1) := ⟨_, hL, rfl, nL, rfl⟩
  have B5 := B3.eff e5
  refine Bd'.st (by exact B5) V (by rfl) fun S6 B6 o6 => ?_
  have k6 : Lk env S3 S6 := ((Lk.refl env S3).eff e5).oth o6
  have hL6 := lst_lk B5 hLl ((Lk.refl env S5).oth o6)
  have hD6 := lst_lk B3 hD2 k6
  have h06 := h0.lk B3 k6
  have h16 := h1.lk B3 k6
  refine wpAny_execs_cons ?_
  walk1; walk1; walk1; walk1; walk1; walk1; walk1
  refine call_len_list hL6 (by simp) ?_
  refine Bd'.st (by exact B6) V (by rfl) fun S7 B7 o7 => ?_
  refine wpAny_execs_cons ?_
  walk1; walk1; walk1; walk1; walk1; walk1; walk1
  have hL7 := lst_lk B6 hL6 ((Lk.refl env S6).oth o7)
  refine maxL2 hh hL7 fun mt S8 e8 => ?_
  have B8 := B7.eff e8
  refine Bd'.st (by exact B8) V (by rfl) fun S9 B9 o9 => ?_
  have k9 : Lk env S6 S9 := (((Lk.refl env S6).oth o7).eff e8).oth o9
  have hL9 := lst_lk B6 hL6 k9
  have hD9 := lst_lk B6 hD6 k9
  have h09 := h06.lk B6 k9
  have h19 := h16.lk B6 k9
  refine wpAny_execs_cons ?_
  walk1; walk1; walk1; walk1; walk1; walk1; walk1; walk1; walk1
  walk1; walk1; walk1; walk1; walk1
  refine minL2 hh hL9 fun nt SA eA => ?_
  have BA := B9.eff eA
  walk1; walk1
  refine call_abs_int fun at' ak => ?_
  walk1; walk1
  refine wpAny_truthy_bool ?_
  have h2s : ((two (a.length : Int) b.length u0 u1).size : Int) = 2 := rfl
  rw [h2s]
  by_cases hfar : a.length > b.length + 2 ∨ b.length > a.length + 2
  · rw [if_pos (decide_eq_true (by split <;> omega))]
    have e0 : told a b = 0 := by unfold told; rw [if_pos hfar]
    rw [e0] at h
    walk1; walk1; walk1
    exact h _ _ (BA.end.trans Eff.toks)
  rw [if_neg (by rw [decide_eq_true_eq]; split <;> omega)]
  rw [← told_turns a b hfar] at h
  walk1
  refine wpAny_execs_cons ?_
  refine wpAny_For ?_
  walk1; walk1; walk1; walk1; walk1; walk1
  have kA : Lk env S9 SA := (Lk.refl env S9).eff eA
  have hLA := lst_lk B9 hL9 kA
  have hDA := lst_lk B9 hD9 kA
  have h0A := h09.lk B9 kA
  have h1A := h19.lk B9 kA
  refine forRange (n := 2) h2s (by omega) (by exact BA) V rfl rfl hh (LoopJ p (max a.length b.length) (iter2 a b)) ?j0 ?st1 ?st2 ?step ?done
  case j0 => exact ⟨D, v0, v1, L, u0, u1, rfl, rfl, hDA, h0A, h1A, rfl, hLA, mt, by show some (Value.int (max (a.length : Int) b.length) mt) = _; congr 2; omega⟩
  case st1 =>
    rintro i m cm s s' v ⟨D, v0, v1, L, u0, u1, x1, x2, x3, x4, x5, x6, x7, x8⟩ k
    exact ⟨D, v0, v1, L, u0, u1, x1, x2, k _ _ x3, x4.ls k, x5.ls k, x6, k _ _ x7, x8⟩
  case st2 =>
    rintro i m cm s s' ⟨D, v0, v1, L, u0, u1, x1, x2, x3, x4, x5, x6, x7, x8⟩ k
    exact ⟨D, v0, v1, L, u0, u1, x1, x2, k _ _ x3, x4.ls k, x5.ls k, x6, k _ _ x7, x8⟩
  case done =>
    rintro m' cm' s' BZ ⟨Dz, z0, z1, Lz, w0, w1, x1, x2, x3, x4, x5, x6, x7, tM, x8⟩
    walk1
    walk1; walk1; walk1; walk1
    refine wpAny_truthy_list x7 (by simp) ?_
    rw [show (!(two ((iter2 a b 2).1.length : Int) (iter2 a b 2).2.length w0 w1).isEmpty) = true from rfl]
    rw [if_neg (by decide)]
    walk1
    refine wpAny_execs_cons ?_
    walk1; walk1; walk1; walk1; walk1; walk1; walk1; walk1; walk1
    refine maxL2 hh x7 fun tz sz ez => ?_
    have BZ2 := BZ.eff ez
    walk1
    have ht1 := turn_len a b
    have ht2 := turn_len (turnA a b) (turnB a b)
    have e1 : iter2 a b 2 = (turnA (turnA a b) (turnB a b), turnB (turnA a b) (turnB a b)) := rfl
    rw [e1]
    have e2 : ((max a.length b.length : Nat) : Int) - max ((turnA (turnA a b) (turnB a b)).length : Int) ((turnB (turnA a b) (turnB a b)).length : Int) = ((max a.length b.length - max (turnA (turnA a b) (turnB a b)).length (turnB (turnA a b) (turnB a b)).length : Nat) : Int) := by omega
    rw [e2]
    exact h _ _ (BZ2.end.trans Eff.toks)
  case step =>
    rintro i m' cm' s' E' hi BB ⟨D', v0', v1', L', w0, w1, hself, hseq, hDl, hv0, hv1, hlen, hLl, tM, hM⟩
    have hle := iter2_le ha6 hb6 i
    have eI : iter2 a b (i + 1) = (turnA (iter2 a b i).1 (iter2 a b i).2, turnB (iter2 a b i).1 (iter2 a b i).2) := rfl
    have II : Inst s'.heap p := I.eff G BB.end
    unfold LoopJ
    rw [eI]
    generalize (iter2 a b i).1 = x at hv0 hLl hle
    generalize (iter2 a b i).2 = y at hv1 hLl hle
    dsimp only
    have hmin : env.cells.lookup (Str.ofString "minlen") = some (env.locals + 1 + 1) := by rw [V.c]; rfl
    refine wpAny_execs_cons ?_
    walk1; walk1; walk1
    refine newL fun N S1 E1 hN0 hN => ?_
    have BB1 := BB.eff E1
    refine Bd'.st (by exact BB1) V (by rfl) fun S2 BB2 oo2 => ?_
    have kk2 : Lk env s' S2 := ((Lk.refl env s').eff E1).oth oo2
    have hN2 : S2.heap.get? N = some { cls := .type "list", data := .seq #[] } := oo2 N _ (BB.newNe hN0) hN
    have hL2' := lst_lk BB hLl kk2
    refine wpAny_execs_cons ?_
    walk1; walk1; walk1; walk1; walk1; walk1; walk1
    refine minL2 hh hL2' fun tm S3 E3 => ?_
    have BB3 := BB2.eff E3
    refine Bd'.stC (by exact BB3) V (by rfl) (by rfl) fun S4 BB4 oo4 => ?_
    have kk4 : Lk env S2 S4 := ((Lk.refl env S2).eff E3).othC hmin oo4
    have k04 : Lk env s' S4 := kk2.trans kk4
    have hN4 : S4.heap.get? N = some { cls := .type "list", data := .seq #[] } := kk4 N _ (BB.newOff hN0).1 (BB.newOff hN0).2.1 (BB.newOff hN0).2.2 hN2
    have hD4 := lst_lk BB hDl k04
    have hv04 := hv0.lk BB k04
    have hv14 := hv1.lk BB k04
    refine wpAny_execs_cons ?_
    refine wpAny_For ?_
    walk1; walk1
    refine callSzip ?_
    walk1
    obtain ⟨oD, hoD, hcD, nD, hdD⟩ := id hD4
    refine starSeq (.inl rfl) hoD hcD hdD rfl (by simp) fun S5 E5 => ?_
    have BB5 := BB4.eff E5
    have hD5 := BB4.G.lst hD4 E5
    have hv05 := hv04.eff BB4.G E5
    have hv15 := hv14.eff BB4.G E5
    have hN5 : S5.heap.get? N = some { cls := .type "list", data := .seq #[] } := E5.keep N _ (BB.newOff hN0).2.2 hN4
    obtain ⟨l0, its00, hv0e, hl00, _⟩ := id hv0
    obtain ⟨l1, its10, hv1e, hl10, _⟩ := id hv1
    have hl0N : l0 ≠ N := fun e => by obtain ⟨o, ho, _⟩ := hl00; rw [e, hN0] at ho; exact nomatch ho
    have hl1N : l1 ≠ N := fun e => by obtain ⟨o, ho, _⟩ := hl10; rw [e, hN0] at ho; exact nomatch ho
    have hDN : D' ≠ N := fun e => by obtain ⟨o, ho, _⟩ := hDl; rw [e, hN0] at ho; exact nomatch ho
    obtain ⟨l0', its0, e0, hl0, hs0⟩ := id hv05
    obtain ⟨l1', its1, e1, hl1, hs1⟩ := id hv15
    rw [hv0e] at e0; cases e0
    rw [hv1e] at e1; cases e1
    subst hv0e hv1e
    have hn0 : its0.size = x.length := by have := strs_len hs0; simpa using this
    have hn1 : its1.size = y.length := by have := strs_len hs1; simpa using this
    refine forZip2 (N := N) (by exact BB5) V rfl rfl hh hl0 hl1 ⟨_, hN5⟩ hl0N hl1N (InnerJ p N D' (.ref l0) (.ref l1) x y (max a.length b.length) (min (x.length : Int) y.length)) ?h0 ?hJ ?stp ?dn
    case h0 =>
      intro wr s6 hwr e6
      refine ⟨hself, ⟨tm, rfl⟩, rfl, hseq, ⟨tM, hM⟩, BB5.G.lst hD5 e6, hv05.eff BB5.G e6, hv15.eff BB5.G e6, [], 0, e6.keep N _ (BB.newOff hN0).2.2 hN5, ?_⟩
      simpa [mism] using Paired.nil
    case hJ =>
      intro wr j m6 cm6 s6 s7 v hwr hB6 X k
      exact X.draw hwr hD5 hv05 hv15 ⟨_, hN5⟩ hB6 k v
    case stp =>
      intro wr j m6 cm6 s6 T w0' w1' E6 hwr hB6 hmT hTu hi0 hi1 hTw X
      obtain ⟨c0, t0, hc0, rfl⟩ := strs_get hs0 j w0' (by simpa using hi0)
      obtain ⟨c1, t1', hc1, rfl⟩ := strs_get hs1 j w1' (by simpa using hi1)
      have II6 : Inst s6.heap p := I.eff G hB6.end
      obtain ⟨X1, X2, X3, X4, X5, X6, X7, X8, Ts, c, X9, X10⟩ := id X
      refine wpAny_execs_cons ?_
      walk1; walk1; walk1
      refine starMeth ?_
      walk1
      refine attrIdent hB6.G II6 ?_
      have BBt : Bd w s env m6 cm6 { s6 with toks := s6.toks + 1 } := hB6.eff Eff.toks
      refine callS BBt.G (by kernel_rfl) ?_
      walk1
      obtain ⟨oT, hoT, hcT, nT, hdT⟩ := id hTu
      refine starSeq (.inr rfl) hoT hcT hdT rfl (by simp) fun s8 e8 => ⟨BBt.G.eff e8, ident_spec (BBt.G.eff e8) hh (by show A.depth + 1 + 4 < _; omega) fun s9 e9 => ?_⟩
      have B9' := (BBt.eff e8).eff e9
      have e69 : Eff s6 s9 := ((Eff.toks (s := s6)).trans e8).trans e9
      refine wpAny_truthy_bool ?_
      cases hcc : (c0 == c1) with
      | true =>
        rw [if_neg (by decide)]
        walk1; walk1
        exact ⟨rfl, m6, cm6, B9', X.skip hB6 e69 hc0 hc1 hcc, fun b o _ _ _ h4 q => e69.keep b o h4 q⟩
      | false =>
        rw [if_pos (by decide)]
        have hN9 := e69.keep N _ (hB6.offCell ⟨_, X9, rfl, c, rfl⟩).2.2 X9
        refine wpAny_execs_cons ?_
        refine wpAny_Expr ?_ (by unfold interactive; rw [V.sc]; rfl)
        walk1; walk1
        refine getMethod_list_append hN9 rfl rfl ?_
        walk1; walk1; walk1; walk1
        have hTl : Ts.length ≤ 6 := by
          have h1 := paired_len X10
          have h2 := mism_len (x.take j) (y.take j)
          rw [List.length_take, List.length_take] at h2
          omega
        have hN00 : s.heap.get? N = none := none_back G BB.end hN0
        have hTu9 : s9.heap.IsTuple T #[.str (sg c0) t0, .str (sg c1) t1'] := tuple_at hTu fun o q => e69.keep T o (hB6.offCellT hTu).2.2 q
        have hNoff := BB.newOff hN0
        refine append_at hN9 (fun h9 hs9 hN9' => ?_) (by rw [PySem.sizeLine_eq]; simp; omega)
        dsimp only
        walk1; walk1
        exact ⟨rfl, m6, cm6, B9'.other hs9 hNoff.1 (fun n c e q => hNoff.2.1 n c e q.symm) hN00 hNoff.2.2,
          (X.eff hB6 e69).add B9' hc0 hc1 hcc hTu9 hTw hDN (fun _ _ => ⟨fun q => hl0N (by cases q; rfl), fun q => hl1N (by cases q; rfl)⟩) hN9 (fun b o hb q => hs9.extBut b o hb q) hN9',
          fun b o h1 _ _ h4 q => hs9.extBut b o h1 (e69.keep b o h4 q)⟩
    case dn =>
      intro wr m6 cm6 s6 s7 hwr hB6 X hB7 k7 K7
      have X7 := X.move (s' := s7) hwr hD5 hv05 hv15 ⟨_, hN5⟩ k7
      have k57 : Lk env S5 s7 → True := fun _ => trivial
      have kk7 : Lk env s' s7 := fun b o h1 h2 h3 q => K7 b o (fun z => by rw [z, hN0] at q; cases q) h1 h2 h3 (E5.keep b o h3 (k04 b o h1 h2 h3 q))
      obtain ⟨X1, ⟨tmn, X2⟩, X3, X4, ⟨tM7, X5⟩, X6, X7a, X8, Ts, c, X9, X10⟩ := X7
      rw [hn0, hn1, mism_full] at X10
      have hml : (mism x y).length ≤ 6 := by have := mism_len x y; omega
      have hTl : Ts.length ≤ 6 := by have := paired_len X10; omega
      walk1
      refine assignComp (by exact hB7) V (cl := []) trivial (by unfold swapsWith Env.blockKind Env.kindOf; rw [V.sc]; rfl) (by rfl) rfl (by unfold closureFor cellOf; rw [V.c]; rfl) (by decide) rfl (by decide) (fun _ => rfl) ?_
      walk1; walk1
      refine callSzip ?_
      walk1
      refine starSeq (.inl rfl) X9 rfl rfl rfl (by simp; omega) fun s8 e8 => ?_
      dsimp only
      refine compZipT hB7.G e8 hh (paired_mono X10 fun T q ⟨h1, t, u, h2⟩ => ⟨h1, t, u, tuple_at h2 fun o q => e8.keep T o (hB7.offCellT h2).2.2 q⟩) (by omega) rfl ?el ?fi
      case el =>
        intro T vs cenv m s₃ E₁ hm hT hsz hVc hR ex
        walk1; walk1; walk1; walk1; walk1; walk1
        refine listTup hT hsz fun D c s₄ e₄ hD0 hD => ?_
        exact ⟨e₄, D, c, rfl, hD0, hD⟩
      case fi =>
        intro N2 ys s9 e9 hN20 hN2 hys h'' tk'' B9'' k9''
        have hoffN2 := hB7.newOff hN20
        have hN2' : Heap.get? h'' N2 = some (lst ys) := k9'' N2 _ hoffN2.1 hN2
        have k79 : Lk env s7 { s9 with heap := h'', toks := tk'' } := ((Lk.refl env s7).eff e9).oth k9''
        have hDd9 := lst_lk hB7 X6 k79
        have hx9 := X7a.lk hB7 k79
        have hy9 := X8.lk hB7 k79
        have hys9 : mism x y = [] ∧ ys = [] ∨ ∃ v0 v1, ys = [v0, v1] ∧ SL h'' v0 ((mism x y).map (·.1)) ∧ SL h'' v1 ((mism x y).map (·.2)) := by
          rcases hys with q | ⟨v0, v1, q, q0, q1⟩
          · exact .inl q
          · exact .inr ⟨v0, v1, q, q0.but (hB7.eff e9).ns k9'', q1.but (hB7.eff e9).ns k9''⟩
        have kk9 := kk7.trans k79
        have hN2s : s.heap.get? N2 = none := none_back G hB7.end hN20
        generalize hS9 : ({ s9 with heap := h'', toks := tk'' } : Shared) = S9 at *
        have EE9 : h'' = S9.heap := by rw [← hS9]
        rw [EE9] at hN2' hys9
        have hyl : ys.length ≤ 2 := by rcases hys9 with ⟨_, q⟩ | ⟨_, _, q, _⟩ <;> simp [q]
        refine wpAny_execs_cons ?_
        walk1
        refine wpAny_loadName_local (by rw [V.sc]) (by rw [Env.kindOf, V.sc]; rfl) B9''.ns (by rfl) ?_
        refine listComp (by exact B9'') V (cl := []) trivial (by unfold closureFor cellOf; rw [V.c]; rfl) (by decide) rfl (by decide) (fun _ => rfl) ?_
        walk1; walk1; walk1; walk1; walk1; walk1; walk1; walk1; walk1; walk1
        walk1
        refine call_len_list hDd9 (by simp) ?_
        walk1; walk1; walk1; walk1; walk1; walk1
        refine call_len_list (items := ys.toArray) ⟨_, hN2', rfl, _, rfl⟩ (by simp; omega) ?_
        walk1; walk1
        refine call_range_1 ?_
        have hr2 : (((#[Value.ref l0, .ref l1] : Array Value).size : Nat) : Int) - ((ys.toArray.size : Nat) : Int) = ((2 - ys.length : Nat) : Int) := by
          have hsz1 : ys.toArray.size = ys.length := by simp
          rw [hsz1]; show (2 : Int) - (ys.length : Int) = _; omega
        refine compRange (fun _ => true) (SLF fun _ => []) (n := 2 - ys.length) B9'' (.of fun _ _ q => Heap.get?_push_of_some _ q) hh rfl (Heap.get?_push_size _ rfl) (by rw [hr2]; exact small_one (by omega) (by omega) (by omega) (by omega)) (by rw [hr2, rangeSize_nat, Int.sub_zero, Int.toNat_natCast]) (by rw [PySem.sizeLine_eq]; omega) ?ra ?rb ?rc
        case ra =>
          intro i1 t1 cenv m1 s₃ E₁ hi1 hm1 hVc hR ex
          exact wpAny_tests_nil ⟨rfl, .refl _⟩
        case rb =>
          intro i1 t1 cenv m1 s₃ E₁ hi1 hm1 _ hVc hR ex
          walk1; walk1
          refine newL fun Z s₄ e₄ hZ0 hZ => ?_
          exact ⟨e₄, some #[], ⟨#[], rfl, ⟨Z, rfl⟩, .nil⟩, ⟨Z, 0, rfl, hZ⟩, fun _ a ha => by cases ha; exact hZ0⟩
        case rc =>
          intro M1 zs sA eA hM0 hM hPz
          have BAz := B9''.eff eA
          have hN2A : sA.heap.get? N2 = some (lst ys) := eA.keep N2 _ (B9''.offCell ⟨_, hN2', rfl, _, rfl⟩).2.2 hN2'
          obtain ⟨g0, g1, hcat, hg0, hg1, hgn0, hgn1⟩ : ∃ g0 g1, ys ++ zs = [g0, g1] ∧ SL sA.heap g0 ((mism x y).map (·.1)) ∧ SL sA.heap g1 ((mism x y).map (·.2)) ∧ g0 ≠ .ref N2 ∧ g1 ≠ .ref N2 := by
            rcases hys9 with ⟨hm, rfl⟩ | ⟨g0, g1, rfl, q0, q1⟩
            · obtain ⟨g0, g1, rfl, a0, a1, f0, f1⟩ := twoListsF (n := 2 - ([] : List Value).length) rfl hPz
              refine ⟨g0, g1, rfl, by rw [hm]; exact a0, by rw [hm]; exact a1, fun q => ?_, fun q => ?_⟩
              · have := f0 N2 q; rw [hN2'] at this; cases this
              · have := f1 N2 q; rw [hN2'] at this; cases this
            · have hz : zs = [] := by cases hPz with | nil => rfl
              subst hz
              obtain ⟨la, _, ea, _⟩ := id q0
              subst ea
              exact ⟨_, g1, rfl, q0.eff B9''.G eA, q1.eff B9''.G eA, sl_ne hN2' q0 rfl, sl_ne hN2' q1 rfl⟩
          refine iaddList (xs := ys.toArray) (ys := zs.toArray) hN2A hM (by simp; omega) (by have := congrArg List.length hcat; simp at this ⊢; omega) fun hB cB hsB hN2B => ?_
          have hcat' : ys.toArray ++ zs.toArray = #[g0, g1] := by
            have : ys.toArray ++ zs.toArray = (ys ++ zs).toArray := by simp
            rw [this, hcat]
          rw [hcat'] at hN2B
          have upB : ∀ b o, b ≠ N2 → sA.heap.get? b = some o → hB.get? b = some o := fun b o hb q => hsB.extBut b o hb q
          have BBz := BAz.other (tk := sA.toks) hsB hoffN2.1 (fun n c e q => hoffN2.2.1 n c e q.symm) hN2s hoffN2.2.2
          have ne7 : ∀ {l : Addr} {its : Array Value}, s7.heap.IsList l its → l ≠ N2 := fun ⟨o, ho, _⟩ q => by rw [q, hN20] at ho; cases ho
          have hDB : Heap.IsList hB D' #[.ref l0, .ref l1] := list_at (B9''.G.lst hDd9 eA) fun o q => upB _ o (ne7 X6) q
          have nl : ∀ {l : Addr} {cs : List Nat}, SL s7.heap (.ref l) cs → Value.ref l ≠ .ref N2 := fun ⟨l', its, e, hl, _⟩ q => by cases e; exact ne7 hl (by cases q; rfl)
          have hxB : SL hB (.ref l0) x := (hx9.eff B9''.G eA).other (nl X7a) upB
          have hyB : SL hB (.ref l1) y := (hy9.eff B9''.G eA).other (nl X8) upB
          have hg0B : SL hB g0 ((mism x y).map (·.1)) := hg0.other hgn0 upB
          have hg1B : SL hB g1 ((mism x y).map (·.2)) := hg1.other hgn1 upB
          have kkB : Lk env s' { sA with heap := hB } := fun b o h1 h2 h3 q => upB b o (fun z => by
            have := kk7 b o h1 h2 h3 q
            rw [z, hN20] at this; cases this) (eA.keep b o h3 (kk9 b o h1 h2 h3 q))
          refine Bd'.st (by exact BBz) V (by rfl) fun SC BC oC => ?_
          have kC : Lk env { sA with heap := hB } SC := (Lk.refl env _).oth oC
          have hDC := lst_lk BBz hDB kC
          have hNC : SC.heap.IsList N2 #[g0, g1] := lst_lk BBz ⟨_, hN2B, rfl, _, rfl⟩ kC
          have hxC := hxB.lk BBz kC
          have hyC := hyB.lk BBz kC
          have hg0C := hg0B.lk BBz kC
          have hg1C := hg1B.lk BBz kC
          have kkC := kkB.trans kC
          refine wpAny_execs_cons ?_
          refine assignComp (by exact BC) V (cl := [("minlen", env.locals + 1 + 1)]) ⟨rfl, trivial⟩ (by unfold swapsWith Env.blockKind Env.kindOf; rw [V.sc]; rfl) (by rfl) rfl (by unfold closureFor cellOf; rw [V.c]; rfl) (by decide) rfl (by decide) (fun _ => rfl) ?_
          walk1; walk1; walk1; walk1; walk1; walk1; walk1; walk1
          obtain ⟨lg0, itg0, eg0, hlg0, hsg0⟩ := id hg0C
          obtain ⟨lg1, itg1, eg1, hlg1, hsg1⟩ := id hg1C
          obtain ⟨lx, itx, ex0, hlx, hsx⟩ := id hxC
          cases ex0
          obtain ⟨ly, ity, ey0, hly, hsy⟩ := id hyC
          cases ey0
          subst eg0 eg1
          have lxl : itx.size ≤ 6 := by have := strs_len hsx; rw [Array.length_toList] at this; omega
          have lyl : ity.size ≤ 6 := by have := strs_len hsy; rw [Array.length_toList] at this; omega
          have lg0l : itg0.size ≤ 6 := by have := strs_len hsg0; rw [Array.length_toList, List.length_map] at this; omega
          have lg1l : itg1.size ≤ 6 := by have := strs_len hsg1; rw [Array.length_toList, List.length_map] at this; omega
          refine compZip2 (zList N2 #[.ref lg0, .ref lg1]) (zList D' #[.ref l0, .ref l1]) (fun _ => true) (SLF fun i => if i = 0 then turnA x y else turnB x y) BC.G (.refl _) hh (zList_ok hNC) (zList_ok hDC) rfl rfl (by decide) (by simp) ?za ?zb ?zc
          case za =>
            intro i1 va vb cenv m1 s₃ E₁ p1 p2 h1 h2 hVc hR ex
            exact wpAny_tests_nil ⟨rfl, .refl _⟩
          case zb =>
            intro i1 va vb cenv m1 s₃ E₁ p1 p2 h1 h2 _ hVc hR ex
            obtain ⟨la, lb, ita, itb, ca, cb, rfl, rfl, hla, hlb, hsa, hsb, hca, hta, htb⟩ : ∃ (la lb : Addr) (ita itb : Array Value) (ca cb : List Nat), va = .ref la ∧ vb = .ref lb ∧ SC.heap.IsList la ita ∧ SC.heap.IsList lb itb ∧ StrsAre ita.toList (ca.map sg) ∧ StrsAre itb.toList (cb.map sg) ∧ ca ++ cb.drop (min x.length y.length) = (if i1 = 0 then turnA x y else turnB x y) ∧ ita.size ≤ 6 ∧ itb.size ≤ 6 := by
              rcases i1 with _ | _ | i1
              · simp at p1 p2
                exact ⟨lg0, l0, itg0, itx, _, _, p1.symm, p2.symm, hlg0, hlx, hsg0, hsx, rfl, lg0l, lxl⟩
              · simp at p1 p2
                exact ⟨lg1, l1, itg1, ity, _, _, p1.symm, p2.symm, hlg1, hly, hsg1, hsy, rfl, lg1l, lyl⟩
              · simp at p1
            have hla3 := BC.G.lst hla ex
            have hlb3 := BC.G.lst hlb ex
            walk1; walk1
            refine sliceTail ?_
            walk1; walk1
            refine ⟨lb, itb, min x.length y.length, tmn, rfl, by rw [show ((min x.length y.length : Nat) : Int) = min (x.length : Int) y.length by omega], hlb3, by omega, fun Z s₄ e₄ hZ0 hZ => ?_⟩
            have hla4 := hR.G.lst hla3 e₄
            have hsp : (slicePick itb (some ((min x.length y.length : Nat) : Int)) none none).size ≤ 1000 := by
              rw [slicePick_from']; simp; omega
            refine addLs hla4 (ys := slicePick itb (some ((min x.length y.length : Nat) : Int)) none none) ⟨_, hZ, rfl, _, rfl⟩ (by omega) hsp fun Y s₅ e₅ hY0 hY => ?_
            refine ⟨e₄.trans e₅, some (ita ++ slicePick itb (some ((min x.length y.length : Nat) : Int)) none none), ⟨_, rfl, ⟨Y, rfl⟩, ?_⟩, ⟨Y, 0, rfl, hY⟩, fun _ a ha => by cases ha; exact none_back hR.G e₄ hY0⟩
            show StrsAre _ ((if i1 = 0 then turnA x y else turnB x y).map sg)
            rw [← hca, Array.toList_append]
            exact strs_append hsa (sl_tail (h := s₃.heap) (l := lb) hsb)
          case zc =>
            intro D3 ws sD eD hD30 hD3 hP3 hX tkX BD kD
            obtain ⟨b0, b1, rfl, hb0, hb1⟩ := twoLists rfl hP3
            rw [if_pos rfl] at hb0
            rw [if_neg (by decide)] at hb1
            have BDs := BC.eff eD
            have hD3X : Heap.IsList hX D3 #[b0, b1] := ⟨_, kD D3 _ (BC.newNe hD30) hD3, rfl, _, rfl⟩
            have hb0X := hb0.but BDs.ns kD
            have hb1X := hb1.but BDs.ns kD
            have kkD : Lk env s' { sD with heap := hX, toks := tkX } := (kkC.eff eD).oth kD
            have htl := turn_len x y
            refine wpAny_execs_cons ?_
            walk1; walk1; walk1; walk1; walk1; walk1; walk1; walk1; walk1; walk1; walk1; walk1; walk1
            refine mapCall BD.G (.refl _) hD3X (lens2 hb0X hb1X (by omega) (by omega)) fun mv2 S4m M2 => ?_
            walk1
            refine listMap hh M2 (by simp) BD.G fun L2 vs2 nL2 SE eE hL20 hL2 hsz2 hv2 => ?_
            obtain ⟨y0, y1, rfl⟩ := twoInts (by rw [hsz2]; rfl) hv2
            have BE := BD.eff eE
            have hL2l : SE.heap.IsList L2 (two (turnA x y).length (turnB x y).length y0 y1) := ⟨_, hL2, rfl, nL2, rfl⟩
            refine Bd'.st (by exact BE) V (by rfl) fun SF BF oF => ?_
            walk1
            have kEF : Lk env SE SF := (Lk.refl env SE).oth oF
            have kDF : Lk env { sD with heap := hX, toks := tkX } SF := ((Lk.refl env _).eff eE).trans kEF
            exact ⟨rfl, _, _, BF, ⟨D3, b0, b1, L2, y0, y1, X1, rfl, lst_lk BD hD3X kDF, hb0X.lk BD kDF, hb1X.lk BD kDF, rfl, lst_lk BE hL2l kEF, tM7, X5⟩, kkD.trans kDF⟩

end D3

section D4
theorem instCall {w : World} {A : Around} {s : Shared} {p : Addr} {a : Args} {R : Result → Shared → Prop} (G : Gd w s) (I : Inst s.heap p) (h : codeAny (model Pg w) A (.call (.ref 204) { a with pos := .ref p :: a.pos }) R s) : codeAny (model Pg w) A (.call (.ref p) a) R s := by
  obtain ⟨ox, es, n, I, hd, _⟩ := I
  exact kco_code (K := KK w) G.K I hd (f := 204) (by kernel_rfl) (by kernel_rfl) (by kernel_rfl) h
abbrev tolds (W1 W2 : List Nat) : Nat := if W1 = [] ∨ W2 = [] then 0 else told (code W1) (code W2)
theorem similarity_code {w : World} {A : Around} {E : Value → Shared → Prop} {s : Shared} {Q : Value → Shared → Prop} {p : Addr} {W1 W2 : List Nat} {t1 t2 : Tok}
    (G : Gd w s) (hh : A.handled = none) (hA : A.depth + 10 < recursionLimit) (I : Inst s.heap p) (hL1 : ∀ c ∈ W1, isLet c) (hn1 : W1.length ≤ 1000) (hL2 : ∀ c ∈ W2, isLet c) (hn2 : W2.length ≤ 1000)
    (h : ∀ s' t, Eff s s' → Q (.int ((tolds W1 W2 : Nat) : Int) t) s') : codeAny (model Pg w) A (.call (.ref 168) ⟨[.ref p, .str (tx W1) t1, .str (tx W2) t2], []⟩) (fun r s' => match r with | .ok (.ret v) => Q v s' | .ok _ => False | .error e => E e s') s := by
  refine (enterV (vs := [.str (tx W1) t1, .str (tx W2) t2]) (binds := fun T => [("self", .ref p), ("sequences", T)]) G (by omega) (by rfl) (by kernel_rfl) rfl (by rfl) rfl rfl (fun _ => by rfl) (by rw [PySem.sizeLine_eq]; simp) rfl rfl rfl ?_)
  intro T env V hcode hTL s₁ B hT0 hT
  dsimp only at V hcode B
  have I₁ := I.eff G B.end
  refine wpAny_execs_cons ?_
  walk1; walk1; walk1
  refine callSinst (fun s' e => I₁.eff B.G e) B.G (g := 0) ?_
  walk1
  refine starSeq (.inr rfl) hT rfl rfl rfl (by simp) fun s₂ e₂ => ⟨e₂, ?_⟩
  refine wpAny_call (instCall (B.G.eff e₂) (I₁.eff B.G e₂) (call_code (B.G.eff e₂) hh (by show A.depth + 1 + 8 < _; omega) (I₁.eff B.G e₂) hL1 hn1 hL2 hn2 fun s₃ t e₃ => ?_))
  exact h _ _ (B.end.trans (e₂.trans e₃))
theorem attrBound {w : World} {A : Around} {E : Value → Shared → Prop} {s : Shared} {p f : Addr} {name : Str} {ex : Bool} {Q : Value → Shared → Prop} (G : Gd w s) (I : Inst s.heap p)
    (hn : name ∈ (["_calc_mra", "maximum", "similarity", "distance", "_ident", "__call__"] : List Str)) (hf : findIn (KK w) (.ref 207) name = some (some (.ref f))) (ht : typeIn (KK w) (.ref f) = some (.type "function"))
    (hgf : specialIn (KK w) (.ref f) "__get__" = some (some (.builtin "function.__get__"))) (hts : takesIn (KK w) (.ref f) = some false) (hc : copiedNames.contains name = false)
    (h : ∀ q s', Eff s s' → s.heap.get? q = none → s'.heap.get? q = some (methodObj (.ref f) (.ref p)) → Q (.ref q) s') : wpAny (model Pg w) A (getAttr (.ref p) name ex) Q E s := by
  obtain ⟨ox, es, n, I, _, _, r⟩ := I
  have hl : getL name es = some none := r _ hn
  exact get_bind (K := KK w) G.K I (by kernel_rfl) (findObj_fn (g := .builtin "function.__get__") (f := f) (by kernel_rfl) hf hgf hts hc (by show lookIn name (dictOf es n) = _; rw [lookIn_dict, hl])) (by kernel_rfl)
    (wpAny_call (fn_get (K := KK w) (s := { s with toks := s.toks + 1 }) G.K ht (handed_on rfl (h _ _ (Eff.of (tk := s.toks + 1) fun _ _ e => Heap.get?_push_of_some _ e) (newNone s) (Heap.get?_push_size _ rfl)))))
theorem callBound {w : World} {A : Around} {E : Value → Shared → Prop} {s : Shared} {env : Env} {pos p : Pos} {q f x : Addr} {e : Expr} {Q : Value → Shared → Prop} (G : Gd w s) (hq : s.heap.get? q = some (methodObj (.ref f) (.ref x))) (hf : fnIn (KK w) f = true)
    (h : wpAny (model Pg w) A (eval e env) (fun v s₁ => StarOf (model Pg w) A E v (fun vs s₂ => Eff s s₂ ∧ codeAny (model Pg w) A (.call (.ref f) ⟨.ref x :: vs, []⟩) (fun r s' => match r with | .ok (.ret v) => Q v s' | .ok _ => False | .error e => E e s') s₂) s₁) E s)
    (he : starEach [.Starred e p] env = [(true, eval e env)] := by rfl) :
    wpAny (model Pg w) A (callWith pos (.ref q) [] (backTo pos (starEach [.Starred e p] env)) []) Q E s := by
  rw [he]
  have keep : ∀ s₂, Eff s s₂ → MethP (KK w) q f (.ref x) s₂.heap := fun s₂ e => ⟨e.keep q _ (G.ne hq (fun z => nomatch z)) hq, (G.eff e).K⟩
  refine ks_call (P := MethP (KK w) q f (.ref x)) rfl (keeps_M hf) (ks_lone (wpAny_mono h (fun v s₁ h₁ => by
    unfold StarOf at h₁ ⊢
    exact wpAny_mono h₁ (fun b s₂ h₂ => ⟨h₂.1, wpAny_mono h₂.2 (fun vs s₃ h₃ => ⟨keep s₃ h₃.1, wpAny_call (method_call (keep s₃ h₃.1).1 h₃.2)⟩) fun _ _ x => x⟩) fun _ _ x => x) fun _ _ x => x))
theorem distance_code {w : World} {A : Around} {E : Value → Shared → Prop} {s : Shared} {Q : Value → Shared → Prop} {p : Addr} {W1 W2 : List Nat} {t1 t2 : Tok}
    (G : Gd w s) (hh : A.handled = none) (hA : A.depth + 14 < recursionLimit) (I : Inst s.heap p) (hL1 : ∀ c ∈ W1, isLet c) (hn1 : W1.length ≤ 1000) (hL2 : ∀ c ∈ W2, isLet c) (hn2 : W2.length ≤ 1000)
    (h : ∀ s' t, Eff s s' → Q (.int (((max (code W1).length (code W2).length : Nat) : Int) - (tolds W1 W2 : Nat)) t) s') : codeAny (model Pg w) A (.call (.ref 161) ⟨[.ref p, .str (tx W1) t1, .str (tx W2) t2], []⟩) (fun r s' => match r with | .ok (.ret v) => Q v s' | .ok _ => False | .error e => E e s') s := by
  refine (enterV (vs := [.str (tx W1) t1, .str (tx W2) t2]) (binds := fun T => [("self", .ref p), ("sequences", T)]) G (by omega) (by rfl) (by kernel_rfl) rfl (by rfl) rfl rfl (fun _ => by rfl) (by rw [PySem.sizeLine_eq]; simp) rfl rfl rfl ?_)
  intro T env V hcode hTL s₁ B hT0 hT
  dsimp only at V hcode B
  have I₁ := I.eff G B.end
  have hTt : s₁.heap.IsTuple T #[.str (tx W1) t1, .str (tx W2) t2] := ⟨_, hT, rfl, 0, rfl⟩
  refine wpAny_execs_cons ?_
  walk1; walk1
  refine starMeth ?_
  walk1
  refine attrBound (f := 192) B.G I₁ (by decide) (by kernel_rfl) (by kernel_rfl) (by kernel_rfl) (by kernel_rfl) (by decide +kernel) fun q s₂ e₂ hq0 hq => ?_
  have B2 := B.eff e₂
  have I₂ := I₁.eff B.G e₂
  refine callBound B2.G hq (by kernel_rfl) ?_
  walk1
  have hT2 : s₂.heap.get? T = some { cls := .type "tuple", data := .seq #[.str (tx W1) t1, .str (tx W2) t2] } := e₂.keep T _ (B.offCellT hTt).2.2 hT
  refine starSeq (.inr rfl) hT2 rfl rfl rfl (by simp) fun s₃ e₃ => ⟨e₃, maximum_code (B2.G.eff e₃) hh (by show A.depth + 1 + 8 < _; omega) (I₂.eff B2.G e₃) hL1 hn1 hL2 hn2 fun s₄ tm e₄ => ?_⟩
  have B4 := (B2.eff e₃).eff e₄
  have I₄ := (I₂.eff B2.G e₃).eff (B2.G.eff e₃) e₄
  have hTt2 : s₂.heap.IsTuple T #[.str (tx W1) t1, .str (tx W2) t2] := ⟨_, hT2, rfl, 0, rfl⟩
  have hT4 : s₄.heap.get? T = some { cls := .type "tuple", data := .seq #[.str (tx W1) t1, .str (tx W2) t2] } := (e₃.trans e₄).keep T _ (B2.offCellT hTt2).2.2 hT2
  have hTt4 : s₄.heap.IsTuple T #[.str (tx W1) t1, .str (tx W2) t2] := ⟨_, hT4, rfl, 0, rfl⟩
  refine starMeth ?_
  walk1
  refine attrBound (f := 168) B4.G I₄ (by decide) (by kernel_rfl) (by kernel_rfl) (by kernel_rfl) (by kernel_rfl) (by decide +kernel) fun q' s₅ e₅ hq0' hq' => ?_
  have B5 := B4.eff e₅
  have I₅ := I₄.eff B4.G e₅
  refine callBound B5.G hq' (by kernel_rfl) ?_
  walk1
  have hT5 : s₅.heap.get? T = some { cls := .type "tuple", data := .seq #[.str (tx W1) t1, .str (tx W2) t2] } := e₅.keep T _ (B4.offCellT hTt4).2.2 hT4
  refine starSeq (.inr rfl) hT5 rfl rfl rfl (by simp) fun s₆ e₆ => ⟨e₆, similarity_code (B5.G.eff e₆) hh (by show A.depth + 1 + 10 < _; omega) (I₅.eff B5.G e₆) hL1 hn1 hL2 hn2 fun s₇ ts e₇ => ?_⟩
  have B7 := (B5.eff e₆).eff e₇
  walk1
  exact h _ _ (B7.end.trans Eff.toks)

end D4

section Mk
section
variable {w : World} {A : Around} {s : Shared} {R : Result → Shared → Prop}
/-- a def is called: its arguments bound defaults read -/
theorem enterD {f : Addr} {oc : Value} {od : Option Addr} {fd : FuncData} {sl : Array (Option Value)} {body : List Stmt} {args : Args} {binds : List (Str × Value)} (G : Gd w s) (hA : A.depth < recursionLimit)
    (ho : (KK w).lookup f = some ⟨oc, od, .func fd, sl⟩) (hcd : codeIn (KK w) fd.code fd.qualname = true) (hbody : fd.body = .stmts body) (hbind : BindsTo s fd args binds) (hclo : fd.closure = [])
    {sc : Scope} (hsc : fd.scope = sc) (hkind₀ : (binds.all fun y => sc.names.lookup y.1 == some .local || sc.names.lookup y.1 == some .cell) = true)
    (hg : fd.globals = mainGlobals) (hb : fd.builtins = builtinsNs)
    {cd : Value} (hcd' : fd.code = cd)
    (h : ∀ env, Ev env sc (cellsFrom (env.locals + 1) sc.names []) → env.code = cd → ∀ s₁, Bd w s env (bindL (fun n => sc.names.lookup n) binds fun _ => none) (bindC (fun n => sc.names.lookup n) binds fun _ => none) s₁ →
      wpAny (model Pg w) (A.deeper env) (execs body env) (fun fl s' => R (.ok (.ret (match fl with | .ret v => v | _ => .none))) s') (fun _ _ => False) s₁)
    (hco : sc.isCoroutine = false := by rfl) (hgen : sc.isGenerator = false := by rfl) (hk : sc.kind = .function := by rfl) :
    codeAny (model Pg w) A (.call (.ref f) args) R s := by
  subst hsc hcd'
  have hkind := kindsX hkind₀
  refine codeAny_call_function hA (G.K _ _ ho) rfl hco hgen hbody (codeRec_of G.K hcd) ?_
  rw [hclo]
  refine hbind _ _ _ _ ?_
  refine wpAny_newFunctionEnv_cells hk (hkind _) fun env he s' x => ?_
  refine ⟨G.lim.keeps x.toInCall.keep, ?_⟩
  obtain ⟨h', tk, rfl, hk'⟩ := x.done
  subst he
  refine codeAny_func (wpAny_mono (h _ ⟨rfl, hg, hb, rfl⟩ rfl _ ⟨G, x.toInCall.ns, x.cell, x.apart, x.above, fun b o _ e => hk' b o e, G.tab.keeps hk', G.bare, x.toInCall.fresh, rfl⟩) (fun _ _ y => y) fun _ _ y => y.elim)
end
def InstD (h : Heap) (p dx : Addr) : Prop := ∃ es n, InstAt h p (instObj 207 dx) 207 (some (dictOf es n)) ∧ h.get? dx = some (dictOf es n) ∧ ∀ name ∈ (["_calc_mra", "maximum", "similarity", "distance", "_ident", "__call__"] : List Str), getL name es = some none
theorem InstD.inst {h : Heap} {p dx : Addr} (x : InstD h p dx) : Inst h p := let ⟨es, n, a, _, b⟩ := x; ⟨instObj 207 dx, es, n, a, rfl, rfl, b⟩
theorem init_code {w : World} {A : Around} {s s00 : Shared} {R : Result → Shared → Prop} {p dx : Addr} (G0 : Gd w s00) (e0 : Eff s00 s) (hA : A.depth < recursionLimit) (hp : s.heap.get? p = some (instObj 207 dx)) (hdx : s.heap.get? dx = some (dictOf [] 0)) (hdx0 : s00.heap.get? dx = none) (hpd : p ≠ dx)
    (h : ∀ s', Eff s00 s' → InstD s'.heap p dx → R (.ok (.ret .none)) s') :
    codeAny (model Pg w) A (.call (.ref 36) ⟨[.ref p], []⟩) R s := by
  have G := G0.eff e0
  obtain ⟨oc, od, qv, ev, dn, dsl, ho⟩ : ∃ oc od a b n sl, (KK w).lookup 29 = some ⟨oc, od, .seq #[a, b] n, sl⟩ := ⟨_, _, _, _, _, _, by rfl⟩
  refine enterD (binds := [("self", .ref p), ("qval", qv), ("external", ev)]) G hA (by rfl) (by kernel_rfl) rfl ?bd rfl rfl rfl rfl rfl rfl ?_
  case bd => exact binds_K (K := KK w) (T := 29) G.K rfl ho rfl rfl rfl
  intro env V hcode s₁ B
  dsimp only at V hcode B
  have hp4 : p ≠ 194 := G.ne hp (fun q => nomatch q)
  have hd4 : dx ≠ 194 := G.ne hdx (fun q => nomatch q)
  have off : ∀ b ∈ [dx, 194], (hideAll s.heap [dx, 194]).get? b = none := fun b hb => hideAll_none _ hb
  have on : ∀ b o, b ≠ dx → b ≠ 194 → s.heap.get? b = some o → (hideAll s.heap [dx, 194]).get? b = some o := fun b o h1 h2 e => hideAll_get _ e fun hm => by
    rcases List.mem_cons.mp hm with q | hm
    · exact h1 q
    · exact h2 (List.mem_singleton.mp hm)
  have ne4 : ∀ b o, (hideAll s.heap [dx, 194]).get? b = some o → b ≠ 194 := fun b o e q => by rw [q, off 194 (by simp)] at e; cases e
  obtain ⟨ps, t1, t2⟩ := B.tab
  have F1 : Fr (hideAll s.heap [dx, 194]) env.locals s₁.heap _ := ⟨B.ns, fun b o e => B.keep b o (ne4 b o e) (of_hideAll _ e), by rw [hideAll_size]; exact B.low⟩
  have N1 : News (hideAll s.heap [dx, 194]) env.locals s₁.heap [(dx, dictOf [] 0), (194, tabObj ps)] := List.forall_mem_cons.mpr ⟨⟨B.keep dx _ hd4 hdx, Nat.ne_of_lt (B.low' hdx), off dx (by simp)⟩,
    List.forall_mem_cons.mpr ⟨⟨t2, Nat.ne_of_lt B.loc, off 194 (by simp)⟩, fun _ h => nomatch h⟩⟩
  have X0 : True → (KK w).In (hideAll s.heap [dx, 194]) := fun _ a o e => on a o (fun q => by have := G0.K a o e; rw [q, hdx0] at this; cases this) (kk_ne e) (G.K a o e)
  have pAt : ∀ {h' m}, Fr (hideAll s.heap [dx, 194]) env.locals h' m → h'.get? p = some (instObj 207 dx) := fun F => F.keep p _ (on p _ hpd hp4 hp)
  have eAt : ∀ {h' m o} tk, Fr (hideAll s.heap [dx, 194]) env.locals h' m → News (hideAll s.heap [dx, 194]) env.locals h' [(dx, o), (194, tabObj ps)] → Eff s00 { s₁ with heap := h', toks := tk } := fun tk F N =>
    ⟨fun b o hb e => F.keep b o (on b o (fun q => by rw [q, hdx0] at e; cases e) hb (e0.keep b o hb e)), fun _ => ⟨ps, t1, (N (194, tabObj ps) (by simp)).1⟩, (e0.trans B.end).bare, (e0.trans B.end).os⟩
  have V1 := V
  have R1 := B.rd
  refine wpAny_execs_cons ?_
  refine plainObj_wpAny_Assign_Attribute ?_
  walk1; walk1
  refine set_dict F1 (X0 trivial) N1 ⟨pAt F1, rfl, rfl, (N1 _ List.mem_cons_self).1⟩ rfl (by kernel_rfl) (by kernel_rfl) (by kernel_rfl) (by kernel_rfl) (by decide) rfl (.head (List.forall_mem_cons.mpr ⟨Ne.symm hd4, fun _ h => nomatch h⟩)) (Nat.le_of_ble_eq_true (by kernel_rfl)) fun h2 F2 N2 => ?_
  have V2 := V
  have R2 : Rd w env _ (fun _ => none) h2 s₁.gens := ⟨G0.eff (eAt s₁.toks F2 N2), F2.ns, fun n c q => by rw [V.c] at q; cases q⟩
  refine wpAny_execs_cons ?_
  refine plainObj_wpAny_Assign_Attribute ?_
  walk1; walk1
  refine set_dict F2 (X0 trivial) N2 ⟨pAt F2, rfl, rfl, (N2 _ List.mem_cons_self).1⟩ rfl (by kernel_rfl) (by kernel_rfl) (by kernel_rfl) (by kernel_rfl) (by kernel_rfl) rfl (.head (List.forall_mem_cons.mpr ⟨Ne.symm hd4, fun _ h => nomatch h⟩)) (Nat.le_of_ble_eq_true (by kernel_rfl)) fun h3 F3 N3 => ?_
  walk1
  refine h _ (eAt _ F3 N3) ⟨_, _, ⟨pAt F3, rfl, rfl, (N3 _ List.mem_cons_self).1⟩, (N3 _ List.mem_cons_self).1, fun name hn => ?_⟩
  simp only [List.mem_cons, List.not_mem_nil, or_false] at hn
  rcases hn with rfl | rfl | rfl | rfl | rfl | rfl <;> kernel_rfl
/-- MRA() -/
theorem makeMRA {w : World} {A : Around} {E : Value → Shared → Prop} {s : Shared} {Q : Value → Shared → Prop} (G : Gd w s) (hA : A.depth + 2 < recursionLimit) (h : ∀ p dx s', Eff s s' → s.heap.get? p = none → s.heap.get? dx = none → InstD s'.heap p dx → Q (.ref p) s') :
    wpAny (model Pg w) A (call (.ref 207) [] []) Q E s := by
  refine wpAny_call ?_
  obtain ⟨hh', g, d, t, os⟩ := s
  have X := G.K
  refine make_core (C := 207) (makes_of (M := model Pg w) X (by kernel_rfl)) (looks_findIn X (by kernel_rfl : findIn (KK w) (.ref 207) "__init__" = some (some (.ref 36)))) (fun self => bind_fn X self (by kernel_rfl)) (.inl rfl) ?_
  have z1 : (hh'.push emptyDict).objs.size = hh'.objs.size + 1 := Heap.size_push ..
  have hp : ((hh'.push emptyDict).push (instObj 207 hh'.objs.size)).get? (hh'.objs.size + 1) = some (instObj 207 hh'.objs.size) := by
    have := Heap.get?_push_size (hh'.push emptyDict) (o := instObj 207 hh'.objs.size) rfl
    rw [z1] at this; exact this
  have hd : ((hh'.push emptyDict).push (instObj 207 hh'.objs.size)).get? hh'.objs.size = some (dictOf [] 0) := Heap.get?_push_of_some _ (Heap.get?_push_size _ rfl)
  refine init_code (s00 := ⟨hh', g, d, t, os⟩) G (Eff.of' (fun b o e => Heap.get?_push_of_some _ (Heap.get?_push_of_some _ e)) rfl rfl) ?_ hp hd ?_ (Nat.succ_ne_self _) fun s' e I => ?_
  · rw [depth_under_kw]; omega
  · exact newNone ⟨hh', g, d, t, os⟩
  · refine ⟨rfl, h _ _ s' e ?_ (newNone ⟨hh', g, d, t, os⟩) I⟩
    show hh'.get? (hh'.objs.size + 1) = none
    cases q : hh'.get? (hh'.objs.size + 1) with
    | none => rfl
    | some o => exact absurd (Heap.lt_size q) (Nat.not_lt.mpr (Nat.le_succ _))
def offF (env : Env) (b : Addr) : Prop := b ≠ env.locals ∧ (∀ n c, env.cells.lookup n = some c → b ≠ c) ∧ b ≠ 194
def IL (env : Env) (h : Heap) (p : Addr) : Prop := ∃ dx, InstD h p dx ∧ offF env p ∧ offF env dx
theorem IL.inst {env : Env} {h : Heap} {p : Addr} (x : IL env h p) : Inst h p := let ⟨_, y, _⟩ := x; y.inst
theorem IL.lk {env : Env} {s s' : Shared} {p : Addr} (x : IL env s.heap p) (k : Lk env s s') : IL env s'.heap p := by
  obtain ⟨dx, ⟨es, n, ⟨h1, h2, h3, h4⟩, h5, h6⟩, o1, o2⟩ := x
  exact ⟨dx, ⟨es, n, ⟨k p _ o1.1 o1.2.1 o1.2.2 h1, h2, h3, k dx _ o2.1 o2.2.1 o2.2.2 h5⟩, k dx _ o2.1 o2.2.1 o2.2.2 h5, h6⟩, o1, o2⟩

end Mk

section Nq
open PyProof.V
/-- lists of texts as data: their shape, and when they are the same -/
theorem strs_shape {ns : List Str} (h : ∀ x ∈ ns, PyData.strOk x = true) : SeqAt.shaped (.list (ns.map PyData.str)) = true := by
  have both : PyData.canLayAll0 (ns.map PyData.str) = true ∧ PyData.depthAll (ns.map PyData.str) = 0 := by
    induction ns with
    | nil => exact ⟨rfl, rfl⟩
    | cons x r ih =>
      obtain ⟨hx, hr⟩ := List.forall_mem_cons.mp h
      obtain ⟨i1, i2⟩ := ih hr
      rw [List.map_cons]
      exact ⟨by rw [PyData.canLayAll0, i1, PyData.canLay0, hx]; rfl, by rw [PyData.depthAll, i2]; rfl⟩
  simp [SeqAt.shaped, PyData.canLay0, PyData.depth, both.1, both.2]
theorem strs_same (ns : List Str) : ∀ ms : List Str, PySem.Spec.same (.list (ns.map PyData.str)) (.list (ms.map PyData.str)) = decide (ns = ms) := by
  have all : ∀ ms : List Str, PySem.Spec.sameAll (ns.map PyData.str) (ms.map PyData.str) = decide (ns = ms) := by
    induction ns with
    | nil => intro ms; cases ms <;> rfl
    | cons a r ih =>
      intro ms
      cases ms with
      | nil => rfl
      | cons b t =>
        rw [List.map_cons, List.map_cons, PySem.Spec.sameAll, ih t, PySem.Spec.same, Bool.eq_iff_iff]
        simp
  intro ms
  rw [PySem.Spec.same]; exact all ms
theorem ne_strs {prog : Program} {w : World} {A : Around} {E : Value → Shared → Prop} {s : Shared} {a b : Addr} {xs ys : List Value} {ns ms : List Str} {Q : Value → Shared → Prop} (ha : s.heap.IsList a xs.toArray) (hb : s.heap.IsList b ys.toArray) (hi : StrsAre xs ns) (hj : StrsAre ys ms) (h1 : ∀ x ∈ ns, PyData.strOk x = true) (h2 : ∀ x ∈ ms, PyData.strOk x = true)
    (hu : A.units + 64 < cLine) (h : Q (.bool (!decide (ns = ms))) s) : wpAny (model prog w) A (compareOp .NotEq (.ref a) (.ref b)) Q E s := by
  have one : ∀ l : List Str, _ := fun l => list_map_has (l := l) (g := PyData.str) (sh := .str) fun _ => rfl
  refine ne_dataH_same (reads_newData ha hi.carried) (reads_newData hb hj.carried) (strs_shape h1) (strs_shape h2) hu (SeqAt.noMix_of_shape (.list .str) rfl _ _ (one ns) (one ms)) ?_
  rw [strs_same]; exact h
theorem strOk_tx {W : List Nat} (h : ∀ c ∈ W, isLet c) : PyData.strOk (tx W) = true := by
  show W.toArray.all _ = true
  rw [Array.all_eq_true']
  intro x hx
  have := h x (by simpa using hx)
  unfold isLet at this
  exact decide_eq_true (by omega)

end Nq

section D5
theorem letterTail {w : World} {A : Around} {E : Value → Shared → Prop} {s : Shared} {Q : Value → Shared → Prop} {value slice : Expr} {a : Int} {t u : Tok} (h : ∀ c t' tk, (65 ≤ c ∧ c ≤ 90) → Q (.str (sg c) t') { s with toks := tk })
    (hs : subscripted slice false (.str "ABBELLNSIOUTY" t) (.int (a.fmod 13) u) = operate [.str "ABBELLNSIOUTY" t, .int (a.fmod 13) u] (getItem (.str "ABBELLNSIOUTY" t) (.int (a.fmod 13) u)) := by with_unfolding_all rfl) :
    wpAny (model Pg w) A (subscriptTail value slice (.str "ABBELLNSIOUTY" t) (.int (a.fmod 13) u)) Q E s := by
  generalize hx : a.fmod 13 = x at *
  have hx0 : 0 ≤ x ∧ x < 13 := by
    have h1 := Int.fmod_nonneg_of_pos a (b := 13) (by omega)
    have h2 := Int.fmod_lt_of_pos a (b := 13) (by omega)
    rw [← hx]
    exact ⟨h1, h2⟩
  obtain ⟨n, rfl⟩ := Int.eq_ofNat_of_zero_le hx0.1
  have hn13 : n < 13 := by omega
  have hq : ∃ c, (Str.ofString "ABBELLNSIOUTY").cps[n]? = some c ∧ 65 ≤ c ∧ c ≤ 90 := by
    rw [letters_tx]
    clear hx hx0 hs
    revert n hn13
    decide
  obtain ⟨c, hc, hc2⟩ := hq
  exact itemStr hx0.1 (by omega) hc (fun t9 k9 => h c t9 k9 hc2) hs
theorem word_tx {w : World} {A : Around} {E : Value → Shared → Prop} {s : Shared} {Q : Value → Shared → Prop} {l : Addr} {vs : List Value} {ns : List Int} {k d : Int} {t1 t2 t3 t4 : Tok}
    (G : Gd w s) (hh : A.handled = none) (hA : A.depth + 4 < recursionLimit) (hl : s.heap.IsList l vs.toArray) (hi : IntsAre vs ns) (hn : ns.length ≤ 63) (h0 : 0 ≤ k) (hk : k ≤ 9)
    (h : ∀ s' t r, Eff s s' → r.length ≤ 8 → (∀ c ∈ r, isLet c) → Q (.str (tx r) t) s') : wpAny (model Pg w) A (call (.ref 221) [.ref l, .int k t1, .int 8 t2, .str "ABBELLNSIOUTY" t3, .int d t4]) Q E s :=
  word_spec G hh hA hl hi hn h0 hk fun s' t y e hy => by
    have := h s' t y.cps.toList e (by simpa using hy.1) (fun c hc => .inl (hy.2 c hc))
    rw [tx_cps] at this
    exact this
theorem newL2 {w : World} {A : Around} {E : Value → Shared → Prop} {s : Shared} {Q : Value → Shared → Prop} {a b : Value} (h : ∀ D s', Eff s s' → s.heap.get? D = none → s'.heap.IsList D [a, b].toArray → Q (.ref D) s') : wpAny (model Pg w) A (newList [a, b]) Q E s :=
  wpAny_newObj_type (h _ _ (Eff.of (tk := s.toks) fun _ _ e => Heap.get?_push_of_some _ e) (newNone s) ⟨_, Heap.get?_push_size _ rfl, rfl, _, rfl⟩)
theorem mra_empty {w : World} {A : Around} {E : Value → Shared → Prop} {s : Shared} {Q : Value → Shared → Prop} {v : Value} {t1 : Tok} (G : Gd w s) (hh : A.handled = none) (hA : A.depth + 4 < recursionLimit)
    (h : ∀ s' t, Eff s s' → Q (.str (Str.ofString "") t) s') : wpAny (model Pg w) A (call (.ref 199) [v, .str (Str.ofString "") t1]) Q E s := by
  rw [empty_tx] at *
  exact mra_spec (W := []) G hh hA (fun _ h => nomatch h) (by simp) fun s' t e => h s' t e
theorem sim_empty {w : World} {A : Around} {E : Value → Shared → Prop} {s : Shared} {Q : Value → Shared → Prop} {p : Addr} {W1 : List Nat} {t1 t2 : Tok}
    (G : Gd w s) (hh : A.handled = none) (hA : A.depth + 10 < recursionLimit) (I : Inst s.heap p) (hL1 : ∀ c ∈ W1, isLet c) (hn1 : W1.length ≤ 1000)
    (h : ∀ s' t, Eff s s' → Q (.int 0 t) s') : wpAny (model Pg w) A (call (.ref 168) [.ref p, .str (tx W1) t1, .str (Str.ofString "") t2]) Q E s := by
  rw [empty_tx]
  refine wpAny_call (similarity_code (W2 := []) G hh hA I hL1 hn1 (fun _ h => nomatch h) (by simp) fun s' t e => ?_)
  rw [show tolds W1 [] = 0 from if_pos (.inr rfl)]
  exact h s' t e
theorem codesItem {w : World} {A : Around} {E : Value → Shared → Prop} {s : Shared} {Q : Value → Shared → Prop} {l : Addr} {its : Array Value} {value slice : Expr} {k : Int} {t : Tok} {x : Value} (hl : s.heap.IsList l its) (h0 : 0 ≤ k) (hk : k < 2) (hx : its[k.toNat]? = some x) (h : Q x s)
    (hs : subscripted slice false (.ref l) (.int k t) = operate [.ref l, .int k t] (getItem (.ref l) (.int k t)) := by with_unfolding_all rfl) : wpAny (model Pg w) A (subscriptTail value slice (.ref l) (.int k t)) Q E s :=
  tail_any hl.typeIs slot_list_getitem.lookup (wpAny_getItem_list hl h0 (by omega) hx h) hs
theorem lenTx {w : World} {A : Around} {E : Value → Shared → Prop} {s : Shared} {Q : Value → Shared → Prop} {W : List Nat} {t : Tok} (hW : W.length ≤ 1000) (h : ∀ t' tk, Q (.int (W.length : Nat) t') { s with toks := tk }) : wpAny (model Pg w) A (call (.builtin "len") [.str (tx W) t]) Q E s := by
  have e : (tx W).cps.size = W.length := by simp
  refine lenStr (by rw [e]; omega) fun t' tk => ?_
  rw [e]; exact h t' tk
theorem maxN {w : World} {A : Around} {E : Value → Shared → Prop} {s : Shared} {Q : Value → Shared → Prop} {a b : Nat} {t u : Tok} (hh : A.handled = none) (h : ∀ s' t', Eff s s' → Q (.int ((max a b : Nat) : Int) t') s') : wpAny (model Pg w) A (call (.builtin "max") [.int (a : Nat) t, .int (b : Nat) u]) Q E s := by
  refine max_two_ints hh fun h' tk k => ?_
  have e : Eff s { s with heap := h', toks := tk } := Eff.of' k rfl rfl
  by_cases hab : (b : Int) > a
  · rw [if_pos hab]
    have := h _ u e
    rw [show max a b = b by omega] at this
    exact this
  · rw [if_neg hab]
    have := h _ t e
    rw [show max a b = a by omega] at this
    exact this
def CW (W1 W2 : List Nat) (i : Nat) : List Nat := code (if i = 0 then W1 else W2)
theorem paired_texts {off : List Addr} {g h : Heap} {f : Nat → List Nat} : ∀ {idx : List Nat} {ys : List Value}, Paired (ElemOk off g h (fun i v d => d = none ∧ ∃ t, v = .str (tx (f i)) t)) idx ys → StrsAre ys (idx.map fun i => tx (f i))
  | _, _, .nil => .nil
  | _, _, .cons ⟨_, ⟨_, t, e⟩, _⟩ r => by subst e; exact .cons _ t (paired_texts r)
theorem CW_up {W1 W2 : List Nat} (h1 : ∀ c ∈ W1, isLet c) (h2 : ∀ c ∈ W2, isLet c) (i : Nat) : ∀ c ∈ CW W1 W2 i, isLet c := by
  unfold CW
  by_cases hi : i = 0
  · rw [if_pos hi]; exact fun c hc => .inl (code_up h1 c hc)
  · rw [if_neg hi]; exact fun c hc => .inl (code_up h2 c hc)
theorem CW_code {W1 W2 : List Nat} (h1 : ∀ c ∈ W1, isLet c) (h2 : ∀ c ∈ W2, isLet c) (i : Nat) (hl : (CW W1 W2 i).length < 6) : code (CW W1 W2 i) = CW W1 W2 i := by
  unfold CW at *
  by_cases hi : i = 0
  · rw [if_pos hi] at *; exact code_code h1 hl
  · rw [if_neg hi] at *; exact code_code h2 hl
theorem CW_at {W1 W2 : List Nat} {t u : Tok} {i : Nat} {v : Value} (h : [Value.str (tx (code W1)) t, Value.str (tx (code W2)) u].toArray[i]? = some v) : ∃ t', v = .str (tx (CW W1 W2 i)) t' := by
  rcases i with _ | _ | i
  · simp at h; exact ⟨t, h.symm⟩
  · simp at h; exact ⟨u, h.symm⟩
  · simp at h
theorem joinOne {w : World} {A : Around} {E : Value → Shared → Prop} {s s₀ : Shared} {env : Env} {m cm : Str → Option Value} {st : Stmt} {Q : Flow → Shared → Prop} (B : Bd w s₀ env m cm s)
    (h : wpAny (model Pg w) A (exec st env) (fun f s' => f = .next ∧ ∃ c r t, (isLet c ∧ r.length ≤ 8 ∧ ∀ x ∈ r, isLet x) ∧ Bd w s₀ env (fun y => if y = "one" then some (.str (tx (c :: r)) t) else m y) cm s') E s)
    (k : ∀ c r t s', (isLet c ∧ r.length ≤ 8 ∧ ∀ x ∈ r, isLet x) → Bd w s₀ env (fun y => if y = "one" then some (.str (tx (c :: r)) t) else m y) cm s' → Q .next s') : wpAny (model Pg w) A (exec st env) Q E s :=
  wpAny_mono h (fun f s' ⟨h1, c, r, t, h2, h3⟩ => by subst h1; exact k c r t s' h2 h3) fun _ _ x => x
theorem refresh {w : World} {s s₀ : Shared} {env : Env} {m cm : Str → Option Value} {x : Str} {v : Value} (B : Bd w s₀ env m cm s) (h : m x = some v) : Bd w s₀ env (fun y => if y = x then some v else m y) cm s := by
  have e : (fun y => if y = x then some v else m y) = m := funext fun y => by
    by_cases hy : y = x
    · rw [if_pos hy, hy, h]
    · rw [if_neg hy]
  rw [e]; exact B
set_option maxHeartbeats 1000000 in
theorem law_code {w : World} {A : Around} {R : Result → Shared → Prop} {s : Shared} {l : Addr} {vs : List Value} {ns : List Int}
    (G : Gd w s) (hh : A.handled = none) (hA : A.depth + 30 < recursionLimit) (hU : A.units + 200 < cLine) (hl : s.heap.IsList l vs.toArray) (hi : IntsAre vs ns) (hn : ns.length ≤ 63)
    (h : ∀ s', Eff s s' → R (.ok (.ret (.bool true))) s') : codeAny (model Pg w) A (.call (.ref 231) ⟨[.ref l], []⟩) R s := by
  refine enter (binds := [("script", .ref l)]) G (by omega) (by rfl) (by kernel_rfl) rfl rfl rfl rfl rfl rfl rfl rfl ?_
  intro env V hcode s₁ B
  dsimp only at V hcode B
  have hl₁ := G.lst hl B.end
  refine wpAny_execs_cons ?_
  walk1; walk1
  refine Bd'.st (by exact B) V (by rfl) fun s₂ B2 o2 => ?_
  have hl2 := G.lst hl B2.end
  refine wpAny_execs_cons ?_
  iterate 7 walk1
  refine callF (by rfl) ?_
  iterate 7 walk1
  refine ⟨B2.G, at_spec B2.G (by show A.depth + 1 + 2 < _; omega) hl2 hi (by omega) hn fun s3 t3 e3 => ?_⟩
  have B3 := B2.eff e3
  have hl3 := G.lst hl B3.end
  walk1
  refine modInt (by decide) fun t4 k4 => ?_
  refine letterTail fun c1 t5 k5 hc1 => ?_
  have B5 := B3.eff (Eff.toks (s := s3) (tk := k5))
  have hl5 := G.lst hl B5.end
  iterate 2 walk1
  refine callF (by rfl) ?_
  iterate 11 walk1
  have e6 : Eff s3 { s3 with toks := k5 + 1 + 1 + 1 } := Eff.toks
  have B6 := B3.eff e6
  refine ⟨B6.G, word_tx B6.G (by show A.handled = none; exact hh) (by show A.depth + 1 + 4 < _; omega) (G.lst hl B6.end) hi hn (by omega) (by omega) fun s7 t7 r1 e7 hr1 hr1' => ?_⟩
  have B7 := B6.eff e7
  refine addTx (a := [c1]) (b := r1) (by simp; omega) fun t8 k8 => ?_
  refine Bd'.st (by exact B7.eff (Eff.toks (tk := k8))) V (by rfl) fun s8 B8 o8 => ?_
  have hl8 := G.lst hl B8.end
  refine wpAny_execs_cons ?_
  iterate 7 walk1
  refine callF (by rfl) ?_
  iterate 7 walk1
  refine ⟨B8.G, at_spec B8.G (by show A.depth + 1 + 2 < _; omega) hl8 hi (by omega) hn fun s9 t9 e9 => ?_⟩
  have B9 := B8.eff e9
  have hl9 := G.lst hl B9.end
  walk1
  refine modInt (by decide) fun ta ka => ?_
  refine letterTail fun c2 tb kb hc2 => ?_
  have Bb := B9.eff (Eff.toks (s := s9) (tk := kb))
  iterate 2 walk1
  refine callF (by rfl) ?_
  iterate 11 walk1
  have ec : Eff s9 { s9 with toks := kb + 1 + 1 + 1 } := Eff.toks
  have Bc := B9.eff ec
  refine ⟨Bc.G, word_tx Bc.G (by show A.handled = none; exact hh) (by show A.depth + 1 + 4 < _; omega) (G.lst hl Bc.end) hi hn (by omega) (by omega) fun sd td r2 ed hr2 hr2' => ?_⟩
  have Bd := Bc.eff ed
  refine addTx (a := [c2]) (b := r2) (by simp; omega) fun te ke => ?_
  refine Bd'.st (by exact Bd.eff (Eff.toks (tk := ke))) V (by rfl) fun sf Bf of => ?_
  have hlf := G.lst hl Bf.end
  refine wpAny_execs_cons ?_
  refine joinOne Bf ?_ fun d1 q1 tG sG ⟨hd1, hq1, hq1'⟩ Bg => ?_
  · iterate 5 walk1
    refine callF (by rfl) ?_
    iterate 7 walk1
    refine ⟨Bf.G, at_spec Bf.G (by show A.depth + 1 + 2 < _; omega) hlf hi (by omega) hn fun sg tg eg => ?_⟩
    have Bg := Bf.eff eg
    walk1
    refine modInt (by decide) fun th kh => ?_
    iterate 3 walk1
    by_cases hlow : ((lawAt ns 22 0).fmod 2 == 1) = true
    · rw [if_pos hlow]
      iterate 6 walk1
      refine lowerTx (l := c1 :: r1) (List.forall_mem_cons.mpr ⟨.inl hc1, hr1'⟩) (by simp; omega) fun ti ki => ?_
      refine Bd'.st (by exact Bg.eff (Eff.toks (tk := ki))) V (by rfl) fun sj Bj oj => ?_
      walk1
      refine ⟨rfl, lo c1, r1.map lo, ti, ⟨lo_isLet (.inl hc1), by simpa using hr1, fun x hx => ?_⟩, ?_⟩
      · obtain ⟨y, hy, rfl⟩ := List.mem_map.mp hx
        exact lo_isLet (hr1' y hy)
      · exact Bj
    · rw [if_neg hlow]
      walk1
      exact ⟨rfl, c1, r1, t8, ⟨.inl hc1, hr1, hr1'⟩, refresh (Bg.eff Eff.toks) rfl⟩
  iterate 4 walk1
  refine callWith_K0 (K := KK w) Bg.G.K (by kernel_rfl) ?_
  refine makeMRA Bg.G (by show A.depth + 1 + 2 < _; omega) fun p dx sh eh hp0 hd0 I => ?_
  have Bh := Bg.eff eh
  refine Bd'.stC (by exact Bh) V (by rfl) (by rfl) fun si Bi oi => ?_
  have hmin : env.cells.lookup (Str.ofString "plain") = some (env.locals + 1) := by rw [V.c]; rfl
  have Ii : IL env si.heap p := IL.lk (s := sh) ⟨dx, I, Bg.newOff hp0, Bg.newOff hd0⟩ ((Lk.refl env sh).othC hmin oi)
  refine wpAny_execs_cons ?_
  iterate 5 walk1
  refine callF (by rfl) ?_
  iterate 3 walk1
  have hW1 : ∀ x ∈ d1 :: q1, isLet x := List.forall_mem_cons.mpr ⟨hd1, hq1'⟩
  have hW2 : ∀ x ∈ [c2] ++ r2, isLet x := List.forall_mem_cons.mpr ⟨.inl hc2, hr2'⟩
  have hN1 : (d1 :: q1).length ≤ 10 := by simp; omega
  have hN2 : ([c2] ++ r2).length ≤ 10 := by simp; omega
  have hne2 : [c2] ++ r2 ≠ [] := by simp
  have hne1 : d1 :: q1 ≠ [] := by simp
  generalize hw1 : d1 :: q1 = W1 at *
  generalize hw2 : [c2] ++ r2 = W2 at *
  refine ⟨Bi.G, lawcode_spec Bi.G (by show A.handled = none; exact hh) (by show A.depth + 1 + 4 < _; omega) hne1 hW1 (by omega) fun sk tk ek => ?_⟩
  have Bk := Bi.eff ek
  iterate 3 walk1
  refine callF (by rfl) ?_
  iterate 3 walk1
  refine ⟨Bk.G, lawcode_spec Bk.G (by show A.handled = none; exact hh) (by show A.depth + 1 + 4 < _; omega) hne2 hW2 (by omega) fun sl tl el => ?_⟩
  have Bl := Bk.eff el
  walk1
  refine newL2 fun L sm em hL0 hL => ?_
  have Bm := Bl.eff em
  refine Bd'.st (by exact Bm) V (by rfl) fun sn Bn on => ?_
  have Ln : Lk env si sn := ((((Lk.refl env si).eff ek).eff el).eff em).oth on
  have In := Ii.lk Ln
  have hLn := lst_lk Bm hL ((Lk.refl env sm).oth on)
  refine wpAny_execs_cons ?_
  iterate 5 walk1
  iterate 2 walk1
  refine instMeth (f := 199) Bn.G In.inst (by decide) (by kernel_rfl) (by kernel_rfl) ?_
  refine callM Bn.G (by kernel_rfl) ?_
  iterate 3 walk1
  refine ⟨Bn.G, mra_spec Bn.G (by show A.handled = none; exact hh) (by show A.depth + 1 + 4 < _; omega) hW1 (by omega) fun so to eo => ?_⟩
  have Bo := Bn.eff eo
  have Io := In.lk ((Lk.refl env sn).eff eo)
  iterate 3 walk1
  refine instMeth (f := 199) Bo.G Io.inst (by decide) (by kernel_rfl) (by kernel_rfl) ?_
  refine callM Bo.G (by kernel_rfl) ?_
  iterate 3 walk1
  refine ⟨Bo.G, mra_spec Bo.G (by show A.handled = none; exact hh) (by show A.depth + 1 + 4 < _; omega) hW2 (by omega) fun sp tp ep => ?_⟩
  have Bp := Bo.eff ep
  walk1
  refine newL2 fun L2 sq eq hL20 hL2 => ?_
  have Bq := Bp.eff eq
  have Lq : Lk env sn sq := (((Lk.refl env sn).eff eo).eff ep).eff eq
  have Iq := In.lk Lq
  have hLq := lst_lk Bn hLn Lq
  walk1
  refine ne_strs hL2 hLq (.cons _ _ (.cons _ _ .nil)) (.cons _ _ (.cons _ _ .nil)) (List.forall_mem_cons.mpr ⟨strOk_tx fun c hc => .inl (code_up hW1 c hc), List.forall_mem_cons.mpr ⟨strOk_tx fun c hc => .inl (code_up hW2 c hc), fun _ h => nomatch h⟩⟩) (List.forall_mem_cons.mpr ⟨strOk_tx fun c hc => .inl (code_up hW1 c hc), List.forall_mem_cons.mpr ⟨strOk_tx fun c hc => .inl (code_up hW2 c hc), fun _ h => nomatch h⟩⟩) (by show A.units + 3 + 64 < _; omega) ?_
  refine wpAny_truthy_bool ?_
  rw [if_neg (by simp)]
  iterate 4 walk1
  refine instMeth (f := 199) Bq.G Iq.inst (by decide) (by kernel_rfl) (by kernel_rfl) ?_
  refine callM Bq.G (by kernel_rfl) ?_
  iterate 3 walk1
  refine ⟨Bq.G.eff Eff.toks, mra_empty (Bq.G.eff Eff.toks) (by show A.handled = none; exact hh) (by show A.depth + 1 + 4 < _; omega) fun sr tr er => ?_⟩
  have er' : Eff sq sr := Eff.toks.trans er
  have Br := Bq.eff er'
  have Lr := Lq.eff er'
  have Ir := In.lk Lr
  have hLr := lst_lk Bn hLn Lr
  iterate 4 walk1
  iterate 4 walk1
  refine instMeth (f := 192) Br.G Ir.inst (by decide) (by kernel_rfl) (by kernel_rfl) ?_
  refine callM Br.G (by kernel_rfl) ?_
  iterate 5 walk1
  refine ⟨Br.G.eff Eff.toks, wpAny_call (maximum_code (Br.G.eff Eff.toks) (by show A.handled = none; exact hh) (by show A.depth + 1 + 8 < _; omega) (Ir.inst.eff Br.G Eff.toks) hW1 (by omega) hW2 (by omega) fun su tu eu => ?_)⟩
  have eu' : Eff sr su := Eff.toks.trans eu
  have Bu := Br.eff eu'
  have Lu := Lr.eff eu'
  have Iu := In.lk Lu
  have hLu := lst_lk Bn hLn Lu
  iterate 6 walk1
  iterate 5 walk1
  refine codesItem hLu (by omega) (by omega) rfl ?_
  walk1
  refine lenTx (Nat.le_trans (code_le _) (by omega)) fun tv kv => ?_
  iterate 8 walk1
  refine codesItem hLu (by omega) (by omega) rfl ?_
  walk1
  refine lenTx (Nat.le_trans (code_le _) (by omega)) fun tw kw => ?_
  walk1
  refine maxN (by show A.handled = none; exact hh) fun sx tx' ex => ?_
  have ex' : Eff su sx := (Eff.toks (s := su)).trans ex
  have Bx := Bu.eff ex'
  have Lx := Lu.eff ex'
  have Ix := In.lk Lx
  have hLx := lst_lk Bn hLn Lx
  walk1
  refine wpAny_truthy_bool ?_
  rw [if_neg (by simp)]
  iterate 3 walk1
  refine wpAny_execs_cons ?_
  iterate 2 walk1
  refine listComp (by exact Bx) V (cl := [("plain", env.locals + 1)]) ⟨rfl, trivial⟩ (by unfold closureFor cellOf; rw [V.c]; rfl) (by decide) rfl (by decide) (fun _ => rfl) ?_
  walk1
  refine compLst (fun i => decide ((CW W1 W2 i).length < 6)) (fun i v d => d = none ∧ ∃ t, v = .str (tx (CW W1 W2 i)) t) Bx.G (.refl _) hh hLx rfl (by simp) ?_ ?_ ?_
  · intro i v cenv m s₃ E' hv hm hVc hR ex
    obtain ⟨t', rfl⟩ := CW_at hv
    refine wpAny_tests_one ?_
    iterate 7 walk1
    have hcw : (CW W1 W2 i).length ≤ 6 := code_le _
    refine lenTx (by omega) fun tz kz => ?_
    iterate 2 walk1
    refine wpAny_truthy_bool ⟨?_, Eff.toks⟩
    exact decide_eq_decide.mpr (by omega)
  · intro i v cenv m s₃ E' hv hm hpz hVc hR ex
    obtain ⟨t', rfl⟩ := CW_at hv
    have hc6 := of_decide_eq_true hpz
    iterate 2 walk1
    have Iz := (Ix.inst).eff Bx.G ex
    refine instMeth (f := 199) hR.G Iz (by decide) (by kernel_rfl) (by kernel_rfl) ?_
    refine callM hR.G (by kernel_rfl) ?_
    iterate 3 walk1
    refine ⟨hR.G, mra_spec hR.G (by show A.handled = none; exact hh) (by show A.depth + 1 + 4 < _; omega) (CW_up hW1 hW2 i) (Nat.le_trans (code_le _) (by omega)) fun s₄ t₄ e₄ => ?_⟩
    rw [CW_code hW1 hW2 i hc6]
    exact ⟨e₄, none, ⟨rfl, _, rfl⟩, trivial, fun q => absurd rfl q⟩
  intro D1 ys1 sy ey _ hD1 hP1
  have By := Bx.eff ey
  have Ly := Lx.eff ey
  have Iy := In.lk Ly
  have hLy := lst_lk Bn hLn Ly
  have hy1 := paired_texts hP1
  refine listComp (by exact By) V (cl := []) trivial (by unfold closureFor cellOf; rw [V.c]; rfl) (by decide) rfl (by decide) (fun _ => rfl) ?_
  walk1
  refine compLst (fun i => decide ((CW W1 W2 i).length < 6)) (fun i v d => d = none ∧ ∃ t, v = .str (tx (CW W1 W2 i)) t) By.G (.refl _) hh hLy rfl (by simp) ?_ ?_ ?_
  · intro i v cenv m s₃ E' hv hm hVc hR ex
    obtain ⟨t', rfl⟩ := CW_at hv
    refine wpAny_tests_one ?_
    iterate 7 walk1
    have hcw : (CW W1 W2 i).length ≤ 6 := code_le _
    refine lenTx (by omega) fun tz kz => ?_
    iterate 2 walk1
    refine wpAny_truthy_bool ⟨?_, Eff.toks⟩
    exact decide_eq_decide.mpr (by omega)
  · intro i v cenv m s₃ E' hv hm _ hVc hR ex
    obtain ⟨t', rfl⟩ := CW_at hv
    walk1
    exact ⟨.refl _, none, ⟨rfl, _, rfl⟩, trivial, fun q => absurd rfl q⟩
  intro D2 ys2 sz ez _ hD2 hP2
  have Bz := By.eff ez
  have Lz := Ly.eff ez
  have Iz := In.lk Lz
  have hLz := lst_lk Bn hLn Lz
  have hy2 := paired_texts hP2
  have hD1' := ez.keep D1 _ (By.G.ne hD1 (fun q => nomatch q)) hD1
  refine ne_strs ⟨_, hD1', rfl, _, rfl⟩ ⟨_, hD2, rfl, _, rfl⟩ hy1 hy2 ?_ ?_ (by show A.units + 3 + 64 < _; omega) ?_
  · exact fun x hx => by
      obtain ⟨i, _, rfl⟩ := List.mem_map.mp hx
      exact strOk_tx (CW_up hW1 hW2 i)
  · exact fun x hx => by
      obtain ⟨i, _, rfl⟩ := List.mem_map.mp hx
      exact strOk_tx (CW_up hW1 hW2 i)
  refine wpAny_truthy_bool ?_
  rw [if_neg (by simp)]
  walk1
  refine wpAny_execs_cons ?_
  iterate 7 walk1
  refine itemStr (c := d1) (by omega) (by omega) (by rw [← hw1]; rfl) fun tA kA => ?_
  walk1
  refine addE (a := [d1]) (by simp) fun tB kB => ?_
  iterate 5 walk1
  refine listComp (by exact Bz) V (cl := []) trivial (by unfold closureFor cellOf; rw [V.c]; rfl) (by decide) rfl (by decide) (fun _ => rfl) ?_
  refine sliceStr ?_
  walk1
  rw [evalPart_some]
  walk1
  rw [evalPart_none]
  refine wpAny_pure ⟨_, tG, some (1, _), none, tx q1, rfl, rfl, rfl, by show W1.toArray.size ≤ _; rw [List.size_toArray]; omega, by rw [← hw1]; exact slice_drop1 d1 q1, fun sA tC eA => ?_⟩
  have eA' : Eff sz sA := (Eff.toks (s := sz)).trans eA
  refine compStr (fun _ => true) (fun i v d => d = none ∧ ∃ t, v = .str (tx [q1.getD i 0, q1.getD i 0]) t) Bz eA' hh rfl ?_ ?_ ?_ ?_
  · show q1.toArray.size ≤ _; rw [PySem.sizeLine_eq, List.size_toArray]; omega
  · intro i c t cenv m s₃ E' hc hm hV hR ex
    exact wpAny_tests_nil ⟨rfl, .refl _⟩
  · intro i c t cenv m s₃ E' hc hm _ hV hR ex
    iterate 3 walk1
    refine addTx (a := [c]) (b := [c]) (by simp) fun t9 k9 => ?_
    exact ⟨Eff.toks, none, ⟨rfl, t9, by rw [cps_getD hc]; rfl⟩, trivial, fun q => absurd rfl q⟩
  intro D3 ys3 sB eB _ hD3 hP3
  have BB := Bz.eff eB
  have hy3 := paired_dbl (f := fun i => q1.getD i 0) hP3
  rw [show ((List.range (tx q1).cps.size).filter fun _ => true).map (fun i => q1.getD i 0) = q1 from by
    rw [show (tx q1).cps.size = q1.length from by simp, filter_places q1 (fun _ => true), List.filter_eq_self.mpr (fun _ _ => rfl)]] at hy3
  walk1
  refine joinDbl hD3 hy3 (by omega) fun tD kD => ?_
  refine addTx (a := [d1, 101]) (b := dbl q1) (by have := dbl_len q1; simp only [List.length_cons, List.length_nil]; omega) fun tE kE => ?_
  walk1
  refine addTwin hq1 fun W3 tF kF hw3 => ?_
  obtain ⟨hc3, hN3, hne3, hW3⟩ := twin_facts hw3 hd1 hq1 hq1'
  rw [hw1] at hc3
  refine Bd'.st (by exact BB.eff (Eff.toks (tk := kF))) V (by rfl) fun sC BC oC => ?_
  have LC : Lk env sn sC := (Lz.eff (eB.trans (Eff.toks (tk := kF)))).oth oC
  have IC := In.lk LC
  have hLC := lst_lk Bn hLn LC
  refine wpAny_execs_cons ?_
  iterate 4 walk1
  walk1
  refine instMeth (f := 199) BC.G IC.inst (by decide) (by kernel_rfl) (by kernel_rfl) ?_
  refine callM BC.G (by kernel_rfl) ?_
  iterate 3 walk1
  refine ⟨BC.G, mra_spec BC.G (by show A.handled = none; exact hh) (by show A.depth + 1 + 4 < _; omega) hW3 (by omega) fun sD tG' eD => ?_⟩
  rw [hc3]
  have BD := BC.eff eD
  have LD := LC.eff eD
  have ID := In.lk LD
  have hLD := lst_lk Bn hLn LD
  iterate 4 walk1
  refine neSame (wpAny_truthy_bool ?_)
  rw [if_neg (by simp)]
  iterate 4 walk1
  refine instMeth (f := 168) BD.G ID.inst (by decide) (by kernel_rfl) (by kernel_rfl) ?_
  refine callM BD.G (by kernel_rfl) ?_
  iterate 5 walk1
  refine ⟨BD.G.eff Eff.toks, wpAny_call (similarity_code (BD.G.eff Eff.toks) (by show A.handled = none; exact hh) (by show A.depth + 1 + 10 < _; omega) (ID.inst.eff BD.G Eff.toks) hW1 (by omega) hW3 (by omega) fun sE tH eE => ?_)⟩
  rw [show tolds W1 W3 = (code W1).length from by unfold tolds; rw [if_neg (by simp [hne1, hne3]), hc3, told_self]]
  have eE' : Eff sD sE := Eff.toks.trans eE
  have BE := BD.eff eE'
  have LE := LD.eff eE'
  have IE := In.lk LE
  have hLE := lst_lk Bn hLn LE
  iterate 4 walk1
  iterate 3 walk1
  refine codesItem hLE (by omega) (by omega) rfl ?_
  walk1
  refine lenTx (Nat.le_trans (code_le _) (by omega)) fun tI kI => ?_
  walk1
  refine wpAny_truthy_bool ?_
  rw [if_neg (by simp)]
  iterate 4 walk1
  refine instMeth (f := 161) BE.G IE.inst (by decide) (by kernel_rfl) (by kernel_rfl) ?_
  refine callM BE.G (by kernel_rfl) ?_
  iterate 5 walk1
  refine ⟨BE.G.eff Eff.toks, wpAny_call (distance_code (BE.G.eff Eff.toks) (by show A.handled = none; exact hh) (by show A.depth + 1 + 14 < _; omega) (IE.inst.eff BE.G Eff.toks) hW1 (by omega) hW3 (by omega) fun sF tJ eF => ?_)⟩
  rw [show (((max (code W1).length (code W3).length : Nat) : Int) - (tolds W1 W3 : Nat)) = 0 from by unfold tolds; rw [if_neg (by simp [hne1, hne3]), hc3, told_self]; omega]
  have eF' : Eff sE sF := Eff.toks.trans eF
  have BF := BE.eff eF'
  have LF := LE.eff eF'
  have IF := In.lk LF
  have hLF := lst_lk Bn hLn LF
  iterate 3 walk1
  rw [if_neg (by simp)]
  iterate 3 walk1
  refine wpAny_execs_cons ?_
  iterate 3 walk1
  try walk1
  refine instMeth (f := 168) BF.G IF.inst (by decide) (by kernel_rfl) (by kernel_rfl) ?_
  refine callM BF.G (by kernel_rfl) ?_
  iterate 5 walk1
  refine ⟨BF.G, wpAny_call (similarity_code BF.G (by show A.handled = none; exact hh) (by show A.depth + 1 + 10 < _; omega) IF.inst hW1 (by omega) hW2 (by omega) fun sH tK eH => ?_)⟩
  rw [show tolds W1 W2 = told (code W1) (code W2) from by unfold tolds; rw [if_neg (by simp [hne1, hne2])]]
  have BH := BF.eff eH
  refine Bd'.st (by exact BH) V (by rfl) fun sI BI oI => ?_
  have LI : Lk env sn sI := (LF.eff eH).oth oI
  have II := In.lk LI
  have hLI := lst_lk Bn hLn LI
  refine wpAny_execs_cons ?_
  iterate 4 walk1
  repeat walk1
  refine instMeth (f := 168) BI.G II.inst (by decide) (by kernel_rfl) (by kernel_rfl) ?_
  refine callM BI.G (by kernel_rfl) ?_
  iterate 5 walk1
  refine ⟨BI.G, wpAny_call (similarity_code BI.G (by show A.handled = none; exact hh) (by show A.depth + 1 + 10 < _; omega) II.inst hW2 (by omega) hW1 (by omega) fun sJ tL eJ => ?_)⟩
  rw [show tolds W2 W1 = told (code W1) (code W2) from by unfold tolds; rw [if_neg (by simp [hne1, hne2]), told_comm]]
  have BJ := BI.eff eJ
  have LJ := LI.eff eJ
  have IJ := In.lk LJ
  have hLJ := lst_lk Bn hLn LJ
  walk1
  refine wpAny_truthy_bool ?_
  rw [if_neg (by simp)]
  iterate 4 walk1
  refine instMeth (f := 168) BJ.G IJ.inst (by decide) (by kernel_rfl) (by kernel_rfl) ?_
  refine callM BJ.G (by kernel_rfl) ?_
  iterate 5 walk1
  refine ⟨BJ.G.eff Eff.toks, sim_empty (BJ.G.eff Eff.toks) (by show A.handled = none; exact hh) (by show A.depth + 1 + 10 < _; omega) (IJ.inst.eff BJ.G Eff.toks) hW1 (by omega) fun sK tM eK => ?_⟩
  have eK' : Eff sJ sK := Eff.toks.trans eK
  have BK := BJ.eff eK'
  have LK := LJ.eff eK'
  have IK := In.lk LK
  have hLK := lst_lk Bn hLn LK
  iterate 2 walk1
  refine wpAny_truthy_bool ?_
  rw [if_neg (by simp)]
  iterate 4 walk1
  refine instMeth (f := 161) BK.G IK.inst (by decide) (by kernel_rfl) (by kernel_rfl) ?_
  refine callM BK.G (by kernel_rfl) ?_
  iterate 5 walk1
  refine ⟨BK.G.eff Eff.toks, wpAny_call (distance_code (BK.G.eff Eff.toks) (by show A.handled = none; exact hh) (by show A.depth + 1 + 14 < _; omega) (IK.inst.eff BK.G Eff.toks) hW1 (by omega) hW2 (by omega) fun sL tN eL => ?_)⟩
  rw [show tolds W1 W2 = told (code W1) (code W2) from by unfold tolds; rw [if_neg (by simp [hne1, hne2])]]
  have eL' : Eff sK sL := Eff.toks.trans eL
  have BL := BK.eff eL'
  have LL := LK.eff eL'
  have IL' := In.lk LL
  have hLL := lst_lk Bn hLn LL
  iterate 4 walk1
  iterate 8 walk1
  refine codesItem hLL (by omega) (by omega) rfl ?_
  walk1
  refine lenTx (Nat.le_trans (code_le _) (by omega)) fun tO kO => ?_
  iterate 8 walk1
  refine codesItem hLL (by omega) (by omega) rfl ?_
  walk1
  refine lenTx (Nat.le_trans (code_le _) (by omega)) fun tP kP => ?_
  walk1
  refine maxN (by show A.handled = none; exact hh) fun sM tQ eM => ?_
  have eM' : Eff sL sM := (Eff.toks (s := sL)).trans eM
  have BM := BL.eff eM'
  have LM := LL.eff eM'
  have IM := In.lk LM
  have hLM := lst_lk Bn hLn LM
  iterate 3 walk1
  refine wpAny_truthy_bool ?_
  rw [if_neg (by simp)]
  iterate 3 walk1
  refine wpAny_execs_cons ?_
  iterate 5 walk1
  refine listComp (by exact BM) V (cl := []) trivial (by unfold closureFor cellOf; rw [V.c]; rfl) (by decide) rfl (by decide) (fun _ => rfl) ?_
  iterate 7 walk1
  refine codesItem hLM (by omega) (by omega) rfl ?_
  iterate 4 walk1
  refine codesItem hLM (by omega) (by omega) rfl ?_
  walk1
  refine compZip2 (zStr (tx (code W1)) tk) (zStr (tx (code W2)) tl) (fun i => (code W1).getD i 0 == (code W2).getD i 0) (fun i v d => d = none) BM.G Eff.toks hh zStr_ok zStr_ok rfl rfl (by decide) ?_ ?_ ?_ ?_
  · have := code_le W1
    show (code W1).toArray.size ≤ _
    rw [List.size_toArray]; omega
  · rintro i va vb cenv m s₃ E' ⟨ca, ta, hca, rfl⟩ ⟨cb, tb, hcb, rfl⟩ h1 h2 hVc hR ex
    refine wpAny_tests_one ?_
    iterate 3 walk1
    refine eqSg (wpAny_truthy_bool ⟨?_, .refl _⟩)
    rw [cps_getD hca, cps_getD hcb]
  · rintro i va vb cenv m s₃ E' _ _ h1 h2 _ hVc hR ex
    walk1
    exact ⟨Eff.toks, none, rfl, trivial, fun q => absurd rfl q⟩
  intro D4 ys4 sN eN _ hD4 hP4
  have hlen4 := (paired_len hP4).trans (alike_in rfl)
  have hal := alike_le (code W1) (code W2)
  have hcl1 := code_le W1
  have hcl2 := code_le W2
  have eN' : Eff sM sN := (Eff.toks (s := sM)).trans eN
  have BN := BM.eff eN'
  have LN := LM.eff eN'
  walk1
  refine call_len_list (items := ys4.toArray) ⟨_, hD4, rfl, _, rfl⟩ (by rw [List.size_toArray]; omega) ?_
  rw [List.size_toArray, hlen4]
  refine Bd'.st (by exact BN) V (by rfl) fun sO BO oO => ?_
  have LO : Lk env sn sO := LN.oth oO
  have hLO := lst_lk Bn hLn LO
  refine wpAny_execs_cons ?_
  iterate 11 walk1
  iterate 6 walk1
  refine codesItem hLO (by omega) (by omega) rfl ?_
  walk1
  refine lenTx (by omega) fun tR kR => ?_
  iterate 7 walk1
  refine codesItem hLO (by omega) (by omega) rfl ?_
  walk1
  refine lenTx (by omega) fun tS kS => ?_
  iterate 2 walk1
  refine call_abs_int fun at' ak => ?_
  iterate 2 walk1
  refine wpAny_truthy_bool ?_
  by_cases hfar : (code W1).length > (code W2).length + 2 ∨ (code W2).length > (code W1).length + 2
  · rw [if_pos (decide_eq_true (by split <;> omega))]
    rw [show told (code W1) (code W2) = 0 from by unfold told; rw [if_pos hfar]]
    iterate 2 walk1
    rw [show ((((0 : Nat) : Int) == 0) = true) from rfl]
    exact h _ (BO.end.trans Eff.toks)
  · rw [if_neg (by rw [decide_eq_true_eq]; split <;> omega)]
    rw [show told (code W1) (code W2) = alike (code W1) (code W2) from by unfold told; rw [if_neg hfar]]
    iterate 2 walk1
    rw [beq_self_eq_true]
    exact h _ (BO.end.trans Eff.toks)

end D5

section Fin
theorem code_at (w : World) : codeHdIn (KK w) 198 194 = true := by first | kernel_rfl | fail "not 198"
theorem gd_start {w : World} {s : Shared} {p : Program} {loose : List Str} {mean : ExcName → Option Value} {mg mb : Str → Option Value} (T : Top p loose mean mg mb s.heap) (K : (KK w).In s.heap) (h4 : s.heap.get? 194 = some (tabObj #[])) (hg : s.gens = #[]) : Gd w s where
  K := K
  g := ⟨mg, T.g⟩
  b := ⟨mb, T.b, T.builtins⟩
  lim := T.nolimit
  mod := let ⟨bm, ob, x⟩ := bmod_of_top T; ⟨mg, bm, ob, x⟩
  tab := ⟨#[], trivial, h4⟩
  bare := .of_eq hg
theorem old_end {w : World} {s s' : Shared} (G : Gd w s) (h4 : s.heap.get? 194 = some (tabObj #[])) (e : Eff s s') : OldK s.heap s'.heap := by
  obtain ⟨ps, _, hP⟩ := e.tab G.tab
  refine ⟨fun b o q => ?_, fun b o q => ?_⟩
  · by_cases hb : b = 194
    · subst hb
      rw [h4] at q; cases q
      exact .inr (.inl ⟨((codeHd_of_K G.K (code_at w)).tab h4).isCodeTable, rfl, #[], ps, rfl, by rw [Array.empty_append]; exact hP⟩)
    · exact .inl (e.keep b o hb q)
  · by_cases hb : b = 194
    · subst hb; exact ⟨_, hP⟩
    · exact ⟨o, e.keep b o hb q⟩
set_option maxHeartbeats 1000000 in
theorem fin : PySem.Challenge.rw_bs0040_01.Holds := hd2 (by
  intro w s₀ s₁ mg mb G Y fa o pm cd doc dV kV ho hd hcd hD hmg hg args vals as hpre hlay hrd hwl hlo
  have KX := km_in_of Y
  have hT8 := km_tabs_of Y
  refine Ground.open G ?_
  intro T B D TE TW
  clear hd hcd hD B D TE TW Y ho G
  have h4 := hT8 194 List.mem_cons_self
  have GG : Gd w s₁ := gd_start T KX h4 hg
  have hfa : fa = 231 := by
    have e := mg_of (n := "law") (v := .ref 231) KX T.g (by kernel_rfl)
    have e2 := hmg.symm.trans e
    cases e2
    rfl
  subst hfa
  wrow_args hpre hlay hrd hwl hlo
  rename_i ns as1 as2 l vs as3 hL ra w1 r0 hI hr hc1 hc2
  refine wpAny_call (law_code GG rfl (by decide) (by decide) hL hI (by omega) fun s' e => ?_)
  refine ⟨.inl ⟨_, .bool true, [], rfl, fun _ => rfl, .bool _, ?_, fun hu => ⟨List.nodup_nil, fun _ h => nomatch h⟩⟩, old_end GG h4 e, e.os, e.bare (.of_eq hg)⟩
  first | kernel_rfl | (simp [PySem.Challenge.rw_bs0040_01]; done)
  )

end Fin

end Mine

theorem PySem.Challenge.cw_bs0040_01_holds : PySem.Challenge.rw_bs0040_01.Holds :=
  Mine.fin
