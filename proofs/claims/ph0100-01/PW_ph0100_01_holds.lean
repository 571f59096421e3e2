import PyProof.Rows.All
import Wide.All
import OpenK.AllK
import Wide.FinOn
import PySem.Challenge.RW_ph0100_01

open PySem PySem.W PyProof.Rows
set_option Elab.async false
set_option compiler.extract_closed false

namespace Mine
set_option maxRecDepth 100000 in
set_option maxHeartbeats 8000000 in
open_top hd for PySem.Challenge.rw_ph0100_01
end Mine

set_option maxRecDepth 100000
namespace Mine

theorem runs_toks {M : Model} {Γ : Ctx} {p : Pos} {t : Sem Fin} {fs : List Frame} {s s' : Shared} {e : End} (h : Runs M Γ p t fs s e s') : s.toks ≤ s'.toks := by
  induction h with
  | done | raise | yield => exact Nat.le_refl _
  | fresh _ ih => exact Nat.le_trans (Nat.le_succ _) ih
  | call _ _ ih1 ih2 => exact Nat.le_trans ih1 ih2
  | resumeFresh _ _ _ _ ih1 ih2 | resumeSuspended _ _ _ _ ih1 ih2 => exact Nat.le_trans ih1 ih2
  | segRet _ _ ih1 ih2 | segGen _ _ ih1 ih2 => exact Nat.le_trans ih1 ih2
  | segSuspGen _ _ _ _ ih1 ih2 => exact Nat.le_trans ih1 ih2
  | _ => assumption

theorem wakes_toks {M : Model} {Γ : Ctx} {p : Pos} {g : Nat} {r : Resume} {s s' : Shared} {res : GenResult} (h : Wakes M Γ p g r s res s') : s.toks ≤ s'.toks := by
  unfold Wakes at h
  split at h
  · exact h.elim
  · split at h
    · obtain ⟨_, s₁, hr, _, _, rfl⟩ := h; have q := runs_toks hr; exact q
    · obtain ⟨_, rfl⟩ := h; exact Nat.le_refl _
    · obtain ⟨_, rfl⟩ := h; exact Nat.le_refl _
  · obtain ⟨_, s₁, hr, _, _, rfl⟩ := h; have q := runs_toks hr; exact q
  · obtain ⟨_, rfl⟩ := h; exact Nat.le_refl _
  · obtain ⟨_, rfl⟩ := h; exact Nat.le_refl _

theorem wp_toks {α : Type} (M : Model) (Γ : Ctx) (t : Sem α) (Q : α → Pos → Shared → Prop) (E : Value → Pos → Shared → Prop) (n : Nat) (p : Pos) (s : Shared) (hn : n ≤ s.toks)
    (h : Sem.wp M Γ t (fun a p' s' => n ≤ s'.toks → Q a p' s') (fun e p' s' => n ≤ s'.toks → E e p' s') p s) : Sem.wp M Γ t Q E p s := by
  revert h
  induction t generalizing p s with
  | pure x => exact fun h => h hn
  | raise v => exact fun h => h hn
  | unsupported | finish | yield | fork | await | register => exact id
  | rule _ k ih | «at» _ k ih | alloc _ k ih | loadIfAlive _ k ih | point _ k ih | ask k ih | os _ _ k ih | handled _ k ih | newGen _ k ih | stack k ih | thread k ih => exact ih _ _ _ hn
  | fresh k ih => exact ih _ _ _ (Nat.le_succ_of_le hn)
  | load a _ k ih | genState a k ih => exact fun ⟨o, ho, h⟩ => ⟨o, ho, ih _ _ _ hn h⟩
  | update a _ f k ih | choose _ _ k ih => exact fun ⟨ha, h⟩ => ⟨ha, ih _ _ _ hn h⟩
  | call c h g l k ih => exact fun ⟨r, s', hr, hR⟩ => ⟨r, s', hr, ih r p s' (Nat.le_trans hn (runs_toks hr)) hR⟩
  | resume g r l k ih => exact fun ⟨res, s', hw, h⟩ => ⟨res, s', hw, ih _ _ _ (Nat.le_trans hn (wakes_toks hw)) h⟩

theorem wpAny_toks {α : Type} {M : Model} {A : Around} {t : Sem α} {Q : α → Shared → Prop} {E : Value → Shared → Prop} {s : Shared}
    (h : wpAny M A t (fun v s' => s.toks ≤ s'.toks → Q v s') (fun e s' => s.toks ≤ s'.toks → E e s') s) : wpAny M A t Q E s :=
  fun Γ p hΓ => wp_toks M Γ t _ _ s.toks p s (Nat.le_refl _) (h Γ p hΓ)

theorem wpAny_cut {α : Type} {M : Model} {A : Around} {t : Sem α} {Q : α → Shared → Prop} {E : Value → Shared → Prop} {s : Shared} (P : α → Shared → Prop)
    (h : wpAny M A t P E s) (k : ∀ v s', P v s' → s.toks ≤ s'.toks → Q v s') : wpAny M A t Q E s :=
  wpAny_toks (wpAny_mono h (fun v s' hp hle => k v s' hp hle) (fun _ _ he _ => he))

noncomputable def Con (w : World) (f : Addr) (news : List (Addr × Obj)) (vs : List Value) (R : Value → Prop) : Prop :=
  ∀ (mg mb : Str → Option Value) (mean : ExcName → Option Value) (dp un : Nat) (gd : Option (List Code)) (cn : Str) (cs : Scope) (a : Addr) (ccd : Value) (cl : List (Str × Addr)) (outer : List Env) (A₀ : Around) (base h₀ : Heap) (L : Addr) (m : Str → Option Value) (s : Shared) (Q E : Value → Shared → Prop),
    Below A₀ base outer h₀ → Fr h₀ L s.heap m → (hd.heap_39 w.params).In h₀ → News h₀ L s.heap news → Top hd.view_39 (looseW hd.view_39 []) mean mg mb h₀ → cs.kind = .function →
    dp + 5 < recursionLimit → un + 40 < cLine →
    (∀ (r : Value) (h' : Heap) (tk' : Nat), R r → Fr h₀ L h' m → News h₀ L h' news → Q r { s with heap := h', toks := tk' }) →
      wpAny (model PySem.Challenge.rw_ph0100_01.row.prog w) (ktrTop dp un gd cn cs L a ccd cl outer) (call (.ref f) vs) Q E s

noncomputable def CEnd (h₀ : Heap) (L : Addr) (m : Str → Option Value) (news : List (Addr × Obj)) (s : Shared) (R : Value → Prop) (r : Value) (s' : Shared) : Prop :=
  ∃ h' tk', s' = { s with heap := h', toks := tk' } ∧ R r ∧ Fr h₀ L h' m ∧ News h₀ L h' news

theorem con_of {w : World} {f : Addr} {news : List (Addr × Obj)} {vs : List Value} {R : Value → Prop}
    (h : ∀ (mg mb : Str → Option Value) (mean : ExcName → Option Value) (dp un : Nat) (gd : Option (List Code)) (cn : Str) (cs : Scope) (a : Addr) (ccd : Value) (cl : List (Str × Addr)) (outer : List Env) (A₀ : Around) (base h₀ : Heap) (L : Addr) (m : Str → Option Value) (s : Shared) (E : Value → Shared → Prop),
      Below A₀ base outer h₀ → Fr h₀ L s.heap m → (hd.heap_39 w.params).In h₀ → News h₀ L s.heap news → Top hd.view_39 (looseW hd.view_39 []) mean mg mb h₀ → cs.kind = .function →
      dp + 5 < recursionLimit → un + 40 < cLine →
        wpAny (model PySem.Challenge.rw_ph0100_01.row.prog w) (ktrTop dp un gd cn cs L a ccd cl outer) (call (.ref f) vs) (CEnd h₀ L m news s R) E s) : Con w f news vs R := by
  intro mg mb mean dp un gd cn cs a ccd cl outer A₀ base h₀ L m s Q E B F X N T hk hd hu hret
  refine wpAny_cut _ (h mg mb mean dp un gd cn cs a ccd cl outer A₀ base h₀ L m s E B F X N T hk hd hu) ?_
  rintro v s' ⟨h', tk', rfl, hr, F', N'⟩ hle
  exact hret v h' tk' hr F' N'
end Mine

set_option maxRecDepth 100000
namespace Mine

noncomputable def flatR (c : Nat) (r : List Nat) (l : List Nat) : List Nat := l.flatMap fun k => if k = c then r else [k]

theorem flatR_append (c : Nat) (r a b : List Nat) : flatR c r (a ++ b) = flatR c r a ++ flatR c r b := by
  unfold flatR; rw [List.flatMap_append]
theorem flatR_free (c : Nat) (r : List Nat) : ∀ l : List Nat, c ∉ l → flatR c r l = l
  | [], _ => rfl
  | k :: t, h => by
    have h1 : ¬ k = c := fun e => h (e ▸ List.mem_cons_self ..)
    have h2 : c ∉ t := fun m => h (List.mem_cons_of_mem _ m)
    have ih := flatR_free c r t h2
    unfold flatR at ih ⊢
    rw [List.flatMap_cons, if_neg h1, ih]; rfl
theorem flatR_one (c : Nat) (r : List Nat) : flatR c r [c] = r := by simp [flatR]

theorem flatR_join (c : Nat) (z : Str) : ∀ parts : List Str, (∀ p ∈ parts, c ∉ p.cps.toList) → flatR c z.cps.toList (Str.join ⟨#[c]⟩ parts).cps.toList = (Str.join z parts).cps.toList
  | [], _ => rfl
  | [p], h => flatR_free c _ _ (h p (List.mem_singleton.mpr rfl))
  | p :: q :: r, h => by
    have ih := flatR_join c z (q :: r) fun a ha => h a (List.mem_cons_of_mem _ ha)
    show flatR c z.cps.toList (p ++ ⟨#[c]⟩ ++ Str.join ⟨#[c]⟩ (q :: r)).cps.toList = (p ++ z ++ Str.join z (q :: r)).cps.toList
    simp only [Str.cps_append, Array.toList_append]
    rw [flatR_append, flatR_append, ih, flatR_free c _ _ (h p (List.mem_cons_self ..)), flatR_one]

noncomputable def rep (c : Nat) (z : List Nat) (x : Str) : Str := ⟨(flatR c z x.cps.toList).toArray⟩

theorem replace_rep (x z : Str) (c : Nat) : Txt.replace x ⟨#[c]⟩ z = rep c z.cps.toList x := by
  rw [StrLaws.replace_one]
  have e := flatR_join c z (Txt.split x ⟨#[c]⟩) (fun p hp => StrLaws.split_free x c p hp)
  have j : Str.join ⟨#[c]⟩ (Txt.split x ⟨#[c]⟩) = x := StrLaws.join_split x ⟨#[c]⟩
  rw [j] at e
  unfold rep
  rw [e]

theorem rep_free {c : Nat} {z : List Nat} {x : Str} (h : c ∉ x.cps.toList) : rep c z x = x := by
  unfold rep; rw [flatR_free c z _ h]

theorem flatR_length (c : Nat) (r : List Nat) (n : Nat) (hr : r.length ≤ n) (hn : 1 ≤ n) : ∀ l : List Nat, (flatR c r l).length ≤ n * l.length
  | [] => by simp [flatR]
  | k :: t => by
    have ih := flatR_length c r n hr hn t
    unfold flatR at ih ⊢
    rw [List.flatMap_cons, List.length_append, List.length_cons, Nat.mul_add, Nat.mul_one]
    split
    · omega
    · simp only [List.length_singleton]; omega
theorem rep_length {c : Nat} {z : List Nat} {x : Str} {n : Nat} (hz : z.length ≤ 6) (hx : x.length ≤ n) : (rep c z x).length ≤ 6 * n := by
  have := flatR_length c z 6 hz (by omega) x.cps.toList
  have e : x.cps.toList.length = x.length := by simp [Str.length]
  have e2 : (rep c z x).length = (flatR c z x.cps.toList).length := by simp [Str.length, rep]
  rw [e2]; rw [e] at this; omega

noncomputable def tab : List (Nat × List Nat) → Nat → List Nat
  | [], k => [k]
  | (c, r) :: t, k => if k = c then r else tab t k
noncomputable def okRow : List (Nat × List Nat) → Bool
  | [] => true
  | (_, r) :: t => (r.all fun k => (t.all fun p => p.1 != k)) && okRow t
theorem tab_off : ∀ (t : List (Nat × List Nat)) (k : Nat), (t.all fun p => p.1 != k) = true → tab t k = [k]
  | [], _, _ => rfl
  | (c, r) :: t, k, h => by
    simp only [List.all_cons, Bool.and_eq_true, bne_iff_ne, ne_eq] at h
    unfold tab
    rw [if_neg (fun e => h.1 e.symm), tab_off t k h.2]
theorem flat_tab_off (t : List (Nat × List Nat)) : ∀ l : List Nat, (l.all fun k => (t.all fun p => p.1 != k)) = true → l.flatMap (tab t) = l
  | [], _ => rfl
  | k :: l, h => by
    rw [List.all_cons, Bool.and_eq_true] at h
    rw [List.flatMap_cons, tab_off t k h.1, flat_tab_off t l h.2]; rfl
noncomputable def runRow (ch : List (Nat × List Nat)) (x : Str) : Str := ch.foldl (fun x p => rep p.1 p.2 x) x
theorem runRow_tab : ∀ (ch : List (Nat × List Nat)), okRow ch = true → ∀ x : Str, runRow ch x = ⟨(x.cps.toList.flatMap (tab ch)).toArray⟩
  | [], _, x => by
    show x = _
    have e : x.cps.toList.flatMap (tab []) = x.cps.toList := by
      have : tab [] = fun k => [k] := by funext k; rfl
      rw [this]; simp
    rw [e]
  | (c, r) :: t, h, x => by
    simp only [okRow, Bool.and_eq_true] at h
    show runRow t (rep c r x) = _
    rw [runRow_tab t h.2]
    congr 2
    show (flatR c r x.cps.toList).flatMap (tab t) = _
    unfold flatR
    rw [List.flatMap_assoc]
    congr 1
    funext k
    by_cases hk : k = c
    · rw [if_pos hk, flat_tab_off t r h.1]; simp only [tab]; rw [if_pos hk]
    · rw [if_neg hk]; simp only [tab]; rw [if_neg hk]; simp

noncomputable def amp : List Nat := [38, 97, 109, 112, 59]
noncomputable def ltt : List Nat := [38, 108, 116, 59]
noncomputable def gtt : List Nat := [38, 103, 116, 59]
noncomputable def quo : List Nat := [38, 113, 117, 111, 116, 59]
noncomputable def r13 : List Nat := [38, 35, 49, 51, 59]
noncomputable def n10 : List Nat := [38, 35, 49, 48, 59]
noncomputable def t09 : List Nat := [38, 35, 48, 57, 59]
noncomputable def rxD : List Nat := [38, 35, 120, 68, 59]
noncomputable def nxA : List Nat := [38, 35, 120, 65, 59]
noncomputable def tx9 : List Nat := [38, 35, 120, 57, 59]
noncomputable def rows : Nat → List (Nat × List Nat)
  | 0 => [(38, amp), (60, ltt), (62, gtt)]
  | 1 => [(38, amp), (60, ltt), (62, gtt), (34, quo), (13, r13), (10, n10), (9, t09)]
  | 2 => [(38, amp), (62, gtt), (34, quo)]
  | 3 => [(38, amp), (60, ltt), (62, gtt), (13, rxD)]
  | _ => [(38, amp), (60, ltt), (34, quo), (9, tx9), (10, nxA), (13, rxD)]
theorem rows_ok : ∀ i, okRow (rows i) = true
  | 0 | 1 | 2 | 3 => by decide
  | n + 4 => by show okRow (rows 4) = true; decide
noncomputable def esc (i : Nat) (k : Nat) : List Nat := tab (rows i) k
noncomputable def hand (i : Nat) (x : Str) : Str := ⟨(x.cps.toList.flatMap (esc i)).toArray⟩
theorem hand_eq (i : Nat) (x : Str) : runRow (rows i) x = hand i x := runRow_tab _ (rows_ok i) x

theorem bits_of {y : Int} (h1 : -1000 ≤ y) (h2 : y ≤ 1000) : Builtin.Int.intBits y ≤ 64 := PySem.intBits_le_64 (by omega) (by omega)
theorem hand_length (i : Nat) (x : Str) (n : Nat) (hx : x.length ≤ n) : (hand i x).length ≤ 6 * n := by
  have e2 : (hand i x).length = (x.cps.toList.flatMap (esc i)).length := by simp [Str.length, hand]
  have e : x.cps.toList.length = x.length := by simp [Str.length]
  rw [e2]
  have key : ∀ l : List Nat, (l.flatMap (esc i)).length ≤ 6 * l.length := by
    intro l
    induction l with
    | nil => simp
    | cons k r ih =>
      rw [List.flatMap_cons, List.length_append, List.length_cons]
      have : (esc i k).length ≤ 6 := by
        unfold esc
        match i with
        | 0 | 1 | 2 | 3 => simp only [rows, tab]; (repeat' split) <;> first | decide | simp
        | j + 4 => simp only [rows, tab]; (repeat' split) <;> first | decide | simp
      omega
  have := key x.cps.toList
  omega
theorem tab_pos : ∀ (t : List (Nat × List Nat)) (k : Nat), (t.all fun p => decide (1 ≤ p.2.length)) = true → 1 ≤ (tab t k).length
  | [], _, _ => Nat.le_refl 1
  | (c, r) :: t, k, h => by
    simp only [List.all_cons, Bool.and_eq_true, decide_eq_true_eq] at h
    unfold tab
    split
    · exact h.1
    · exact tab_pos t k h.2
theorem esc_pos (i k : Nat) : 1 ≤ (esc i k).length := by
  unfold esc
  refine tab_pos _ _ ?_
  match i with
  | 0 | 1 | 2 | 3 => decide
  | j + 4 => show ((rows 4).all fun p => decide (1 ≤ p.2.length)) = true; decide
theorem hand_ge (i : Nat) (x : Str) : x.length ≤ (hand i x).length := by
  have e2 : (hand i x).length = (x.cps.toList.flatMap (esc i)).length := by simp [Str.length, hand]
  have e : x.cps.toList.length = x.length := by simp [Str.length]
  rw [e2, ← e]
  generalize x.cps.toList = l
  induction l with
  | nil => simp
  | cons k r ih =>
    rw [List.flatMap_cons, List.length_append, List.length_cons]
    have := esc_pos i k
    omega
theorem in_mem {x : Str} {c : Nat} (h : (Builtin.Str.occurrences x ⟨#[c]⟩ 0 x.length 1).isEmpty = true) : c ∉ x.cps.toList := by
  have e := StrLaws.found_one x c
  rw [h] at e
  exact of_decide_eq_false e.symm
end Mine

set_option maxRecDepth 100000
namespace Mine
local macro_rules | `(tactic| walk_at "binaryOp LShift int int") => `(tactic| (with_reducible refine lshift_int (by assumption) (by assumption) ?_))
local macro_rules | `(tactic| walk_at "binaryOp RShift int int") => `(tactic| (with_reducible refine rshift_int (by assumption) ?_))
local macro_rules | `(tactic| walk_at "binaryOp Mult int int") => `(tactic| (with_reducible refine mul_int ?_ (IntMulOk.of_right (by assumption))))
local macro_rules | `(tactic| walk_at "binaryOp FloorDiv int int") => `(tactic| (with_reducible refine floordiv_int (by assumption) ?_ (Or.inl (PyProof.noPylong_small (by assumption)))))
local macro_rules | `(tactic| walk_at "binaryOp Mod int int") => `(tactic| (with_reducible refine mod_int' (by assumption) ?_))
set_option maxHeartbeats 4000000 in
theorem con_le (w : World) (news : List (Addr × Obj)) (x y : Int) (t u : Tok)  :
   Con w 21 news [.int x t, .int y u] (fun r => r = .bool (decide (x ≤ y))) := by
  refine con_of ?_
  k_fill
  intro mg mb mean dp un gd cn cs a ccd cl outer A₀ base h₀ L m s E B F X N T hk hd hu
  refine wpAny_call ?_
  k_dflt cell_enter
  k_steps
  first | exact ⟨_, _, rfl, ⟨_, rfl⟩, by k_asm, by k_asm⟩ | exact ⟨_, _, rfl, rfl, by k_asm, by k_asm⟩
set_option maxHeartbeats 4000000 in
theorem con_gt (w : World) (news : List (Addr × Obj)) (x y : Int) (t u : Tok)  :
   Con w 28 news [.int x t, .int y u] (fun r => r = .bool (decide (x > y))) := by
  refine con_of ?_
  k_fill
  intro mg mb mean dp un gd cn cs a ccd cl outer A₀ base h₀ L m s E B F X N T hk hd hu
  refine wpAny_call ?_
  k_dflt cell_enter
  k_steps
  first | exact ⟨_, _, rfl, ⟨_, rfl⟩, by k_asm, by k_asm⟩ | exact ⟨_, _, rfl, rfl, by k_asm, by k_asm⟩
set_option maxHeartbeats 4000000 in
theorem con_add (w : World) (news : List (Addr × Obj)) (x y : Int) (t u : Tok)  :
   Con w 35 news [.int x t, .int y u] (fun r => ∃ t', r = .int (x + y) t') := by
  refine con_of ?_
  k_fill
  intro mg mb mean dp un gd cn cs a ccd cl outer A₀ base h₀ L m s E B F X N T hk hd hu
  refine wpAny_call ?_
  k_dflt cell_enter
  k_steps
  first | exact ⟨_, _, rfl, ⟨_, rfl⟩, by k_asm, by k_asm⟩ | exact ⟨_, _, rfl, rfl, by k_asm, by k_asm⟩
set_option maxHeartbeats 4000000 in
theorem con_and (w : World) (news : List (Addr × Obj)) (x y : Int) (t u : Tok)  :
   Con w 42 news [.int x t, .int y u] (fun r => ∃ t', r = .int (Builtin.bitAnd x y) t') := by
  refine con_of ?_
  k_fill
  intro mg mb mean dp un gd cn cs a ccd cl outer A₀ base h₀ L m s E B F X N T hk hd hu
  refine wpAny_call ?_
  k_dflt cell_enter
  k_steps
  first | exact ⟨_, _, rfl, ⟨_, rfl⟩, by k_asm, by k_asm⟩ | exact ⟨_, _, rfl, rfl, by k_asm, by k_asm⟩
set_option maxHeartbeats 4000000 in
theorem con_floordiv (w : World) (news : List (Addr × Obj)) (x y : Int) (t u : Tok) (hy : y ≠ 0) (hp : y.natAbs < 1073741824) :
   Con w 49 news [.int x t, .int y u] (fun r => ∃ t', r = .int (x.fdiv y) t') := by
  refine con_of ?_
  k_fill
  intro mg mb mean dp un gd cn cs a ccd cl outer A₀ base h₀ L m s E B F X N T hk hd hu
  refine wpAny_call ?_
  k_dflt cell_enter
  k_steps
  first | exact ⟨_, _, rfl, ⟨_, rfl⟩, by k_asm, by k_asm⟩ | exact ⟨_, _, rfl, rfl, by k_asm, by k_asm⟩
set_option maxHeartbeats 4000000 in
theorem con_inv (w : World) (news : List (Addr × Obj)) (x : Int) (t : Tok)  :
   Con w 56 news [.int x t] (fun r => ∃ t', r = .int (Builtin.bitNot x) t') := by
  refine con_of ?_
  k_fill
  intro mg mb mean dp un gd cn cs a ccd cl outer A₀ base h₀ L m s E B F X N T hk hd hu
  refine wpAny_call ?_
  k_dflt cell_enter
  k_steps
  first | exact ⟨_, _, rfl, ⟨_, rfl⟩, by k_asm, by k_asm⟩ | exact ⟨_, _, rfl, rfl, by k_asm, by k_asm⟩
set_option maxHeartbeats 4000000 in
theorem con_lshift (w : World) (news : List (Addr × Obj)) (x y : Int) (t u : Tok) (hy : 0 ≤ y) (hb : (Builtin.Int.intBits x : Int) + y ≤ 2 ^ 27) :
   Con w 63 news [.int x t, .int y u] (fun r => ∃ t', r = .int (x * 2 ^ y.toNat) t') := by
  refine con_of ?_
  k_fill
  intro mg mb mean dp un gd cn cs a ccd cl outer A₀ base h₀ L m s E B F X N T hk hd hu
  refine wpAny_call ?_
  k_dflt cell_enter
  k_steps
  first | exact ⟨_, _, rfl, ⟨_, rfl⟩, by k_asm, by k_asm⟩ | exact ⟨_, _, rfl, rfl, by k_asm, by k_asm⟩
set_option maxHeartbeats 4000000 in
theorem con_mod (w : World) (news : List (Addr × Obj)) (x y : Int) (t u : Tok) (hy : y ≠ 0) :
   Con w 70 news [.int x t, .int y u] (fun r => ∃ t', r = .int (x.fmod y) t') := by
  refine con_of ?_
  k_fill
  intro mg mb mean dp un gd cn cs a ccd cl outer A₀ base h₀ L m s E B F X N T hk hd hu
  refine wpAny_call ?_
  k_dflt cell_enter
  k_steps
  first | exact ⟨_, _, rfl, ⟨_, rfl⟩, by k_asm, by k_asm⟩ | exact ⟨_, _, rfl, rfl, by k_asm, by k_asm⟩
set_option maxHeartbeats 4000000 in
theorem con_mul (w : World) (news : List (Addr × Obj)) (x y : Int) (t u : Tok) (hb : Builtin.Int.intBits y ≤ 64) :
   Con w 77 news [.int x t, .int y u] (fun r => ∃ t', r = .int (x * y) t') := by
  refine con_of ?_
  k_fill
  intro mg mb mean dp un gd cn cs a ccd cl outer A₀ base h₀ L m s E B F X N T hk hd hu
  refine wpAny_call ?_
  k_dflt cell_enter
  k_steps
  first | exact ⟨_, _, rfl, ⟨_, rfl⟩, by k_asm, by k_asm⟩ | exact ⟨_, _, rfl, rfl, by k_asm, by k_asm⟩
set_option maxHeartbeats 4000000 in
theorem con_neg (w : World) (news : List (Addr × Obj)) (x : Int) (t : Tok)  :
   Con w 84 news [.int x t] (fun r => ∃ t', r = .int (-x) t') := by
  refine con_of ?_
  k_fill
  intro mg mb mean dp un gd cn cs a ccd cl outer A₀ base h₀ L m s E B F X N T hk hd hu
  refine wpAny_call ?_
  k_dflt cell_enter
  k_steps
  first | exact ⟨_, _, rfl, ⟨_, rfl⟩, by k_asm, by k_asm⟩ | exact ⟨_, _, rfl, rfl, by k_asm, by k_asm⟩
set_option maxHeartbeats 4000000 in
theorem con_or (w : World) (news : List (Addr × Obj)) (x y : Int) (t u : Tok)  :
   Con w 91 news [.int x t, .int y u] (fun r => ∃ t', r = .int (Builtin.bitOr x y) t') := by
  refine con_of ?_
  k_fill
  intro mg mb mean dp un gd cn cs a ccd cl outer A₀ base h₀ L m s E B F X N T hk hd hu
  refine wpAny_call ?_
  k_dflt cell_enter
  k_steps
  first | exact ⟨_, _, rfl, ⟨_, rfl⟩, by k_asm, by k_asm⟩ | exact ⟨_, _, rfl, rfl, by k_asm, by k_asm⟩
set_option maxHeartbeats 4000000 in
theorem con_rshift (w : World) (news : List (Addr × Obj)) (x y : Int) (t u : Tok) (hy : 0 ≤ y) :
   Con w 98 news [.int x t, .int y u] (fun r => ∃ t', r = .int (x.fdiv (2 ^ y.toNat)) t') := by
  refine con_of ?_
  k_fill
  intro mg mb mean dp un gd cn cs a ccd cl outer A₀ base h₀ L m s E B F X N T hk hd hu
  refine wpAny_call ?_
  k_dflt cell_enter
  k_steps
  first | exact ⟨_, _, rfl, ⟨_, rfl⟩, by k_asm, by k_asm⟩ | exact ⟨_, _, rfl, rfl, by k_asm, by k_asm⟩
set_option maxHeartbeats 4000000 in
theorem con_sub (w : World) (news : List (Addr × Obj)) (x y : Int) (t u : Tok)  :
   Con w 105 news [.int x t, .int y u] (fun r => ∃ t', r = .int (x - y) t') := by
  refine con_of ?_
  k_fill
  intro mg mb mean dp un gd cn cs a ccd cl outer A₀ base h₀ L m s E B F X N T hk hd hu
  refine wpAny_call ?_
  k_dflt cell_enter
  k_steps
  first | exact ⟨_, _, rfl, ⟨_, rfl⟩, by k_asm, by k_asm⟩ | exact ⟨_, _, rfl, rfl, by k_asm, by k_asm⟩
end Mine

set_option maxRecDepth 100000
namespace Mine
noncomputable def mT (v : Value) : Str → Option Value := fun y => if y = Str.ofString "text" then some v else none
theorem fr_mT {g h : Heap} {L : Addr} {v v' : Value} (F : Fr g L h (fun y => if y = Str.ofString "text" then some v' else mT v y)) : Fr g L h (mT v') := by
  have e : (fun y => if y = Str.ofString "text" then some v' else mT v y) = mT v' := by
    funext y; unfold mT; split <;> rfl
  rw [← e]; exact F
noncomputable def TxtEnd (g : Heap) (L : Addr) (news : List (Addr × Obj)) (s : Shared) (x : Str) (fl : Flow) (s' : Shared) : Prop :=
  ∃ h' tk' t', fl = .next ∧ s' = { s with heap := h', toks := tk' } ∧ Fr g L h' (mT (.str x t')) ∧ News g L h' news
theorem if_cons {M : Model} {A : Around} {env : Env} {st : Stmt} {rest : List Stmt} {Q : Flow → Shared → Prop} {E : Value → Shared → Prop} {s : Shared} {g : Heap} {L : Addr} {news : List (Addr × Obj)} {x' : Str}
    (h : wpAny M A (exec st env) (TxtEnd g L news s x') E s)
    (k : ∀ h' tk' t', Fr g L h' (mT (.str x' t')) → News g L h' news → 0 < tk' → wpAny M A (execs rest env) Q E { s with heap := h', toks := tk' }) (h0 : 0 < s.toks) :
    wpAny M A (execs (st :: rest) env) Q E s := by
  refine wpAny_execs_cons (wpAny_cut _ h ?_)
  rintro v s' ⟨h', tk', t', rfl, rfl, F, N⟩ hle
  exact k h' tk' t' F N (Nat.lt_of_lt_of_le h0 hle)
local macro_rules | `(tactic| walk_at "execs cons") => `(tactic| ((with_reducible refine wpAny_execs_cons ?_); try dsimp only))
local macro_rules | `(tactic| walk_at "execs nil") => `(tactic| ((with_reducible refine wpAny_execs_nil ?_); try dsimp only))

theorem fr_look {g h : Heap} {L : Addr} {v : Value} (F : Fr g L h (fun y => List.lookup y [(Str.ofString "text", v)])) : Fr g L h (mT v) := by
  have e : (fun y => List.lookup y [(Str.ofString "text", v)]) = mT v := by
    funext y
    unfold mT
    rw [List.lookup_cons]
    by_cases hy : y = Str.ofString "text"
    · rw [if_pos hy, hy, beq_self_eq_true]
    · rw [if_neg hy, beq_eq_false_iff_ne.mpr hy]; rfl
  rw [← e]; exact F
theorem txt_no {g h : Heap} {L : Addr} {news : List (Addr × Obj)} {s : Shared} {x o : Str} {c : Nat} {z : List Nat} {t : Tok} {tk : Nat} (ho : o = ⟨#[c]⟩) (he : (Builtin.Str.occurrences x o 0 x.length 1).isEmpty = true)
    (F : Fr g L h (mT (.str x t))) (N : News g L h news) : TxtEnd g L news s (rep c z x) .next { s with heap := h, toks := tk } := by
  subst ho
  rw [rep_free (in_mem he)]
  exact ⟨h, tk, t, rfl, rfl, F, N⟩
theorem txt_yes {g h : Heap} {L : Addr} {news : List (Addr × Obj)} {s : Shared} {x o zz : Str} {c : Nat} {z : List Nat} {t : Tok} {v : Value} {tk : Nat} (ho : o = ⟨#[c]⟩) (hz : zz.cps.toList = z)
    (F : Fr g L h (fun y => if y = Str.ofString "text" then some (.str (Txt.replace x o zz) t) else mT v y)) (N : News g L h news) : TxtEnd g L news s (rep c z x) .next { s with heap := h, toks := tk } := by
  subst ho
  subst hz
  rw [replace_rep] at F
  exact ⟨h, tk, t, rfl, rfl, fr_mT F, N⟩
set_option maxHeartbeats 8000000 in
theorem con_esc0 (w : World) (news : List (Addr × Obj)) (x : Str) (hx : x.length ≤ 5) (t : Tok) :
   Con w 119 news [.str x t] (fun r => ∃ t', r = .str (hand 0 x) t') := by
  refine con_of ?_
  k_fill
  intro mg mb mean dp un gd cn cs a ccd cl outer A₀ base h₀ L m s E B F X N T hk hd hu
  refine wpAny_call ?_
  k_dflt cell_enter
  rename_i g1 L1 h1 FG1 F1 N1 B1 X1 T1
  have F2 : Fr g1 L1 h1 (fun y => List.lookup y [(Str.ofString "text", Value.str x t)]) := F1
  clear F1
  replace F2 := fr_look F2
  have hy := hand_eq 0 x
  simp only [runRow, rows, List.foldl_cons, List.foldl_nil] at hy
  walk1
  walk1
  refine if_cons (g := g1) (L := L1) (news := news) (x' := rep 38 amp x) ?_ ?_ (Nat.add_pos_right s.toks (show 0 < 1 by decide))
  · k_steps
    all_goals first | (refine' txt_no ?ea ?eb ?ec ?ed; (case eb => assumption); (case ec => assumption); (case ed => assumption); (case ea => decide +kernel)) | (refine' txt_yes ?ea ?eb ?ec ?ed; (case ec => assumption); (case ed => assumption); (case ea => decide +kernel); (case eb => decide +kernel))
  have b1 := rep_length (c := 38) (z := amp) (by decide) hx
  clear F2 N1
  generalize rep 38 amp x = x1 at b1 hy ⊢
  intro h2 tk1 t1 F3 N2 q1
  dsimp only
  refine if_cons (g := g1) (L := L1) (news := news) (x' := rep 60 ltt x1) ?_ ?_ q1
  · k_steps
    all_goals first | (refine' txt_no ?ea ?eb ?ec ?ed; (case eb => assumption); (case ec => assumption); (case ed => assumption); (case ea => decide +kernel)) | (refine' txt_yes ?ea ?eb ?ec ?ed; (case ec => assumption); (case ed => assumption); (case ea => decide +kernel); (case eb => decide +kernel))
  have b2 := rep_length (c := 60) (z := ltt) (by decide) b1
  clear F3 N2
  generalize rep 60 ltt x1 = x2 at b2 hy ⊢
  intro h3 tk2 t2 F4 N3 q2
  dsimp only
  refine if_cons (g := g1) (L := L1) (news := news) (x' := rep 62 gtt x2) ?_ ?_ q2
  · k_steps
    all_goals first | (refine' txt_no ?ea ?eb ?ec ?ed; (case eb => assumption); (case ec => assumption); (case ed => assumption); (case ea => decide +kernel)) | (refine' txt_yes ?ea ?eb ?ec ?ed; (case ec => assumption); (case ed => assumption); (case ea => decide +kernel); (case eb => decide +kernel))
  have b3 := rep_length (c := 62) (z := gtt) (by decide) b2
  clear F4 N3
  generalize rep 62 gtt x2 = x3 at b3 hy ⊢
  intro h4 tk3 t3 F5 N4 q3
  dsimp only
  k_steps
  subst hy
  exact ⟨_, _, rfl, ⟨_, rfl⟩, by k_asm, by k_asm⟩
set_option maxHeartbeats 8000000 in
theorem con_esc1 (w : World) (news : List (Addr × Obj)) (x : Str) (hx : x.length ≤ 5) (t : Tok) :
   Con w 126 news [.str x t] (fun r => ∃ t', r = .str (hand 1 x) t') := by
  refine con_of ?_
  k_fill
  intro mg mb mean dp un gd cn cs a ccd cl outer A₀ base h₀ L m s E B F X N T hk hd hu
  refine wpAny_call ?_
  k_dflt cell_enter
  rename_i g1 L1 h1 FG1 F1 N1 B1 X1 T1
  have F2 : Fr g1 L1 h1 (fun y => List.lookup y [(Str.ofString "text", Value.str x t)]) := F1
  clear F1
  replace F2 := fr_look F2
  have hy := hand_eq 1 x
  simp only [runRow, rows, List.foldl_cons, List.foldl_nil] at hy
  walk1
  walk1
  refine if_cons (g := g1) (L := L1) (news := news) (x' := rep 38 amp x) ?_ ?_ (Nat.add_pos_right s.toks (show 0 < 1 by decide))
  · k_steps
    all_goals first | (refine' txt_no ?ea ?eb ?ec ?ed; (case eb => assumption); (case ec => assumption); (case ed => assumption); (case ea => decide +kernel)) | (refine' txt_yes ?ea ?eb ?ec ?ed; (case ec => assumption); (case ed => assumption); (case ea => decide +kernel); (case eb => decide +kernel))
  have b1 := rep_length (c := 38) (z := amp) (by decide) hx
  clear F2 N1
  generalize rep 38 amp x = x1 at b1 hy ⊢
  intro h2 tk1 t1 F3 N2 q1
  dsimp only
  refine if_cons (g := g1) (L := L1) (news := news) (x' := rep 60 ltt x1) ?_ ?_ q1
  · k_steps
    all_goals first | (refine' txt_no ?ea ?eb ?ec ?ed; (case eb => assumption); (case ec => assumption); (case ed => assumption); (case ea => decide +kernel)) | (refine' txt_yes ?ea ?eb ?ec ?ed; (case ec => assumption); (case ed => assumption); (case ea => decide +kernel); (case eb => decide +kernel))
  have b2 := rep_length (c := 60) (z := ltt) (by decide) b1
  clear F3 N2
  generalize rep 60 ltt x1 = x2 at b2 hy ⊢
  intro h3 tk2 t2 F4 N3 q2
  dsimp only
  refine if_cons (g := g1) (L := L1) (news := news) (x' := rep 62 gtt x2) ?_ ?_ q2
  · k_steps
    all_goals first | (refine' txt_no ?ea ?eb ?ec ?ed; (case eb => assumption); (case ec => assumption); (case ed => assumption); (case ea => decide +kernel)) | (refine' txt_yes ?ea ?eb ?ec ?ed; (case ec => assumption); (case ed => assumption); (case ea => decide +kernel); (case eb => decide +kernel))
  have b3 := rep_length (c := 62) (z := gtt) (by decide) b2
  clear F4 N3
  generalize rep 62 gtt x2 = x3 at b3 hy ⊢
  intro h4 tk3 t3 F5 N4 q3
  dsimp only
  refine if_cons (g := g1) (L := L1) (news := news) (x' := rep 34 quo x3) ?_ ?_ q3
  · k_steps
    all_goals first | (refine' txt_no ?ea ?eb ?ec ?ed; (case eb => assumption); (case ec => assumption); (case ed => assumption); (case ea => decide +kernel)) | (refine' txt_yes ?ea ?eb ?ec ?ed; (case ec => assumption); (case ed => assumption); (case ea => decide +kernel); (case eb => decide +kernel))
  have b4 := rep_length (c := 34) (z := quo) (by decide) b3
  clear F5 N4
  generalize rep 34 quo x3 = x4 at b4 hy ⊢
  intro h5 tk4 t4 F6 N5 q4
  dsimp only
  refine if_cons (g := g1) (L := L1) (news := news) (x' := rep 13 r13 x4) ?_ ?_ q4
  · k_steps
    all_goals first | (refine' txt_no ?ea ?eb ?ec ?ed; (case eb => assumption); (case ec => assumption); (case ed => assumption); (case ea => decide +kernel)) | (refine' txt_yes ?ea ?eb ?ec ?ed; (case ec => assumption); (case ed => assumption); (case ea => decide +kernel); (case eb => decide +kernel))
  have b5 := rep_length (c := 13) (z := r13) (by decide) b4
  clear F6 N5
  generalize rep 13 r13 x4 = x5 at b5 hy ⊢
  intro h6 tk5 t5 F7 N6 q5
  dsimp only
  refine if_cons (g := g1) (L := L1) (news := news) (x' := rep 10 n10 x5) ?_ ?_ q5
  · k_steps
    all_goals first | (refine' txt_no ?ea ?eb ?ec ?ed; (case eb => assumption); (case ec => assumption); (case ed => assumption); (case ea => decide +kernel)) | (refine' txt_yes ?ea ?eb ?ec ?ed; (case ec => assumption); (case ed => assumption); (case ea => decide +kernel); (case eb => decide +kernel))
  have b6 := rep_length (c := 10) (z := n10) (by decide) b5
  clear F7 N6
  generalize rep 10 n10 x5 = x6 at b6 hy ⊢
  intro h7 tk6 t6 F8 N7 q6
  dsimp only
  refine if_cons (g := g1) (L := L1) (news := news) (x' := rep 9 t09 x6) ?_ ?_ q6
  · k_steps
    all_goals first | (refine' txt_no ?ea ?eb ?ec ?ed; (case eb => assumption); (case ec => assumption); (case ed => assumption); (case ea => decide +kernel)) | (refine' txt_yes ?ea ?eb ?ec ?ed; (case ec => assumption); (case ed => assumption); (case ea => decide +kernel); (case eb => decide +kernel))
  have b7 := rep_length (c := 9) (z := t09) (by decide) b6
  clear F8 N7
  generalize rep 9 t09 x6 = x7 at b7 hy ⊢
  intro h8 tk7 t7 F9 N8 q7
  dsimp only
  k_steps
  subst hy
  exact ⟨_, _, rfl, ⟨_, rfl⟩, by k_asm, by k_asm⟩
set_option maxHeartbeats 8000000 in
theorem con_esc2 (w : World) (news : List (Addr × Obj)) (x : Str) (hx : x.length ≤ 5) (t : Tok) :
   Con w 133 news [.str x t] (fun r => ∃ t', r = .str (hand 2 x) t') := by
  refine con_of ?_
  k_fill
  intro mg mb mean dp un gd cn cs a ccd cl outer A₀ base h₀ L m s E B F X N T hk hd hu
  refine wpAny_call ?_
  k_dflt cell_enter
  rename_i g1 L1 h1 FG1 F1 N1 B1 X1 T1
  have F2 : Fr g1 L1 h1 (fun y => List.lookup y [(Str.ofString "text", Value.str x t)]) := F1
  clear F1
  replace F2 := fr_look F2
  have hy := hand_eq 2 x
  simp only [runRow, rows, List.foldl_cons, List.foldl_nil] at hy
  walk1
  walk1
  refine if_cons (g := g1) (L := L1) (news := news) (x' := rep 38 amp x) ?_ ?_ (Nat.add_pos_right s.toks (show 0 < 1 by decide))
  · k_steps
    all_goals first | (refine' txt_no ?ea ?eb ?ec ?ed; (case eb => assumption); (case ec => assumption); (case ed => assumption); (case ea => decide +kernel)) | (refine' txt_yes ?ea ?eb ?ec ?ed; (case ec => assumption); (case ed => assumption); (case ea => decide +kernel); (case eb => decide +kernel))
  have b1 := rep_length (c := 38) (z := amp) (by decide) hx
  clear F2 N1
  generalize rep 38 amp x = x1 at b1 hy ⊢
  intro h2 tk1 t1 F3 N2 q1
  dsimp only
  refine if_cons (g := g1) (L := L1) (news := news) (x' := rep 62 gtt x1) ?_ ?_ q1
  · k_steps
    all_goals first | (refine' txt_no ?ea ?eb ?ec ?ed; (case eb => assumption); (case ec => assumption); (case ed => assumption); (case ea => decide +kernel)) | (refine' txt_yes ?ea ?eb ?ec ?ed; (case ec => assumption); (case ed => assumption); (case ea => decide +kernel); (case eb => decide +kernel))
  have b2 := rep_length (c := 62) (z := gtt) (by decide) b1
  clear F3 N2
  generalize rep 62 gtt x1 = x2 at b2 hy ⊢
  intro h3 tk2 t2 F4 N3 q2
  dsimp only
  refine if_cons (g := g1) (L := L1) (news := news) (x' := rep 34 quo x2) ?_ ?_ q2
  · k_steps
    all_goals first | (refine' txt_no ?ea ?eb ?ec ?ed; (case eb => assumption); (case ec => assumption); (case ed => assumption); (case ea => decide +kernel)) | (refine' txt_yes ?ea ?eb ?ec ?ed; (case ec => assumption); (case ed => assumption); (case ea => decide +kernel); (case eb => decide +kernel))
  have b3 := rep_length (c := 34) (z := quo) (by decide) b2
  clear F4 N3
  generalize rep 34 quo x2 = x3 at b3 hy ⊢
  intro h4 tk3 t3 F5 N4 q3
  dsimp only
  k_steps
  subst hy
  exact ⟨_, _, rfl, ⟨_, rfl⟩, by k_asm, by k_asm⟩
set_option maxHeartbeats 8000000 in
theorem con_esc3 (w : World) (news : List (Addr × Obj)) (x : Str) (hx : x.length ≤ 5) (t : Tok) :
   Con w 140 news [.str x t] (fun r => ∃ t', r = .str (hand 3 x) t') := by
  refine con_of ?_
  k_fill
  intro mg mb mean dp un gd cn cs a ccd cl outer A₀ base h₀ L m s E B F X N T hk hd hu
  refine wpAny_call ?_
  k_dflt cell_enter
  rename_i g1 L1 h1 FG1 F1 N1 B1 X1 T1
  have F2 : Fr g1 L1 h1 (fun y => List.lookup y [(Str.ofString "text", Value.str x t)]) := F1
  clear F1
  replace F2 := fr_look F2
  have hy := hand_eq 3 x
  simp only [runRow, rows, List.foldl_cons, List.foldl_nil] at hy
  walk1
  walk1
  refine if_cons (g := g1) (L := L1) (news := news) (x' := rep 38 amp x) ?_ ?_ (Nat.add_pos_right s.toks (show 0 < 1 by decide))
  · k_steps
    all_goals first | (refine' txt_no ?ea ?eb ?ec ?ed; (case eb => assumption); (case ec => assumption); (case ed => assumption); (case ea => decide +kernel)) | (refine' txt_yes ?ea ?eb ?ec ?ed; (case ec => assumption); (case ed => assumption); (case ea => decide +kernel); (case eb => decide +kernel))
  have b1 := rep_length (c := 38) (z := amp) (by decide) hx
  clear F2 N1
  generalize rep 38 amp x = x1 at b1 hy ⊢
  intro h2 tk1 t1 F3 N2 q1
  dsimp only
  refine if_cons (g := g1) (L := L1) (news := news) (x' := rep 60 ltt x1) ?_ ?_ q1
  · k_steps
    all_goals first | (refine' txt_no ?ea ?eb ?ec ?ed; (case eb => assumption); (case ec => assumption); (case ed => assumption); (case ea => decide +kernel)) | (refine' txt_yes ?ea ?eb ?ec ?ed; (case ec => assumption); (case ed => assumption); (case ea => decide +kernel); (case eb => decide +kernel))
  have b2 := rep_length (c := 60) (z := ltt) (by decide) b1
  clear F3 N2
  generalize rep 60 ltt x1 = x2 at b2 hy ⊢
  intro h3 tk2 t2 F4 N3 q2
  dsimp only
  refine if_cons (g := g1) (L := L1) (news := news) (x' := rep 62 gtt x2) ?_ ?_ q2
  · k_steps
    all_goals first | (refine' txt_no ?ea ?eb ?ec ?ed; (case eb => assumption); (case ec => assumption); (case ed => assumption); (case ea => decide +kernel)) | (refine' txt_yes ?ea ?eb ?ec ?ed; (case ec => assumption); (case ed => assumption); (case ea => decide +kernel); (case eb => decide +kernel))
  have b3 := rep_length (c := 62) (z := gtt) (by decide) b2
  clear F4 N3
  generalize rep 62 gtt x2 = x3 at b3 hy ⊢
  intro h4 tk3 t3 F5 N4 q3
  dsimp only
  refine if_cons (g := g1) (L := L1) (news := news) (x' := rep 13 rxD x3) ?_ ?_ q3
  · k_steps
    all_goals first | (refine' txt_no ?ea ?eb ?ec ?ed; (case eb => assumption); (case ec => assumption); (case ed => assumption); (case ea => decide +kernel)) | (refine' txt_yes ?ea ?eb ?ec ?ed; (case ec => assumption); (case ed => assumption); (case ea => decide +kernel); (case eb => decide +kernel))
  have b4 := rep_length (c := 13) (z := rxD) (by decide) b3
  clear F5 N4
  generalize rep 13 rxD x3 = x4 at b4 hy ⊢
  intro h5 tk4 t4 F6 N5 q4
  dsimp only
  k_steps
  subst hy
  exact ⟨_, _, rfl, ⟨_, rfl⟩, by k_asm, by k_asm⟩
set_option maxHeartbeats 8000000 in
theorem con_esc4 (w : World) (news : List (Addr × Obj)) (x : Str) (hx : x.length ≤ 5) (t : Tok) :
   Con w 147 news [.str x t] (fun r => ∃ t', r = .str (hand 4 x) t') := by
  refine con_of ?_
  k_fill
  intro mg mb mean dp un gd cn cs a ccd cl outer A₀ base h₀ L m s E B F X N T hk hd hu
  refine wpAny_call ?_
  k_dflt cell_enter
  rename_i g1 L1 h1 FG1 F1 N1 B1 X1 T1
  have F2 : Fr g1 L1 h1 (fun y => List.lookup y [(Str.ofString "text", Value.str x t)]) := F1
  clear F1
  replace F2 := fr_look F2
  have hy := hand_eq 4 x
  simp only [runRow, rows, List.foldl_cons, List.foldl_nil] at hy
  walk1
  walk1
  refine if_cons (g := g1) (L := L1) (news := news) (x' := rep 38 amp x) ?_ ?_ (Nat.add_pos_right s.toks (show 0 < 1 by decide))
  · k_steps
    all_goals first | (refine' txt_no ?ea ?eb ?ec ?ed; (case eb => assumption); (case ec => assumption); (case ed => assumption); (case ea => decide +kernel)) | (refine' txt_yes ?ea ?eb ?ec ?ed; (case ec => assumption); (case ed => assumption); (case ea => decide +kernel); (case eb => decide +kernel))
  have b1 := rep_length (c := 38) (z := amp) (by decide) hx
  clear F2 N1
  generalize rep 38 amp x = x1 at b1 hy ⊢
  intro h2 tk1 t1 F3 N2 q1
  dsimp only
  refine if_cons (g := g1) (L := L1) (news := news) (x' := rep 60 ltt x1) ?_ ?_ q1
  · k_steps
    all_goals first | (refine' txt_no ?ea ?eb ?ec ?ed; (case eb => assumption); (case ec => assumption); (case ed => assumption); (case ea => decide +kernel)) | (refine' txt_yes ?ea ?eb ?ec ?ed; (case ec => assumption); (case ed => assumption); (case ea => decide +kernel); (case eb => decide +kernel))
  have b2 := rep_length (c := 60) (z := ltt) (by decide) b1
  clear F3 N2
  generalize rep 60 ltt x1 = x2 at b2 hy ⊢
  intro h3 tk2 t2 F4 N3 q2
  dsimp only
  refine if_cons (g := g1) (L := L1) (news := news) (x' := rep 34 quo x2) ?_ ?_ q2
  · k_steps
    all_goals first | (refine' txt_no ?ea ?eb ?ec ?ed; (case eb => assumption); (case ec => assumption); (case ed => assumption); (case ea => decide +kernel)) | (refine' txt_yes ?ea ?eb ?ec ?ed; (case ec => assumption); (case ed => assumption); (case ea => decide +kernel); (case eb => decide +kernel))
  have b3 := rep_length (c := 34) (z := quo) (by decide) b2
  clear F4 N3
  generalize rep 34 quo x2 = x3 at b3 hy ⊢
  intro h4 tk3 t3 F5 N4 q3
  dsimp only
  refine if_cons (g := g1) (L := L1) (news := news) (x' := rep 9 tx9 x3) ?_ ?_ q3
  · k_steps
    all_goals first | (refine' txt_no ?ea ?eb ?ec ?ed; (case eb => assumption); (case ec => assumption); (case ed => assumption); (case ea => decide +kernel)) | (refine' txt_yes ?ea ?eb ?ec ?ed; (case ec => assumption); (case ed => assumption); (case ea => decide +kernel); (case eb => decide +kernel))
  have b4 := rep_length (c := 9) (z := tx9) (by decide) b3
  clear F5 N4
  generalize rep 9 tx9 x3 = x4 at b4 hy ⊢
  intro h5 tk4 t4 F6 N5 q4
  dsimp only
  refine if_cons (g := g1) (L := L1) (news := news) (x' := rep 10 nxA x4) ?_ ?_ q4
  · k_steps
    all_goals first | (refine' txt_no ?ea ?eb ?ec ?ed; (case eb => assumption); (case ec => assumption); (case ed => assumption); (case ea => decide +kernel)) | (refine' txt_yes ?ea ?eb ?ec ?ed; (case ec => assumption); (case ed => assumption); (case ea => decide +kernel); (case eb => decide +kernel))
  have b5 := rep_length (c := 10) (z := nxA) (by decide) b4
  clear F6 N5
  generalize rep 10 nxA x4 = x5 at b5 hy ⊢
  intro h6 tk5 t5 F7 N6 q5
  dsimp only
  refine if_cons (g := g1) (L := L1) (news := news) (x' := rep 13 rxD x5) ?_ ?_ q5
  · k_steps
    all_goals first | (refine' txt_no ?ea ?eb ?ec ?ed; (case eb => assumption); (case ec => assumption); (case ed => assumption); (case ea => decide +kernel)) | (refine' txt_yes ?ea ?eb ?ec ?ed; (case ec => assumption); (case ed => assumption); (case ea => decide +kernel); (case eb => decide +kernel))
  have b6 := rep_length (c := 13) (z := rxD) (by decide) b5
  clear F7 N6
  generalize rep 13 rxD x5 = x6 at b6 hy ⊢
  intro h7 tk6 t6 F8 N7 q6
  dsimp only
  k_steps
  subst hy
  exact ⟨_, _, rfl, ⟨_, rfl⟩, by k_asm, by k_asm⟩
end Mine

set_option maxRecDepth 100000
namespace Mine
noncomputable def mW (x : Str) (t : Tok) (p c : Int) (tp tc : Tok) : Str → Option Value := fun y =>
  if y = Str.ofString "place" then some (.int p tp) else if y = Str.ofString "whole" then some (.int c tc) else if y = Str.ofString "part" then some (.str x t) else none

noncomputable def JW (x : Str) (t : Tok) (news : List (Addr × Obj)) (tot : Nat → Nat → Prop) (n : Nat) (m : Str → Option Value) (nw : List (Addr × Obj)) : Prop :=
  ∃ (p c : Nat) (tp tc : Tok), m = mW x t p c tp tc ∧ nw = news ∧ p ≤ x.length ∧ n = x.length - p ∧ tot p c

local macro_rules | `(tactic| walk_at "execs cons") => `(tactic| ((with_reducible refine wpAny_execs_cons ?_); try dsimp only))
local macro_rules | `(tactic| walk_at "execs nil") => `(tactic| ((with_reducible refine wpAny_execs_nil ?_); try dsimp only))

theorem mW_start {g h : Heap} {L : Addr} {x : Str} {t tp tc : Tok} {p c : Int} (F : Fr g L h (fun y => if y = Str.ofString "place" then some (.int p tp) else if y = Str.ofString "whole" then some (.int c tc) else List.lookup y [(Str.ofString "part", Value.str x t)])) :
    Fr g L h (mW x t p c tp tc) := by
  have e : (fun y => if y = Str.ofString "place" then some (Value.int p tp) else if y = Str.ofString "whole" then some (.int c tc) else List.lookup y [(Str.ofString "part", Value.str x t)]) = mW x t p c tp tc := by
    funext y
    unfold mW
    split
    · rfl
    · split
      · rfl
      · rw [List.lookup_cons]
        by_cases hy : y = Str.ofString "part"
        · rw [if_pos hy, hy, beq_self_eq_true]
        · rw [if_neg hy, beq_eq_false_iff_ne.mpr hy]; rfl
  rw [← e]; exact F
noncomputable def whl : List Nat → Nat
  | [] => 0
  | k :: t => if k = 38 then (if 59 ∈ t then 1 + whl ((t.dropWhile (· != 59)).drop 1) else 0) else 1 + whl t
termination_by l => l.length
decreasing_by
  all_goals simp only [List.length_cons, List.length_drop]
  · have := (List.dropWhile_sublist (p := (· != 59)) (l := t)).length_le
    omega
  · omega

theorem item_nat {x : Str} {p : Nat} {c : Nat} (hp : x.cps.toList[p]? = some c) : Txt.item x (p : Int) = ⟨#[c]⟩ := by
  obtain ⟨⟨l⟩⟩ := x
  have h' : l[p]? = some c := hp
  have hlt : p < l.length := (List.getElem?_eq_some_iff.mp h').1
  unfold Txt.item Txt.charAt
  have e : PySem.seqIndex? (p : Int) (Str.length ⟨⟨l⟩⟩) = some p := by
    unfold PySem.seqIndex?
    simp only [Str.length, List.size_toArray]
    have h1 : ¬ ((p : Int) < 0) := by omega
    simp [h1, hlt]
  rw [e]
  simp only [Option.bind_some, List.getElem?_toArray, h', Option.getD_some]
theorem whl_nil : whl [] = 0 := by rw [whl]
theorem whl_cons (k : Nat) (t : List Nat) : whl (k :: t) = if k = 38 then (if 59 ∈ t then 1 + whl ((t.dropWhile (· != 59)).drop 1) else 0) else 1 + whl t := by rw [whl]
theorem drop_at {l : List Nat} {p c : Nat} (h : l[p]? = some c) : l.drop p = c :: l.drop (p + 1) := by
  obtain ⟨hlt, e⟩ := List.getElem?_eq_some_iff.mp h
  rw [List.drop_eq_getElem_cons hlt, e]
theorem whl_plain {l : List Nat} {p c : Nat} (h : l[p]? = some c) (hc : c ≠ 38) : whl (l.drop p) = 1 + whl (l.drop (p + 1)) := by
  rw [drop_at h, whl_cons, if_neg hc]
theorem dropWhile_to {l : List Nat} : ∀ {q : Nat}, l[q]? = some 59 → (∀ v, v < q → l[v]? ≠ some 59) → 59 ∈ l ∧ (l.dropWhile (· != 59)).drop 1 = l.drop (q + 1) := by
  induction l with
  | nil => intro q h; simp at h
  | cons k t ih =>
    intro q h hn
    cases q with
    | zero =>
      have : k = 59 := by simpa using h
      subst this
      simp [List.dropWhile]
    | succ q =>
      have hk : k ≠ 59 := by
        have := hn 0 (by omega)
        simpa using this
      obtain ⟨h1, h2⟩ := ih (q := q) (by simpa using h) (fun v hv => by have := hn (v + 1) (by omega); simpa using this)
      refine ⟨List.mem_cons_of_mem _ h1, ?_⟩
      rw [List.dropWhile_cons_of_pos (by simpa using hk), h2]
      simp
theorem getD_list (x : Str) (v : Nat) : x.cps.getD v 0 = x.cps.toList.getD v 0 := by
  obtain ⟨⟨l⟩⟩ := x
  simp [Array.getD, List.getD]
  split
  · rename_i h; rw [List.getElem?_eq_getElem h]; rfl
  · rename_i h; rw [List.getElem?_eq_none (by omega)]; rfl
theorem fromIndex_nat (n p : Nat) : fromIndex n (p : Int) = p := by
  unfold fromIndex
  have : ¬ ((p : Int) < 0) := by omega
  rw [if_neg this]; omega
theorem find_none {x : Str} {p : Nat} (hp : x.cps.toList[p]? = some 38) (h : Txt.find3 x (Str.ofString ";") (p : Int) < 0) : whl (x.cps.toList.drop p) = 0 := by
  rw [show Str.ofString ";" = ⟨#[59]⟩ from by decide +kernel] at h
  rcases StrLaws.find3_spec x 59 p with ⟨_, hn⟩ | ⟨k, hk, _⟩
  · rw [fromIndex_nat] at hn
    rw [drop_at hp, whl_cons, if_pos rfl, if_neg]
    intro hm
    obtain ⟨j, hj⟩ := List.mem_iff_getElem?.mp hm
    rw [List.getElem?_drop] at hj
    have hlt : p + 1 + j < x.length := by
      have := (List.getElem?_eq_some_iff.mp hj).1
      simpa [Str.length] using this
    exact hn (p + 1 + j) (by omega) hlt (StrLaws.getD_of_getElem? hj)
  · rw [hk] at h; omega
theorem find_some {x : Str} {p : Nat} (hp : x.cps.toList[p]? = some 38) (h : ¬ Txt.find3 x (Str.ofString ";") (p : Int) < 0) :
    ∃ q : Nat, Txt.find3 x (Str.ofString ";") (p : Int) = (q : Int) ∧ p < q ∧ q < x.length ∧ whl (x.cps.toList.drop p) = 1 + whl (x.cps.toList.drop (q + 1)) := by
  rw [show Str.ofString ";" = ⟨#[59]⟩ from by decide +kernel] at h ⊢
  rcases StrLaws.find3_spec x 59 p with ⟨hm, _⟩ | ⟨k, hk, h1, h2, h3, h4⟩
  · rw [hm] at h; omega
  · rw [fromIndex_nat] at h1 h4
    have hkl : x.cps.toList[k]? = some 59 := StrLaws.getElem?_of_getD h2 h3
    have hne : p ≠ k := by
      intro e; subst e; rw [hp] at hkl; cases hkl
    refine ⟨k, hk, by omega, h2, ?_⟩
    obtain ⟨h5, h6⟩ := dropWhile_to (l := x.cps.toList.drop (p + 1)) (q := k - (p + 1)) (by rw [List.getElem?_drop]; rw [show p + 1 + (k - (p + 1)) = k by omega]; exact hkl) (by
      intro v hv he
      rw [List.getElem?_drop] at he
      exact h4 (p + 1 + v) (by omega) (by omega) (StrLaws.getD_of_getElem? he))
    rw [drop_at hp, whl_cons, if_pos rfl, if_pos h5, h6, List.drop_drop]
    rw [show p + 1 + (k - (p + 1) + 1) = k + 1 by omega]
theorem item_amp {x : Str} {p : Nat} (hp : p < x.length) (h : (Txt.item x (p : Int) == Str.ofString "&") = true) : x.cps.toList[p]? = some 38 := by
  have hl : p < x.cps.toList.length := by simpa [Str.length] using hp
  have e := List.getElem?_eq_getElem hl
  rw [item_nat e, show Str.ofString "&" = ⟨#[38]⟩ from by decide +kernel] at h
  have h' := eq_of_beq h
  have h2 : (x.cps.toList[p]) = 38 := by simpa using h'
  rw [e, h2]
theorem item_no {x : Str} {p : Nat} (hp : p < x.length) (h : (Txt.item x (p : Int) == Str.ofString "&") = false) : ∃ c, x.cps.toList[p]? = some c ∧ c ≠ 38 := by
  have hl : p < x.cps.toList.length := by simpa [Str.length] using hp
  have e := List.getElem?_eq_getElem hl
  refine ⟨_, e, fun hc => ?_⟩
  rw [item_nat e, hc, show Str.ofString "&" = ⟨#[38]⟩ from by decide +kernel] at h
  exact absurd h (by decide)
theorem wne1 : Str.ofString "whole" ≠ Str.ofString "place" := by decide +kernel
theorem mW_turn {g h : Heap} {L : Addr} {x : Str} {t tp tc tp' tc' : Tok} {p c p' c' : Int} (F : Fr g L h (fun y => if y = Str.ofString "whole" then some (.int c' tc') else if y = Str.ofString "place" then some (.int p' tp') else mW x t p c tp tc y)) :
    Fr g L h (mW x t p' c' tp' tc') := by
  have e : (fun y => if y = Str.ofString "whole" then some (Value.int c' tc') else if y = Str.ofString "place" then some (.int p' tp') else mW x t p c tp tc y) = mW x t p' c' tp' tc' := by
    funext y
    unfold mW
    by_cases h1 : y = Str.ofString "whole"
    · subst h1; rw [if_pos rfl, if_neg wne1, if_pos rfl]
    · rw [if_neg h1]
      by_cases h2 : y = Str.ofString "place"
      · rw [if_pos h2, if_pos h2]
      · rw [if_neg h2, if_neg h2, if_neg h2, if_neg h1, if_neg h1]
  rw [← e]; exact F
theorem mW_turn2 {g h : Heap} {L : Addr} {x : Str} {t tp tc tp' tc' tq : Tok} {p c p' c' q : Int} (F : Fr g L h (fun y => if y = Str.ofString "whole" then some (.int c' tc') else if y = Str.ofString "place" then some (.int p' tp') else if y = Str.ofString "place" then some (.int q tq) else mW x t p c tp tc y)) :
    Fr g L h (mW x t p' c' tp' tc') := by
  refine mW_turn (p := p) (c := c) (tp := tp) (tc := tc) ?_
  have e : (fun y => if y = Str.ofString "whole" then some (Value.int c' tc') else if y = Str.ofString "place" then some (.int p' tp') else if y = Str.ofString "place" then some (.int q tq) else mW x t p c tp tc y) = (fun y => if y = Str.ofString "whole" then some (.int c' tc') else if y = Str.ofString "place" then some (.int p' tp') else mW x t p c tp tc y) := by
    funext y
    by_cases h1 : y = Str.ofString "whole"
    · rw [if_pos h1, if_pos h1]
    · by_cases h2 : y = Str.ofString "place"
      · rw [if_neg h1, if_neg h1, if_pos h2, if_pos h2]
      · rw [if_neg h1, if_neg h1, if_neg h2, if_neg h2, if_neg h2]
  rw [← e]; exact F
theorem wh_next {g h : Heap} {L : Addr} {x : Str} {t tp' tc' : Tok} {p' c' : Nat} {news : List (Addr × Obj)} {s : Shared} {tot : Nat → Nat → Prop} {Q : Flow → Shared → Prop} {n tk : Nat}
    (F : Fr g L h (mW x t (p' : Int) (c' : Int) tp' tc')) (N : News g L h news) (hp : p' ≤ x.length) (hn : x.length - p' < n) (ht : tot p' c') :
    WhileStep2 g L s (JW x t news tot) Q n .next { s with heap := h, toks := tk } :=
  ⟨h, tk, _, news, x.length - p', rfl, F, N, hn, p', c', tp', tc', rfl, rfl, hp, rfl, ht⟩
set_option maxHeartbeats 8000000 in
theorem con_whole (w : World) (news : List (Addr × Obj)) (x : Str) (hx : x.length ≤ 1000) (t : Tok) :
   Con w 161 news [.str x t] (fun r => ∃ t', r = .int (whl x.cps.toList) t') := by
  refine con_of ?_
  k_fill
  intro mg mb mean dp un gd cn cs a ccd cl outer A₀ base h₀ L m s E B F X N T hk hd hu
  refine wpAny_call ?_
  k_dflt cell_enter
  rename_i g1 L1 h1 FG1 F1 N1 B1 X1 T1
  have F2 : Fr g1 L1 h1 (fun y => List.lookup y [(Str.ofString "part", Value.str x t)]) := F1
  clear F1
  (iterate 9 walk1)
  rename_i h3 h2 F3 N2
  replace F3 := mW_start F3
  refine While_inv2 (JW x t news (fun p c => c + whl (x.cps.toList.drop p) = whl x.cps.toList)) (n₀ := x.length) F3 N2 ⟨0, 0, _, _, rfl, rfl, Nat.zero_le _, rfl, by simp⟩ ?_
  rintro n m₁ news₁ h₁ tk₁ FF NN ⟨p, c, tp, tc, rfl, rfl, hp, rfl, htot⟩
  clear F3 N2
  k_steps
  · rename_i hlt _ hit h4 F4 N4 hneg
    have z := find_none (item_amp (by omega) hit) hneg
    dsimp only [WhileStep2]
    k_steps
    rw [z] at htot
    refine ⟨_, _, rfl, ⟨tc, by rw [show whl x.cps.toList = c by omega]⟩, by k_asm, by k_asm⟩
  · rename_i hlt _ hit h4 hneg h5 h6 F6 N6
    obtain ⟨q, hq, h7, h8, h9⟩ := find_some (item_amp (by omega) hit) hneg
    rw [hq] at F6
    have F7 := mW_turn2 F6
    have F8 : Fr g1 L1 h6 (mW x t ((q + 1 : Nat) : Int) ((c + 1 : Nat) : Int) _ _) := F7
    exact wh_next F8 N6 (by omega) (by omega) (by omega)
  · rename_i hlt _ hit h5 h6 F6 N6
    obtain ⟨k, hk1, hk2⟩ := item_no (by omega) hit
    have h9 := whl_plain hk1 hk2
    have F7 := mW_turn F6
    have F8 : Fr g1 L1 h6 (mW x t ((p + 1 : Nat) : Int) ((c + 1 : Nat) : Int) _ _) := F7
    exact wh_next F8 N6 (by omega) (by omega) (by omega)
  · rename_i hlt kF kN _ _
    have e : p = x.length := by omega
    rw [e, List.drop_of_length_le (by simp [Str.length]), whl_nil] at htot
    refine ⟨_, _, rfl, ⟨tc, by rw [show whl x.cps.toList = c by omega]⟩, by k_asm, by k_asm⟩
end Mine

set_option maxRecDepth 100000
namespace Mine
structure Rdy (r u : Nat) (w : World) (mg mb : Str → Option Value) (mean : ExcName → Option Value) (dp un : Nat) (cs : Scope) (outer : List Env) (A₀ : Around) (base h₀ : Heap) (L : Addr) (m : Str → Option Value) (h : Heap) (news : List (Addr × Obj)) : Prop where
  B : Below A₀ base outer h₀
  F : Fr h₀ L h m
  X : (hd.heap_39 w.params).In h₀
  N : News h₀ L h news
  T : Top hd.view_39 (looseW hd.view_39 []) mean mg mb h₀
  hk : cs.kind = .function
  hd : dp + r < recursionLimit
  hu : un + u < cLine
section
variable {w : World} {news : List (Addr × Obj)} {mg mb : Str → Option Value} {mean : ExcName → Option Value} {dp un : Nat} {gd : Option (List Code)} {cn : Str} {cs : Scope} {a : Addr} {ccd : Value} {cl : List (Str × Addr)} {outer : List Env} {A₀ : Around} {base h₀ : Heap} {L : Addr} {m : Str → Option Value} {s : Shared} {Q E : Value → Shared → Prop}
theorem use_le {x y : Int} {t u : Tok}  (g : Rdy 5 40 w mg mb mean dp un cs outer A₀ base h₀ L m s.heap news)
    (ret : ∀ (h' : Heap) (tk' : Nat), Fr h₀ L h' m → News h₀ L h' news → Q (.bool (decide (x ≤ y))) { s with heap := h', toks := tk' }) :
    wpAny (model PySem.Challenge.rw_ph0100_01.row.prog w) (ktrTop dp un gd cn cs L a ccd cl outer) (call (.ref 21) [.int x t, .int y u]) Q E s :=
  con_le w news x y t u  mg mb mean dp un gd cn cs a ccd cl outer A₀ base h₀ L m s Q E g.B g.F g.X g.N g.T g.hk g.hd g.hu (fun r h' tk' hr F' N' => by subst hr; exact ret h' tk' F' N')
theorem use_gt {x y : Int} {t u : Tok}  (g : Rdy 5 40 w mg mb mean dp un cs outer A₀ base h₀ L m s.heap news)
    (ret : ∀ (h' : Heap) (tk' : Nat), Fr h₀ L h' m → News h₀ L h' news → Q (.bool (decide (x > y))) { s with heap := h', toks := tk' }) :
    wpAny (model PySem.Challenge.rw_ph0100_01.row.prog w) (ktrTop dp un gd cn cs L a ccd cl outer) (call (.ref 28) [.int x t, .int y u]) Q E s :=
  con_gt w news x y t u  mg mb mean dp un gd cn cs a ccd cl outer A₀ base h₀ L m s Q E g.B g.F g.X g.N g.T g.hk g.hd g.hu (fun r h' tk' hr F' N' => by subst hr; exact ret h' tk' F' N')
theorem use_add {x y : Int} {t u : Tok}  (g : Rdy 5 40 w mg mb mean dp un cs outer A₀ base h₀ L m s.heap news)
    (ret : ∀ (t_ : Tok) (h' : Heap) (tk' : Nat), Fr h₀ L h' m → News h₀ L h' news → Q (.int (x + y) t_) { s with heap := h', toks := tk' }) :
    wpAny (model PySem.Challenge.rw_ph0100_01.row.prog w) (ktrTop dp un gd cn cs L a ccd cl outer) (call (.ref 35) [.int x t, .int y u]) Q E s :=
  con_add w news x y t u  mg mb mean dp un gd cn cs a ccd cl outer A₀ base h₀ L m s Q E g.B g.F g.X g.N g.T g.hk g.hd g.hu (fun r h' tk' hr F' N' => by obtain ⟨t9, rfl⟩ := hr; exact ret t9 h' tk' F' N' )
theorem use_and {x y : Int} {t u : Tok}  (g : Rdy 5 40 w mg mb mean dp un cs outer A₀ base h₀ L m s.heap news)
    (ret : ∀ (t_ : Tok) (h' : Heap) (tk' : Nat), Fr h₀ L h' m → News h₀ L h' news → Q (.int (Builtin.bitAnd x y) t_) { s with heap := h', toks := tk' }) :
    wpAny (model PySem.Challenge.rw_ph0100_01.row.prog w) (ktrTop dp un gd cn cs L a ccd cl outer) (call (.ref 42) [.int x t, .int y u]) Q E s :=
  con_and w news x y t u  mg mb mean dp un gd cn cs a ccd cl outer A₀ base h₀ L m s Q E g.B g.F g.X g.N g.T g.hk g.hd g.hu (fun r h' tk' hr F' N' => by obtain ⟨t9, rfl⟩ := hr; exact ret t9 h' tk' F' N' )
theorem use_floordiv {x y : Int} {t u : Tok} (hy : y ≠ 0) (hp : y.natAbs < 1073741824) (g : Rdy 5 40 w mg mb mean dp un cs outer A₀ base h₀ L m s.heap news)
    (ret : ∀ (t_ : Tok) (h' : Heap) (tk' : Nat), Fr h₀ L h' m → News h₀ L h' news → Q (.int (x.fdiv y) t_) { s with heap := h', toks := tk' }) :
    wpAny (model PySem.Challenge.rw_ph0100_01.row.prog w) (ktrTop dp un gd cn cs L a ccd cl outer) (call (.ref 49) [.int x t, .int y u]) Q E s :=
  con_floordiv w news x y t u hy hp mg mb mean dp un gd cn cs a ccd cl outer A₀ base h₀ L m s Q E g.B g.F g.X g.N g.T g.hk g.hd g.hu (fun r h' tk' hr F' N' => by obtain ⟨t9, rfl⟩ := hr; exact ret t9 h' tk' F' N' )
theorem use_inv {x : Int} {t : Tok}  (g : Rdy 5 40 w mg mb mean dp un cs outer A₀ base h₀ L m s.heap news)
    (ret : ∀ (t_ : Tok) (h' : Heap) (tk' : Nat), Fr h₀ L h' m → News h₀ L h' news → Q (.int (Builtin.bitNot x) t_) { s with heap := h', toks := tk' }) :
    wpAny (model PySem.Challenge.rw_ph0100_01.row.prog w) (ktrTop dp un gd cn cs L a ccd cl outer) (call (.ref 56) [.int x t]) Q E s :=
  con_inv w news x t  mg mb mean dp un gd cn cs a ccd cl outer A₀ base h₀ L m s Q E g.B g.F g.X g.N g.T g.hk g.hd g.hu (fun r h' tk' hr F' N' => by obtain ⟨t9, rfl⟩ := hr; exact ret t9 h' tk' F' N' )
theorem use_lshift {x y : Int} {t u : Tok} (hy : 0 ≤ y) (hb : (Builtin.Int.intBits x : Int) + y ≤ 2 ^ 27) (g : Rdy 5 40 w mg mb mean dp un cs outer A₀ base h₀ L m s.heap news)
    (ret : ∀ (t_ : Tok) (h' : Heap) (tk' : Nat), Fr h₀ L h' m → News h₀ L h' news → Q (.int (x * 2 ^ y.toNat) t_) { s with heap := h', toks := tk' }) :
    wpAny (model PySem.Challenge.rw_ph0100_01.row.prog w) (ktrTop dp un gd cn cs L a ccd cl outer) (call (.ref 63) [.int x t, .int y u]) Q E s :=
  con_lshift w news x y t u hy hb mg mb mean dp un gd cn cs a ccd cl outer A₀ base h₀ L m s Q E g.B g.F g.X g.N g.T g.hk g.hd g.hu (fun r h' tk' hr F' N' => by obtain ⟨t9, rfl⟩ := hr; exact ret t9 h' tk' F' N' )
theorem use_mod {x y : Int} {t u : Tok} (hy : y ≠ 0) (g : Rdy 5 40 w mg mb mean dp un cs outer A₀ base h₀ L m s.heap news)
    (ret : ∀ (t_ : Tok) (h' : Heap) (tk' : Nat), Fr h₀ L h' m → News h₀ L h' news → Q (.int (x.fmod y) t_) { s with heap := h', toks := tk' }) :
    wpAny (model PySem.Challenge.rw_ph0100_01.row.prog w) (ktrTop dp un gd cn cs L a ccd cl outer) (call (.ref 70) [.int x t, .int y u]) Q E s :=
  con_mod w news x y t u hy mg mb mean dp un gd cn cs a ccd cl outer A₀ base h₀ L m s Q E g.B g.F g.X g.N g.T g.hk g.hd g.hu (fun r h' tk' hr F' N' => by obtain ⟨t9, rfl⟩ := hr; exact ret t9 h' tk' F' N' )
theorem use_mul {x y : Int} {t u : Tok} (hb : Builtin.Int.intBits y ≤ 64) (g : Rdy 5 40 w mg mb mean dp un cs outer A₀ base h₀ L m s.heap news)
    (ret : ∀ (t_ : Tok) (h' : Heap) (tk' : Nat), Fr h₀ L h' m → News h₀ L h' news → Q (.int (x * y) t_) { s with heap := h', toks := tk' }) :
    wpAny (model PySem.Challenge.rw_ph0100_01.row.prog w) (ktrTop dp un gd cn cs L a ccd cl outer) (call (.ref 77) [.int x t, .int y u]) Q E s :=
  con_mul w news x y t u hb mg mb mean dp un gd cn cs a ccd cl outer A₀ base h₀ L m s Q E g.B g.F g.X g.N g.T g.hk g.hd g.hu (fun r h' tk' hr F' N' => by obtain ⟨t9, rfl⟩ := hr; exact ret t9 h' tk' F' N' )
theorem use_neg {x : Int} {t : Tok}  (g : Rdy 5 40 w mg mb mean dp un cs outer A₀ base h₀ L m s.heap news)
    (ret : ∀ (t_ : Tok) (h' : Heap) (tk' : Nat), Fr h₀ L h' m → News h₀ L h' news → Q (.int (-x) t_) { s with heap := h', toks := tk' }) :
    wpAny (model PySem.Challenge.rw_ph0100_01.row.prog w) (ktrTop dp un gd cn cs L a ccd cl outer) (call (.ref 84) [.int x t]) Q E s :=
  con_neg w news x t  mg mb mean dp un gd cn cs a ccd cl outer A₀ base h₀ L m s Q E g.B g.F g.X g.N g.T g.hk g.hd g.hu (fun r h' tk' hr F' N' => by obtain ⟨t9, rfl⟩ := hr; exact ret t9 h' tk' F' N' )
theorem use_or {x y : Int} {t u : Tok}  (g : Rdy 5 40 w mg mb mean dp un cs outer A₀ base h₀ L m s.heap news)
    (ret : ∀ (t_ : Tok) (h' : Heap) (tk' : Nat), Fr h₀ L h' m → News h₀ L h' news → Q (.int (Builtin.bitOr x y) t_) { s with heap := h', toks := tk' }) :
    wpAny (model PySem.Challenge.rw_ph0100_01.row.prog w) (ktrTop dp un gd cn cs L a ccd cl outer) (call (.ref 91) [.int x t, .int y u]) Q E s :=
  con_or w news x y t u  mg mb mean dp un gd cn cs a ccd cl outer A₀ base h₀ L m s Q E g.B g.F g.X g.N g.T g.hk g.hd g.hu (fun r h' tk' hr F' N' => by obtain ⟨t9, rfl⟩ := hr; exact ret t9 h' tk' F' N' )
theorem use_rshift {x y : Int} {t u : Tok} (hy : 0 ≤ y) (g : Rdy 5 40 w mg mb mean dp un cs outer A₀ base h₀ L m s.heap news)
    (ret : ∀ (t_ : Tok) (h' : Heap) (tk' : Nat), Fr h₀ L h' m → News h₀ L h' news → Q (.int (x.fdiv (2 ^ y.toNat)) t_) { s with heap := h', toks := tk' }) :
    wpAny (model PySem.Challenge.rw_ph0100_01.row.prog w) (ktrTop dp un gd cn cs L a ccd cl outer) (call (.ref 98) [.int x t, .int y u]) Q E s :=
  con_rshift w news x y t u hy mg mb mean dp un gd cn cs a ccd cl outer A₀ base h₀ L m s Q E g.B g.F g.X g.N g.T g.hk g.hd g.hu (fun r h' tk' hr F' N' => by obtain ⟨t9, rfl⟩ := hr; exact ret t9 h' tk' F' N' )
theorem use_sub {x y : Int} {t u : Tok}  (g : Rdy 5 40 w mg mb mean dp un cs outer A₀ base h₀ L m s.heap news)
    (ret : ∀ (t_ : Tok) (h' : Heap) (tk' : Nat), Fr h₀ L h' m → News h₀ L h' news → Q (.int (x - y) t_) { s with heap := h', toks := tk' }) :
    wpAny (model PySem.Challenge.rw_ph0100_01.row.prog w) (ktrTop dp un gd cn cs L a ccd cl outer) (call (.ref 105) [.int x t, .int y u]) Q E s :=
  con_sub w news x y t u  mg mb mean dp un gd cn cs a ccd cl outer A₀ base h₀ L m s Q E g.B g.F g.X g.N g.T g.hk g.hd g.hu (fun r h' tk' hr F' N' => by obtain ⟨t9, rfl⟩ := hr; exact ret t9 h' tk' F' N' )
theorem use_whole {x : Str} {t : Tok} (hx : x.length ≤ 1000) (g : Rdy 5 40 w mg mb mean dp un cs outer A₀ base h₀ L m s.heap news)
    (ret : ∀ (t_ : Tok) (h' : Heap) (tk' : Nat), Fr h₀ L h' m → News h₀ L h' news → Q (.int (whl x.cps.toList) t_) { s with heap := h', toks := tk' }) :
    wpAny (model PySem.Challenge.rw_ph0100_01.row.prog w) (ktrTop dp un gd cn cs L a ccd cl outer) (call (.ref 161) [.str x t]) Q E s :=
  con_whole w news x hx t mg mb mean dp un gd cn cs a ccd cl outer A₀ base h₀ L m s Q E g.B g.F g.X g.N g.T g.hk g.hd g.hu (fun r h' tk' hr F' N' => by obtain ⟨t9, rfl⟩ := hr; exact ret t9 h' tk' F' N' )
end
end Mine

set_option maxRecDepth 100000
namespace Mine
theorem noRaise {α : Type} {M : Model} {A : Around} {E : Value → Shared → Prop} {s : Shared} {t : Sem α} {Q : α → Shared → Prop} (h : wpAny M A t Q (fun _ _ => False) s) : wpAny M A t Q E s :=
  wpAny_mono h (fun _ _ x => x) (fun _ _ x => x.elim)

noncomputable def TurnEnd (h₀ : Heap) (L : Addr) (all : List (Addr × Obj)) (s : Shared) (J : (Str → Option Value) → Prop) (f : Flow) (s' : Shared) : Prop :=
  f = .next ∧ ∃ h' tk' m', s' = { s with heap := h', toks := tk' } ∧ Fr h₀ L h' m' ∧ News h₀ L h' all ∧ J m'

section
variable {prog : Program} {w : World} {A : Around} {E : Value → Shared → Prop} {s : Shared} {env : Env} {h₀ : Heap} {target : Expr} {body : List Stmt} {Q : Flow → Shared → Prop}

theorem loopT {R : Result → Shared → Prop} {I : Addr} {fp : List Addr} {n : Nat} {P : Nat → Value → Prop} {St : Nat → Heap → Prop} {m₀ : Str → Option Value} {news : List (Addr × Obj)}
    (W : Walks prog w A I fp [I] n P St)
    (hgo : ∀ i v (s' : Shared) (Q' : Unit → Shared → Prop) (E' : Value → Shared → Prop), St i s'.heap → Q' () s' → wpAny (model prog w) A (letOwnedTupleGo target (.ref I) v) Q' E' s')
    (hIo : ∀ i h, St i h → ∃ o, h.get? I = some o)
    (hfp : ∀ b ∈ fp, b = I ∨ (∃ o, (b, o) ∈ news))
    (hIL : I ≠ env.locals) (hI₀ : h₀.get? I = none) (hoff : ∀ p ∈ news, p.1 ≠ I)
    (F : Fr h₀ env.locals s.heap m₀) (N : News h₀ env.locals s.heap news) (hst : St 0 s.heap)
    (J : Nat → (Str → Option Value) → Prop) (j0 : J 0 m₀)
    (turn : ∀ i v m₁ h tk oI, i < n → P i v → J i m₁ → Fr h₀ env.locals h m₁ → News h₀ env.locals h ((I, oI) :: news) →
      wpAny (model prog w) A (assign target env v) (fun _ s₂ => wpAny (model prog w) A (execs body env) (TurnEnd h₀ env.locals ((I, oI) :: news) s (J (i + 1))) (fun _ _ => False) s₂) (fun _ _ => False) { s with heap := h, toks := tk })
    (done : ∀ m₁ h tk, J n m₁ → Fr h₀ env.locals h m₁ → News h₀ env.locals h news → R (.ok .next) { s with heap := h, toks := tk }) :
    codeAny (model prog w) A (.forLoop target (.ref I) body [] env) R s := by
  refine codeAny_forLoop_any (fun k s' => ∃ h' tk i m', s' = { s with heap := h', toks := tk } ∧ i ≤ n ∧ k = n + 1 - i ∧ St i h' ∧ Fr h₀ env.locals h' m' ∧ News h₀ env.locals h' news ∧ J i m') ?_ (n + 1)
    ⟨s.heap, s.toks, 0, m₀, rfl, Nat.zero_le _, rfl, hst, F, N, j0⟩
  rintro k s' ⟨h', tk, i, m', rfl, hi, rfl, hst', F', N', hJ⟩
  have next : ∀ h₁ : Heap, (∀ b o, b ∉ [I] → h'.get? b = some o → h₁.get? b = some o) → Fr h₀ env.locals h₁ m' ∧ News h₀ env.locals h₁ news := fun h₁ hk₁ =>
    ⟨⟨F'.ns.at' fun o e => hk₁ _ o (by simpa using Ne.symm hIL) e, fun b o e => hk₁ b o (by intro hb; rw [List.mem_singleton.mp hb, hI₀] at e; cases e) (F'.keep b o e), F'.above⟩,
      fun p hp => ⟨hk₁ _ _ (by simpa using hoff p hp) (N' p hp).1, (N' p hp).2⟩⟩
  by_cases hlt : i < n
  · refine W.item i _ _ _ hlt hst' fun v h₁ tk₁ hP st₁ hk₁ => ?_
    refine hgo (i + 1) v _ _ _ st₁ ?_
    obtain ⟨F₁, N₁⟩ := next h₁ hk₁
    obtain ⟨oI, hoI⟩ := hIo _ _ st₁
    have N₂ : News h₀ env.locals h₁ ((I, oI) :: news) := fun p hp => by
      rcases List.mem_cons.mp hp with rfl | hp
      · exact ⟨hoI, hIL, hI₀⟩
      · exact N₁ p hp
    refine wpAny_cut _ (noRaise (turn i v m' h₁ tk₁ oI hlt hP hJ F₁ N₂)) ?_
    intro _ s₂ hb hle2
    refine wpAny_cut _ (noRaise hb) ?_
    rintro f s₃ ⟨rfl, h₃, tk₃, m₃, rfl, F₃, N₃, hJ₃⟩ hle3
    refine ⟨n + 1 - (i + 1), by omega, h₃, tk₃, i + 1, m₃, rfl, hlt, rfl, ?_, F₃, fun p hp => N₃ p (List.mem_cons_of_mem _ hp), hJ₃⟩
    refine W.frame _ _ _ st₁ fun b hb o e => ?_
    rcases hfp b hb with rfl | ⟨o', ho'⟩
    · have q := (N₃ (b, oI) List.mem_cons_self).1
      rw [hoI] at e
      rw [← e]; exact q
    · have q := (N₃ (b, o') (List.mem_cons_of_mem _ ho')).1
      have q2 := (N₁ (b, o') ho').1
      have q2' : h₁.get? b = some o' := q2
      rw [q2'] at e
      rw [← e]; exact q
  · obtain rfl : i = n := by omega
    refine W.done _ _ _ hst' fun h₁ tk₁ hk₁ => ?_
    obtain ⟨F₁, N₁⟩ := next h₁ hk₁
    exact wpAny_execs_nil (done m' h₁ tk₁ hJ F₁ N₁)

theorem for_list {ax : Addr} {lo : Obj} {vs : List Value} {ne : Nat} {m₀ : Str → Option Value} {news : List (Addr × Obj)}
    (hh : A.handled = none) (F : Fr h₀ env.locals s.heap m₀) (N : News h₀ env.locals s.heap news) (hm : (ax, lo) ∈ news) (hc : lo.cls = .type "list") (hd : lo.data = .seq vs.toArray ne)
    (J : Nat → (Str → Option Value) → Prop) (j0 : J 0 m₀)
    (turn : ∀ i v m₁ h tk I oI, vs[i]? = some v → J i m₁ → Fr h₀ env.locals h m₁ → News h₀ env.locals h ((I, oI) :: news) →
      wpAny (model prog w) A (assign target env v) (fun _ s₂ => wpAny (model prog w) A (execs body env) (TurnEnd h₀ env.locals ((I, oI) :: news) { s with heap := h, toks := tk } (J (i + 1))) (fun _ _ => False) s₂) (fun _ _ => False) { s with heap := h, toks := tk })
    (done : ∀ m₁ h tk, J vs.length m₁ → Fr h₀ env.locals h m₁ → News h₀ env.locals h news → Q .next { s with heap := h, toks := tk }) :
    wpAny (model prog w) A (pyIter (.ref ax)) (fun it s₂ => codeAny (model prog w) A (.forLoop target it body [] env) (fun r s' => match r with | .ok f => Q f s' | .error e => cameBackBy (model prog w) A env E e s') s₂) E s := by
  have hax := N _ hm
  have hl : s.heap.IsList ax vs.toArray := ⟨lo, hax.1, hc, ne, hd⟩
  have hlt : ax < s.heap.objs.size := Heap.lt_size hax.1
  have hne : ax ≠ s.heap.objs.size := Nat.ne_of_lt hlt
  refine wpAny_pyIter_list hl ?_
  have hI₀ : h₀.get? s.heap.objs.size = none := next_is_new F
  refine loopT (m₀ := m₀) (news := news) (Walks.list hh s.heap.objs.size ax hne vs.toArray) (fun i v s' Q' E' st q => letGo_listiter st.1 q) (fun i h st => ?_) (fun b hb => ?_) (Nat.ne_of_gt F.ns.lt) hI₀ (fun p hp => Nat.ne_of_lt (Heap.lt_size (N p hp).1))
    (F.push _) (fun p hp => ⟨Heap.get?_push_of_some _ (N p hp).1, (N p hp).2⟩) ⟨⟨_, Heap.get?_push_size _ rfl, rfl, rfl⟩, hl.at fun o e => Heap.get?_push_of_some _ e⟩ J j0 ?_ ?_
  · obtain ⟨it, hit, _⟩ := st.1
    exact ⟨it, hit⟩
  · have hb' : b = s.heap.objs.size ∨ b = ax := by simpa using hb
    rcases hb' with e | e
    · exact .inl e
    · exact .inr ⟨lo, by rw [e]; exact hm⟩
  · intro i v m₁ h tk oI hlt' hP hJ F₁ N₁
    have hP' : vs[i]? = some v := by simpa using hP
    exact turn i v m₁ h tk _ oI hP' hJ F₁ N₁
  · intro m₁ h tk hJ F₁ N₁
    exact done m₁ h tk (by simpa using hJ) F₁ N₁
end

noncomputable def Con2 (w : World) (f : Addr) (news : List (Addr × Obj)) (vs : List Value) (R : Value → Prop) : Prop :=
  ∀ (mg mb : Str → Option Value) (mean : ExcName → Option Value) (dp un : Nat) (gd : Option (List Code)) (cn : Str) (cs : Scope) (a : Addr) (ccd : Value) (cl : List (Str × Addr)) (outer : List Env) (A₀ : Around) (base h₀ : Heap) (L : Addr) (m : Str → Option Value) (s : Shared) (Q E : Value → Shared → Prop),
    Below A₀ base outer h₀ → Fr h₀ L s.heap m → (hd.heap_39 w.params).In h₀ → News h₀ L s.heap news → Top hd.view_39 (looseW hd.view_39 []) mean mg mb h₀ → cs.kind = .function →
    dp + 10 < recursionLimit → un + 80 < cLine →
    (∀ (r : Value) (h' : Heap) (tk' : Nat), R r → Fr h₀ L h' m → News h₀ L h' news → Q r { s with heap := h', toks := tk' }) →
      wpAny (model PySem.Challenge.rw_ph0100_01.row.prog w) (ktrTop dp un gd cn cs L a ccd cl outer) (call (.ref f) vs) Q E s
theorem con_of2 {w : World} {f : Addr} {news : List (Addr × Obj)} {vs : List Value} {R : Value → Prop}
    (h : ∀ (mg mb : Str → Option Value) (mean : ExcName → Option Value) (dp un : Nat) (gd : Option (List Code)) (cn : Str) (cs : Scope) (a : Addr) (ccd : Value) (cl : List (Str × Addr)) (outer : List Env) (A₀ : Around) (base h₀ : Heap) (L : Addr) (m : Str → Option Value) (s : Shared),
      Below A₀ base outer h₀ → Fr h₀ L s.heap m → (hd.heap_39 w.params).In h₀ → News h₀ L s.heap news → Top hd.view_39 (looseW hd.view_39 []) mean mg mb h₀ → cs.kind = .function →
      dp + 10 < recursionLimit → un + 80 < cLine →
        wpAny (model PySem.Challenge.rw_ph0100_01.row.prog w) (ktrTop dp un gd cn cs L a ccd cl outer) (call (.ref f) vs) (CEnd h₀ L m news s R) (fun _ _ => False) s) : Con2 w f news vs R := by
  intro mg mb mean dp un gd cn cs a ccd cl outer A₀ base h₀ L m s Q E B F X N T hk hd hu hret
  refine wpAny_cut _ (noRaise (h mg mb mean dp un gd cn cs a ccd cl outer A₀ base h₀ L m s B F X N T hk hd hu)) ?_
  rintro v s' ⟨h', tk', rfl, hr, F', N'⟩ hle
  exact hret v h' tk' hr F' N'
end Mine

set_option maxRecDepth 100000
namespace Mine
structure EscAt (fa : Addr) (j : Nat) : Prop where
  keep : ∀ w : World, keepIn (hd.heap_39 w.params) (.ref fa) = true
  con : ∀ (w : World) (news : List (Addr × Obj)) (x : Str), x.length ≤ 5 → ∀ t : Tok, Con w fa news [.str x t] (fun r => ∃ t', r = .str (hand j x) t')
theorem keep_esc (w : World) (f : Addr) (h : f = 119 ∨ f = 126 ∨ f = 133 ∨ f = 140 ∨ f = 147) : keepIn (hd.heap_39 w.params) (.ref f) = true := by
  rcases h with rfl | rfl | rfl | rfl | rfl <;> rfl
noncomputable def escs : List Value := [.ref 119, .ref 126, .ref 133, .ref 140, .ref 147]
theorem esc_item : ∀ {j : Nat}, j < 5 → ∃ fa, EscAt fa j ∧ escs[j]? = some (.ref fa)
  | 0, _ => ⟨119, ⟨fun w => keep_esc w _ (by decide), con_esc0⟩, rfl⟩
  | 1, _ => ⟨126, ⟨fun w => keep_esc w _ (by decide), con_esc1⟩, rfl⟩
  | 2, _ => ⟨133, ⟨fun w => keep_esc w _ (by decide), con_esc2⟩, rfl⟩
  | 3, _ => ⟨140, ⟨fun w => keep_esc w _ (by decide), con_esc3⟩, rfl⟩
  | 4, _ => ⟨147, ⟨fun w => keep_esc w _ (by decide), con_esc4⟩, rfl⟩
  | n + 5, h => absurd h (by omega)
section
variable {w : World} {news : List (Addr × Obj)} {mg mb : Str → Option Value} {mean : ExcName → Option Value} {dp un : Nat} {gd : Option (List Code)} {cn : Str} {cs : Scope} {a : Addr} {ccd : Value} {cl : List (Str × Addr)} {outer : List Env} {A₀ : Around} {base h₀ : Heap} {L : Addr} {m : Str → Option Value} {s : Shared} {Q E : Value → Shared → Prop}
theorem use_escV {fa : Addr} {j : Nat} {x : Str} {t : Tok} (hE : EscAt fa j) (hx : x.length ≤ 5) (g : Rdy 5 40 w mg mb mean dp un cs outer A₀ base h₀ L m s.heap news)
    (ret : ∀ (t_ : Tok) (h' : Heap) (tk' : Nat), Fr h₀ L h' m → News h₀ L h' news → (hand j x).length ≤ 30 → Q (.str (hand j x) t_) { s with heap := h', toks := tk' }) :
    wpAny (model PySem.Challenge.rw_ph0100_01.row.prog w) (ktrTop dp un gd cn cs L a ccd cl outer) (call (.ref fa) [.str x t]) Q E s :=
  hE.con w news x hx t mg mb mean dp un gd cn cs a ccd cl outer A₀ base h₀ L m s Q E g.B g.F g.X g.N g.T g.hk g.hd g.hu (fun r h' tk' hr F' N' => by obtain ⟨t9, rfl⟩ := hr; exact ret t9 h' tk' F' N' (hand_length j x 5 hx))
end
end Mine

set_option maxRecDepth 100000
namespace Mine
local macro_rules | `(tactic| k_mem) => `(tactic| first | with_reducible assumption | assumption | (refine List.mem_cons_of_mem _ ?_; assumption) | (refine List.mem_cons_of_mem _ (List.mem_cons_of_mem _ ?_); assumption) | (refine List.mem_cons_of_mem _ (List.mem_cons_of_mem _ (List.mem_cons_of_mem _ ?_)); assumption))
local macro_rules | `(tactic| walk_at "execs cons") => `(tactic| ((with_reducible refine wpAny_execs_cons ?_); try dsimp only))
local macro_rules | `(tactic| walk_at "execs nil") => `(tactic| ((with_reducible refine wpAny_execs_nil ?_); try dsimp only))
local macro_rules | `(tactic| walk_at "subscriptTail Name BinOp ref int") => `(tactic| (k_here; (with_reducible show wpAny _ _ (subscriptTail _ _ (Value.ref _) (Value.int _ _)) _ _ _); k_dflt (refine item_listL (l := escs) (News.isList (by k_asm) (by k_mem)) (by omega) (by omega) (by assumption) ?_)))
local macro_rules | `(tactic| walk_at "subscriptTail Name Slice str ref") => `(tactic| ((with_reducible show wpAny _ _ (subscriptTail _ (Expr.Slice none (some _) none _) _ _) _ _ _); (with_reducible rename Fr _ _ _ _ => F'); (with_reducible rename News _ _ _ _ => N'); refine slice_strN_ns_len (hsz := ?hsz) (s := ⟨_, _, _, _, _⟩) F' N' ?_; (case hsz => (rw [sizeLine_eq]; omega)); intro h9 t9 tk9 F9 N9 b9; (try dsimp only); (try k_sweep)))
local macro_rules | `(tactic| walk_at "callWith ref") => `(tactic| (k_here; k_dflt (refine' callWith_K ?k1 ?k2 ?_; (case k1 => k_asm); (case k2 => exact EscAt.keep (by assumption) _); k_whole)))
local macro_rules | `(tactic| walk_at "call ref") => `(tactic| (k_here; k_dflt ((first | (refine' use_escV ?cE ?ch0 ?g ?_; (case cE => assumption)) | refine' use_add  ?g ?_ | refine' use_sub  ?g ?_ | refine' use_mul ?ch0 ?g ?_ | refine' use_floordiv ?ch0 ?ch1 ?g ?_ | refine' use_mod ?ch0 ?g ?_ | refine' use_lshift ?ch0 ?ch1 ?g ?_ | refine' use_rshift ?ch0 ?g ?_ | refine' use_and  ?g ?_ | refine' use_or  ?g ?_ | refine' use_neg  ?g ?_ | refine' use_inv  ?g ?_ | refine' use_whole ?ch0 ?g ?_); (case g => exact ⟨by k_asm, by k_asm, by k_asm, by k_asm, by k_asm, by first | exact rfl | assumption, by ktr_room, by ktr_units⟩); (try case ch0 => (first | assumption | omega | decide | (dsimp only; omega) | (refine bits_of ?_ ?_ <;> omega))); (try case ch1 => (first | assumption | omega | decide | (dsimp only; omega) | (refine bits_of ?_ ?_ <;> omega))); k_whole; intros; (try dsimp only); (try k_sweep))))

noncomputable def mF (m : Str → Option Value) (x : Int) (t : Tok) (H : Addr) (T : Str) (u : Tok) : Str → Option Value := fun y =>
  if y = Str.ofString "far" then some (.int x t) else if y = Str.ofString "hands" then some (.ref H) else if y = Str.ofString "text" then some (.str T u) else m y
abbrev tupO (k sz : Int) (t1 t2 : Tok) (n : Nat) : Obj := { cls := .type "tuple", data := .seq #[.int k t1, .int sz t2] n }
abbrev handsO (n : Nat) : Obj := W.listOf #[.ref 119, .ref 126, .ref 133, .ref 140, .ref 147] n
noncomputable def JF (H : Addr) (T : Str) (u : Tok) (x : Int) (m : Str → Option Value) : Prop :=
  (∃ t, m (Str.ofString "far") = some (.int x t)) ∧ m (Str.ofString "hands") = some (.ref H) ∧ m (Str.ofString "text") = some (.str T u)
theorem fr_mF {g h : Heap} {L : Addr} {m : Str → Option Value} {x : Int} {t u : Tok} {H : Addr} {T : Str} (F : Fr g L h m) (h1 : m (Str.ofString "far") = some (.int x t)) (h2 : m (Str.ofString "hands") = some (.ref H)) (h3 : m (Str.ofString "text") = some (.str T u)) :
    Fr g L h (mF m x t H T u) := by
  have e : mF m x t H T u = m := by
    funext y
    unfold mF
    split
    · rename_i e; rw [e, h1]
    · split
      · rename_i e; rw [e, h2]
      · split
        · rename_i e; rw [e, h3]
        · rfl
  rw [e]; exact F
noncomputable def DeedsIn (news : List (Addr × Obj)) (vs : List Value) (ds : List (Int × Int)) : Prop :=
  vs.length = ds.length ∧ ∀ (i : Nat) (v : Value), vs[i]? = some v → ∃ k sz a t1 t2 n, ds[i]? = some (k, sz) ∧ v = .ref a ∧ (a, tupO k sz t1 t2 n) ∈ news
noncomputable def escF (i : Nat) (T : Str) (x : Int) : Int :=
  x.fdiv T.length * (hand i T).length + (if 0 < x.fmod T.length then ((hand i (Txt.slice T none (some (x.fmod T.length)))).length : Int) else 0)
noncomputable def deedF (T : Str) (k sz x : Int) : Int :=
  if 7 < k then escF (k - 8).toNat T x else if k = 0 then x * sz else if k = 1 then x.fdiv sz else if k = 2 then x * 2 ^ sz.toNat else if k = 3 then x.fdiv (2 ^ sz.toNat)
  else if k = 4 then Builtin.bitAnd x (-(1 * 2 ^ sz.toNat)) else if k = 5 then Builtin.bitOr x (1 * 2 ^ sz.toNat - 1) else if k = 6 then x + sz else x - sz
set_option maxHeartbeats 16000000 in
theorem con_forth (w : World) (news : List (Addr × Obj)) (D H : Addr) (lo : Obj) (vs : List Value) (nl nh : Nat) (T : Str) (u t : Tok) (x : Int) (ds : List (Int × Int)) (f : Nat → Int)
    (hD : (D, lo) ∈ news) (hDc : lo.cls = .type "list") (hDd : lo.data = .seq vs.toArray nl) (hH : (H, handsO nh) ∈ news) (hds : DeedsIn news vs ds) (hT : T.length = 5) (hok : ∀ d ∈ ds, 0 ≤ d.1 ∧ d.1 ≤ 12 ∧ 2 ≤ d.2 ∧ d.2 ≤ 8)
    (hf0 : f 0 = x) (hfs : ∀ i k sz, ds[i]? = some (k, sz) → f (i + 1) = deedF T k sz (f i)) (hfb : ∀ i, i ≤ ds.length → Builtin.Int.intBits (f i) ≤ 100000) :
   Con2 w 154 news [.int x t, .ref D, .ref H, .str T u] (fun r => ∃ t', r = .int (f ds.length) t') := by
  refine con_of2 ?_
  k_fill
  intro mg mb mean dp un gd cn cs a ccd cl outer A₀ base h₀ L m s B F X N TT hk hd hu
  refine wpAny_call ?_
  k_dflt cell_enter
  rename_i g1 L1 h1 FG1 F1 N1 B1 X1 T1
  walk1
  refine wpAny_For ?_
  walk1
  refine for_list rfl F1 N1 hD hDc hDd (fun i m => JF H T u (f i) m) ⟨⟨t, by rw [hf0]; rfl⟩, rfl, rfl⟩ ?_ ?_
  · intro i v m₁ h tk I oI hv hJ F₁ N₁
    obtain ⟨⟨t8, j1⟩, j2, j3⟩ := hJ
    obtain ⟨k, sz, a1, t1, t2, nt, hd1, rfl, hm1⟩ := hds.2 i v hv
    have F₂ : Fr g1 L1 h (mF m₁ (f i) t8 H T u) := fr_mF F₁ j1 j2 j3
    have N₂ : News g1 L1 h ((I, oI) :: news) := N₁
    clear F₁ N₁ j1 j2 j3
    try dsimp only
    obtain ⟨k0, k1, s0, s1⟩ := hok _ (List.mem_of_getElem? hd1)
    dsimp only at k0 k1 s0 s1
    clear F1 N1
    have hb1 : Builtin.Int.intBits 1 ≤ 1 := by decide
    have hb2 := hfb i (Nat.le_of_lt (List.getElem?_eq_some_iff.mp hd1).1)
    have hn := hfs i k sz hd1
    generalize f (i + 1) = y at hn ⊢
    generalize f i = x9 at hn hb2 F₂ ⊢
    clear hfb hfs hf0 hd1 hv hok hds
    have hcase : (k = 0 ∨ k = 1 ∨ k = 2 ∨ k = 3) ∨ (k = 4 ∨ k = 5 ∨ k = 6 ∨ k = 7) ∨ 7 < k := by omega
    rcases hcase with (rfl | rfl | rfl | rfl) | (rfl | rfl | rfl | rfl) | hk7
    · have hn' : y = _ := hn
      simp only [deedF, Int.reduceLT, Int.reduceEq, if_true, if_false] at hn'
      k_steps
      exact ⟨rfl, _, _, _, rfl, by k_asm, by k_asm, ⟨⟨_, by rw [hn']; rfl⟩, rfl, rfl⟩⟩
    · have hn' : y = _ := hn
      simp only [deedF, Int.reduceLT, Int.reduceEq, if_true, if_false] at hn'
      k_steps
      exact ⟨rfl, _, _, _, rfl, by k_asm, by k_asm, ⟨⟨_, by rw [hn']; rfl⟩, rfl, rfl⟩⟩
    · have hn' : y = _ := hn
      simp only [deedF, Int.reduceLT, Int.reduceEq, if_true, if_false] at hn'
      k_steps
      exact ⟨rfl, _, _, _, rfl, by k_asm, by k_asm, ⟨⟨_, by rw [hn']; rfl⟩, rfl, rfl⟩⟩
    · have hn' : y = _ := hn
      simp only [deedF, Int.reduceLT, Int.reduceEq, if_true, if_false] at hn'
      k_steps
      exact ⟨rfl, _, _, _, rfl, by k_asm, by k_asm, ⟨⟨_, by rw [hn']; rfl⟩, rfl, rfl⟩⟩
    · have hn' : y = _ := hn
      simp only [deedF, Int.reduceLT, Int.reduceEq, if_true, if_false] at hn'
      k_steps
      exact ⟨rfl, _, _, _, rfl, by k_asm, by k_asm, ⟨⟨_, by rw [hn']; rfl⟩, rfl, rfl⟩⟩
    · have hn' : y = _ := hn
      simp only [deedF, Int.reduceLT, Int.reduceEq, if_true, if_false] at hn'
      k_steps
      exact ⟨rfl, _, _, _, rfl, by k_asm, by k_asm, ⟨⟨_, by rw [hn']; rfl⟩, rfl, rfl⟩⟩
    · have hn' : y = _ := hn
      simp only [deedF, Int.reduceLT, Int.reduceEq, if_true, if_false] at hn'
      k_steps
      exact ⟨rfl, _, _, _, rfl, by k_asm, by k_asm, ⟨⟨_, by rw [hn']; rfl⟩, rfl, rfl⟩⟩
    · have hn' : y = _ := hn
      simp only [deedF, Int.reduceLT, Int.reduceEq, if_true, if_false] at hn'
      k_steps
      exact ⟨rfl, _, _, _, rfl, by k_asm, by k_asm, ⟨⟨_, by rw [hn']; rfl⟩, rfl, rfl⟩⟩
    · have hn' : y = escF (k - 8).toNat T x9 := by rw [hn]; unfold deedF; rw [if_pos hk7]
      have hj : (k - 8).toNat < 5 := by omega
      have hl5 := hand_ge (k - 8).toNat T
      obtain ⟨fa, hE, hfa⟩ := esc_item hj
      k_steps
      · have hp : 0 < x9.fmod (T.length : Nat) := by assumption
        rw [escF, if_pos hp] at hn'
        exact ⟨rfl, _, _, _, rfl, by k_asm, by k_asm, ⟨⟨_, by rw [hn']; rfl⟩, rfl, rfl⟩⟩
      · have hp : ¬ 0 < x9.fmod (T.length : Nat) := by assumption
        rw [escF, if_neg hp] at hn'
        exact ⟨rfl, _, _, _, rfl, by k_asm, by k_asm, ⟨⟨_, by rw [hn']; rfl⟩, rfl, rfl⟩⟩
  · intro m₁ h tk hJ F₁ N₁
    obtain ⟨⟨t8, j1⟩, j2, j3⟩ := hJ
    have e : vs.length = ds.length := hds.1
    rw [e] at j1
    have F₂ : Fr g1 L1 h (mF m₁ (f ds.length) t8 H T u) := fr_mF F₁ j1 j2 j3
    have N₂ : News g1 L1 h news := N₁
    clear F₁ N₁ j1 j2 j3
    try dsimp only
    clear F1 N1
    k_steps
    exact ⟨_, _, rfl, ⟨_, rfl⟩, by k_asm, by k_asm⟩

noncomputable def escB (i : Nat) (T : Str) (x : Int) : Int :=
  x.fdiv (hand i T).length * T.length + (if 0 < x.fmod (hand i T).length then ((whl (Txt.slice (hand i T) none (some (x.fmod (hand i T).length))).cps.toList : Nat) : Int) else 0)
noncomputable def deedB (T : Str) (k sz x : Int) : Int :=
  if 7 < k then escB (k - 8).toNat T x else if k = 0 then x.fdiv sz else if k = 1 then Builtin.bitNot (Builtin.bitNot x * sz) else if k = 2 then x.fdiv (2 ^ sz.toNat) else if k = 3 then Builtin.bitNot (Builtin.bitNot x * 2 ^ sz.toNat)
  else if k = 4 then Builtin.bitOr x (1 * 2 ^ sz.toNat - 1) else if k = 5 then Builtin.bitAnd (x + 1) (-(1 * 2 ^ sz.toNat)) - 1 else if k = 6 then x - sz else x + sz
set_option maxHeartbeats 16000000 in
theorem con_back (w : World) (news : List (Addr × Obj)) (D H : Addr) (lo : Obj) (vs : List Value) (nl nh : Nat) (T : Str) (u t : Tok) (x : Int) (ds : List (Int × Int)) (f : Nat → Int)
    (hD : (D, lo) ∈ news) (hDc : lo.cls = .type "list") (hDd : lo.data = .seq vs.toArray nl) (hvl : vs.length ≤ 1000) (hH : (H, handsO nh) ∈ news) (hds : DeedsIn news vs.reverse ds) (hT : T.length = 5) (hok : ∀ d ∈ ds, 0 ≤ d.1 ∧ d.1 ≤ 12 ∧ 2 ≤ d.2 ∧ d.2 ≤ 8)
    (hf0 : f 0 = x) (hfs : ∀ i k sz, ds[i]? = some (k, sz) → f (i + 1) = deedB T k sz (f i)) (hfb : ∀ i, i ≤ ds.length → Builtin.Int.intBits (f i) ≤ 100000) :
   Con2 w 168 news [.int x t, .ref D, .ref H, .str T u] (fun r => ∃ t', r = .int (f ds.length) t') := by
  refine con_of2 ?_
  k_fill
  intro mg mb mean dp un gd cn cs a ccd cl outer A₀ base h₀ L m s B F X N TT hk hd hu
  refine wpAny_call ?_
  k_dflt cell_enter
  rename_i g1 L1 h1 FG1 F1 N1 B1 X1 T1
  walk1
  refine wpAny_For ?_
  (iterate 9 walk1)
  have hlist : h1.IsList D vs.toArray := ⟨lo, (N1 _ hD).1, hDc, nl, hDd⟩
  k_dflt (refine' krv_lit (its := vs.toArray) (zs := vs.reverse) ?eF ?eN ?el ?ek rfl ?_ ?es ?et ?ez; (case eF => exact F1); (case eN => exact N1); (case el => exact hlist); (case ek => exact IsPart.int _ _); (case es => with_unfolding_all rfl); (case et => kmk_pure); (case ez => (rw [sizeLine_eq]; simp; omega)))
  intro R h2 F2 N2 hR
  try dsimp only
  refine for_list rfl F2 N2 List.mem_cons_self rfl rfl (fun i m => JF H T u (f i) m) ⟨⟨t, by rw [hf0]; rfl⟩, rfl, rfl⟩ ?_ ?_
  · intro i v m₁ h tk I oI hv hJ F₁ N₁
    obtain ⟨⟨t8, j1⟩, j2, j3⟩ := hJ
    obtain ⟨k, sz, a1, t1, t2, nt, hd1, rfl, hm1⟩ := hds.2 i v hv
    have F₂ : Fr g1 L1 h (mF m₁ (f i) t8 H T u) := fr_mF F₁ j1 j2 j3
    have N₂ : News g1 L1 h ((I, oI) :: (R, W.listOf vs.reverse.toArray 0) :: news) := N₁
    clear F₁ N₁ j1 j2 j3
    try dsimp only
    obtain ⟨k0, k1, s0, s1⟩ := hok _ (List.mem_of_getElem? hd1)
    dsimp only at k0 k1 s0 s1
    clear F1 N1 F2 N2
    have hb1 : Builtin.Int.intBits 1 ≤ 1 := by decide
    have hb2 := hfb i (Nat.le_of_lt (List.getElem?_eq_some_iff.mp hd1).1)
    have hn := hfs i k sz hd1
    generalize f (i + 1) = y at hn ⊢
    generalize f i = x9 at hn hb2 F₂ ⊢
    have hb3 : Builtin.Int.intBits (Builtin.bitNot x9) ≤ 100001 := by
      have hz := intBits_sub_le (intBits_neg_le hb2) hb1
      simpa [Builtin.bitNot] using hz
    clear hfb hfs hf0 hd1 hv hok hds
    have hcase : (k = 0 ∨ k = 1 ∨ k = 2 ∨ k = 3) ∨ (k = 4 ∨ k = 5 ∨ k = 6 ∨ k = 7) ∨ 7 < k := by omega
    rcases hcase with (rfl | rfl | rfl | rfl) | (rfl | rfl | rfl | rfl) | hk7
    · have hn' : y = _ := hn
      simp only [deedB, Int.reduceLT, Int.reduceEq, if_true, if_false] at hn'
      k_steps
      exact ⟨rfl, _, _, _, rfl, by k_asm, by k_asm, ⟨⟨_, by rw [hn']; rfl⟩, rfl, rfl⟩⟩
    · have hn' : y = _ := hn
      simp only [deedB, Int.reduceLT, Int.reduceEq, if_true, if_false] at hn'
      k_steps
      exact ⟨rfl, _, _, _, rfl, by k_asm, by k_asm, ⟨⟨_, by rw [hn']; rfl⟩, rfl, rfl⟩⟩
    · have hn' : y = _ := hn
      simp only [deedB, Int.reduceLT, Int.reduceEq, if_true, if_false] at hn'
      k_steps
      exact ⟨rfl, _, _, _, rfl, by k_asm, by k_asm, ⟨⟨_, by rw [hn']; rfl⟩, rfl, rfl⟩⟩
    · have hn' : y = _ := hn
      simp only [deedB, Int.reduceLT, Int.reduceEq, if_true, if_false] at hn'
      k_steps
      exact ⟨rfl, _, _, _, rfl, by k_asm, by k_asm, ⟨⟨_, by rw [hn']; rfl⟩, rfl, rfl⟩⟩
    · have hn' : y = _ := hn
      simp only [deedB, Int.reduceLT, Int.reduceEq, if_true, if_false] at hn'
      k_steps
      exact ⟨rfl, _, _, _, rfl, by k_asm, by k_asm, ⟨⟨_, by rw [hn']; rfl⟩, rfl, rfl⟩⟩
    · have hn' : y = _ := hn
      simp only [deedB, Int.reduceLT, Int.reduceEq, if_true, if_false] at hn'
      k_steps
      exact ⟨rfl, _, _, _, rfl, by k_asm, by k_asm, ⟨⟨_, by rw [hn']; rfl⟩, rfl, rfl⟩⟩
    · have hn' : y = _ := hn
      simp only [deedB, Int.reduceLT, Int.reduceEq, if_true, if_false] at hn'
      k_steps
      exact ⟨rfl, _, _, _, rfl, by k_asm, by k_asm, ⟨⟨_, by rw [hn']; rfl⟩, rfl, rfl⟩⟩
    · have hn' : y = _ := hn
      simp only [deedB, Int.reduceLT, Int.reduceEq, if_true, if_false] at hn'
      k_steps
      exact ⟨rfl, _, _, _, rfl, by k_asm, by k_asm, ⟨⟨_, by rw [hn']; rfl⟩, rfl, rfl⟩⟩
    · have hn' : y = escB (k - 8).toNat T x9 := by rw [hn]; unfold deedB; rw [if_pos hk7]
      have hj : (k - 8).toNat < 5 := by omega
      have hl5 := hand_ge (k - 8).toNat T
      obtain ⟨fa, hE, hfa⟩ := esc_item hj
      k_steps
      · have hp : 0 < x9.fmod ((hand (k - 8).toNat T).length : Nat) := by assumption
        rw [escB, if_pos hp] at hn'
        exact ⟨rfl, _, _, _, rfl, by k_asm, by k_asm, ⟨⟨_, by rw [hn']; rfl⟩, rfl, rfl⟩⟩
      · have hp : ¬ 0 < x9.fmod ((hand (k - 8).toNat T).length : Nat) := by assumption
        rw [escB, if_neg hp] at hn'
        exact ⟨rfl, _, _, _, rfl, by k_asm, by k_asm, ⟨⟨_, by rw [hn']; rfl⟩, rfl, rfl⟩⟩
  · intro m₁ h tk hJ F₁ N₁
    obtain ⟨⟨t8, j1⟩, j2, j3⟩ := hJ
    have e : vs.reverse.length = ds.length := hds.1
    rw [e] at j1
    have F₂ : Fr g1 L1 h (mF m₁ (f ds.length) t8 H T u) := fr_mF F₁ j1 j2 j3
    have N₂ : News g1 L1 h news := fun p hp => N₁ p (List.mem_cons_of_mem _ hp)
    clear F₁ N₁ j1 j2 j3
    try dsimp only
    clear F1 N1 F2 N2
    k_steps
    exact ⟨_, _, rfl, ⟨_, rfl⟩, by k_asm, by k_asm⟩
end Mine

namespace Mine
theorem kc_one {cm : Str → Option Value} {n : Str} {c : Addr} {ps : List (Str × Addr)} {cells : List (Addr × Obj)} (x : CellsAre cm ((n, c) :: ps) cells) : ∃ o r, cells = (c, o) :: r ∧ o.data = .cell (cm n) ∧ CellsAre cm ps r := by
  cases x with | cons h r => exact ⟨_, _, rfl, h, r⟩
theorem kc_nil {cm : Str → Option Value} {cells : List (Addr × Obj)} (x : CellsAre cm [] cells) : cells = [] := by
  cases x; rfl
theorem kc_ten {cm : Str → Option Value} {n1 n2 n3 n4 n5 n6 n7 n8 n9 n10 : Str} {c1 c2 c3 c4 c5 c6 c7 c8 c9 c10 : Addr} {cells : List (Addr × Obj)} (x : CellsAre cm [(n1, c1), (n2, c2), (n3, c3), (n4, c4), (n5, c5), (n6, c6), (n7, c7), (n8, c8), (n9, c9), (n10, c10)] cells) :
    ∃ o1 o2 o3 o4 o5 o6 o7 o8 o9 o10, cells = [(c1, o1), (c2, o2), (c3, o3), (c4, o4), (c5, o5), (c6, o6), (c7, o7), (c8, o8), (c9, o9), (c10, o10)] ∧ o1.data = .cell (cm n1) ∧ o2.data = .cell (cm n2) ∧ o3.data = .cell (cm n3) ∧ o4.data = .cell (cm n4) ∧ o5.data = .cell (cm n5) ∧ o6.data = .cell (cm n6) ∧ o7.data = .cell (cm n7) ∧ o8.data = .cell (cm n8) ∧ o9.data = .cell (cm n9) ∧ o10.data = .cell (cm n10) := by
  obtain ⟨o1, r1, e1, h1, x⟩ := kc_one x
  obtain ⟨o2, r2, e2, h2, x⟩ := kc_one x
  obtain ⟨o3, r3, e3, h3, x⟩ := kc_one x
  obtain ⟨o4, r4, e4, h4, x⟩ := kc_one x
  obtain ⟨o5, r5, e5, h5, x⟩ := kc_one x
  obtain ⟨o6, r6, e6, h6, x⟩ := kc_one x
  obtain ⟨o7, r7, e7, h7, x⟩ := kc_one x
  obtain ⟨o8, r8, e8, h8, x⟩ := kc_one x
  obtain ⟨o9, r9, e9, h9, x⟩ := kc_one x
  obtain ⟨o10, r10, e10, h10, x⟩ := kc_one x
  exact ⟨o1, o2, o3, o4, o5, o6, o7, o8, o9, o10, (e1.trans (congrArg _ (e2.trans (congrArg _ (e3.trans (congrArg _ (e4.trans (congrArg _ (e5.trans (congrArg _ (e6.trans (congrArg _ (e7.trans (congrArg _ (e8.trans (congrArg _ (e9.trans (congrArg _ (e10.trans (congrArg _ (kc_nil x))))))))))))))))))))), h1, h2, h3, h4, h5, h6, h7, h8, h9, h10⟩
end Mine

set_option maxRecDepth 100000
namespace Mine
theorem compEnd_mono {h₀ : Heap} {L : Addr} {m : Str → Option Value} {s₁ : Shared} {I : Addr} {oI : Obj} {C : Addr} {oC : Obj} {D : Addr} {oD : Obj} {S : List (Addr × Obj) → Prop} {R R' : Value → List (Addr × Obj) → Prop} {y : Value} {s₂ : Shared}
    (h : LCg.CompEnd h₀ L m s₁ I oI C oC D oD S R y s₂) (k : ∀ y n, R y n → R' y n) : LCg.CompEnd h₀ L m s₁ I oI C oC D oD S R' y s₂ := by
  obtain ⟨h', tk, news', e, F, N, off, hS, r⟩ := h
  exact ⟨h', tk, news', e, F, N, off, hS, k _ _ r⟩
section
variable {prog : Program} {w : World} {A : Around} {h₀ : Heap} {L : Addr} {m : Str → Option Value} {env : Env} {elt : Expr} {x : Str} {scope : Scope} {cl : List (Str × Addr)} {s : Shared} {S : List (Addr × Obj) → Prop} {P : Nat → Value → Prop} {Fin : List Value → List (Addr × Obj) → Prop}
theorem compRest_inv {n : Nat} (J : Nat → List Value → List (Addr × Obj) → Prop)
    (step : ∀ i ys news v I oI C oC D m₂ h tk, i < n → J i ys news → P i v → LCg.NsObj oC m₂ → m₂ x = some v → Fr h₀ L h m → News h₀ L h ((I, oI) :: (C, oC) :: (D, LCg.lst ys) :: news) → LCg.Off3 I C D news → ((@Ne Nat I C) ∧ (@Ne Nat I D) ∧ (@Ne Nat C D)) →
      wpAny (model prog w) A (eval elt (compEnvC scope cl C env)) (LCg.CompEnd h₀ L m { s with heap := h, toks := tk } I oI C oC D (LCg.lst ys) S (fun y news' => J (i + 1) (ys ++ [y]) news')) (fun _ _ => False) { s with heap := h, toks := tk })
    (fin : ∀ ys news, J n ys news → Fin ys news) : ∀ (k i : Nat) (ys : List Value) (news : List (Addr × Obj)), i + k = n → J i ys news → LCg.CompRest prog w A h₀ L m env elt x scope cl s S P Fin k i ys news
  | 0, i, ys, news, e, hJ => LCg.CompRest.zero (fin ys news (by rw [show n = i by omega]; exact hJ))
  | k + 1, i, ys, news, e, hJ => by
    refine LCg.CompRest.succ ?_
    intro v I oI C oC D m₂ h tk E' hP hC hx F N off ne
    refine wpAny_mono (noRaise (step i ys news v I oI C oC D m₂ h tk (by omega) hJ hP hC hx F N off ne)) (fun y s₂ h₂ => ?_) fun _ _ e => e
    exact compEnd_mono h₂ fun y' n' hj => compRest_inv J step fin k (i + 1) (ys ++ [y']) n' (by omega) hj
end
theorem news_ne {h₀ h : Heap} {L : Addr} {led : List (Addr × Obj)} (N : News h₀ L h led) {a b : Addr} {o o' : Obj} (h1 : (a, o) ∈ led) (h2 : (b, o') ∈ led) (hd : o.data ≠ o'.data) : a ≠ b := by
  intro e
  have q1 : h.get? a = some o := (N _ h1).1
  have q2 : h.get? b = some o' := (N _ h2).1
  rw [e, q2] at q1
  exact hd (congrArg Obj.data (Option.some.inj q1).symm)
end Mine

set_option maxRecDepth 100000
namespace Mine
noncomputable def SEnd (P : Shared → Prop) (fl : Flow) (s' : Shared) : Prop := fl = .next ∧ P s'
theorem stmt_cut {M : Model} {A : Around} {env : Env} {st : Stmt} {rest : List Stmt} {Q : Flow → Shared → Prop} {E : Value → Shared → Prop} {s : Shared} (P : Shared → Prop)
    (h1 : wpAny M A (exec st env) (SEnd P) (fun _ _ => False) s) (h2 : ∀ s', P s' → wpAny M A (execs rest env) Q E s') : wpAny M A (execs (st :: rest) env) Q E s := by
  refine wpAny_execs_cons (wpAny_mono (noRaise h1) ?_ fun _ _ e => e)
  rintro v s' ⟨rfl, hp⟩
  exact h2 s' hp
abbrev cellsOf (L : Addr) (o1 o2 o3 o4 o5 o6 o7 o8 o9 o10 : Obj) (tl : List (Addr × Obj)) : List (Addr × Obj) :=
  (L+1+1+1+1+1+1+1+1+1+1, o10) :: (L+1+1+1+1+1+1+1+1+1, o9) :: (L+1+1+1+1+1+1+1+1, o8) :: (L+1+1+1+1+1+1+1, o7) :: (L+1+1+1+1+1+1, o6) :: (L+1+1+1+1+1, o5) :: (L+1+1+1+1, o4) :: (L+1+1+1, o3) :: (L+1+1, o2) :: (L+1, o1) :: tl
noncomputable def Off10 (L D : Nat) : Prop := @Ne Nat D (L+1) ∧ @Ne Nat D (L+1+1) ∧ @Ne Nat D (L+1+1+1) ∧ @Ne Nat D (L+1+1+1+1) ∧ @Ne Nat D (L+1+1+1+1+1) ∧ @Ne Nat D (L+1+1+1+1+1+1) ∧ @Ne Nat D (L+1+1+1+1+1+1+1) ∧ @Ne Nat D (L+1+1+1+1+1+1+1+1) ∧ @Ne Nat D (L+1+1+1+1+1+1+1+1+1) ∧ @Ne Nat D (L+1+1+1+1+1+1+1+1+1+1)
theorem peel {n a : Nat} (h : n ≤ a + 1) : n = a + 1 ∨ n ≤ a := (Nat.lt_or_eq_of_le h).symm.imp id Nat.le_of_lt_succ
section
variable {L D : Nat} (h : Off10 L D)
include h
theorem off_ne {n : Nat} (h1 : L+1 ≤ n) (h2 : n ≤ L+1+1+1+1+1+1+1+1+1+1) : D ≠ n := by
  obtain ⟨a1, a2, a3, a4, a5, a6, a7, a8, a9, a10⟩ := h
  rcases peel h2 with rfl | h2
  · exact a10
  rcases peel h2 with rfl | h2
  · exact a9
  rcases peel h2 with rfl | h2
  · exact a8
  rcases peel h2 with rfl | h2
  · exact a7
  rcases peel h2 with rfl | h2
  · exact a6
  rcases peel h2 with rfl | h2
  · exact a5
  rcases peel h2 with rfl | h2
  · exact a4
  rcases peel h2 with rfl | h2
  · exact a3
  rcases peel h2 with rfl | h2
  · exact a2
  rw [Nat.le_antisymm h2 h1]
  exact a1
theorem off_en {n : Nat} (h1 : L+1 ≤ n) (h2 : n ≤ L+1+1+1+1+1+1+1+1+1+1) : n ≠ D := fun e => off_ne h h1 h2 e.symm
end
structure LawSt (h₀ : Heap) (L : Addr) (h : Heap) (m : Str → Option Value) (o1 o2 o3 o4 o5 o6 o7 o8 o9 o10 : Obj) (tl : List (Addr × Obj)) : Prop where
  F : Fr h₀ L h m
  N : News h₀ L h (cellsOf L o1 o2 o3 o4 o5 o6 o7 o8 o9 o10 tl)
  off : ∀ p ∈ tl, Off10 L p.1
theorem mem_tl {L : Addr} {o1 o2 o3 o4 o5 o6 o7 o8 o9 o10 : Obj} {tl : List (Addr × Obj)} {p : Addr × Obj} (h : p ∈ tl) : p ∈ cellsOf L o1 o2 o3 o4 o5 o6 o7 o8 o9 o10 tl := by
  show p ∈ cellsOf L o1 o2 o3 o4 o5 o6 o7 o8 o9 o10 [] ++ tl
  exact List.mem_append_right _ h
theorem mem_cells {L : Addr} {o1 o2 o3 o4 o5 o6 o7 o8 o9 o10 : Obj} {tl : List (Addr × Obj)} {p : Addr × Obj} (h : p ∈ cellsOf L o1 o2 o3 o4 o5 o6 o7 o8 o9 o10 []) : p ∈ cellsOf L o1 o2 o3 o4 o5 o6 o7 o8 o9 o10 tl := by
  show p ∈ cellsOf L o1 o2 o3 o4 o5 o6 o7 o8 o9 o10 [] ++ tl
  exact List.mem_append_left _ h
theorem cells_split {L : Addr} {o1 o2 o3 o4 o5 o6 o7 o8 o9 o10 : Obj} {tl : List (Addr × Obj)} {p : Addr × Obj} (h : p ∈ cellsOf L o1 o2 o3 o4 o5 o6 o7 o8 o9 o10 tl) : p ∈ cellsOf L o1 o2 o3 o4 o5 o6 o7 o8 o9 o10 [] ∨ p ∈ tl := by
  have h' : p ∈ cellsOf L o1 o2 o3 o4 o5 o6 o7 o8 o9 o10 [] ++ tl := h
  exact List.mem_append.mp h'
theorem mem_skip {α : Type} {a b p : α} {l : List α} (h : p ∈ a :: l) : p ∈ a :: b :: l := by
  rcases List.mem_cons.mp h with rfl | h
  · exact List.mem_cons_self
  · exact List.mem_cons_of_mem _ (List.mem_cons_of_mem _ h)
theorem LawSt.add {h₀ h : Heap} {L : Addr} {m : Str → Option Value} {o1 o2 o3 o4 o5 o6 o7 o8 o9 o10 : Obj} {tl : List (Addr × Obj)} {q : Addr × Obj}
    (F : Fr h₀ L h m) (N : News h₀ L h (q :: cellsOf L o1 o2 o3 o4 o5 o6 o7 o8 o9 o10 tl)) (off : ∀ p ∈ tl, Off10 L p.1) (hq : Off10 L q.1) : LawSt h₀ L h m o1 o2 o3 o4 o5 o6 o7 o8 o9 o10 (q :: tl) := by
  refine ⟨F, fun p hp => N p ?_, fun p hp => ?_⟩
  · rcases cells_split hp with h | h
    · exact List.mem_cons_of_mem _ (mem_cells h)
    · rcases List.mem_cons.mp h with rfl | h
      · exact List.mem_cons_self
      · exact List.mem_cons_of_mem _ (mem_tl h)
  · rcases List.mem_cons.mp hp with rfl | hp
    · exact hq
    · exact off p hp
theorem off_of {h₀ h : Heap} {L : Addr} {o1 o2 o3 o4 o5 o6 o7 o8 o9 o10 : Obj} {led : List (Addr × Obj)} {a : Addr} {o : Obj} {v1 v2 v3 v4 v5 v6 v7 v8 v9 v10 : Option Value}
    (N : News h₀ L h led) (hsub : ∀ p ∈ cellsOf L o1 o2 o3 o4 o5 o6 o7 o8 o9 o10 [], p ∈ led) (hm : (a, o) ∈ led)
    (d1 : o1.data = .cell v1) (d2 : o2.data = .cell v2) (d3 : o3.data = .cell v3) (d4 : o4.data = .cell v4) (d5 : o5.data = .cell v5) (d6 : o6.data = .cell v6) (d7 : o7.data = .cell v7) (d8 : o8.data = .cell v8) (d9 : o9.data = .cell v9) (d10 : o10.data = .cell v10)
    (hd : ∀ v, o.data ≠ .cell v) : Off10 L a := by
  have key : ∀ c oc v, (c, oc) ∈ led → oc.data = Data.cell v → a ≠ c := fun c oc v hc hv => news_ne N hm hc (by rw [hv]; exact hd v)
  exact ⟨key _ _ _ (hsub _ (.tail _ (.tail _ (.tail _ (.tail _ (.tail _ (.tail _ (.tail _ (.tail _ (.tail _ (.head _))))))))))) d1, key _ _ _ (hsub _ (.tail _ (.tail _ (.tail _ (.tail _ (.tail _ (.tail _ (.tail _ (.tail _ (.head _)))))))))) d2, key _ _ _ (hsub _ (.tail _ (.tail _ (.tail _ (.tail _ (.tail _ (.tail _ (.tail _ (.head _))))))))) d3, key _ _ _ (hsub _ (.tail _ (.tail _ (.tail _ (.tail _ (.tail _ (.tail _ (.head _)))))))) d4, key _ _ _ (hsub _ (.tail _ (.tail _ (.tail _ (.tail _ (.tail _ (.head _))))))) d5, key _ _ _ (hsub _ (.tail _ (.tail _ (.tail _ (.tail _ (.head _)))))) d6, key _ _ _ (hsub _ (.tail _ (.tail _ (.tail _ (.head _))))) d7, key _ _ _ (hsub _ (.tail _ (.tail _ (.head _)))) d8, key _ _ _ (hsub _ (.tail _ (.head _))) d9, key _ _ _ (hsub _ (.head _)) d10⟩
theorem ints_fn {ys : List Value} {zs : List Int} (h : IntsAre ys zs) : ∃ (z : Nat → Int) (t : Nat → Tok), ys = (List.range zs.length).map fun i => .int (z i) (t i) := by
  induction h with
  | nil => exact ⟨fun _ => 0, fun _ => 0, rfl⟩
  | cons a b _ ih =>
    obtain ⟨z, t, rfl⟩ := ih
    refine ⟨fun i => if i = 0 then a else z (i - 1), fun i => if i = 0 then b else t (i - 1), ?_⟩
    rw [List.length_cons, List.range_succ_eq_map, List.map_cons, List.map_map]
    rfl
theorem ints13 {ys : List Value} {zs : List Int} (h : IntsAre ys zs) (hl : zs.length = 13) : ∃ (z : Nat → Int) (t : Nat → Tok), ys = [.int (z 0) (t 0), .int (z 1) (t 1), .int (z 2) (t 2), .int (z 3) (t 3), .int (z 4) (t 4), .int (z 5) (t 5), .int (z 6) (t 6), .int (z 7) (t 7), .int (z 8) (t 8), .int (z 9) (t 9), .int (z 10) (t 10), .int (z 11) (t 11), .int (z 12) (t 12)] := by
  obtain ⟨z, t, e⟩ := ints_fn h
  rw [hl] at e
  exact ⟨z, t, e⟩
theorem near_bound (z : Int) : -1000 ≤ (z + 1000).fmod 2001 - 1000 ∧ (z + 1000).fmod 2001 - 1000 ≤ 1000 := by
  have h1 := Int.fmod_nonneg_of_pos (z + 1000) (b := 2001) (by omega)
  have h2 := Int.fmod_lt_of_pos (z + 1000) (b := 2001) (by omega)
  omega
noncomputable def mD (D : Addr) : Str → Option Value := fun y => if y = Str.ofString "drawn" then some (.ref D) else none
noncomputable def mG (D : Addr) (g : Int) (t : Tok) : Str → Option Value := fun y => if y = Str.ofString "goal" then some (.int g t) else mD D y
theorem item6 {z1 z2 z3 z4 z5 z6 : Int} {t1 t2 t3 t4 t5 t6 : Tok} {i : Nat} {v : Value} (h : (#[.int z1 t1, .int z2 t2, .int z3 t3, .int z4 t4, .int z5 t5, .int z6 t6] : Array Value)[i]? = some v) : ∃ t, v = .int ([z1, z2, z3, z4, z5, z6].getD i 0) t := by
  match i, h with
  | 0, h => exact ⟨t1, by simpa using h.symm⟩
  | 1, h => exact ⟨t2, by simpa using h.symm⟩
  | 2, h => exact ⟨t3, by simpa using h.symm⟩
  | 3, h => exact ⟨t4, by simpa using h.symm⟩
  | 4, h => exact ⟨t5, by simpa using h.symm⟩
  | 5, h => exact ⟨t6, by simpa using h.symm⟩
  | n + 6, h => simp at h
theorem item5 {z1 z2 z3 z4 z5 : Int} {t1 t2 t3 t4 t5 : Tok} {i : Nat} {v : Value} (h : (#[.int z1 t1, .int z2 t2, .int z3 t3, .int z4 t4, .int z5 t5] : Array Value)[i]? = some v) : ∃ t, v = .int ([z1, z2, z3, z4, z5].getD i 0) t := by
  match i, h with
  | 0, h => exact ⟨t1, by simpa using h.symm⟩
  | 1, h => exact ⟨t2, by simpa using h.symm⟩
  | 2, h => exact ⟨t3, by simpa using h.symm⟩
  | 3, h => exact ⟨t4, by simpa using h.symm⟩
  | 4, h => exact ⟨t5, by simpa using h.symm⟩
  | n + 5, h => simp at h
noncomputable def deedOf (z : Int) : Int × Int := (z.fmod 13, (z.fdiv 13).fmod 7 + 2)
theorem DeedsIn.snoc {tp : List (Addr × Obj)} {ys : List Value} {ds : List (Int × Int)} (h : DeedsIn tp ys ds) (T : Addr) (k sz : Int) (t1 t2 : Tok) : DeedsIn ((T, tupO k sz t1 t2 0) :: tp) (ys ++ [.ref T]) (ds ++ [(k, sz)]) := by
  obtain ⟨hl, hd⟩ := h
  refine ⟨by rw [List.length_append, List.length_append, hl]; rfl, fun j v hv => ?_⟩
  by_cases hj : j < ys.length
  · rw [List.getElem?_append_left hj] at hv
    obtain ⟨k, sz, a, t1, t2, n, e1, e2, e3⟩ := hd j v hv
    exact ⟨k, sz, a, t1, t2, n, by rw [List.getElem?_append_left (by rw [← hl]; exact hj)]; exact e1, e2, List.mem_cons_of_mem _ e3⟩
  · rw [List.getElem?_append_right (Nat.le_of_not_lt hj)] at hv
    cases hz : j - ys.length with
    | zero =>
      rw [hz] at hv
      refine ⟨k, sz, T, t1, t2, 0, ?_, (Option.some.inj hv).symm, List.mem_cons_self⟩
      rw [List.getElem?_append_right (by rw [← hl]; exact Nat.le_of_not_lt hj), ← hl, hz]; rfl
    | succ q => rw [hz] at hv; cases hv
theorem seq_nocell {o : Obj} {xs : Array Value} {n : Nat} (h : o.data = .seq xs n) : ∀ v, o.data ≠ .cell v := by
  intro v e; rw [h] at e; cases e
noncomputable def J5 (led : List (Addr × Obj)) (zs : List Int) (i : Nat) (ys : List Value) (news : List (Addr × Obj)) : Prop :=
  (∀ p ∈ led, p ∈ news) ∧ ∃ tp, (∀ p ∈ tp, p ∈ news) ∧ (∀ p ∈ tp, ∀ v, p.2.data ≠ .cell v) ∧ DeedsIn tp ys ((zs.take i).map deedOf)
theorem J5_zero {led : List (Addr × Obj)} {zs : List Int} : J5 led zs 0 [] led :=
  ⟨fun _ hp => hp, [], fun _ h => (nomatch h), fun _ h => (nomatch h), rfl, fun _ _ h => by cases h⟩
theorem take_snoc {zs : List Int} {i : Nat} (hi : i < zs.length) : zs.take (i + 1) = zs.take i ++ [zs.getD i 0] := by
  rw [List.take_add_one, List.getD_eq_getElem?_getD, List.getElem?_eq_getElem hi]
  rfl
theorem J5_step {led : List (Addr × Obj)} {zs : List Int} {i : Nat} {ys : List Value} {news : List (Addr × Obj)} {T : Addr} {t1 t2 : Tok} {q : Addr × Obj} (h : J5 led zs i ys news) (hi : i < zs.length) (hq : q = (T, tupO ((zs.getD i 0).fmod 13) (((zs.getD i 0).fdiv 13).fmod 7 + 2) t1 t2 0)) :
    J5 led zs (i + 1) (ys ++ [.ref T]) (q :: news) := by
  obtain ⟨h1, tp, h2, h3, h4⟩ := h
  subst hq
  refine ⟨fun p hp => List.mem_cons_of_mem _ (h1 p hp), _ :: tp, List.forall_mem_cons.mpr ⟨List.mem_cons_self, fun p hp => List.mem_cons_of_mem _ (h2 p hp)⟩, List.forall_mem_cons.mpr ⟨seq_nocell rfl, h3⟩, ?_⟩
  rw [take_snoc hi, List.map_append]
  exact h4.snoc T _ _ t1 t2
theorem off3_cons {I C D : Nat} {q : Addr × Obj} {l : List (Addr × Obj)} (h : LCg.Off3 I C D l) (h1 : @Ne Nat q.1 I) (h2 : @Ne Nat q.1 C) (h3 : @Ne Nat q.1 D) : LCg.Off3 I C D (q :: l) := ⟨⟨h1, h2, h3⟩, h⟩
theorem comp_new {h₀ : Heap} {L : Addr} {m : Str → Option Value} {s₁ : Shared} {I : Addr} {oI : Obj} {C : Addr} {oC : Obj} {D : Addr} {oD : Obj} {S : List (Addr × Obj) → Prop} {R : Value → List (Addr × Obj) → Prop} {y : Value} {h' : Heap} {tk : Nat} {q : Addr × Obj} {nw : List (Addr × Obj)}
    (F : Fr h₀ L h' m) (N : News h₀ L h' (q :: (I, oI) :: (C, oC) :: (D, oD) :: nw)) {X : Prop} (off : LCg.Off3 I C D nw) (l8 : @LT.lt Nat _ I q.1 ∧ @LT.lt Nat _ C q.1 ∧ @LT.lt Nat _ D q.1 ∧ X) (hS : S (q :: nw)) (r : R y (q :: nw)) :
    LCg.CompEnd h₀ L m s₁ I oI C oC D oD S R y { s₁ with heap := h', toks := tk } := by
  refine LCg.CompEnd.intro F N (q :: nw) ?_ (off3_cons off ?_ ?_ ?_) hS r
  · intro p hp
    simp only [List.mem_cons] at hp ⊢
    rcases hp with h | h | h | h | h <;> simp [h]
  · exact Nat.ne_of_gt l8.1
  · exact Nat.ne_of_gt l8.2.1
  · exact Nat.ne_of_gt l8.2.2.1
noncomputable def sigs : Str := Str.ofString "&<>\"\r\n\ta;"
noncomputable def sgn (z : Int) : Str := Txt.item (Str.ofString "&<>\"\r\n\ta;") (z.fmod 9)
theorem strs_snoc {ys : List Value} {xs : List Str} (h : StrsAre ys xs) (x : Str) (t : Tok) : StrsAre (ys ++ [.str x t]) (xs ++ [x]) := by
  induction h with
  | nil => exact StrsAre.cons _ _ StrsAre.nil
  | cons a b _ ih => exact StrsAre.cons _ _ ih
noncomputable def J7 (led : List (Addr × Obj)) (zs : List Int) (i : Nat) (ys : List Value) (news : List (Addr × Obj)) : Prop :=
  (∀ p ∈ led, p ∈ news) ∧ StrsAre ys ((zs.take i).map sgn)
theorem J7_step {led : List (Addr × Obj)} {zs : List Int} {i : Nat} {ys : List Value} {news : List (Addr × Obj)} {t : Tok} (h : J7 led zs i ys news) (hi : i < zs.length) :
    J7 led zs (i + 1) (ys ++ [.str (sgn (zs.getD i 0)) t]) news := by
  refine ⟨h.1, ?_⟩
  rw [take_snoc hi, List.map_append]
  exact strs_snoc h.2 _ _
theorem comp_same {h₀ : Heap} {L : Addr} {m : Str → Option Value} {s₁ : Shared} {I : Addr} {oI : Obj} {C : Addr} {oC : Obj} {D : Addr} {oD : Obj} {S : List (Addr × Obj) → Prop} {R : Value → List (Addr × Obj) → Prop} {y : Value} {h' : Heap} {tk : Nat} {nw : List (Addr × Obj)}
    (F : Fr h₀ L h' m) (N : News h₀ L h' ((I, oI) :: (C, oC) :: (D, oD) :: nw)) (off : LCg.Off3 I C D nw) (hS : S nw) (r : R y nw) :
    LCg.CompEnd h₀ L m s₁ I oI C oC D oD S R y { s₁ with heap := h', toks := tk } :=
  LCg.CompEnd.intro F N nw (fun p hp => hp) off hS r
theorem sgn_len (z : Int) : (sgn z).length = 1 := rfl
theorem LawSt.sub {h₀ h : Heap} {L : Addr} {m : Str → Option Value} {o1 o2 o3 o4 o5 o6 o7 o8 o9 o10 : Obj} {tl tl' : List (Addr × Obj)} (S : LawSt h₀ L h m o1 o2 o3 o4 o5 o6 o7 o8 o9 o10 tl) (hs : ∀ p ∈ tl', p ∈ tl) : LawSt h₀ L h m o1 o2 o3 o4 o5 o6 o7 o8 o9 o10 tl' := by
  refine ⟨S.F, fun p hp => S.N p ?_, fun p hp => S.off p (hs p hp)⟩
  rcases cells_split hp with h | h
  · exact mem_cells h
  · exact mem_tl (hs p h)
noncomputable def tabD : Nat → List (PyData × PyData)
  | 0 => [(.str (Str.ofString "&"), .str (Str.ofString "&amp;")), (.str (Str.ofString "<"), .str (Str.ofString "&lt;")), (.str (Str.ofString ">"), .str (Str.ofString "&gt;"))]
  | 1 => [(.str (Str.ofString "&"), .str (Str.ofString "&amp;")), (.str (Str.ofString "<"), .str (Str.ofString "&lt;")), (.str (Str.ofString ">"), .str (Str.ofString "&gt;")), (.str (Str.ofString "\""), .str (Str.ofString "&quot;")), (.str (Str.ofString "\r"), .str (Str.ofString "&#13;")), (.str (Str.ofString "\n"), .str (Str.ofString "&#10;")), (.str (Str.ofString "\t"), .str (Str.ofString "&#09;"))]
  | 2 => [(.str (Str.ofString "&"), .str (Str.ofString "&amp;")), (.str (Str.ofString ">"), .str (Str.ofString "&gt;")), (.str (Str.ofString "\""), .str (Str.ofString "&quot;"))]
  | 3 => [(.str (Str.ofString "&"), .str (Str.ofString "&amp;")), (.str (Str.ofString "<"), .str (Str.ofString "&lt;")), (.str (Str.ofString ">"), .str (Str.ofString "&gt;")), (.str (Str.ofString "\r"), .str (Str.ofString "&#xD;"))]
  | _ => [(.str (Str.ofString "&"), .str (Str.ofString "&amp;")), (.str (Str.ofString "<"), .str (Str.ofString "&lt;")), (.str (Str.ofString "\""), .str (Str.ofString "&quot;")), (.str (Str.ofString "\r"), .str (Str.ofString "&#xD;")), (.str (Str.ofString "\n"), .str (Str.ofString "&#xA;")), (.str (Str.ofString "\t"), .str (Str.ofString "&#x9;"))]
noncomputable def TabOk (w : World) (b : Addr) (o : Obj) (i : Nat) : Prop :=
  (b == sysModules) = false ∧ ∃ kvs, Obj.IsDictOf (PySem.strKind PySem.Challenge.rw_ph0100_01.row.prog w) o kvs ∧ PyProof.V.FlatPairs PyData.str kvs (tabD i)
theorem LawSt.adds {h₀ h : Heap} {L : Addr} {m : Str → Option Value} {o1 o2 o3 o4 o5 o6 o7 o8 o9 o10 : Obj} {tl : List (Addr × Obj)} (pre : List (Addr × Obj))
    (F : Fr h₀ L h m) (N : News h₀ L h (pre ++ cellsOf L o1 o2 o3 o4 o5 o6 o7 o8 o9 o10 tl)) (off : ∀ p ∈ tl, Off10 L p.1) (hq : ∀ p ∈ pre, Off10 L p.1) : LawSt h₀ L h m o1 o2 o3 o4 o5 o6 o7 o8 o9 o10 (pre ++ tl) := by
  refine ⟨F, fun p hp => N p ?_, fun p hp => ?_⟩
  · rcases cells_split hp with h | h
    · exact List.mem_append_right _ (mem_cells h)
    · rcases List.mem_append.mp h with h | h
      · exact List.mem_append_left _ h
      · exact List.mem_append_right _ (mem_tl h)
  · rcases List.mem_append.mp hp with hp | hp
    · exact hq p hp
    · exact off p hp
theorem le_s {a b : Nat} (h : a ≤ b) : a ≤ b + 1 := Nat.le_succ_of_le h
theorem off_lt {L D : Nat} (h : L+1+1+1+1+1+1+1+1+1+1 < D) : Off10 L D :=
  have k : ∀ n, n ≤ L+1+1+1+1+1+1+1+1+1+1 → D ≠ n := fun n hn e => Nat.lt_irrefl D (Nat.lt_of_le_of_lt (e ▸ hn) h)
  have s : ∀ n, n ≤ n + 1 := fun n => Nat.le_succ n
  have l9 := s (L+1+1+1+1+1+1+1+1+1)
  have l8 := Nat.le_trans (s _) l9
  have l7 := Nat.le_trans (s _) l8
  have l6 := Nat.le_trans (s _) l7
  have l5 := Nat.le_trans (s _) l6
  have l4 := Nat.le_trans (s _) l5
  have l3 := Nat.le_trans (s _) l4
  have l2 := Nat.le_trans (s _) l3
  have l1 := Nat.le_trans (s _) l2
  ⟨k _ l1, k _ l2, k _ l3, k _ l4, k _ l5, k _ l6, k _ l7, k _ l8, k _ l9, k _ (Nat.le_refl _)⟩
theorem off_all {h₀ h : Heap} {L : Addr} {o1 o2 o3 o4 o5 o6 o7 o8 o9 o10 : Obj} {tl : List (Addr × Obj)} {v1 v2 v3 v4 v5 v6 v7 v8 v9 v10 : Option Value} (N : News h₀ L h (cellsOf L o1 o2 o3 o4 o5 o6 o7 o8 o9 o10 tl)) (d1 : o1.data = .cell v1) (d2 : o2.data = .cell v2) (d3 : o3.data = .cell v3) (d4 : o4.data = .cell v4) (d5 : o5.data = .cell v5) (d6 : o6.data = .cell v6) (d7 : o7.data = .cell v7) (d8 : o8.data = .cell v8) (d9 : o9.data = .cell v9) (d10 : o10.data = .cell v10)
    (hn : ∀ p ∈ tl, ∀ v, p.2.data ≠ .cell v) : ∀ p ∈ tl, Off10 L p.1 :=
  fun p hp => off_of (a := p.1) (o := p.2) N (fun _ hp => mem_cells hp) (mem_tl hp) d1 d2 d3 d4 d5 d6 d7 d8 d9 d10 (hn p hp)
theorem off_tp {L n : Nat} {tp : List (Addr × Obj)} (h : ∀ p ∈ tp, Off10 L p.1) (h1 : L+1 ≤ n) (h2 : n ≤ L+1+1+1+1+1+1+1+1+1+1) : ∀ p ∈ tp, p.1 ≠ n := fun p hp => off_ne (h p hp) h1 h2
theorem news5 {h₀ h : Heap} {L : Addr} {o1 o2 o3 o4 o5 o6 o7 o8 o9 o10 : Obj} {q r d : Addr × Obj} {nw tp : List (Addr × Obj)} (N : News h₀ L h (q :: nw)) (j1 : ∀ p ∈ r :: cellsOf L o1 o2 o3 o4 o5 o6 o7 o8 o9 o10 [d], p ∈ nw) (htp : ∀ p ∈ tp, p ∈ nw) : News h₀ L h (cellsOf L o1 o2 o3 o4 o5 o6 o7 o8 o9 o10 (q :: d :: tp)) := by
  intro p hp
  rcases cells_split hp with h | h
  · exact N _ (List.mem_cons_of_mem _ (j1 _ (List.mem_cons_of_mem _ (mem_cells h))))
  · rcases List.mem_cons.mp h with rfl | h
    · exact N _ List.mem_cons_self
    · rcases List.mem_cons.mp h with rfl | h
      · exact N _ (List.mem_cons_of_mem _ (j1 _ (List.mem_cons_of_mem _ (mem_tl List.mem_cons_self))))
      · exact N _ (List.mem_cons_of_mem _ (htp _ h))
theorem mem_skip3 {α : Type} {a b c p : α} {l : List α} (h : p ∈ a :: b :: l) : p ∈ a :: b :: c :: l := by
  rcases List.mem_cons.mp h with rfl | h
  · exact List.mem_cons_self
  · exact List.mem_cons_of_mem _ (mem_skip h)
end Mine

set_option maxRecDepth 100000
namespace Mine
noncomputable def TurnEndN (h₀ : Heap) (L I : Addr) (oI : Obj) (s : Shared) (J : (Str → Option Value) → List (Addr × Obj) → Prop) (f : Flow) (s' : Shared) : Prop :=
  f = .next ∧ ∃ h' tk' m' news', s' = { s with heap := h', toks := tk' } ∧ Fr h₀ L h' m' ∧ News h₀ L h' ((I, oI) :: news') ∧ (∀ p ∈ news', p.1 ≠ I) ∧ J m' news'
section
variable {prog : Program} {w : World} {A : Around} {E : Value → Shared → Prop} {s : Shared} {env : Env} {h₀ : Heap} {target : Expr} {body : List Stmt} {Q : Flow → Shared → Prop}
theorem loopN {R : Result → Shared → Prop} {I : Addr} {n : Nat} {P : Nat → Value → Prop} {St : Nat → Heap → Prop} {m₀ : Str → Option Value} {news₀ : List (Addr × Obj)}
    (W : Walks prog w A I [I] [I] n P St)
    (hgo : ∀ i v (s' : Shared) (Q' : Unit → Shared → Prop) (E' : Value → Shared → Prop), St i s'.heap → Q' () s' → wpAny (model prog w) A (letOwnedTupleGo target (.ref I) v) Q' E' s')
    (hIo : ∀ i h, St i h → ∃ o, h.get? I = some o)
    (hIL : I ≠ env.locals) (hI₀ : h₀.get? I = none) (hoff : ∀ p ∈ news₀, p.1 ≠ I)
    (F : Fr h₀ env.locals s.heap m₀) (N : News h₀ env.locals s.heap news₀) (hst : St 0 s.heap)
    (J : Nat → (Str → Option Value) → List (Addr × Obj) → Prop) (j0 : J 0 m₀ news₀)
    (turn : ∀ i v m₁ news₁ h tk oI, i < n → P i v → J i m₁ news₁ → (∀ p ∈ news₁, p.1 ≠ I) → Fr h₀ env.locals h m₁ → News h₀ env.locals h ((I, oI) :: news₁) →
      wpAny (model prog w) A (assign target env v) (fun _ s₂ => wpAny (model prog w) A (execs body env) (TurnEndN h₀ env.locals I oI s (J (i + 1))) (fun _ _ => False) s₂) (fun _ _ => False) { s with heap := h, toks := tk })
    (done : ∀ m₁ news₁ h tk, J n m₁ news₁ → Fr h₀ env.locals h m₁ → News h₀ env.locals h news₁ → R (.ok .next) { s with heap := h, toks := tk }) :
    codeAny (model prog w) A (.forLoop target (.ref I) body [] env) R s := by
  refine codeAny_forLoop_any (fun k s' => ∃ h' tk i m' news', s' = { s with heap := h', toks := tk } ∧ i ≤ n ∧ k = n + 1 - i ∧ St i h' ∧ Fr h₀ env.locals h' m' ∧ News h₀ env.locals h' news' ∧ (∀ p ∈ news', p.1 ≠ I) ∧ J i m' news') ?_ (n + 1)
    ⟨s.heap, s.toks, 0, m₀, news₀, rfl, Nat.zero_le _, rfl, hst, F, N, hoff, j0⟩
  rintro k s' ⟨h', tk, i, m', news', rfl, hi, rfl, hst', F', N', hoff', hJ⟩
  have next : ∀ h₁ : Heap, (∀ b o, b ∉ [I] → h'.get? b = some o → h₁.get? b = some o) → Fr h₀ env.locals h₁ m' ∧ News h₀ env.locals h₁ news' := fun h₁ hk₁ =>
    ⟨⟨F'.ns.at' fun o e => hk₁ _ o (by simpa using Ne.symm hIL) e, fun b o e => hk₁ b o (by intro hb; rw [List.mem_singleton.mp hb, hI₀] at e; cases e) (F'.keep b o e), F'.above⟩,
      fun p hp => ⟨hk₁ _ _ (by simpa using hoff' p hp) (N' p hp).1, (N' p hp).2⟩⟩
  by_cases hlt : i < n
  · refine W.item i _ _ _ hlt hst' fun v h₁ tk₁ hP st₁ hk₁ => ?_
    refine hgo (i + 1) v _ _ _ st₁ ?_
    obtain ⟨F₁, N₁⟩ := next h₁ hk₁
    obtain ⟨oI, hoI⟩ := hIo _ _ st₁
    have N₂ : News h₀ env.locals h₁ ((I, oI) :: news') := fun p hp => by
      rcases List.mem_cons.mp hp with rfl | hp
      · exact ⟨hoI, hIL, hI₀⟩
      · exact N₁ p hp
    refine wpAny_mono (noRaise (turn i v m' news' h₁ tk₁ oI hlt hP hJ hoff' F₁ N₂)) (fun _ s₂ hb => ?_) fun _ _ e => e
    refine wpAny_mono (noRaise hb) ?_ fun _ _ e => e
    rintro f s₃ ⟨rfl, h₃, tk₃, m₃, news₃, rfl, F₃, N₃, hoff₃, hJ₃⟩
    refine ⟨n + 1 - (i + 1), by omega, h₃, tk₃, i + 1, m₃, news₃, rfl, hlt, rfl, ?_, F₃, fun p hp => N₃ p (List.mem_cons_of_mem _ hp), hoff₃, hJ₃⟩
    refine W.frame _ _ _ st₁ fun b hb o e => ?_
    obtain rfl := List.mem_singleton.mp hb
    have q := (N₃ (b, oI) List.mem_cons_self).1
    rw [hoI] at e
    rw [← e]; exact q
  · obtain rfl : i = n := by omega
    refine W.done _ _ _ hst' fun h₁ tk₁ hk₁ => ?_
    obtain ⟨F₁, N₁⟩ := next h₁ hk₁
    exact wpAny_execs_nil (done m' news' h₁ tk₁ hJ F₁ N₁)
theorem for_range {x : Str} {px : Pos} {r : Addr} {a b : Int} {t u v : Tok} {n : Nat} {m₀ : Str → Option Value} {news₀ : List (Addr × Obj)}
    (hh : A.handled = none) (F : Fr h₀ env.locals s.heap m₀) (N : News h₀ env.locals s.heap news₀) (hr : IsRange s.heap r a b 1 t u v) (hsm : Builtin.Range.small a b 1 = true) (hn : Builtin.Range.rangeSize a b 1 = ((n : Nat) : Int))
    (J : Nat → (Str → Option Value) → List (Addr × Obj) → Prop) (j0 : J 0 m₀ news₀)
    (turn : ∀ i ti m₁ news₁ h tk I oI, i < n → J i m₁ news₁ → (∀ p ∈ news₁, p.1 ≠ I) → Fr h₀ env.locals h m₁ → News h₀ env.locals h ((I, oI) :: news₁) →
      wpAny (model prog w) A (assign (.Name x px) env (.int (a + (i : Nat)) ti)) (fun _ s₂ => wpAny (model prog w) A (execs body env) (TurnEndN h₀ env.locals I oI { s with heap := h, toks := tk } (J (i + 1))) (fun _ _ => False) s₂) (fun _ _ => False) { s with heap := h, toks := tk })
    (done : ∀ m₁ news₁ h tk, J n m₁ news₁ → Fr h₀ env.locals h m₁ → News h₀ env.locals h news₁ → Q .next { s with heap := h, toks := tk }) :
    wpAny (model prog w) A (pyIter (.ref r)) (fun it s₂ => codeAny (model prog w) A (.forLoop (.Name x px) it body [] env) (fun r s' => match r with | .ok f => Q f s' | .error e => cameBackBy (model prog w) A env E e s') s₂) E s := by
  refine wpAny_pyIter_range hr hsm ?_
  have hI₀ : h₀.get? s.heap.objs.size = none := next_is_new F
  refine loopN (m₀ := m₀) (news₀ := news₀) (LCg.range_walks hh a n) (fun i v s' Q' E' st q => (show wpAny (model prog w) A (pure ()) Q' E' s' from wpAny_pure q)) (fun i h st => ⟨_, st⟩) (Nat.ne_of_gt F.ns.lt) hI₀ (fun p hp => Nat.ne_of_lt (Heap.lt_size (N p hp).1))
    (F.push _) (fun p hp => ⟨Heap.get?_push_of_some _ (N p hp).1, (N p hp).2⟩) ?_ J j0 ?_ ?_
  · have e := Heap.get?_push_size s.heap (o := { cls := .type "range_iterator", data := .fields #[rawInt a, rawInt (Builtin.Range.rangeSize a b 1), rawInt 1] }) rfl
    rw [hn] at e ⊢
    simpa [IsRangeIter] using e
  · intro i v' m₁ news₁ h tk oI hlt hP hJ hoff F₁ N₁
    obtain ⟨ti, rfl⟩ := hP
    exact turn i ti m₁ news₁ h tk _ oI hlt hJ hoff F₁ N₁
  · intro m₁ news₁ h tk hJ F₁ N₁
    exact done m₁ news₁ h tk hJ F₁ N₁
end
end Mine

set_option maxRecDepth 100000
namespace Mine
section
variable {prog : Program} {w : World} {A : Around} {E : Value → Shared → Prop} {s : Shared} {h₀ : Heap} {L : Addr} {m : Str → Option Value} {env : Env}
noncomputable def SrcS (prog : Program) (w : World) (A : Around) (h₀ : Heap) (L : Addr) (m : Str → Option Value) (env : Env) (elt : Expr) (x : Str) (scope : Scope) (cl : List (Str × Addr)) (Q : Value → Shared → Prop) (xv : Value) (s₁ : Shared) : Prop :=
  ∃ T tT news, xv = .str T tT ∧ T.cps.all (· < 128) = true ∧ A.handled = none ∧ Fr h₀ L s₁.heap m ∧ News h₀ L s₁.heap news ∧ T.cps.size ≤ sizeLine ∧
    ∀ g, LCg.CompRest prog w A h₀ L m env elt x scope cl { s₁ with heap := g } (fun _ => True) (SignAt T) (LCg.FinE h₀ L m { s₁ with heap := g } Q) T.cps.size 0 [] news
theorem ListComp_str {elt iter : Expr} {x : Str} {px : Pos} {scope : Scope} {cl : List (Str × Addr)} {pos : Pos} {Q : Value → Shared → Prop}
    (hclos : closureFor scope env = pure cl) (hcell : ∀ y ∈ scope.names, y.2 ≠ .cell) (hkind : scope.kind = .function)
    (hnames : ∀ y ∈ scope.names, y.2 = .local → scope.names.lookup y.1 = some .local) (hx : scope.names.lookup x = some .local)
    (h : wpAny (model prog w) A (eval iter env) (SrcS prog w A h₀ L m env elt x scope cl Q) E s)
    (hs : ∀ x, foldedSetIterable iter env x = pure x := by intro _; rfl) :
    wpAny (model prog w) A (eval (.ListComp elt [⟨.Name x px, iter, [], 0⟩] scope pos) env) Q E s := by
  rw [eval_ListComp]
  refine wpAny_comprehension_free (use := none) rfl hs hclos hkind hnames (wpAny_mono h (fun xv s₁ h₁ => ?_) fun _ _ e => e)
  obtain ⟨T, tT, news, rfl, ha, hh, F, N, hsz, R⟩ := h₁
  refine wpAny_pyIter_ascii ha ?_
  refine LCg.block_U (Walks.strAscii hh s₁.heap.objs.size T tT) hsz (fun i h st => by obtain ⟨o, e, _⟩ := st; exact ⟨o, e⟩)
    (fun i h h' o nw st e e' _ _ _ => by obtain ⟨o₂, e₂, r⟩ := st; rw [e] at e₂; cases e₂; exact ⟨o, e', r⟩) hcell hkind hx ⟨_, Heap.get?_push_size _ rfl, rfl, rfl⟩ (fun b hb => ?_)
    (F.keeps fun _ _ e => Heap.get?_push_of_some _ e) (N.grown fun _ _ e => Heap.get?_push_of_some _ e) (Nat.ne_of_lt F.ns.lt) (next_is_new F) (fun p hp => Nat.ne_of_lt (Heap.lt_size (N p hp).1)) trivial (R _) ?_
  · rw [List.mem_singleton.mp hb]
    show s₁.heap.objs.size < (s₁.heap.push _).objs.size
    rw [Heap.size_push]; exact Nat.lt_succ_self _
  · intro D C h tk m' ys news' F' N' o1 hn hC₀ hD₀ hCL hDL hCD offC fin
    refine ⟨m', hn, fun h'' hs'' => fin D h'' tk (F'.change hs'' hCL hC₀) (fun p hp => ?_) o1⟩
    refine ⟨hs''.extBut _ _ ?_ (N' p hp).1, (N' p hp).2⟩
    rcases List.mem_cons.mp hp with rfl | hp
    · exact Ne.symm hCD
    · exact offC p hp
end
end Mine

set_option maxRecDepth 100000
namespace Mine
theorem sgn_tab : ∀ k : Nat, k < 9 → (Txt.item (Str.ofString "&<>\"\r\n\ta;") (k : Int)).cps.all (· < 128) = true := by decide +kernel
theorem sgn_ascii (z : Int) : (sgn z).cps.all (· < 128) = true := by
  have h1 := Int.fmod_nonneg_of_pos z (b := 9) (by omega)
  have h2 := Int.fmod_lt_of_pos z (b := 9) (by omega)
  have h := sgn_tab (z.fmod 9).toNat (by omega)
  rw [Int.toNat_of_nonneg h1] at h
  exact h
theorem join_flat : ∀ ys : List Str, (Txt.join (Str.ofString "") ys).cps.toList = ys.flatMap fun y => y.cps.toList := by
  intro ys
  show (Builtin.Str.glued (Str.ofString "") ys).cps.toList = _
  rw [StrLaws.glued_eq_join]
  have key : ∀ ys : List Str, (Str.join (Str.ofString "") ys).cps.toList = ys.flatMap fun y => y.cps.toList := by
    intro ys
    induction ys with
    | nil => rfl
    | cons a r ih =>
      cases r with
      | nil => simp [Str.join]
      | cons b t =>
        show (a ++ Str.ofString "" ++ Str.join (Str.ofString "") (b :: t)).cps.toList = _
        rw [show Str.ofString "" = ⟨#[]⟩ from by decide +kernel] at ih ⊢
        simp only [Str.cps_append, Array.toList_append, ih, List.flatMap_cons]
        simp
  exact key ys
theorem text_ok (z1 z2 z3 z4 z5 : Int) : (Txt.join (Str.ofString "") [sgn z1, sgn z2, sgn z3, sgn z4, sgn z5]).length = 5 ∧ (Txt.join (Str.ofString "") [sgn z1, sgn z2, sgn z3, sgn z4, sgn z5]).cps.all (· < 128) = true := by
  have e := join_flat [sgn z1, sgn z2, sgn z3, sgn z4, sgn z5]
  generalize Txt.join (Str.ofString "") [sgn z1, sgn z2, sgn z3, sgn z4, sgn z5] = T at e
  obtain ⟨⟨l⟩⟩ := T
  have a1 := sgn_ascii z1
  have a2 := sgn_ascii z2
  have a3 := sgn_ascii z3
  have a4 := sgn_ascii z4
  have a5 := sgn_ascii z5
  constructor
  · have := congrArg List.length e
    simpa [Str.length, sgn, Txt.item] using this
  · have e' : l = _ := e
    subst e'
    simp only [List.flatMap_cons, List.flatMap_nil, List.append_nil] 
    simp only [← Array.all_toList] at a1 a2 a3 a4 a5 ⊢
    simp only [List.all_append, a1, a2, a3, a4, a5, Bool.and_self]
theorem off_iter {L I : Addr} {o1 o2 o3 o4 o5 o6 o7 o8 o9 o10 : Obj} {tl : List (Addr × Obj)} (hoff : ∀ p ∈ cellsOf L o1 o2 o3 o4 o5 o6 o7 o8 o9 o10 tl, p.1 ≠ I) : Off10 L I :=
  ⟨fun e => hoff (L+1, o1) (.tail _ (.tail _ (.tail _ (.tail _ (.tail _ (.tail _ (.tail _ (.tail _ (.tail _ (.head _)))))))))) e.symm, fun e => hoff (L+1+1, o2) (.tail _ (.tail _ (.tail _ (.tail _ (.tail _ (.tail _ (.tail _ (.tail _ (.head _))))))))) e.symm, fun e => hoff (L+1+1+1, o3) (.tail _ (.tail _ (.tail _ (.tail _ (.tail _ (.tail _ (.tail _ (.head _)))))))) e.symm, fun e => hoff (L+1+1+1+1, o4) (.tail _ (.tail _ (.tail _ (.tail _ (.tail _ (.tail _ (.head _))))))) e.symm, fun e => hoff (L+1+1+1+1+1, o5) (.tail _ (.tail _ (.tail _ (.tail _ (.tail _ (.head _)))))) e.symm, fun e => hoff (L+1+1+1+1+1+1, o6) (.tail _ (.tail _ (.tail _ (.tail _ (.head _))))) e.symm, fun e => hoff (L+1+1+1+1+1+1+1, o7) (.tail _ (.tail _ (.tail _ (.head _)))) e.symm, fun e => hoff (L+1+1+1+1+1+1+1+1, o8) (.tail _ (.tail _ (.head _))) e.symm, fun e => hoff (L+1+1+1+1+1+1+1+1+1, o9) (.tail _ (.head _)) e.symm, fun e => hoff (L+1+1+1+1+1+1+1+1+1+1, o10) (.head _) e.symm⟩
end Mine

set_option maxRecDepth 100000
set_option linter.unusedSimpArgs false
namespace Mine
noncomputable def tabN (l : List (Nat × List Nat)) : List (PyData × PyData) := l.map fun p => (.str ⟨#[p.1]⟩, .str ⟨p.2.toArray⟩)
theorem same_one (d c : Nat) : PySem.Spec.same (.str ⟨#[d]⟩) (.str ⟨#[c]⟩) = decide (c = d) := by
  rw [PyProof.V.same_str]
  by_cases h : c = d
  · subst h; simp
  · rw [decide_eq_false h, decide_eq_false]
    intro e
    injection e with e
    exact h (by simpa using e.symm)
theorem get_tabN (c : Nat) : ∀ r, (PySem.Spec.lookup (.str ⟨#[c]⟩) (tabN r)).getD (.str ⟨#[c]⟩) = .str ⟨(tab r c).toArray⟩
  | [] => rfl
  | (d, z) :: r => by
    show (if PySem.Spec.same (.str ⟨#[d]⟩) (.str ⟨#[c]⟩) then _ else _ : Option PyData).getD _ = _
    rw [same_one]
    unfold tab
    by_cases h : c = d
    · simp [h]
    · simp only [h, decide_false, if_false, Bool.false_eq_true]; exact get_tabN c r
theorem of_38 : Str.ofString "&" = ⟨#[38]⟩ := by decide +kernel
theorem of_amp : Str.ofString "&amp;" = ⟨amp.toArray⟩ := by decide +kernel
theorem of_60 : Str.ofString "<" = ⟨#[60]⟩ := by decide +kernel
theorem of_ltt : Str.ofString "&lt;" = ⟨ltt.toArray⟩ := by decide +kernel
theorem of_62 : Str.ofString ">" = ⟨#[62]⟩ := by decide +kernel
theorem of_gtt : Str.ofString "&gt;" = ⟨gtt.toArray⟩ := by decide +kernel
theorem of_34 : Str.ofString "\"" = ⟨#[34]⟩ := by decide +kernel
theorem of_quo : Str.ofString "&quot;" = ⟨quo.toArray⟩ := by decide +kernel
theorem of_13 : Str.ofString "\r" = ⟨#[13]⟩ := by decide +kernel
theorem of_r13 : Str.ofString "&#13;" = ⟨r13.toArray⟩ := by decide +kernel
theorem of_10 : Str.ofString "\n" = ⟨#[10]⟩ := by decide +kernel
theorem of_n10 : Str.ofString "&#10;" = ⟨n10.toArray⟩ := by decide +kernel
theorem of_9 : Str.ofString "\t" = ⟨#[9]⟩ := by decide +kernel
theorem of_t09 : Str.ofString "&#09;" = ⟨t09.toArray⟩ := by decide +kernel
theorem of_rxD : Str.ofString "&#xD;" = ⟨rxD.toArray⟩ := by decide +kernel
theorem of_nxA : Str.ofString "&#xA;" = ⟨nxA.toArray⟩ := by decide +kernel
theorem of_tx9 : Str.ofString "&#x9;" = ⟨tx9.toArray⟩ := by decide +kernel
noncomputable def rowsT : Nat → List (Nat × List Nat)
  | 0 => rows 0
  | 1 => rows 1
  | 2 => rows 2
  | 3 => rows 3
  | _ => [(38, amp), (60, ltt), (34, quo), (13, rxD), (10, nxA), (9, tx9)]
theorem tabD_eq : ∀ i, tabD i = tabN (rowsT i)
  | 0 | 1 | 2 | 3 => by simp only [tabD, rowsT, rows, tabN, List.map_cons, List.map_nil, of_38, of_amp, of_60, of_ltt, of_62, of_gtt, of_34, of_quo, of_13, of_r13, of_10, of_n10, of_9, of_t09, of_rxD, of_nxA, of_tx9]
  | n + 4 => by show tabD 4 = tabN (rowsT 4); simp only [tabD, rowsT, tabN, List.map_cons, List.map_nil, of_38, of_amp, of_60, of_ltt, of_62, of_gtt, of_34, of_quo, of_13, of_r13, of_10, of_n10, of_9, of_t09, of_rxD, of_nxA, of_tx9]
theorem rowsT_tab (c : Nat) : ∀ i, tab (rowsT i) c = esc i c
  | 0 | 1 | 2 | 3 => rfl
  | n + 4 => by
    show tab (rowsT 4) c = tab (rows 4) c
    simp only [rowsT, rows, tab]
    repeat' split
    all_goals first | rfl | omega
theorem get_tab (i c : Nat) : (PySem.Spec.lookup (.str ⟨#[c]⟩) (tabD i)).getD (.str ⟨#[c]⟩) = .str ⟨(esc i c).toArray⟩ := by
  rw [tabD_eq, get_tabN, rowsT_tab]
noncomputable def wrt (i c : Nat) : Str := ⟨(esc i c).toArray⟩
noncomputable def J10 (led : List (Addr × Obj)) (k : Nat) (cs : List Nat) (i : Nat) (ys : List Value) (news : List (Addr × Obj)) : Prop :=
  (∀ p ∈ led, p ∈ news) ∧ StrsAre ys ((cs.take i).map (wrt k))
theorem J10_step {led : List (Addr × Obj)} {k : Nat} {cs : List Nat} {i c : Nat} {ys : List Value} {news : List (Addr × Obj)} {t : Tok} (h : J10 led k cs i ys news) (hc : cs[i]? = some c) :
    J10 led k cs (i + 1) (ys ++ [.str (wrt k c) t]) news := by
  refine ⟨h.1, ?_⟩
  rw [List.take_add_one, hc, List.map_append]
  exact strs_snoc h.2 _ _
theorem J10_end {led : List (Addr × Obj)} {k : Nat} {T : Str} {ys : List Value} {news : List (Addr × Obj)} (h : J10 led k T.cps.toList T.cps.size ys news) : StrsAre ys (T.cps.toList.map (wrt k)) := by
  have := h.2
  rwa [List.take_of_length_le (by simp)] at this
theorem join_hand (k : Nat) (T : Str) : Txt.join (Str.ofString "") (T.cps.toList.map (wrt k)) = hand k T := by
  have e := join_flat (T.cps.toList.map (wrt k))
  generalize Txt.join (Str.ofString "") (T.cps.toList.map (wrt k)) = X at e
  obtain ⟨⟨l⟩⟩ := X
  have e' : l = _ := e
  rw [e', List.flatMap_map]
  rfl
theorem sum_hand (k : Nat) (T : Str) (hT : T.length = 5) : ((T.cps.toList.map (wrt k)).map (·.length)).sum + (T.cps.toList.map (wrt k)).length ≤ 1048576 := by
  have key : ∀ l : List Nat, ((l.map (wrt k)).map (·.length)).sum = (l.flatMap (esc k)).length := by
    intro l
    induction l with
    | nil => rfl
    | cons a r ih =>
      rw [List.map_cons, List.map_cons, List.sum_cons, ih, List.flatMap_cons, List.length_append]
      simp [wrt, Str.length]
  have h := hand_length k T 5 (by omega)
  have e2 : (hand k T).length = (T.cps.toList.flatMap (esc k)).length := by simp [Str.length, hand]
  have e : T.cps.toList.length = T.length := by simp [Str.length]
  rw [key, List.length_map]; omega
theorem off_cells {L I : Addr} {o1 o2 o3 o4 o5 o6 o7 o8 o9 o9' o10 : Obj} {tl : List (Addr × Obj)} (h : ∀ p ∈ cellsOf L o1 o2 o3 o4 o5 o6 o7 o8 o9 o10 tl, p.1 ≠ I) : ∀ p ∈ cellsOf L o1 o2 o3 o4 o5 o6 o7 o8 o9' o10 tl, p.1 ≠ I := by
  intro p hp
  have q' := List.mem_map_of_mem (f := Prod.fst) hp
  have q : p.1 ∈ (cellsOf L o1 o2 o3 o4 o5 o6 o7 o8 o9 o10 tl).map Prod.fst := q'
  obtain ⟨r, hr, e⟩ := List.mem_map.mp q
  rw [← e]; exact h r hr
theorem str_of_flat {v : Value} {k c : Nat} (h : PyProof.V.Flat v ((PySem.Spec.lookup (.str ⟨#[c]⟩) (tabD k)).getD (.str ⟨#[c]⟩))) : ∃ t, v = .str (wrt k c) t := by
  rw [get_tab] at h
  exact PyProof.V.Flat.str_inv h
end Mine
namespace Mine
theorem tab_item {w : World} {b1 b2 b3 b4 b5 : Addr} {x1 x2 x3 x4 x5 : Obj} (h1 : TabOk w b1 x1 0) (h2 : TabOk w b2 x2 1) (h3 : TabOk w b3 x3 2) (h4 : TabOk w b4 x4 3) (h5 : TabOk w b5 x5 4) : ∀ {j : Nat}, j < 5 →
    ∃ b x, TabOk w b x j ∧ [Value.ref b1, .ref b2, .ref b3, .ref b4, .ref b5][j]? = some (.ref b) ∧ (b, x) ∈ [(b5, x5), (b4, x4), (b3, x3), (b2, x2), (b1, x1)]
  | 0, _ => ⟨b1, x1, h1, rfl, .tail _ (.tail _ (.tail _ (.tail _ (.head _))))⟩
  | 1, _ => ⟨b2, x2, h2, rfl, .tail _ (.tail _ (.tail _ (.head _)))⟩
  | 2, _ => ⟨b3, x3, h3, rfl, .tail _ (.tail _ (.head _))⟩
  | 3, _ => ⟨b4, x4, h4, rfl, .tail _ (.head _)⟩
  | 4, _ => ⟨b5, x5, h5, rfl, .head _⟩
  | n + 5, h => absurd h (by omega)
end Mine

namespace Mine
noncomputable def Good (r : List Nat) : Prop := (∃ k, r = [k] ∧ k ≠ 38) ∨ ∃ b, r = 38 :: (b ++ [59]) ∧ 59 ∉ b
theorem good_amp : Good amp := .inr ⟨[97, 109, 112], rfl, by decide⟩
theorem good_lt : Good ltt := .inr ⟨[108, 116], rfl, by decide⟩
theorem good_gt : Good gtt := .inr ⟨[103, 116], rfl, by decide⟩
theorem good_quo : Good quo := .inr ⟨[113, 117, 111, 116], rfl, by decide⟩
theorem good_r13 : Good r13 := .inr ⟨[35, 49, 51], rfl, by decide⟩
theorem good_n10 : Good n10 := .inr ⟨[35, 49, 48], rfl, by decide⟩
theorem good_t09 : Good t09 := .inr ⟨[35, 48, 57], rfl, by decide⟩
theorem good_rxD : Good rxD := .inr ⟨[35, 120, 68], rfl, by decide⟩
theorem good_nxA : Good nxA := .inr ⟨[35, 120, 65], rfl, by decide⟩
theorem good_tx9 : Good tx9 := .inr ⟨[35, 120, 57], rfl, by decide⟩
theorem good_tab : ∀ (t : List (Nat × List Nat)) (k : Nat), k ≠ 38 → (∀ p ∈ t, Good p.2) → Good (tab t k)
  | [], k, hk, _ => .inl ⟨k, rfl, hk⟩
  | (c, r) :: t, k, hk, h => by
    unfold tab
    split
    · exact h _ List.mem_cons_self
    · exact good_tab t k hk fun p hp => h p (List.mem_cons_of_mem _ hp)
theorem good_rows : ∀ i, ∀ p ∈ rows i, Good p.2
  | 0 => by simp only [rows, List.forall_mem_cons]; exact ⟨good_amp, good_lt, good_gt, by simp⟩
  | 1 => by simp only [rows, List.forall_mem_cons]; exact ⟨good_amp, good_lt, good_gt, good_quo, good_r13, good_n10, good_t09, by simp⟩
  | 2 => by simp only [rows, List.forall_mem_cons]; exact ⟨good_amp, good_gt, good_quo, by simp⟩
  | 3 => by simp only [rows, List.forall_mem_cons]; exact ⟨good_amp, good_lt, good_gt, good_rxD, by simp⟩
  | n + 4 => by
    show ∀ p ∈ rows 4, Good p.2
    simp only [rows, List.forall_mem_cons]; exact ⟨good_amp, good_lt, good_quo, good_tx9, good_nxA, good_rxD, by simp⟩
theorem esc_amp : ∀ i, esc i 38 = amp
  | 0 | 1 | 2 | 3 => rfl
  | _ + 4 => rfl
theorem good_esc (i k : Nat) : Good (esc i k) := by
  by_cases hk : k = 38
  · rw [hk, esc_amp]; exact good_amp
  · exact good_tab _ _ hk (good_rows i)
theorem drop_semi : ∀ (b X : List Nat), 59 ∉ b → ((b ++ 59 :: X).dropWhile (· != 59)).drop 1 = X
  | [], X, _ => by simp
  | k :: b, X, h => by
    have h1 : k ≠ 59 := fun e => h (e ▸ List.mem_cons_self)
    rw [List.cons_append, List.dropWhile_cons_of_pos (by simpa using h1)]
    exact drop_semi b X fun m => h (List.mem_cons_of_mem _ m)
theorem whl_good {r : List Nat} (h : Good r) (X : List Nat) : whl (r ++ X) = 1 + whl X := by
  rcases h with ⟨k, rfl, hk⟩ | ⟨b, rfl, hb⟩
  · rw [List.singleton_append, whl_cons, if_neg hk]
  · rw [List.cons_append, whl_cons, if_pos rfl, if_pos (by simp), List.append_assoc, List.singleton_append, drop_semi b X hb]
theorem whl_part {r : List Nat} (h : Good r) {n : Nat} (hn : n < r.length) : whl (r.take n) = 0 := by
  rcases h with ⟨k, rfl, hk⟩ | ⟨b, rfl, hb⟩
  · have : n = 0 := by simpa using hn
    rw [this]; exact whl_nil
  · cases n with
    | zero => exact whl_nil
    | succ m =>
      have hm : m ≤ b.length := by simp at hn; omega
      rw [List.take_succ_cons, List.take_append_of_le_length hm, whl_cons, if_pos rfl, if_neg (fun e => hb (List.mem_of_mem_take e))]
noncomputable def wl (i : Nat) (l : List Nat) (j : Nat) : Nat := ((l.take j).flatMap (esc i)).length
theorem wl_zero (i : Nat) (l : List Nat) : wl i l 0 = 0 := rfl
theorem wl_cons (i k : Nat) (t : List Nat) (j : Nat) : wl i (k :: t) (j + 1) = (esc i k).length + wl i t j := by
  unfold wl; rw [List.take_succ_cons, List.flatMap_cons, List.length_append]
theorem wl_lt (i : Nat) : ∀ (l : List Nat) (j k : Nat), j < k → k ≤ l.length → wl i l j < wl i l k
  | [], j, k, h, h2 => by simp at h2; omega
  | x :: t, 0, k + 1, _, _ => by
    rw [wl_zero, wl_cons]; have := esc_pos i x; omega
  | x :: t, j + 1, k + 1, h, h2 => by
    rw [wl_cons, wl_cons]
    have := wl_lt i t j k (by omega) (by simpa using h2)
    omega
theorem read_iff (i : Nat) : ∀ (l : List Nat) (n j : Nat), j ≤ l.length → (wl i l j ≤ n ↔ j ≤ whl ((l.flatMap (esc i)).take n))
  | [], n, j, hj => by
    have : j = 0 := by simpa using hj
    subst this; simp [wl]
  | k :: t, n, 0, hj => by simp [wl]
  | k :: t, n, j + 1, hj => by
    rw [wl_cons, List.flatMap_cons]
    by_cases hn : n < (esc i k).length
    · rw [List.take_append_of_le_length (by omega), whl_part (good_esc i k) hn]; omega
    · rw [List.take_append, List.take_of_length_le (by omega), whl_good (good_esc i k)]
      have ih := read_iff i t (n - (esc i k).length) j (by simpa using hj)
      omega
theorem whl_all (i : Nat) : ∀ (l : List Nat), whl (l.flatMap (esc i)) = l.length
  | [] => whl_nil
  | k :: t => by rw [List.flatMap_cons, whl_good (good_esc i k), whl_all i t, List.length_cons]; omega
theorem whl_le (i : Nat) (l : List Nat) (n : Nat) : whl ((l.flatMap (esc i)).take n) ≤ l.length := by
  revert n
  induction l with
  | nil => intro n; simp [whl_nil]
  | cons k t ih =>
    intro n
    rw [List.flatMap_cons]
    by_cases hn : n < (esc i k).length
    · rw [List.take_append_of_le_length (by omega), whl_part (good_esc i k) hn]; omega
    · rw [List.take_append, List.take_of_length_le (by omega), whl_good (good_esc i k)]
      have := ih (n - (esc i k).length)
      simp only [List.length_cons]; omega
theorem and_pow (k : Nat) : ∀ x : Int, Builtin.bitAnd x (-(2 ^ k)) = 2 ^ k * (x / 2 ^ k) := by
  induction k with
  | zero =>
    intro x
    rw [show -((2 : Int) ^ 0) = -1 from rfl, show (2 : Int) ^ 0 = 1 from rfl, Int.ediv_one, Int.one_mul]
    unfold Builtin.bitAnd
    by_cases hx : 0 ≤ x
    · simp only [hx, decide_true, show decide ((0 : Int) ≤ -1) = false from rfl]
      rw [show (Builtin.bitNot (-1)).toNat = 0 from rfl, Nat.and_zero]; simp
    · simp only [hx, decide_false, show decide ((0 : Int) ≤ -1) = false from rfl]
      rw [show (Builtin.bitNot (-1)).toNat = 0 from rfl, Nat.or_zero]
      unfold Builtin.bitNot; omega
  | succ k ih =>
    intro x
    rw [kbt_halves]
    have e : -((2 : Int) ^ (k + 1)) / 2 = -(2 ^ k) := by rw [Int.pow_succ]; omega
    have e2 : ¬ (x % 2 = 1 ∧ -((2 : Int) ^ (k + 1)) % 2 = 1) := by rw [Int.pow_succ]; omega
    rw [e, if_neg e2, ih, Int.pow_succ, Int.mul_comm (2 ^ k) 2, ← Int.ediv_ediv_of_nonneg (by decide), Int.mul_assoc]; omega
theorem or_pow (k : Nat) (x : Int) : Builtin.bitOr x (2 ^ k - 1) = 2 ^ k * (x / 2 ^ k) + 2 ^ k - 1 := by
  unfold Builtin.bitOr
  have e : Builtin.bitNot ((2 : Int) ^ k - 1) = -(2 ^ k) := by unfold Builtin.bitNot; omega
  rw [e, and_pow]
  unfold Builtin.bitNot
  have hp : (0 : Int) < 2 ^ k := Int.pow_pos (by decide)
  generalize (2 : Int) ^ k = p at hp
  have h1 : (-x - 1) / p = -(x / p) - 1 := by
    refine ((Int.ediv_emod_unique (r := p - 1 - x % p) hp).mpr ⟨?_, ?_, ?_⟩).1
    · have := Int.mul_ediv_add_emod x p
      rw [Int.mul_sub, Int.mul_neg]; omega
    · have := Int.emod_lt_of_pos x hp; omega
    · have := Int.emod_nonneg x (Int.ne_of_gt hp); omega
  rw [h1, Int.mul_sub, Int.mul_neg]; omega
end Mine

set_option maxRecDepth 100000
namespace Mine
theorem fdv (x : Int) {p : Int} (hp : 0 < p) : x.fdiv p = x / p := Int.fdiv_eq_ediv_of_nonneg x (Int.le_of_lt hp)
theorem fmd (x : Int) {p : Int} (hp : 0 < p) : x.fmod p = x % p := Int.fmod_eq_emod_of_nonneg x (Int.le_of_lt hp)
theorem slice_list {x : Str} {j : Int} (h0 : 0 ≤ j) (h2 : j ≤ x.length) : (Txt.slice x none (some j)).cps.toList = x.cps.toList.take j.toNat := by
  have h := eq_of_beq (slice_closes_toL h0 h2)
  rw [h]
  simp
theorem len_list (x : Str) : x.cps.toList.length = x.length := by simp [Str.length]
theorem hand_list (i : Nat) (x : Str) : (hand i x).cps.toList = x.cps.toList.flatMap (esc i) := by simp [hand]
theorem hand_len (i : Nat) (x : Str) : (hand i x).length = (x.cps.toList.flatMap (esc i)).length := by rw [← hand_list, len_list]
theorem escF_eq (i : Nat) {T : Str} (hT : T.length = 5) (x : Int) : escF i T x = x / 5 * (hand i T).length + wl i T.cps.toList (x % 5).toNat := by
  unfold escF
  rw [hT, show ((5 : Nat) : Int) = 5 from rfl, fdv x (by decide), fmd x (by decide)]
  have h1 : 0 ≤ x % 5 := Int.emod_nonneg x (by decide)
  have h2 : x % 5 < 5 := Int.emod_lt_of_pos x (by decide)
  split
  · congr 1
    rw [hand_len, slice_list h1 (by rw [hT]; omega)]; rfl
  · have : (x % 5).toNat = 0 := by omega
    rw [this, wl_zero]; rfl
theorem escB_eq (i : Nat) {T : Str} (hT : T.length = 5) (y : Int) : escB i T y = y / (hand i T).length * 5 + whl ((T.cps.toList.flatMap (esc i)).take (y % (hand i T).length).toNat) := by
  unfold escB
  have hge := hand_ge i T
  have hP : (0 : Int) < ((hand i T).length : Nat) := by omega
  rw [hT, show ((5 : Nat) : Int) = 5 from rfl, fdv y hP, fmd y hP]
  have h1 : 0 ≤ y % ((hand i T).length : Nat) := Int.emod_nonneg y (by omega)
  have h2 : y % ((hand i T).length : Nat) < (hand i T).length := Int.emod_lt_of_pos y hP
  split
  · congr 3
    rw [slice_list h1 (by omega), hand_list]
  · have : (y % ((hand i T).length : Nat)).toNat = 0 := by omega
    rw [this, List.take_zero, whl_nil]; rfl
theorem wl_top (i : Nat) {T : Str} (hT : T.length = 5) : wl i T.cps.toList 5 = (hand i T).length := by
  unfold wl
  rw [List.take_of_length_le (by rw [len_list, hT]; omega), hand_len]
theorem gal_esc (i : Nat) {T : Str} (hT : T.length = 5) (x y : Int) : escF i T x ≤ y ↔ x ≤ escB i T y := by
  rw [escF_eq i hT, escB_eq i hT]
  have hge := hand_ge i T
  have hP : (0 : Int) < ((hand i T).length : Nat) := by omega
  have r1 : 0 ≤ x % 5 := Int.emod_nonneg x (by decide)
  have r2 : x % 5 < 5 := Int.emod_lt_of_pos x (by decide)
  have n1 : 0 ≤ y % ((hand i T).length : Nat) := Int.emod_nonneg y (by omega)
  have n2 : y % ((hand i T).length : Nat) < (hand i T).length := Int.emod_lt_of_pos y hP
  have l5 : T.cps.toList.length = 5 := by rw [len_list, hT]
  have top := wl_top i hT
  have e1 := Int.mul_ediv_add_emod x 5
  have e2 := Int.mul_ediv_add_emod y ((hand i T).length : Nat)
  have q1 := read_iff i T.cps.toList (y % ((hand i T).length : Nat)).toNat (x % 5).toNat (by omega)
  have q2 := read_iff i T.cps.toList (y % ((hand i T).length : Nat)).toNat 5 (by omega)
  have q3 := wl_lt i T.cps.toList (x % 5).toNat 5 (by omega) (by omega)
  generalize whl ((T.cps.toList.flatMap (esc i)).take (y % ((hand i T).length : Nat)).toNat) = W at q1 q2 ⊢
  generalize wl i T.cps.toList (x % 5).toNat = V at q1 q3 ⊢
  generalize ((hand i T).length : Nat) = P at *
  generalize x / 5 = a at *
  generalize y / (P : Int) = b at *
  generalize y % (P : Int) = n at *
  generalize x % 5 = r at *
  rw [top] at q2 q3
  rw [Int.mul_comm (P : Int) b] at e2
  rcases Int.lt_trichotomy a b with h | h | h
  · have m : (a + 1) * P ≤ b * P := Int.mul_le_mul_of_nonneg_right (by omega) (by omega)
    rw [Int.add_mul, Int.one_mul] at m
    generalize a * (P : Int) = u at *
    generalize b * (P : Int) = v at *
    omega
  · subst h
    generalize a * (P : Int) = u at *
    omega
  · have m : (b + 1) * P ≤ a * P := Int.mul_le_mul_of_nonneg_right (by omega) (by omega)
    rw [Int.add_mul, Int.one_mul] at m
    generalize a * (P : Int) = u at *
    generalize b * (P : Int) = v at *
    omega
theorem bnot (x : Int) : Builtin.bitNot x = -x - 1 := by unfold Builtin.bitNot; omega
theorem nopow (x : Int) (n : Nat) : Builtin.bitAnd x (-(1 * 2 ^ n)) = 2 ^ n * (x / 2 ^ n) := by rw [Int.one_mul, and_pow]
theorem orpow (x : Int) (n : Nat) : Builtin.bitOr x (1 * 2 ^ n - 1) = 2 ^ n * (x / 2 ^ n) + 2 ^ n - 1 := by rw [Int.one_mul, or_pow]
theorem gal_deed {T : Str} (hT : T.length = 5) {k sz : Int} (k0 : 0 ≤ k) (s1 : 2 ≤ sz) (x y : Int) : deedF T k sz x ≤ y ↔ x ≤ deedB T k sz y := by
  unfold deedF deedB
  by_cases hk : 7 < k
  · rw [if_pos hk, if_pos hk]; exact gal_esc _ hT x y
  rw [if_neg hk, if_neg hk]
  have hp : (0 : Int) < 2 ^ sz.toNat := Int.pow_pos (by decide)
  have hs : 0 < sz := by omega
  simp only [nopow, orpow, bnot, fdv _ hp, fdv _ hs]
  generalize (2 : Int) ^ sz.toNat = p at *
  have A : ∀ q : Int, 0 < q → (x * q ≤ y ↔ x ≤ y / q) := fun q hq => (Int.le_ediv_iff_mul_le hq).symm
  have B : ∀ q : Int, 0 < q → (x / q ≤ y ↔ x ≤ -((-y - 1) * q) - 1) := fun q hq => by
    have h := Int.ediv_lt_iff_lt_mul (a := x) (b := y + 1) hq
    have e : -((-y - 1) * q) = (y + 1) * q := by rw [← Int.neg_mul]; congr 1; omega
    rw [e]
    omega
  have C : ∀ (q z : Int), 0 < q → (q * (x / q) + q ≤ z ↔ x < q * (z / q)) := fun q z hq => by
    have h1 := Int.ediv_lt_iff_lt_mul (a := x) (b := z / q) hq
    have h2 := Int.le_ediv_iff_mul_le (a := x / q + 1) (b := z) hq
    rw [Int.add_mul, Int.one_mul, Int.mul_comm] at h2
    rw [Int.mul_comm] at h1
    omega
  repeat' split
  · exact A sz hs
  · exact B sz hs
  · exact A p hp
  · exact B p hp
  · have h1 := C p (y + p) hp
    have e : (y + p) / p = y / p + 1 := by rw [Int.add_ediv_of_dvd_right (Int.dvd_refl p), Int.ediv_self (Int.ne_of_gt hp)]
    rw [e, Int.mul_add, Int.mul_one] at h1
    omega
  · have h1 := C p (y + 1) hp
    omega
  · omega
  · omega
theorem mul_bnd {q b : Int} {P : Nat} (hP : P ≤ 30) (hb : 0 ≤ b) (h1 : -b ≤ q) (h2 : q ≤ b) : -(30 * b) ≤ q * P ∧ q * P ≤ 30 * b := by
  have m1 : q * (P : Int) ≤ b * P := Int.mul_le_mul_of_nonneg_right h2 (by omega)
  have m2 : -b * (P : Int) ≤ q * P := Int.mul_le_mul_of_nonneg_right h1 (by omega)
  have m3 : b * (P : Int) ≤ b * 30 := Int.mul_le_mul_of_nonneg_left (by omega) hb
  rw [Int.neg_mul] at m2
  omega
theorem grow_escF (i : Nat) {T : Str} (hT : T.length = 5) {x b : Int} (h1 : -b ≤ x) (h2 : x ≤ b) : -(256 * b + 256) ≤ escF i T x ∧ escF i T x ≤ 256 * b + 256 := by
  rw [escF_eq i hT]
  have hge := hand_ge i T
  have hle := hand_length i T 5 (by omega)
  have l5 : T.cps.toList.length = 5 := by rw [len_list, hT]
  have q3 := wl_lt i T.cps.toList (x % 5).toNat 5 (by omega) (by omega)
  rw [wl_top i hT] at q3
  have := mul_bnd (q := x / 5) (b := b + 4) (P := (hand i T).length) hle (by omega) (by omega) (by omega)
  omega
theorem div_bnd {x b p : Int} (hp : 0 < p) (hb : 0 ≤ b) (h1 : -b ≤ x) (h2 : x ≤ b) : -b ≤ x / p ∧ x / p ≤ b := by
  have m : b * 1 ≤ b * p := Int.mul_le_mul_of_nonneg_left (by omega) hb
  have d1 := Int.ediv_lt_iff_lt_mul (a := x) (b := b + 1) hp
  have d2 := Int.le_ediv_iff_mul_le (a := -b) (b := x) hp
  rw [Int.add_mul, Int.one_mul] at d1
  rw [Int.neg_mul] at d2
  generalize x / p = u at *
  generalize b * p = v at *
  omega
theorem mul_bnd2 {q p b c : Int} (hp : 0 ≤ p) (hp2 : p ≤ 256) (hb : 0 ≤ b) (hc : 0 ≤ c) (h1 : -b ≤ q) (h2 : q ≤ c) : -(256 * b) ≤ q * p ∧ q * p ≤ 256 * c := by
  have m1 : q * p ≤ c * p := Int.mul_le_mul_of_nonneg_right h2 hp
  have m2 : -b * p ≤ q * p := Int.mul_le_mul_of_nonneg_right h1 hp
  have m3 : c * p ≤ c * 256 := Int.mul_le_mul_of_nonneg_left hp2 hc
  have m4 : b * p ≤ b * 256 := Int.mul_le_mul_of_nonneg_left hp2 hb
  rw [Int.neg_mul] at m2
  generalize q * p = u at *
  generalize b * p = v at *
  generalize c * p = w at *
  omega
theorem flo_bnd (x : Int) {p : Int} (hp : 0 < p) : x - p < p * (x / p) ∧ p * (x / p) ≤ x := by
  have h1 := Int.mul_ediv_add_emod x p
  have h2 := Int.emod_lt_of_pos x hp
  have h3 := Int.emod_nonneg x (Int.ne_of_gt hp)
  generalize p * (x / p) = u at *
  generalize x % p = v at *
  omega
theorem pow8 {sz : Int} (s2 : sz ≤ 8) : (2 : Int) ^ sz.toNat ≤ 256 :=
  (by decide : ∀ n : Nat, n < 9 → (2 : Int) ^ n ≤ 256) _ (by omega)
theorem grow_escB (i : Nat) {T : Str} (hT : T.length = 5) {x b : Int} (h1 : -b ≤ x) (h2 : x ≤ b) : -(256 * b + 256) ≤ escB i T x ∧ escB i T x ≤ 256 * b + 256 := by
  rw [escB_eq i hT]
  have hge := hand_ge i T
  have l5 : T.cps.toList.length = 5 := by rw [len_list, hT]
  have hw := whl_le i T.cps.toList (x % ((hand i T).length : Nat)).toNat
  have hP : (0 : Int) < ((hand i T).length : Nat) := by omega
  have d1 := div_bnd hP (by omega) h1 h2
  omega
theorem wkA {b e : Int} (hb : 0 ≤ b) (h : -(256 * b) ≤ e ∧ e ≤ 256 * b) : -(256 * b + 256) ≤ e ∧ e ≤ 256 * b + 256 := ⟨by omega, by omega⟩
theorem wkB {b e : Int} (hb : 0 ≤ b) (h : -b ≤ e ∧ e ≤ b) : -(256 * b + 256) ≤ e ∧ e ≤ 256 * b + 256 := ⟨by omega, by omega⟩
theorem wkE {b x e : Int} (hb : 0 ≤ b) (h1 : -b ≤ x) (h2 : x ≤ b) (l : x - 256 ≤ e) (r : e ≤ x + 256) : -(256 * b + 256) ≤ e ∧ e ≤ 256 * b + 256 := ⟨by omega, by omega⟩
theorem wkM {b e : Int} (h : -(256 * b) ≤ e ∧ e ≤ 256 * (b + 1)) : -(256 * b + 256) ≤ e - 1 ∧ e - 1 ≤ 256 * b + 256 := ⟨by omega, by omega⟩
theorem grow_F {T : Str} (hT : T.length = 5) {k sz x b : Int} (s1 : 2 ≤ sz) (s2 : sz ≤ 8) (h1 : -b ≤ x) (h2 : x ≤ b) : -(256 * b + 256) ≤ deedF T k sz x ∧ deedF T k sz x ≤ 256 * b + 256 := by
  unfold deedF
  by_cases hk : 7 < k
  · rw [if_pos hk]; exact grow_escF _ hT h1 h2
  rw [if_neg hk]
  have hs : 0 < sz := by omega
  have hp : (0 : Int) < 2 ^ sz.toNat := Int.pow_pos (by decide)
  simp only [nopow, orpow, bnot, fdv _ hp, fdv _ hs]
  have hp2 := pow8 s2
  generalize (2 : Int) ^ sz.toNat = p at *
  have hb : 0 ≤ b := by omega
  have m1 := mul_bnd2 (q := x) (p := sz) (by omega) (by omega) hb hb h1 h2
  have m2 := mul_bnd2 (q := x) (p := p) (by omega) hp2 hb hb h1 h2
  have d1 := div_bnd hs hb h1 h2
  have d2 := div_bnd hp hb h1 h2
  have f2 := flo_bnd x hp
  clear hk
  repeat' split
  · exact wkA hb m1
  · exact wkB hb d1
  · exact wkA hb m2
  · exact wkB hb d2
  · exact wkE hb h1 h2 (by omega) (by omega)
  · exact wkE hb h1 h2 (by omega) (by omega)
  · exact wkE hb h1 h2 (by omega) (by omega)
  · exact wkE hb h1 h2 (by omega) (by omega)
theorem grow_B {T : Str} (hT : T.length = 5) {k sz x b : Int} (s1 : 2 ≤ sz) (s2 : sz ≤ 8) (h1 : -b ≤ x) (h2 : x ≤ b) : -(256 * b + 256) ≤ deedB T k sz x ∧ deedB T k sz x ≤ 256 * b + 256 := by
  unfold deedB
  by_cases hk : 7 < k
  · rw [if_pos hk]; exact grow_escB _ hT h1 h2
  rw [if_neg hk]
  have hs : 0 < sz := by omega
  have hp : (0 : Int) < 2 ^ sz.toNat := Int.pow_pos (by decide)
  simp only [nopow, orpow, bnot, fdv _ hp, fdv _ hs]
  have hp2 := pow8 s2
  generalize (2 : Int) ^ sz.toNat = p at *
  have hb : 0 ≤ b := by omega
  have e : ∀ q : Int, -((-x - 1) * q) = (x + 1) * q := fun q => by rw [← Int.neg_mul]; congr 1; omega
  simp only [e]
  have m1 := mul_bnd2 (q := x + 1) (p := sz) (b := b) (c := b + 1) (by omega) (by omega) hb (by omega) (by omega) (by omega)
  have m2 := mul_bnd2 (q := x + 1) (p := p) (b := b) (c := b + 1) (by omega) hp2 hb (by omega) (by omega) (by omega)
  have d1 := div_bnd hs hb h1 h2
  have d2 := div_bnd hp hb h1 h2
  have f1 := flo_bnd x hp
  have f2 := flo_bnd (x + 1) hp
  clear e
  clear hk
  repeat' split
  · exact wkB hb d1
  · exact wkM m1
  · exact wkB hb d2
  · exact wkM m2
  · exact wkE hb h1 h2 (by omega) (by omega)
  · exact wkE hb h1 h2 (by omega) (by omega)
  · exact wkE hb h1 h2 (by omega) (by omega)
  · exact wkE hb h1 h2 (by omega) (by omega)
noncomputable def forthZ (T : Str) (ds : List (Int × Int)) (x : Int) : Int := ds.foldl (fun a d => deedF T d.1 d.2 a) x
noncomputable def backZ (T : Str) (ds : List (Int × Int)) (x : Int) : Int := ds.reverse.foldl (fun a d => deedB T d.1 d.2 a) x
noncomputable def okDs (ds : List (Int × Int)) : Prop := ∀ d ∈ ds, 0 ≤ d.1 ∧ d.1 ≤ 12 ∧ 2 ≤ d.2 ∧ d.2 ≤ 8
theorem gal_row {T : Str} (hT : T.length = 5) : ∀ (ds : List (Int × Int)), okDs ds → ∀ x y : Int, forthZ T ds x ≤ y ↔ x ≤ backZ T ds y
  | [], _, x, y => Iff.rfl
  | d :: ds, h, x, y => by
    have hd := h d List.mem_cons_self
    have ih := gal_row hT ds (fun e he => h e (List.mem_cons_of_mem _ he)) (deedF T d.1 d.2 x) y
    have e1 : forthZ T (d :: ds) x = forthZ T ds (deedF T d.1 d.2 x) := rfl
    have e2 : backZ T (d :: ds) y = deedB T d.1 d.2 (backZ T ds y) := by
      unfold backZ; rw [List.reverse_cons, List.foldl_append]; rfl
    rw [e1, e2, ih]
    exact gal_deed hT hd.1 hd.2.2.1 x _
noncomputable def bnd : Nat → Int → Int
  | 0, b => b
  | n + 1, b => 256 * bnd n b + 256
theorem grow_row (f : Int × Int → Int → Int) (ok : Int × Int → Prop) (hf : ∀ d x b, ok d → -b ≤ x → x ≤ b → -(256 * b + 256) ≤ f d x ∧ f d x ≤ 256 * b + 256) (b : Int) :
    ∀ (n : Nat) (ds : List (Int × Int)) (x : Int), (∀ d ∈ ds, ok d) → -b ≤ x → x ≤ b → n ≤ ds.length → -(bnd n b) ≤ (ds.take n).foldl (fun a d => f d a) x ∧ (ds.take n).foldl (fun a d => f d a) x ≤ bnd n b
  | 0, ds, x, _, h1, h2, _ => ⟨h1, h2⟩
  | n + 1, ds, x, h, h1, h2, hn => by
    have hlt : n < ds.length := by omega
    rw [List.take_add_one, List.getElem?_eq_getElem hlt, List.foldl_append]
    obtain ⟨i1, i2⟩ := grow_row f ok hf b n ds x h h1 h2 (by omega)
    exact hf _ _ _ (h _ (List.getElem_mem hlt)) i1 i2
theorem grow_forth {T : Str} (hT : T.length = 5) {ds : List (Int × Int)} (hok : okDs ds) {x b : Int} (h1 : -b ≤ x) (h2 : x ≤ b) {n : Nat} (hn : n ≤ ds.length) : -(bnd n b) ≤ forthZ T (ds.take n) x ∧ forthZ T (ds.take n) x ≤ bnd n b :=
  grow_row (fun d a => deedF T d.1 d.2 a) (fun d => 0 ≤ d.1 ∧ d.1 ≤ 12 ∧ 2 ≤ d.2 ∧ d.2 ≤ 8) (fun d x b hd h1 h2 => grow_F hT hd.2.2.1 hd.2.2.2 h1 h2) b n ds x hok h1 h2 hn
theorem grow_back {T : Str} (hT : T.length = 5) {ds : List (Int × Int)} (hok : okDs ds) {x b : Int} (h1 : -b ≤ x) (h2 : x ≤ b) {n : Nat} (hn : n ≤ ds.length) : -(bnd n b) ≤ (ds.reverse.take n).foldl (fun a d => deedB T d.1 d.2 a) x ∧ (ds.reverse.take n).foldl (fun a d => deedB T d.1 d.2 a) x ≤ bnd n b :=
  grow_row (fun d a => deedB T d.1 d.2 a) (fun d => 0 ≤ d.1 ∧ d.1 ≤ 12 ∧ 2 ≤ d.2 ∧ d.2 ≤ 8) (fun d x b hd h1 h2 => grow_B hT hd.2.2.1 hd.2.2.2 h1 h2) b n ds.reverse x (fun d hd => hok d (List.mem_reverse.mp hd)) h1 h2 (by simpa using hn)
end Mine

namespace Mine
theorem climb (S : Int → Int) (a k : Int) : ∀ j : Nat, S a ≤ k → k < S (a + j) → ∃ i : Nat, i < j ∧ S (a + i) ≤ k ∧ k < S (a + i + 1)
  | 0, h1, h2 => absurd h2 (by rw [show a + ((0 : Nat) : Int) = a from Int.add_zero a]; exact Int.not_lt.mpr h1)
  | j + 1, h1, h2 => by
    by_cases h : k < S (a + j)
    · obtain ⟨i, hi, h3⟩ := climb S a k j h1 h
      exact ⟨i, Nat.lt_succ_of_lt hi, h3⟩
    · exact ⟨j, Nat.lt_succ_self j, Int.not_lt.mp h, by rw [Int.add_assoc]; exact h2⟩
theorem in7 {c x : Int} (h1 : c - 3 ≤ x) (h2 : x ≤ c + 3) : ∃ i : Nat, i < 7 ∧ c - 3 + (i : Int) = x := ⟨(x - (c - 3)).toNat, by omega, by omega⟩
section
variable {F B : Int → Int} (g : ∀ x y, F x ≤ y ↔ x ≤ B y)
include g
theorem lm_apart (n m : Int) : n + F n ≠ m + B m + 1 := by
  intro e
  have := g n m
  omega
theorem lm_mono {x y : Int} (h : x ≤ y) : F x ≤ F y := by
  have h1 := (g y (F y)).mp (Int.le_refl _)
  exact (g x (F y)).mpr (by omega)
theorem lm_monoB {x y : Int} (h : x ≤ y) : B x ≤ B y := by
  have h1 := (g (B x) x).mpr (Int.le_refl _)
  exact (g (B x) y).mp (by omega)
theorem lm_cover (near k : Int) (h1 : near + F near - 3 ≤ k) (h2 : k ≤ near + F near + 3) :
    (∃ i : Nat, i < 7 ∧ near - 3 + (i : Int) + F (near - 3 + i) = k) ∨ (∃ i : Nat, i < 7 ∧ F near - 3 + (i : Int) + B (F near - 3 + i) + 1 = k) := by
  have m1 := lm_mono g (x := near - 4) (y := near) (by omega)
  have m2 := lm_mono g (x := near) (y := near - 4 + (8 : Nat)) (by omega)
  obtain ⟨j, hj, a3, a4⟩ := climb (fun n => n + F n) (near - 4) k 8 (by show near - 4 + F (near - 4) ≤ k; omega) (by show k < near - 4 + (8 : Nat) + F (near - 4 + (8 : Nat)); omega)
  generalize hn : near - 4 + (j : Int) = n at a3 a4
  have a3 : n + F n ≤ k := a3
  have a4 : k < n + 1 + F (n + 1) := a4
  have b1 := (g n (k - n - 1)).mp
  have b2 := (g (n + 1) (k - n - 1)).mpr
  have c1 := (g near (F near)).mp (Int.le_refl _)
  by_cases e : n + F n = k
  · left
    have hz : n ≠ near - 4 := by
      intro hz
      subst hz
      clear b1 b2 c1 a4
      omega
    obtain ⟨i, hi, e2⟩ := in7 (c := near) (x := n) (by omega) (by omega)
    exact ⟨i, hi, by rw [e2]; exact e⟩
  · right
    have b1' := b1 (by omega)
    have eB : B (k - n - 1) = n := by
      have : ¬ n + 1 ≤ B (k - n - 1) := fun h => by have := b2 h; omega
      omega
    have z1 := (g near (k - n - 1)).mpr
    have z2 := lm_monoB g (x := F near) (y := k - n - 1)
    rw [eB] at z1 z2
    clear b1 b2 b1' m1 m2
    obtain ⟨i, hi, e2⟩ := in7 (c := F near) (x := k - n - 1) (by omega) (by omega)
    exact ⟨i, hi, by rw [e2, eB]; omega⟩
end
noncomputable def onesZ (F : Int → Int) (near : Int) : List Int := (List.range 7).map fun i : Nat => near - 3 + (i : Int) + F (near - 3 + i)
noncomputable def othersZ (B : Int → Int) (led : Int) : List Int := (List.range 7).map fun i : Nat => led - 3 + (i : Int) + B (led - 3 + i) + 1
noncomputable def spanZ (c : Int) : List Int := (List.range 7).map fun i : Nat => c - 3 + (i : Int)
theorem up_map (f : Int → Int) (a : Int) (hf : ∀ x y, x < y → f x < f y) : ((List.range 7).map fun i : Nat => f (a + (i : Int))).Pairwise (· < ·) := by
  rw [List.pairwise_map]
  exact List.pairwise_lt_range.imp fun h => hf _ _ (by omega)
theorem lt_nodup {l : List Int} (h : l.Pairwise (· < ·)) : l.Nodup := h.imp fun h => Int.ne_of_lt h
noncomputable def aboutP (near led n : Int) : Bool := decide (-4 < n - near - led) && decide (n - near - led < 4)
theorem lm_perm {F B : Int → Int} (g : ∀ x y, F x ≤ y ↔ x ≤ B y) (near : Int) :
    ((onesZ F near ++ othersZ B (F near)).filter (aboutP near (F near))).Perm (spanZ (near + F near)) := by
  refine (List.perm_ext_iff_of_nodup ?_ ?_).mpr ?_
  · refine List.Pairwise.filter _ ?_
    refine List.nodup_append.mpr ⟨lt_nodup (up_map (fun x => x + F x) (near - 3) fun x y h => ?_), lt_nodup (up_map (fun x => x + B x + 1) (F near - 3) fun x y h => ?_), ?_⟩
    · have := lm_mono g (x := x) (y := y) (by omega)
      show x + F x < y + F y
      omega
    · have := lm_monoB g (x := x) (y := y) (by omega)
      show x + B x + 1 < y + B y + 1
      omega
    · intro a ha b hb e
      obtain ⟨i, _, rfl⟩ := List.mem_map.mp ha
      obtain ⟨j, _, hj⟩ := List.mem_map.mp hb
      exact lm_apart g _ _ (e.trans hj.symm)
  · exact lt_nodup (up_map (fun x => x) (near + F near - 3) fun x y h => h)
  · intro k
    rw [List.mem_filter, List.mem_append]
    unfold aboutP spanZ
    simp only [Bool.and_eq_true, decide_eq_true_eq, List.mem_map, List.mem_range]
    constructor
    · rintro ⟨_, h1, h2⟩
      exact ⟨(k - (near + F near - 3)).toNat, by omega, by omega⟩
    · rintro ⟨i, hi, rfl⟩
      refine ⟨?_, by omega, by omega⟩
      rcases lm_cover g near (near + F near - 3 + i) (by omega) (by omega) with ⟨j, hj, e⟩ | ⟨j, hj, e⟩
      · exact .inl (List.mem_map.mpr ⟨j, List.mem_range.mpr hj, e⟩)
      · exact .inr (List.mem_map.mpr ⟨j, List.mem_range.mpr hj, e⟩)
theorem span_sorted (c : Int) : (spanZ c).Pairwise (· ≤ ·) := (up_map (fun x => x) (c - 3) fun x y h => h).imp fun h => Int.le_of_lt h
theorem lm_sorted {F B : Int → Int} (g : ∀ x y, F x ≤ y ↔ x ≤ B y) (near : Int) {ns : List Int}
    (hp : ns.Perm ((onesZ F near ++ othersZ B (F near)).filter (aboutP near (F near)))) (ho : ns.Pairwise (· ≤ ·)) : ns = spanZ (near + F near) :=
  List.Perm.eq_of_pairwise (fun _ _ _ _ h1 h2 => Int.le_antisymm h1 h2) ho (span_sorted _) (hp.trans (lm_perm g near))
end Mine

set_option maxRecDepth 100000
namespace Mine
noncomputable def DeedsAt (news : List (Addr × Obj)) (Dd H : Addr) (ds : List (Int × Int)) : Prop :=
  (H, handsO 0) ∈ news ∧ okDs ds ∧ ds.length = 6 ∧ ∃ vs, (Dd, LCg.lst vs) ∈ news ∧ DeedsIn news vs ds
theorem DeedsAt.mono {news news' : List (Addr × Obj)} {Dd H : Addr} {ds : List (Int × Int)} (h : DeedsAt news Dd H ds) (hs : ∀ p ∈ news, p ∈ news') : DeedsAt news' Dd H ds := by
  obtain ⟨h1, h2, h3, vs, h4, h5, h6⟩ := h
  refine ⟨hs _ h1, h2, h3, vs, hs _ h4, h5, fun i v hv => ?_⟩
  obtain ⟨k, sz, a, t1, t2, n, e1, e2, e3⟩ := h6 i v hv
  exact ⟨k, sz, a, t1, t2, n, e1, e2, hs _ e3⟩
theorem deedsIn_rev {news : List (Addr × Obj)} {vs : List Value} {ds : List (Int × Int)} (h : DeedsIn news vs ds) : DeedsIn news vs.reverse ds.reverse := by
  refine ⟨by simp [h.1], fun i v hv => ?_⟩
  have hi : i < vs.length := by
    have := (List.getElem?_eq_some_iff.mp hv).1
    simpa using this
  rw [List.getElem?_reverse hi] at hv
  obtain ⟨k, sz, a, t1, t2, n, e1, e2, e3⟩ := h.2 _ v hv
  refine ⟨k, sz, a, t1, t2, n, ?_, e2, e3⟩
  rw [List.getElem?_reverse (by rw [← h.1]; exact hi), ← h.1]; exact e1
theorem bits110 {y : Int} {n : Nat} (hn : n ≤ 6) (h1 : -(bnd n (2 ^ 61)) ≤ y) (h2 : y ≤ bnd n (2 ^ 61)) : Builtin.Int.intBits y ≤ 100000 := by
  refine Nat.le_trans (intBits_le (a := y) (k := 110) ?_) (by decide)
  have hb : bnd n (2 ^ 61) < 2 ^ 110 := by
    match n, hn with
    | 0, _ | 1, _ | 2, _ | 3, _ | 4, _ | 5, _ | 6, _ => decide
  have e : (2 : Int) ^ 110 = ((2 ^ 110 : Nat) : Int) := by decide
  rw [e] at hb
  generalize (2 ^ 110 : Nat) = P at hb
  omega
section
variable {w : World} {news : List (Addr × Obj)} {mg mb : Str → Option Value} {mean : ExcName → Option Value} {dp un : Nat} {gd : Option (List Code)} {cn : Str} {cs : Scope} {a : Addr} {ccd : Value} {cl : List (Str × Addr)} {outer : List Env} {A₀ : Around} {base h₀ : Heap} {L : Addr} {m : Str → Option Value} {s : Shared} {Q E : Value → Shared → Prop}
theorem use_forth {ds : List (Int × Int)} {Dd H : Addr} {TT : Str} {u t : Tok} {x : Int} (hA : DeedsAt news Dd H ds) (hT : TT.length = 5) (h1 : -(2 ^ 61) ≤ x) (h2 : x ≤ 2 ^ 61)
    (g : Rdy 10 80 w mg mb mean dp un cs outer A₀ base h₀ L m s.heap news)
    (ret : ∀ (t_ : Tok) (h' : Heap) (tk' : Nat), Fr h₀ L h' m → News h₀ L h' news → Q (.int (forthZ TT ds x) t_) { s with heap := h', toks := tk' }) :
    wpAny (model PySem.Challenge.rw_ph0100_01.row.prog w) (ktrTop dp un gd cn cs L a ccd cl outer) (call (.ref 154) [.int x t, .ref Dd, .ref H, .str TT u]) Q E s := by
  obtain ⟨a1, ok, l6, vs, a2, a3⟩ := hA
  refine con_forth w news Dd H (LCg.lst vs) vs vs.length 0 TT u t x ds (fun i => forthZ TT (ds.take i) x) a2 rfl rfl a1 a3 hT ok rfl ?_ ?_ mg mb mean dp un gd cn cs a ccd cl outer A₀ base h₀ L m s Q E g.B g.F g.X g.N g.T g.hk g.hd g.hu ?_
  · intro i k sz hi
    show forthZ TT (ds.take (i + 1)) x = _
    rw [List.take_add_one, hi]
    unfold forthZ
    rw [List.foldl_append]; rfl
  · intro i hi
    have := grow_forth hT ok h1 h2 hi
    exact bits110 (by omega) this.1 this.2
  · rintro r h' tk' ⟨t9, rfl⟩ F' N'
    have e : ds.take ds.length = ds := List.take_of_length_le (Nat.le_refl _)
    rw [e]; exact ret t9 h' tk' F' N'
theorem use_back {ds : List (Int × Int)} {Dd H : Addr} {TT : Str} {u t : Tok} {x : Int} (hA : DeedsAt news Dd H ds) (hT : TT.length = 5) (h1 : -(2 ^ 61) ≤ x) (h2 : x ≤ 2 ^ 61)
    (g : Rdy 10 80 w mg mb mean dp un cs outer A₀ base h₀ L m s.heap news)
    (ret : ∀ (t_ : Tok) (h' : Heap) (tk' : Nat), Fr h₀ L h' m → News h₀ L h' news → Q (.int (backZ TT ds x) t_) { s with heap := h', toks := tk' }) :
    wpAny (model PySem.Challenge.rw_ph0100_01.row.prog w) (ktrTop dp un gd cn cs L a ccd cl outer) (call (.ref 168) [.int x t, .ref Dd, .ref H, .str TT u]) Q E s := by
  obtain ⟨a1, ok, l6, vs, a2, a3⟩ := hA
  have e : ds.reverse.take ds.reverse.length = ds.reverse := List.take_of_length_le (Nat.le_refl _)
  refine con_back w news Dd H (LCg.lst vs) vs vs.length 0 TT u t x ds.reverse (fun i => (ds.reverse.take i).foldl (fun a d => deedB TT d.1 d.2 a) x) a2 rfl rfl (by rw [a3.1]; omega) a1 (deedsIn_rev a3) hT (fun d hd => ok d (List.mem_reverse.mp hd)) rfl ?_ ?_ mg mb mean dp un gd cn cs a ccd cl outer A₀ base h₀ L m s Q E g.B g.F g.X g.N g.T g.hk g.hd g.hu ?_
  · intro i k sz hi
    show (ds.reverse.take (i + 1)).foldl (fun a d => deedB TT d.1 d.2 a) x = _
    rw [List.take_add_one, hi, List.foldl_append]; rfl
  · intro i hi
    have hi' : i ≤ ds.length := by simpa using hi
    have := grow_back hT ok h1 h2 hi'
    exact bits110 (by omega) this.1 this.2
  · rintro r h' tk' ⟨t9, rfl⟩ F' N'
    rw [e]; exact ret t9 h' tk' F' N'
end
theorem deedOf_ok (z : Int) : 0 ≤ z.fmod 13 ∧ z.fmod 13 ≤ 12 ∧ 2 ≤ (z.fdiv 13).fmod 7 + 2 ∧ (z.fdiv 13).fmod 7 + 2 ≤ 8 := by
  have h1 := Int.fmod_nonneg_of_pos z (b := 13) (by omega)
  have h2 := Int.fmod_lt_of_pos z (b := 13) (by omega)
  have h3 := Int.fmod_nonneg_of_pos (z.fdiv 13) (b := 7) (by omega)
  have h4 := Int.fmod_lt_of_pos (z.fdiv 13) (b := 7) (by omega)
  omega
theorem deedsAt_tl {tp : List (Addr × Obj)} {Dd H : Addr} {dv : List Value} {z1 z2 z3 z4 z5 z6 : Int} (h : DeedsIn tp dv [deedOf z1, deedOf z2, deedOf z3, deedOf z4, deedOf z5, deedOf z6]) :
    DeedsAt ((H, handsO 0) :: (Dd, LCg.lst dv) :: tp) Dd H [deedOf z1, deedOf z2, deedOf z3, deedOf z4, deedOf z5, deedOf z6] := by
  refine ⟨List.mem_cons_self, ?_, rfl, dv, List.mem_cons_of_mem _ List.mem_cons_self, h.1, fun i v hv => ?_⟩
  · intro d hd
    simp only [List.mem_cons, List.not_mem_nil, or_false] at hd
    rcases hd with rfl | rfl | rfl | rfl | rfl | rfl <;> exact deedOf_ok _
  · obtain ⟨k, sz, a, t1, t2, n, e1, e2, e3⟩ := h.2 i v hv
    exact ⟨k, sz, a, t1, t2, n, e1, e2, List.mem_cons_of_mem _ (List.mem_cons_of_mem _ e3)⟩
theorem forth_small {TT : Str} (hT : TT.length = 5) {ds : List (Int × Int)} (hok : okDs ds) (hl : ds.length = 6) {x : Int} (h1 : -1003 ≤ x) (h2 : x ≤ 1003) : -(2 ^ 59) ≤ forthZ TT ds x ∧ forthZ TT ds x ≤ 2 ^ 59 := by
  have h := grow_forth hT hok (b := 1003) h1 h2 (n := 6) (by omega)
  rw [List.take_of_length_le (by omega)] at h
  have e : bnd 6 1003 = 282601980440936704 := by decide
  rw [e] at h
  omega
theorem back_small {TT : Str} (hT : TT.length = 5) {ds : List (Int × Int)} (hok : okDs ds) (hl : ds.length = 6) {x : Int} (h1 : -1003 ≤ x) (h2 : x ≤ 1003) : -(2 ^ 59) ≤ backZ TT ds x ∧ backZ TT ds x ≤ 2 ^ 59 := by
  have h := grow_back hT hok (b := 1003) h1 h2 (n := 6) (by omega)
  rw [List.take_of_length_le (by simp; omega)] at h
  have e : bnd 6 1003 = 282601980440936704 := by decide
  rw [e] at h
  show -(2 ^ 59) ≤ ds.reverse.foldl (fun a d => deedB TT d.1 d.2 a) x ∧ ds.reverse.foldl (fun a d => deedB TT d.1 d.2 a) x ≤ 2 ^ 59
  omega
end Mine

set_option maxRecDepth 100000
namespace Mine
theorem ints_snoc {ys : List Value} {zs : List Int} (h : IntsAre ys zs) (z : Int) (t : Tok) : IntsAre (ys ++ [.int z t]) (zs ++ [z]) := by
  induction h with
  | nil => exact IntsAre.cons _ _ IntsAre.nil
  | cons a b _ ih => exact IntsAre.cons _ _ ih
noncomputable def rowZ (f : Int → Int) (a : Int) (n : Nat) : List Int := (List.range n).map fun i : Nat => f (a + (i : Int))
noncomputable def J12 (led : List (Addr × Obj)) (f : Int → Int) (a : Int) (i : Nat) (ys : List Value) (news : List (Addr × Obj)) : Prop :=
  (∀ p ∈ led, p ∈ news) ∧ IntsAre ys (rowZ f a i)
theorem J12_step {led : List (Addr × Obj)} {f : Int → Int} {a : Int} {i : Nat} {ys : List Value} {news : List (Addr × Obj)} {t : Tok} (h : J12 led f a i ys news) :
    J12 led f a (i + 1) (ys ++ [.int (f (a + (i : Int))) t]) news := by
  refine ⟨h.1, ?_⟩
  have := ints_snoc h.2 (f (a + (i : Int))) t
  unfold rowZ at this ⊢
  rw [List.range_succ, List.map_append]; exact this
theorem ints_some {vs : List Value} {zs : List Int} (h : IntsAre vs zs) : ∀ {j : Nat}, j < vs.length → ∃ z t, vs[j]? = some (.int z t) := by
  induction h with
  | nil => intro j h; exact absurd h (Nat.not_lt_zero _)
  | cons a b _ ih =>
    intro j h
    cases j with
    | zero => exact ⟨a, b, rfl⟩
    | succ j => exact ih (Nat.lt_of_succ_lt_succ h)
noncomputable def J2 (led : List (Addr × Obj)) (i : Nat) (ys : List Value) (news : List (Addr × Obj)) : Prop :=
  (∀ p ∈ led, p ∈ news) ∧ ∃ zs : List Int, zs.length = i ∧ IntsAre ys zs
theorem J2_step {led : List (Addr × Obj)} {i : Nat} {ys : List Value} {news : List (Addr × Obj)} {z : Int} {t : Tok} (h : J2 led i ys news) : J2 led (i + 1) (ys ++ [.int z t]) news := by
  obtain ⟨h1, zs, h2, h3⟩ := h
  exact ⟨h1, zs ++ [z], by rw [List.length_append, h2]; rfl, ints_snoc h3 z t⟩
theorem fin_led {h₀ h : Heap} {L : Addr} {m : Str → Option Value} {o1 o2 o3 o4 o5 o6 o7 o8 o9 o10 : Obj} {tl nw : List (Addr × Obj)} {q : Addr × Obj} {v1 v2 v3 v4 v5 v6 v7 v8 v9 v10 : Option Value}
    (F : Fr h₀ L h m) (N : News h₀ L h (q :: nw)) (hsub : ∀ p ∈ cellsOf L o1 o2 o3 o4 o5 o6 o7 o8 o9 o10 tl, p ∈ nw) (hoff : ∀ p ∈ tl, Off10 L p.1)
    (d1 : o1.data = .cell v1) (d2 : o2.data = .cell v2) (d3 : o3.data = .cell v3) (d4 : o4.data = .cell v4) (d5 : o5.data = .cell v5) (d6 : o6.data = .cell v6) (d7 : o7.data = .cell v7) (d8 : o8.data = .cell v8) (d9 : o9.data = .cell v9) (d10 : o10.data = .cell v10)
    (hd : ∀ v, q.2.data ≠ .cell v) : LawSt h₀ L h m o1 o2 o3 o4 o5 o6 o7 o8 o9 o10 (q :: tl) := by
  have hq : Off10 L q.1 := off_of (a := q.1) (o := q.2) N (fun p hp => List.mem_cons_of_mem _ (hsub p (mem_cells hp))) List.mem_cons_self d1 d2 d3 d4 d5 d6 d7 d8 d9 d10 hd
  refine LawSt.add F (fun p hp => ?_) hoff hq
  rcases List.mem_cons.mp hp with rfl | hp
  · exact N _ List.mem_cons_self
  · exact N _ (List.mem_cons_of_mem _ (hsub p hp))
noncomputable def mO (D : Addr) (g : Int) (t : Tok) (a : Addr) : Str → Option Value := fun y => if y = Str.ofString "ones" then some (.ref a) else mG D g t y
noncomputable def mP (D : Addr) (g : Int) (t : Tok) (a b : Addr) : Str → Option Value := fun y => if y = Str.ofString "others" then some (.ref b) else mO D g t a y
noncomputable def mA (D : Addr) (g : Int) (t : Tok) (a b c : Addr) : Str → Option Value := fun y => if y = Str.ofString "about" then some (.ref c) else mP D g t a b y
theorem lst_nocell (ys : List Value) : ∀ v, (LCg.lst ys).data ≠ .cell v := by intro v h; cases h
theorem size7 (a b : Int) (h : b = a + 7) : Builtin.Range.rangeSize a b 1 = ((7 : Nat) : Int) := by
  rw [rangeSize_one, if_pos (by omega)]; omega
theorem rng_small {a b : Int} (h1 : -(2 ^ 61) ≤ a) (h2 : a + 7 ≤ 2 ^ 61) (h : b = a + 7) : Builtin.Range.small a b 1 = true := small_one (by omega) (by omega) (by omega) (by omega)
theorem rng_in {a : Int} {i : Nat} (h1 : -(2 ^ 61) ≤ a) (h2 : a + 7 ≤ 2 ^ 61) (hi : i < 7) : -(2 ^ 61) ≤ a + (i : Int) ∧ a + (i : Int) ≤ 2 ^ 61 := ⟨by omega, by omega⟩
section
variable {prog : Program} {w : World} {A : Around} {h₀ : Heap} {L : Addr} {m : Str → Option Value} {env : Env} {ct elt : Expr} {x : Str} {scope : Scope} {cl : List (Str × Addr)} {s : Shared} {S : List (Addr × Obj) → Prop} {P : Nat → Value → Prop} {Fin : List Value → List (Addr × Obj) → Prop}
theorem compRestT_inv {n : Nat} (J : Nat → List Value → List (Addr × Obj) → Prop)
    (step : ∀ i ys news v I oI C oC D m₂ h tk, i < n → J i ys news → P i v → LCg.NsObj oC m₂ → m₂ x = some v → Fr h₀ L h m → News h₀ L h ((I, oI) :: (C, oC) :: (D, LCg.lst ys) :: news) → LCg.Off3 I C D news → ((@Ne Nat I C) ∧ (@Ne Nat I D) ∧ (@Ne Nat C D)) →
      wpAny (model prog w) A (isTrue ct (compEnvC scope cl C env) (eval ct (compEnvC scope cl C env))) (fun ok s' => if ok = true then
        wpAny (model prog w) A (eval elt (compEnvC scope cl C env)) (LCg.CompEnd h₀ L m { s with heap := h, toks := tk } I oI C oC D (LCg.lst ys) S (fun y news' => J (i + 1) (ys ++ [y]) news')) (fun _ _ => False) s'
        else LCg.CompEnd h₀ L m { s with heap := h, toks := tk } I oI C oC D (LCg.lst ys) S (fun _ news' => J (i + 1) ys news') Value.none s') (fun _ _ => False) { s with heap := h, toks := tk })
    (fin : ∀ ys news, J n ys news → Fin ys news) : ∀ (k i : Nat) (ys : List Value) (news : List (Addr × Obj)), i + k = n → J i ys news → LCt.CompRestT prog w A h₀ L m env ct elt x scope cl s S P Fin k i ys news
  | 0, i, ys, news, e, hJ => LCt.CompRestT.zero (fin ys news (by rw [show n = i by omega]; exact hJ))
  | k + 1, i, ys, news, e, hJ => by
    refine LCt.CompRestT.succ ?_
    intro v I oI C oC D m₂ h tk E' hP hC hx F N off ne
    refine wpAny_mono (noRaise (step i ys news v I oI C oC D m₂ h tk (by omega) hJ hP hC hx F N off ne)) (fun ok s₂ h₂ => ?_) fun _ _ e => e
    cases ok with
    | true =>
      rw [if_pos rfl] at h₂ ⊢
      refine wpAny_mono (noRaise h₂) (fun y s₃ h₃ => ?_) fun _ _ e => e
      exact compEnd_mono h₃ fun y' n' hj => compRestT_inv J step fin k (i + 1) (ys ++ [y']) n' (by omega) hj
    | false =>
      rw [if_neg Bool.false_ne_true] at h₂ ⊢
      exact compEnd_mono h₂ fun y' n' hj => compRestT_inv J step fin k (i + 1) ys n' (by omega) hj
end
noncomputable def J14 (led : List (Addr × Obj)) (p : Int → Bool) (zs : List Int) (i : Nat) (ys : List Value) (news : List (Addr × Obj)) : Prop :=
  (∀ q ∈ led, q ∈ news) ∧ IntsAre ys ((zs.take i).filter p)
theorem J14_in {led : List (Addr × Obj)} {p : Int → Bool} {zs : List Int} {i : Nat} {ys : List Value} {news : List (Addr × Obj)} {z : Int} {t : Tok} (h : J14 led p zs i ys news) (hz : zs[i]? = some z) (hp : p z = true) :
    J14 led p zs (i + 1) (ys ++ [.int z t]) news := by
  refine ⟨h.1, ?_⟩
  rw [List.take_add_one, hz, List.filter_append]
  have e : (Option.some z).toList.filter p = [z] := by simp [hp]
  rw [e]; exact ints_snoc h.2 z t
theorem J14_out {led : List (Addr × Obj)} {p : Int → Bool} {zs : List Int} {i : Nat} {ys : List Value} {news : List (Addr × Obj)} {z : Int} (h : J14 led p zs i ys news) (hz : zs[i]? = some z) (hp : p z = false) :
    J14 led p zs (i + 1) ys news := by
  refine ⟨h.1, ?_⟩
  rw [List.take_add_one, hz, List.filter_append]
  have e : (Option.some z).toList.filter p = [] := by simp [hp]
  rw [e, List.append_nil]; exact h.2
theorem J14_end {led : List (Addr × Obj)} {p : Int → Bool} {zs : List Int} {n : Nat} {ys : List Value} {news : List (Addr × Obj)} (h : J14 led p zs n ys news) (hn : zs.length ≤ n) : IntsAre ys (zs.filter p) := by
  have := h.2
  rwa [List.take_of_length_le hn] at this
theorem ints_item {vs : List Value} {zs : List Int} (h : IntsAre vs zs) : ∀ {i : Nat} {v : Value}, vs[i]? = some v → ∃ z t, v = .int z t ∧ zs[i]? = some z := by
  induction h with
  | nil => intro i v h; simp at h
  | cons a b _ ih =>
    intro i v h
    cases i with
    | zero => exact ⟨a, b, by simpa using h.symm, rfl⟩
    | succ i => exact ih (by simpa using h)
theorem ints_append {vs us : List Value} {zs ws : List Int} (h : IntsAre vs zs) (h' : IntsAre us ws) : IntsAre (vs ++ us) (zs ++ ws) := by
  induction h with
  | nil => exact h'
  | cons a b _ ih => exact IntsAre.cons a b ih
end Mine
namespace Mine
theorem aboutP_t {a b z : Int} (h1 : -4 < z - a - b) (h2 : z - a - b < 4) : aboutP a b z = true := by unfold aboutP; simp [h1, h2]
theorem aboutP_f1 {a b z : Int} (h1 : ¬ -4 < z - a - b) : aboutP a b z = false := by unfold aboutP; simp [h1]
theorem aboutP_f2 {a b z : Int} (h1 : ¬ z - a - b < 4) : aboutP a b z = false := by unfold aboutP; simp [h1]
theorem span_told {TT : Str} (hT : TT.length = 5) {ds : List (Int × Int)} (hok : okDs ds) (near : Int) {led : Int} (hle : forthZ TT ds near = led) {ns : List Int}
    (hp : ns.Perm ((rowZ (fun x => x + forthZ TT ds x) (near - 3) 7 ++ rowZ (fun x => x + backZ TT ds x + 1) (led - 3) 7).filter (aboutP near led))) (ho : ns.Pairwise (· ≤ ·)) : ns = rowZ (fun x => x) (near + led - 3) 7 := by
  subst hle
  exact lm_sorted (gal_row hT ds hok) near hp ho
end Mine
namespace Mine
theorem LawSt.subMem {L : Addr} {o1 o2 o3 o4 o5 o6 o7 o8 o9 o10 : Obj} {tl : List (Addr × Obj)} {a b p : Addr × Obj} (h : p ∈ cellsOf L o1 o2 o3 o4 o5 o6 o7 o8 o9 o10 tl) : p ∈ cellsOf L o1 o2 o3 o4 o5 o6 o7 o8 o9 o10 (a :: b :: tl) := by
  rcases cells_split h with h | h
  · exact mem_cells h
  · exact mem_tl (List.mem_cons_of_mem _ (List.mem_cons_of_mem _ h))
end Mine
namespace Mine
theorem row_range (c : Int) : rowZ (fun x => x) (c - 3) 7 = rangeKs (c - 3) (c + 4 - (c - 3)).toNat := by
  have e : (c + 4 - (c - 3)).toNat = 7 := by omega
  rw [e]; rfl
noncomputable def mTop (D : Addr) (g : Int) (t : Tok) (a b c : Addr) (x : Int) (tx : Tok) : Str → Option Value := fun y => if y = Str.ofString "top" then some (.int x tx) else mA D g t a b c y
noncomputable def mUpto (D : Addr) (g : Int) (t : Tok) (a b c : Addr) (x : Int) (tx : Tok) (x2 : Int) (t2 : Tok) : Str → Option Value := fun y => if y = Str.ofString "upto" then some (.int x2 t2) else mTop D g t a b c x tx y
noncomputable def mBey (D : Addr) (g : Int) (t : Tok) (a b c : Addr) (x : Int) (tx : Tok) (x2 : Int) (t2 : Tok) (x3 : Int) (t3 : Tok) : Str → Option Value := fun y => if y = Str.ofString "beyond" then some (.int x3 t3) else mUpto D g t a b c x tx x2 t2 y
section
variable {w : World} {news : List (Addr × Obj)} {mg mb : Str → Option Value} {mean : ExcName → Option Value} {dp un : Nat} {gd : Option (List Code)} {cn : Str} {cs : Scope} {a : Addr} {ccd : Value} {cl : List (Str × Addr)} {outer : List Env} {A₀ : Around} {base h₀ : Heap} {L : Addr} {m : Str → Option Value} {s : Shared} {Q E : Value → Shared → Prop}
theorem use_leB {x y : Int} {t u : Tok} (b : Bool) (hb : decide (x ≤ y) = b) (g : Rdy 5 40 w mg mb mean dp un cs outer A₀ base h₀ L m s.heap news)
    (ret : ∀ (h' : Heap) (tk' : Nat), Fr h₀ L h' m → News h₀ L h' news → Q (.bool b) { s with heap := h', toks := tk' }) :
    wpAny (model PySem.Challenge.rw_ph0100_01.row.prog w) (ktrTop dp un gd cn cs L a ccd cl outer) (call (.ref 21) [.int x t, .int y u]) Q E s :=
  use_le g (by rw [hb]; exact ret)
theorem use_gtB {x y : Int} {t u : Tok} (b : Bool) (hb : decide (x > y) = b) (g : Rdy 5 40 w mg mb mean dp un cs outer A₀ base h₀ L m s.heap news)
    (ret : ∀ (h' : Heap) (tk' : Nat), Fr h₀ L h' m → News h₀ L h' news → Q (.bool b) { s with heap := h', toks := tk' }) :
    wpAny (model PySem.Challenge.rw_ph0100_01.row.prog w) (ktrTop dp un gd cn cs L a ccd cl outer) (call (.ref 28) [.int x t, .int y u]) Q E s :=
  use_gt g (by rw [hb]; exact ret)
end
end Mine

namespace Mine
local macro_rules | `(tactic| cells_open $x:ident) => `(tactic| (obtain ⟨_, _, _, _, _, _, _, _, _, _, he, _, _, _, _, _, _, _, _, _, _⟩ := kc_ten $x; subst he))
local macro_rules | `(tactic| walk_at "execs cons") => `(tactic| ((with_reducible refine wpAny_execs_cons ?_); try dsimp only))
local macro_rules | `(tactic| walk_at "execs nil") => `(tactic| ((with_reducible refine wpAny_execs_nil ?_); try dsimp only))
local macro_rules | `(tactic| k_mem) => `(tactic| first | with_reducible assumption | (with_reducible refine List.mem_cons_of_mem _ (List.mem_cons_of_mem _ (List.mem_cons_of_mem _ ?_)); with_reducible assumption))
local macro_rules | `(tactic| k_ne) => `(tactic| first | focus (refine off_ne (by with_reducible assumption) ?_ ?_; (repeat' (first | exact Nat.le_refl _ | refine le_s ?_)); done) | focus (refine off_en (by with_reducible assumption) ?_ ?_; (repeat' (first | exact Nat.le_refl _ | refine le_s ?_)); done) | focus (with_reducible refine Nat.ne_of_gt (Nat.lt_of_succ_le ?_); (repeat' (first | exact Nat.le_refl _ | refine le_s ?_)); done) | focus (with_reducible refine Nat.ne_of_lt (Nat.lt_of_succ_le ?_); (repeat' (first | exact Nat.le_refl _ | refine le_s ?_)); done))
local macro_rules | `(tactic| k_all) => `(tactic| focus (refine off_tp (by with_reducible assumption) ?_ ?_; (repeat' (first | exact Nat.le_refl _ | refine le_s ?_)); done))
local macro_rules | `(tactic| walk_at "callWith ref") => `(tactic| (k_here; k_dflt (refine' callWith_K ?k1 ?k2 ?_; (case k1 => k_asm); (case k2 => exact EscAt.keep (by assumption) _); k_whole)))
local macro_rules | `(tactic| walk_at "subscriptTail Name Name ref int") => `(tactic| (k_here; (with_reducible show wpAny _ _ (subscriptTail _ _ (Value.ref _) (Value.int _ _)) _ _ _); k_dflt (refine item_listL (l := escs) (News.isList (by k_asm) (by k_mem)) (by omega) (by omega) (by assumption) ?_)))
local macro_rules | `(tactic| walk_at "call ref") => `(tactic| (k_here; k_dflt ((first | (refine' use_escV ?cE ?ch0 ?g ?_; (case cE => assumption)) | refine' use_forth ?cA ?c5 ?cx1 ?cx2 ?g ?_ | refine' use_back ?cA ?c5 ?cx1 ?cx2 ?g ?_ | (refine' use_leB true (decide_eq_true ?cb) ?g ?_; (case cb => omega)) | (refine' use_leB false (decide_eq_false ?cb) ?g ?_; (case cb => omega)) | (refine' use_gtB true (decide_eq_true ?cb) ?g ?_; (case cb => omega)) | (refine' use_gtB false (decide_eq_false ?cb) ?g ?_; (case cb => omega))); (case g => exact ⟨by k_asm, by k_asm, by k_asm, by k_asm, by k_asm, by first | exact rfl | assumption, by ktr_room, by ktr_units⟩); (try case cA => assumption); (try case c5 => assumption); (try case ch0 => (first | assumption | omega)); (try case cx1 => (first | assumption | omega)); (try case cx2 => (first | assumption | omega)); k_whole; intros; (try dsimp only); (try k_sweep))))
set_option maxRecDepth 100000 in
set_option maxHeartbeats 16000000 in
theorem t1 : PySem.Challenge.rw_ph0100_01.Holds := hd (by
  w_on
  k_go0
  k_fold
  rename_i w s₀ s₁ mg mb G Y fa oL pm doc ho hg KX XM V GL T TB TE TW wb wo M cdA wA16 hcd ns hs hlay0 hLay hr1 hl2 wA14 wA13 l vs wA10 hL ra w1 r0 hI hr hc63 hcT K0 hDf h1 tk1 F o10 o9 o8 o7 o6 o5 o4 o3 o2 o1 d10 d9 d8 d7 d6 d5 d4 d3 d2 d1 N XC
  clear XC hDf hr r0 w1 ra hl2 hr1 hlay0 hs hcd M TW TE TB GL V XM hLay
  replace F : Fr s₁.heap s₁.heap.objs.size h1 (fun _ => none) := F
  replace d1 : o1.data = .cell (some (.ref l)) := d1
  replace d2 : o2.data = .cell none := d2
  replace d3 : o3.data = .cell none := d3
  replace d4 : o4.data = .cell none := d4
  replace d5 : o5.data = .cell none := d5
  replace d6 : o6.data = .cell none := d6
  replace d7 : o7.data = .cell none := d7
  replace d8 : o8.data = .cell none := d8
  replace d9 : o9.data = .cell none := d9
  replace d10 : o10.data = .cell none := d10
  dsimp only
  with_reducible refine stmt_cut (fun s' => ∃ (h : Heap) (tk : Nat) (lg : Addr) (og : Obj) (t1 t2 t3 t4 t5 t6 t7 t8 t9 t10 t11 t12 t13 : Tok), s' = { s₁ with heap := h, toks := tk } ∧ og.data = .cell (some (.ref lg)) ∧ Off10 s₁.heap.objs.size lg ∧ Fr s₁.heap s₁.heap.objs.size h (fun _ => none) ∧ News s₁.heap s₁.heap.objs.size h ((lg, W.listOf #[.int 2 t1, .int 7 t2, .int 8 t3, .int 1 t4, .int 4 t5, .int 13 t6, .int 10 t7, .int 3 t8, .int 0 t9, .int 7 t10, .int 2 t11, .int 5 t12, .int 8 t13] 0) :: cellsOf s₁.heap.objs.size o1 og o3 o4 o5 o6 o7 o8 o9 o10 [])) ?_ ?_
  ·
    k_steps
    rename_i lg h2 hlt h3 og F3 N3 dg
    exact ⟨rfl, h3, _, lg, og, _, _, _, _, _, _, _, _, _, _, _, _, _, rfl, dg, off_lt (by omega), F3, N3⟩
  rintro s' ⟨h2, tk2, lg, og, t1, t2, t3, t4, t5, t6, t7, t8, t9, t10, t11, t12, t13, rfl, dg, hlg, F2, N2⟩
  dsimp only [cellsOf] at N2
  clear F N d2 o2 h1
  with_reducible refine stmt_cut (fun s' => ∃ (h : Heap) (tk : Nat) (D : Addr) (z1 z2 z3 z4 z5 z6 z7 z8 z9 z10 z11 z12 z13 : Int) (t1 t2 t3 t4 t5 t6 t7 t8 t9 t10 t11 t12 t13 : Tok), s' = { s₁ with heap := h, toks := tk } ∧ LawSt s₁.heap s₁.heap.objs.size h (mD D) o1 og o3 o4 o5 o6 o7 o8 o9 o10 [(D, W.listOf #[.int z1 t1, .int z2 t2, .int z3 t3, .int z4 t4, .int z5 t5, .int z6 t6, .int z7 t7, .int z8 t8, .int z9 t9, .int z10 t10, .int z11 t11, .int z12 t12, .int z13 t13] 13)]) ?_ ?_
  ·
    k_dflt (refine LCg.Assign_ListComp_U (F₀ := F2) (by rfl) (by with_unfolding_all rfl) (by with_unfolding_all rfl) (by decide) (by rfl) (by decide) (by rfl) (by rfl) (by rfl) ?_)
    (iterate 7 walk1)
    rename_i g1 tk1 ta tb tc hr Fr1 Nr1 hkp
    k_dflt (refine LCg.CompSrc.range (n := 13) (by rfl) Fr1 Nr1 hr (by first | decide | rfl) (by first | rfl | decide) (by first | size_fits | exact Nat.le_of_ble_eq_true rfl) ?_)
    intro g7
    refine compRest_inv (n := 13) (J2 _) ?_ ?_ 13 0 [] _ rfl ⟨fun p hp => hp, [], rfl, IntsAre.nil⟩
    · intro i ys nw v I oI C oC Da m₂ h tk hi hJ hP hC hx F7 N7 off ne
      obtain ⟨tz, rfl⟩ := hP
      have q1 : (s₁.heap.objs.size+1, o1) ∈ nw := hJ.1 _ (by simp)
      have q2 : (s₁.heap.objs.size+1+1, og) ∈ nw := hJ.1 _ (by simp)
      have q3 : (lg, W.listOf #[.int 2 t1, .int 7 t2, .int 8 t3, .int 1 t4, .int 4 t5, .int 13 t6, .int 10 t7, .int 3 t8, .int 0 t9, .int 7 t10, .int 2 t11, .int 5 t12, .int 8 t13] 0) ∈ nw := hJ.1 _ (by simp)
      have hst := fun {z : Int} {t : Tok} => J2_step (z := z) (t := t) hJ
      have hx1 : 0 ≤ 0 + (i : Int) := by omega
      have hx2 : 0 + (i : Int) < 13 := by omega
      generalize 0 + (i : Int) = x at hx hx1 hx2
      (try clear F2); (try clear N2); (try clear hkp); clear Fr1 Nr1 hr hJ hi hlg
      (iterate 4 walk1)
      obtain ⟨zg, tg', hgk⟩ := ints_some (IntsAre.cons _ _ (IntsAre.cons _ _ (IntsAre.cons _ _ (IntsAre.cons _ _ (IntsAre.cons _ _ (IntsAre.cons _ _ (IntsAre.cons _ _ (IntsAre.cons _ _ (IntsAre.cons _ _ (IntsAre.cons _ _ (IntsAre.cons _ _ (IntsAre.cons _ _ (IntsAre.cons _ _ (IntsAre.nil)))))))))))))) (j := x.toNat) (by show x.toNat < 13; omega)
      (k_here; k_dflt (refine item_listL (News.isList N7 (List.mem_cons_of_mem _ (List.mem_cons_of_mem _ (List.mem_cons_of_mem _ q3)))) hx1 (by omega) hgk ?_))
      clear hgk q3
      (iterate 13 walk1)
      · rename_i hlt
        (iterate 3 walk1)
        obtain ⟨zs', ts', hsk⟩ := ints_some hI (j := x.toNat) (by have := IntsAre.length hI; omega)
        (k_here; k_dflt (refine item_listL (hL.at fun o e => F7.keep _ _ e) hx1 (by omega) hsk ?_))
        walk1
        exact comp_same F7 N7 off trivial hst
      · (iterate 2 walk1)
        exact comp_same F7 N7 off trivial hst
    · intro ys nw hJ
      unfold LCg.FinA
      intro D h8 tk8 F8 N8 off8
      obtain ⟨hs8, zs, hzl, hI8⟩ := hJ
      obtain ⟨z, t, rfl⟩ := ints13 hI8 hzl
      exact ⟨rfl, h8, _, D, z 0, z 1, z 2, z 3, z 4, z 5, z 6, z 7, z 8, z 9, z 10, z 11, z 12, t 0, t 1, t 2, t 3, t 4, t 5, t 6, t 7, t 8, t 9, t 10, t 11, t 12, rfl, fin_led F8 N8 (fun p hp => hs8 p (List.mem_cons_of_mem _ hp)) (by simp) d1 dg d3 d4 d5 d6 d7 d8 d9 d10 (lst_nocell _)⟩
  rintro s' ⟨h3, tk3, D, z1, z2, z3, z4, z5, z6, z7, z8, z9, z10, z11, z12, z13, t1, t2, t3, t4, t5, t6, t7, t8, t9, t10, t11, t12, t13, rfl, F3, N3, off3⟩
  dsimp only [cellsOf] at N3
  have hoD := off3 _ List.mem_cons_self
  dsimp only at hoD
  clear F2 N2 hlg
  with_reducible refine stmt_cut (fun s' => ∃ (h : Heap) (tk : Nat) (on : Obj) (nr : Int) (tn : Tok), s' = { s₁ with heap := h, toks := tk } ∧ -1000 ≤ nr ∧ nr ≤ 1000 ∧ on.data = .cell (some (.int nr tn)) ∧ LawSt s₁.heap s₁.heap.objs.size h (mD D) o1 og on o4 o5 o6 o7 o8 o9 o10 [(D, W.listOf #[.int z1 t1, .int z2 t2, .int z3 t3, .int z4 t4, .int z5 t5, .int z6 t6, .int z7 t7, .int z8 t8, .int z9 t9, .int z10 t10, .int z11 t11, .int z12 t12, .int z13 t13] 13)]) ?_ ?_
  ·
    k_steps
    rename_i h4 on F4 N4 dn
    have hb := near_bound z1
    exact ⟨rfl, h4, _, on, _, _, rfl, hb.1, hb.2, dn, F4, N4, off3⟩
  rintro s' ⟨h4, tk4, on, nr, tn, rfl, hn1, hn2, dn, F4, N4, off4⟩
  dsimp only [cellsOf] at N4
  clear F3 N3 d3 o3 off3
  with_reducible refine stmt_cut (fun s' => ∃ (h : Heap) (tk : Nat) (g : Int) (t : Tok), s' = { s₁ with heap := h, toks := tk } ∧ -1000 ≤ g ∧ g ≤ 1000 ∧ LawSt s₁.heap s₁.heap.objs.size h (mG D g t) o1 og on o4 o5 o6 o7 o8 o9 o10 [(D, W.listOf #[.int z1 t1, .int z2 t2, .int z3 t3, .int z4 t4, .int z5 t5, .int z6 t6, .int z7 t7, .int z8 t8, .int z9 t9, .int z10 t10, .int z11 t11, .int z12 t12, .int z13 t13] 13)]) ?_ ?_
  ·
    k_steps
    rename_i h5 F5 N5
    have hb := near_bound z2
    exact ⟨rfl, h5, _, _, _, rfl, hb.1, hb.2, F5, N5, off4⟩
  rintro s' ⟨h5, tk5, gl, tg, rfl, hg1, hg2, F5, N5, off5⟩
  dsimp only [cellsOf] at N5
  clear F4 N4 off4
  with_reducible refine stmt_cut (fun s' => ∃ (h : Heap) (tk : Nat) (od : Obj) (Dd : Addr) (dv : List Value) (tp : List (Addr × Obj)), s' = { s₁ with heap := h, toks := tk } ∧ od.data = .cell (some (.ref Dd)) ∧ DeedsIn tp dv [deedOf z3, deedOf z4, deedOf z5, deedOf z6, deedOf z7, deedOf z8] ∧ LawSt s₁.heap s₁.heap.objs.size h (mG D gl tg) o1 og on od o5 o6 o7 o8 o9 o10 ((Dd, LCg.lst dv) :: (D, W.listOf #[.int z1 t1, .int z2 t2, .int z3 t3, .int z4 t4, .int z5 t5, .int z6 t6, .int z7 t7, .int z8 t8, .int z9 t9, .int z10 t10, .int z11 t11, .int z12 t12, .int z13 t13] 13) :: tp)) ?_ ?_
  ·
    walk1
    k_dflt (refine LCg.ListComp_U (F₀ := F5) (by rfl) (by decide) (by rfl) (by decide) (by rfl) ?_)
    (iterate 9 walk1)
    rename_i Ds h6 F6 N6 l6
    refine LCg.CompSrc.ledger (by rfl) F6 N6 List.mem_cons_self (by first | size_fits | exact Nat.le_of_ble_eq_true rfl) ?_
    intro g7
    refine compRest_inv (n := 6) (J5 _ [z3, z4, z5, z6, z7, z8]) ?_ ?_ 6 0 [] _ rfl J5_zero
    · intro i ys nw v I oI C oC Da m₂ h tk hi hJ hP hC hx F7 N7 off ne
      obtain ⟨tz, rfl⟩ := item6 hP
      have hsrc := hJ.1 _ List.mem_cons_self
      have hst := fun {T : Addr} {t1 t2 : Tok} {q : Addr × Obj} => J5_step (T := T) (t1 := t1) (t2 := t2) (q := q) hJ hi
      generalize [z3, z4, z5, z6, z7, z8].getD i 0 = z at hx hst
      clear F6 l6 hP hJ N6
      k_steps
      rename_i T h8 F8 N8 l8
      exact comp_new F8 N8 off l8 (Or.inr ⟨_, List.mem_cons_of_mem _ hsrc, rfl, _, rfl⟩) (hst rfl)
    · intro ys nw hJ
      unfold LCg.FinE
      intro Dd h8 tk8 F8 N8 off8
      obtain ⟨j1, tp, htp, hnc, hdi⟩ := hJ
      have N9 := news5 N8 j1 htp
      have off9 := off_all N9 d1 dg dn d4 d5 d6 d7 d8 d9 d10 (List.forall_mem_cons.mpr ⟨seq_nocell rfl, List.forall_mem_cons.mpr ⟨seq_nocell rfl, hnc⟩⟩)
      clear F6 N6 l6 off8 N8 j1 htp hnc
      have hoDd : Off10 s₁.heap.objs.size Dd := off9 _ List.mem_cons_self
      have hotp := fun p hp => off9 p (List.mem_cons_of_mem _ (List.mem_cons_of_mem _ hp))
      dsimp only [cellsOf] at N9
      k_steps
      rename_i h9 od F9 N9' dd
      exact ⟨rfl, h9, _, od, Dd, ys, tp, rfl, dd, hdi, F9, N9', off9⟩
  rintro s' ⟨h6, tk6, od, Dd, dv, tp, rfl, dd, hdi, F6, N6, off6⟩
  dsimp only [cellsOf] at N6
  clear F5 N5 off5 d4 o4
  have hoDd : Off10 s₁.heap.objs.size Dd := off6 _ List.mem_cons_self
  have hotp : ∀ p ∈ tp, Off10 s₁.heap.objs.size p.1 := fun p hp => off6 p (List.mem_cons_of_mem _ (List.mem_cons_of_mem _ hp))
  with_reducible refine stmt_cut (fun s' => ∃ (h : Heap) (tk : Nat) (os : Obj) (ts : Tok), s' = { s₁ with heap := h, toks := tk } ∧ os.data = .cell (some (.str (Str.ofString "&<>\"\r\n\ta;") ts)) ∧ LawSt s₁.heap s₁.heap.objs.size h (mG D gl tg) o1 og on od os o6 o7 o8 o9 o10 ((Dd, LCg.lst dv) :: (D, W.listOf #[.int z1 t1, .int z2 t2, .int z3 t3, .int z4 t4, .int z5 t5, .int z6 t6, .int z7 t7, .int z8 t8, .int z9 t9, .int z10 t10, .int z11 t11, .int z12 t12, .int z13 t13] 13) :: tp)) ?_ ?_
  ·
    k_steps
    rename_i h7 os F7 N7 ds
    exact ⟨rfl, h7, _, os, _, rfl, ds, F7, N7, off6⟩
  rintro s' ⟨h7, tk7, os, ts, rfl, ds, F7, N7, off7⟩
  dsimp only [cellsOf] at N7
  clear F6 N6 off6 d5 o5
  with_reducible refine stmt_cut (fun s' => ∃ (h : Heap) (tk : Nat) (ot : Obj) (tt : Tok), s' = { s₁ with heap := h, toks := tk } ∧ ot.data = .cell (some (.str (Txt.join (Str.ofString "") [sgn z9, sgn z10, sgn z11, sgn z12, sgn z13]) tt)) ∧ LawSt s₁.heap s₁.heap.objs.size h (mG D gl tg) o1 og on od os ot o7 o8 o9 o10 ((Dd, LCg.lst dv) :: (D, W.listOf #[.int z1 t1, .int z2 t2, .int z3 t3, .int z4 t4, .int z5 t5, .int z6 t6, .int z7 t7, .int z8 t8, .int z9 t9, .int z10 t10, .int z11 t11, .int z12 t12, .int z13 t13] 13) :: tp)) ?_ ?_
  ·
    (iterate 6 walk1)
    k_dflt (refine LCg.ListComp_U (F₀ := F7) (by with_unfolding_all rfl) (by decide) (by rfl) (by decide) (by rfl) ?_)
    (iterate 8 walk1)
    rename_i Ds h8 F8 N8 l8
    refine LCg.CompSrc.ledger (by rfl) F8 N8 List.mem_cons_self (by first | size_fits | exact Nat.le_of_ble_eq_true rfl) ?_
    intro g9
    refine compRest_inv (n := 5) (J7 _ [z9, z10, z11, z12, z13]) ?_ ?_ 5 0 [] _ rfl ⟨fun p hp => hp, StrsAre.nil⟩
    · intro i ys nw v I oI C oC Da m₂ h tk hi hJ hP hC hx F9 N9 off ne
      obtain ⟨tz, rfl⟩ := item5 hP
      have hsrc := hJ.1 _ List.mem_cons_self
      have hsg : (s₁.heap.objs.size+1+1+1+1+1, os) ∈ nw := hJ.1 _ (by simp)
      have hst := fun {t : Tok} => J7_step (t := t) hJ hi
      generalize [z9, z10, z11, z12, z13].getD i 0 = z at hx hst
      clear F8 l8 hP hJ N8
      k_steps
      exact comp_same F9 N9 off (Or.inr ⟨_, hsrc, rfl, _, rfl⟩) hst
    · intro ys nw hJ
      unfold LCg.FinE
      intro Dt h9 tk9 F9 N9 off9
      have hlst : h9.IsList Dt ys.toArray := ⟨_, (N9 _ List.mem_cons_self).1, rfl, _, rfl⟩
      have hstr : StrsAre ys [sgn z9, sgn z10, sgn z11, sgn z12, sgn z13] := hJ.2
      have N10 : News s₁.heap s₁.heap.objs.size h9 (cellsOf s₁.heap.objs.size o1 og on od os o6 o7 o8 o9 o10 ((Dd, LCg.lst dv) :: (D, W.listOf #[.int z1 t1, .int z2 t2, .int z3 t3, .int z4 t4, .int z5 t5, .int z6 t6, .int z7 t7, .int z8 t8, .int z9 t9, .int z10 t10, .int z11 t11, .int z12 t12, .int z13 t13] 13) :: tp)) := fun p hp => N9 p (List.mem_cons_of_mem _ (hJ.1 p (List.mem_cons_of_mem _ hp)))
      clear hJ F8 N8 l8 off9 N9
      dsimp only [cellsOf] at N10
      k_steps
      refine join_listW (items := ys.toArray) hlst hstr (by decide) (by simp only [List.map_cons, List.map_nil, List.sum_cons, List.sum_nil, List.length_cons, List.length_nil, sgn_len]; decide) ?_
      intro t' k'
      dsimp only
      k_steps
      rename_i h10 ot F10 N11 dt
      exact ⟨rfl, h10, _, ot, _, rfl, dt, F10, N11, off7⟩
  rintro s' ⟨h8, tk8, ot, tt, rfl, dt, F8, N8, off8⟩
  dsimp only [cellsOf] at N8
  clear F7 N7 off7 d6 o6
  obtain ⟨hT5, hTa⟩ := text_ok z9 z10 z11 z12 z13
  generalize Txt.join (Str.ofString "") [sgn z9, sgn z10, sgn z11, sgn z12, sgn z13] = TT at dt hT5 hTa
  with_reducible refine stmt_cut (fun s' => ∃ (h : Heap) (tk : Nat) (oh : Obj) (H : Addr), s' = { s₁ with heap := h, toks := tk } ∧ oh.data = .cell (some (.ref H)) ∧ LawSt s₁.heap s₁.heap.objs.size h (mG D gl tg) o1 og on od os ot oh o8 o9 o10 ((H, handsO 0) :: (Dd, LCg.lst dv) :: tp)) ?_ ?_
  ·
    k_steps
    rename_i H h9 l9 h10 oh F10 N10 dh
    have hoH : Off10 s₁.heap.objs.size H := off_lt l9.1
    exact ⟨rfl, h10, _, oh, H, rfl, dh, LawSt.sub (LawSt.add F10 N10 off8 hoH) (fun p hp => mem_skip3 hp)⟩
  rintro s' ⟨h9, tk9, oh, H, rfl, dh, F9, N9, off9⟩
  dsimp only [cellsOf] at N9
  clear F8 N8 off8 d7 o7
  have offx := off9
  simp only [List.forall_mem_cons] at offx
  obtain ⟨hoH, -⟩ := offx
  with_reducible refine stmt_cut (fun s' => ∃ (h : Heap) (tk : Nat) (ob : Obj) (Tb b1 b2 b3 b4 b5 : Addr) (x1 x2 x3 x4 x5 : Obj), s' = { s₁ with heap := h, toks := tk } ∧ ob.data = .cell (some (.ref Tb)) ∧ (TabOk w b1 x1 0 ∧ TabOk w b2 x2 1 ∧ TabOk w b3 x3 2 ∧ TabOk w b4 x4 3 ∧ TabOk w b5 x5 4) ∧ LawSt s₁.heap s₁.heap.objs.size h (mG D gl tg) o1 og on od os ot oh ob o9 o10 ((Tb, W.listOf #[.ref b1, .ref b2, .ref b3, .ref b4, .ref b5] 0) :: (b5, x5) :: (b4, x4) :: (b3, x3) :: (b2, x2) :: (b1, x1) :: (H, handsO 0) :: (Dd, LCg.lst dv) :: tp)) ?_ ?_
  ·
    k_steps
    rename_i g1 x1 lo1 hd1 hf1 ap1 l1 g2 x2 lo2 hd2 hf2 ap2 l2 g3 x3 lo3 hd3 hf3 ap3 l3 g4 x4 lo4 hd4 hf4 ap4 l4 g5 x5 lo5 hd5 hf5 ap5 l5 Tb g6 l6 g7 ob F10 N10 db
    refine ⟨rfl, g7, _, ob, Tb, _, _, _, _, _, x1, x2, x3, x4, x5, rfl, db, ⟨⟨lo1, _, hd1, hf1⟩, ⟨lo2, _, hd2, hf2⟩, ⟨lo3, _, hd3, hf3⟩, ⟨lo4, _, hd4, hf4⟩, ⟨lo5, _, hd5, hf5⟩⟩, LawSt.adds [_, _, _, _, _, _] F10 N10 off9 ?_⟩
    simp only [List.forall_mem_cons, List.not_mem_nil, false_implies, implies_true, and_true]
    clear hf1 hf2 hf3 hf4 hf5 hd1 hd2 hd3 hd4 hd5 ap1 ap2 ap3 ap4 ap5
    exact ⟨off_lt l6.2.2.2.2.2.1, off_lt l5.2.2.2.2.1, off_lt l4.2.2.2.1, off_lt l3.2.2.1, off_lt l2.2.1, off_lt l1.1⟩
  rintro s' ⟨h10, tk10, ob, Tb, b1, b2, b3, b4, b5, x1, x2, x3, x4, x5, rfl, db, ⟨hx1, hx2, hx3, hx4, hx5⟩, F10, N10, off10⟩
  dsimp only [cellsOf] at N10
  clear F9 N9 off9 d8 o8
  have offx := off10
  simp only [List.forall_mem_cons] at offx
  obtain ⟨hoT, hob5, hob4, hob3, hob2, hob1, -⟩ := offx
  with_reducible refine stmt_cut (fun s' => ∃ (h : Heap) (tk : Nat) (ow : Obj) (vw : Option Value), s' = { s₁ with heap := h, toks := tk } ∧ ow.data = .cell vw ∧ LawSt s₁.heap s₁.heap.objs.size h (mG D gl tg) o1 og on od os ot oh ob ow o10 ((H, handsO 0) :: (Dd, LCg.lst dv) :: tp)) ?_ ?_
  ·
    refine wpAny_For ?_
    (iterate 7 walk1)
    rename_i g1 tk1 ta tb tc hr Fr1 Nr1 hkp
    refine for_range rfl Fr1 Nr1 hr (by decide) (n := 5) (by decide) (fun _ mm news => mm = mG D gl tg ∧ ∃ ow vw, ow.data = .cell vw ∧ news = cellsOf s₁.heap.objs.size o1 og on od os ot oh ob ow o10 ((Tb, W.listOf #[.ref b1, .ref b2, .ref b3, .ref b4, .ref b5] 0) :: (b5, x5) :: (b4, x4) :: (b3, x3) :: (b2, x2) :: (b1, x1) :: (H, handsO 0) :: (Dd, LCg.lst dv) :: tp)) ⟨rfl, o9, _, d9, rfl⟩ ?_ ?_
    · rintro i ti mm nw h tk I oI hi ⟨rfl, ow, vw, dw, rfl⟩ hoff FF NN
      replace FF : Fr s₁.heap s₁.heap.objs.size h (mG D gl tg) := FF
      replace NN : News s₁.heap s₁.heap.objs.size h ((I, oI) :: cellsOf s₁.heap.objs.size o1 og on od os ot oh ob ow o10 ((Tb, W.listOf #[.ref b1, .ref b2, .ref b3, .ref b4, .ref b5] 0) :: (b5, x5) :: (b4, x4) :: (b3, x3) :: (b2, x2) :: (b1, x1) :: (H, handsO 0) :: (Dd, LCg.lst dv) :: tp)) := NN
      have hoI : Off10 s₁.heap.objs.size I := off_iter hoff
      dsimp only [cellsOf] at NN
      clear Fr1 Nr1 hkp hr
      obtain ⟨q, hq⟩ : ∃ q : Int, q = 0 + (i : Int) := ⟨_, rfl⟩
      rw [← hq]
      have hq0 : 0 ≤ q := by omega
      have hq5 : q < 5 := by omega
      clear hq hi
      have hj5 : q.toNat < 5 := by omega
      obtain ⟨fa9, hE, hfa⟩ := esc_item hj5
      obtain ⟨bb, xx, hxx, htb, hmb⟩ := tab_item hx1 hx2 hx3 hx4 hx5 hj5
      (iterate 21 walk1)
      rename_i g2 o' F2 N2 d' t9 g9 k9 F9 N9 b9
      clear F2 N2
      replace F9 : Fr s₁.heap s₁.heap.objs.size g9 (mG D gl tg) := F9
      replace N9 : News s₁.heap s₁.heap.objs.size g9 ((I, oI) :: cellsOf s₁.heap.objs.size o1 og on od os ot oh ob o' o10 ((Tb, W.listOf #[.ref b1, .ref b2, .ref b3, .ref b4, .ref b5] 0) :: (b5, x5) :: (b4, x4) :: (b3, x3) :: (b2, x2) :: (b1, x1) :: (H, handsO 0) :: (Dd, LCg.lst dv) :: tp)) := N9
      k_dflt (refine ListComp_str (h₀ := s₁.heap) (L := s₁.heap.objs.size) (m := mG D gl tg) (by with_unfolding_all rfl) (by decide) (by rfl) (by decide) (by rfl) ?_)
      walk1
      refine ⟨TT, tt, _, rfl, hTa, rfl, F9, N9, (by have e : TT.cps.size = TT.length := rfl; rw [e, hT5, sizeLine_eq]; omega), ?_⟩
      intro gg
      refine compRest_inv (n := TT.cps.size) (J10 _ q.toNat TT.cps.toList) ?_ ?_ _ 0 [] _ (by simp) ⟨fun p hp => hp, StrsAre.nil⟩
      · intro i ys nw v I2 oI2 C oC Da m₂ h tk hi hJ hP hC hx F11 N11 off ne
        obtain ⟨c, uc, hcc, rfl⟩ := hP
        have q1 : (s₁.heap.objs.size+1+1+1+1+1+1+1+1, ob) ∈ nw := hJ.1 _ (by simp)
        have q2 : (s₁.heap.objs.size+1+1+1+1+1+1+1+1+1, o') ∈ nw := hJ.1 _ (by simp)
        have q3 : (Tb, W.listOf #[.ref b1, .ref b2, .ref b3, .ref b4, .ref b5] 0) ∈ nw := hJ.1 _ (by simp)
        have q4 : (bb, xx) ∈ nw := hJ.1 _ (List.mem_cons_of_mem _ (mem_tl (List.mem_cons_of_mem _ (List.mem_append_left _ hmb))))
        have hst := fun {t : Tok} => J10_step (t := t) hJ (by simpa using hcc)
        obtain ⟨lo, kvs, hD, hF⟩ := hxx
        clear F9 N9 hJ hcc
        (iterate 5 walk1)
        (k_here; k_dflt (refine item_listL (News.isList N11 (List.mem_cons_of_mem _ (List.mem_cons_of_mem _ (List.mem_cons_of_mem _ q3)))) (by omega) (by omega) htb ?_))
        (iterate 7 walk1)
        k_dflt (refine call_get2_strTab (TabAt.ofNews N11 (List.mem_cons_of_mem _ (List.mem_cons_of_mem _ (List.mem_cons_of_mem _ q4))) lo hD hF) (PyProof.V.Flat.str _ _) ?_)
        intro v hv
        obtain ⟨t', rfl⟩ := str_of_flat hv
        exact comp_same F11 N11 off trivial hst
      · intro ys nw hJ
        unfold LCg.FinE
        intro Dt h9 tk9 F12 N12 off12
        have hlst : h9.IsList Dt ys.toArray := ⟨_, (N12 _ List.mem_cons_self).1, rfl, _, rfl⟩
        have hstr := J10_end hJ
        have N13 : News s₁.heap s₁.heap.objs.size h9 ((I, oI) :: cellsOf s₁.heap.objs.size o1 og on od os ot oh ob o' o10 ((Tb, W.listOf #[.ref b1, .ref b2, .ref b3, .ref b4, .ref b5] 0) :: (b5, x5) :: (b4, x4) :: (b3, x3) :: (b2, x2) :: (b1, x1) :: (H, handsO 0) :: (Dd, LCg.lst dv) :: tp)) := fun p hp => N12 p (List.mem_cons_of_mem _ (hJ.1 p hp))
        clear hJ F9 N9 off12 N12
        dsimp only [cellsOf] at N13
        k_steps
        refine join_listW (items := ys.toArray) hlst hstr (by decide) (sum_hand q.toNat TT hT5) ?_
        intro t' k'
        rw [join_hand]
        dsimp only
        k_steps
        · rename_i hne; exact absurd hne (by simp)
        · exact ⟨rfl, h9, _, _, _, rfl, F12, N13, off_cells hoff, rfl, o', _, d', rfl⟩
    · rintro mm nw h tk ⟨rfl, ow, vw, dw, rfl⟩ FF NN
      exact ⟨rfl, h, tk, ow, vw, rfl, dw, LawSt.sub ⟨FF, NN, off10⟩ (fun p hp => List.mem_append_right [_, _, _, _, _, _] hp)⟩
  rintro s' ⟨h11, tk11, ow, vw, rfl, dw, F11, N11, off11⟩
  dsimp only [cellsOf] at N11
  clear F10 N10 off10 d9 o9
  obtain ⟨ds, hD0⟩ : ∃ ds, DeedsAt ((H, handsO 0) :: (Dd, LCg.lst dv) :: tp) Dd H ds := ⟨[deedOf z3, deedOf z4, deedOf z5, deedOf z6, deedOf z7, deedOf z8], deedsAt_tl hdi⟩
  have hDA : DeedsAt (cellsOf s₁.heap.objs.size o1 og on od os ot oh ob ow o10 ((H, handsO 0) :: (Dd, LCg.lst dv) :: tp)) Dd H ds := hD0.mono fun p hp => mem_tl hp
  dsimp only [cellsOf] at hDA
  obtain ⟨hok, hl6⟩ : okDs ds ∧ ds.length = 6 := ⟨hD0.2.1, hD0.2.2.1⟩
  clear hx1 hx2 hx3 hx4 hx5
  with_reducible refine stmt_cut (fun s' => ∃ (h : Heap) (tk : Nat) (ol : Obj) (tl : Tok), s' = { s₁ with heap := h, toks := tk } ∧ ol.data = .cell (some (.int (forthZ TT ds nr) tl)) ∧ LawSt s₁.heap s₁.heap.objs.size h (mG D gl tg) o1 og on od os ot oh ob ow ol ((H, handsO 0) :: (Dd, LCg.lst dv) :: tp)) ?_ ?_
  ·
    k_steps
    rename_i h12 ol F12 N12 dl
    exact ⟨rfl, h12, _, ol, _, rfl, dl, F12, N12, off11⟩
  rintro s' ⟨h12, tk12, ol, tl, rfl, dl, F12, N12, off12⟩
  dsimp only [cellsOf] at N12
  clear F11 N11 off11 d10 o10 hDA
  have hDA : DeedsAt (cellsOf s₁.heap.objs.size o1 og on od os ot oh ob ow ol ((H, handsO 0) :: (Dd, LCg.lst dv) :: tp)) Dd H ds := hD0.mono fun p hp => mem_tl hp
  have hled := forth_small hT5 hok hl6 (x := nr) (by omega) (by omega)
  generalize hle : forthZ TT ds nr = led at dl hled
  with_reducible refine stmt_cut (fun s' => ∃ (h : Heap) (tk : Nat) (Do : Addr) (Dov : List Value), s' = { s₁ with heap := h, toks := tk } ∧ IntsAre Dov (rowZ (fun x => x + forthZ TT ds x) (nr - 3) 7) ∧ LawSt s₁.heap s₁.heap.objs.size h (mO D gl tg Do) o1 og on od os ot oh ob ow ol ((Do, LCg.lst Dov) :: ((H, handsO 0) :: (Dd, LCg.lst dv) :: tp))) ?_ ?_
  ·
    k_dflt (refine LCg.Assign_ListComp_U (F₀ := F12) (by rfl) (by with_unfolding_all rfl) (by with_unfolding_all rfl) (by decide) (by rfl) (by decide) (by rfl) (by rfl) (by rfl) ?_)
    (iterate 15 walk1)
    rename_i g1 tk1 ta tb tc hr Fr1 Nr1 hkp
    have hb7 : nr + 4 = nr - 3 + 7 := by omega
    have ha1 : -(2 ^ 61) ≤ nr - 3 := by omega
    have ha2 : nr - 3 + 7 ≤ 2 ^ 61 := by omega
    k_dflt (refine LCg.CompSrc.range (by rfl) Fr1 Nr1 hr (rng_small ha1 ha2 hb7) (size7 _ _ hb7) (by first | size_fits | exact Nat.le_of_ble_eq_true rfl) ?_)
    intro g7
    refine compRest_inv (n := 7) (J12 _ (fun x => x + forthZ TT ds x) (nr - 3)) ?_ ?_ 7 0 [] _ rfl ⟨fun p hp => hp, IntsAre.nil⟩
    · intro i ys nw v I oI C oC Da m₂ h tk hi hJ hP hC hx F7 N7 off ne
      obtain ⟨tz, rfl⟩ := hP
      have hDn : DeedsAt ((I, oI) :: (C, oC) :: (Da, LCg.lst ys) :: nw) Dd H ds := hDA.mono fun p hp => List.mem_cons_of_mem _ (List.mem_cons_of_mem _ (List.mem_cons_of_mem _ (hJ.1 p hp)))
      have q4 : (s₁.heap.objs.size+1+1+1+1, od) ∈ nw := hJ.1 _ (by simp)
      have q6 : (s₁.heap.objs.size+1+1+1+1+1+1, ot) ∈ nw := hJ.1 _ (by simp)
      have q7 : (s₁.heap.objs.size+1+1+1+1+1+1+1, oh) ∈ nw := hJ.1 _ (by simp)
      have hst := fun {t : Tok} => J12_step (t := t) hJ
      obtain ⟨hx1, hx2⟩ := rng_in (i := i) ha1 ha2 hi
      generalize nr - 3 + (i : Int) = x at hx hst hx1 hx2
      (try clear F12); (try clear N12); (try clear hkp); clear Fr1 Nr1 hr hJ hi hDA hD0 ha1 ha2 hb7
      k_steps
      exact comp_same (by assumption) (by assumption) off trivial hst
    · intro ys nw hJ
      unfold LCg.FinA
      intro Do h8 tk8 F8 N8 off8
      exact ⟨rfl, h8, _, Do, ys, rfl, hJ.2, fin_led F8 N8 (fun p hp => hJ.1 p hp) off12 d1 dg dn dd (by assumption) dt dh db dw dl (lst_nocell ys)⟩
  rintro s' ⟨h13, tkh13, Do, Dov, rfl, hiDo, Fh13, Nh13, offh13⟩
  dsimp only [cellsOf] at Nh13
  clear F12 N12 off12 hDA
  have hDA : DeedsAt (cellsOf s₁.heap.objs.size o1 og on od os ot oh ob ow ol ((Do, LCg.lst Dov) :: ((H, handsO 0) :: (Dd, LCg.lst dv) :: tp))) Dd H ds := hD0.mono fun p hp => mem_tl (List.mem_cons_of_mem _ hp)
  have hoDo : Off10 s₁.heap.objs.size Do := offh13 _ List.mem_cons_self
  with_reducible refine stmt_cut (fun s' => ∃ (h : Heap) (tk : Nat) (Dp : Addr) (Dpv : List Value), s' = { s₁ with heap := h, toks := tk } ∧ IntsAre Dpv (rowZ (fun x => x + backZ TT ds x + 1) (led - 3) 7) ∧ LawSt s₁.heap s₁.heap.objs.size h (mP D gl tg Do Dp) o1 og on od os ot oh ob ow ol ((Dp, LCg.lst Dpv) :: ((Do, LCg.lst Dov) :: ((H, handsO 0) :: (Dd, LCg.lst dv) :: tp)))) ?_ ?_
  ·
    k_dflt (refine LCg.Assign_ListComp_U (F₀ := Fh13) (by rfl) (by with_unfolding_all rfl) (by with_unfolding_all rfl) (by decide) (by rfl) (by decide) (by rfl) (by rfl) (by rfl) ?_)
    (iterate 15 walk1)
    rename_i g1 tk1 ta tb tc hr Fr1 Nr1 hkp
    have hb7 : led + 4 = led - 3 + 7 := by omega
    have ha1 : -(2 ^ 61) ≤ led - 3 := by omega
    have ha2 : led - 3 + 7 ≤ 2 ^ 61 := by omega
    k_dflt (refine LCg.CompSrc.range (by rfl) Fr1 Nr1 hr (rng_small ha1 ha2 hb7) (size7 _ _ hb7) (by first | size_fits | exact Nat.le_of_ble_eq_true rfl) ?_)
    intro g7
    refine compRest_inv (n := 7) (J12 _ (fun x => x + backZ TT ds x + 1) (led - 3)) ?_ ?_ 7 0 [] _ rfl ⟨fun p hp => hp, IntsAre.nil⟩
    · intro i ys nw v I oI C oC Da m₂ h tk hi hJ hP hC hx F7 N7 off ne
      obtain ⟨tz, rfl⟩ := hP
      have hDn : DeedsAt ((I, oI) :: (C, oC) :: (Da, LCg.lst ys) :: nw) Dd H ds := hDA.mono fun p hp => List.mem_cons_of_mem _ (List.mem_cons_of_mem _ (List.mem_cons_of_mem _ (hJ.1 p hp)))
      have q4 : (s₁.heap.objs.size+1+1+1+1, od) ∈ nw := hJ.1 _ (by simp)
      have q6 : (s₁.heap.objs.size+1+1+1+1+1+1, ot) ∈ nw := hJ.1 _ (by simp)
      have q7 : (s₁.heap.objs.size+1+1+1+1+1+1+1, oh) ∈ nw := hJ.1 _ (by simp)
      have hst := fun {t : Tok} => J12_step (t := t) hJ
      obtain ⟨hx1, hx2⟩ := rng_in (i := i) ha1 ha2 hi
      generalize led - 3 + (i : Int) = x at hx hst hx1 hx2
      (try clear Fh13); (try clear Nh13); (try clear hkp); clear Fr1 Nr1 hr hJ hi hDA hD0 ha1 ha2 hb7
      k_steps
      exact comp_same (by assumption) (by assumption) off trivial hst
    · intro ys nw hJ
      unfold LCg.FinA
      intro Dp h8 tk8 F8 N8 off8
      exact ⟨rfl, h8, _, Dp, ys, rfl, hJ.2, fin_led F8 N8 (fun p hp => hJ.1 p hp) offh13 d1 dg dn dd (by assumption) dt dh db dw dl (lst_nocell ys)⟩
  rintro s' ⟨h14, tkh14, Dp, Dpv, rfl, hiDp, Fh14, Nh14, offh14⟩
  dsimp only [cellsOf] at Nh14
  clear Fh13 Nh13 offh13 hDA
  have hDA : DeedsAt (cellsOf s₁.heap.objs.size o1 og on od os ot oh ob ow ol ((Dp, LCg.lst Dpv) :: ((Do, LCg.lst Dov) :: ((H, handsO 0) :: (Dd, LCg.lst dv) :: tp)))) Dd H ds := hD0.mono fun p hp => mem_tl (List.mem_cons_of_mem _ (List.mem_cons_of_mem _ hp))
  have hoDp : Off10 s₁.heap.objs.size Dp := offh14 _ List.mem_cons_self
  with_reducible refine stmt_cut (fun s' => ∃ (h : Heap) (tk : Nat) (Da : Addr) (Dav : List Value), s' = { s₁ with heap := h, toks := tk } ∧ IntsAre Dav ((rowZ (fun x => x + forthZ TT ds x) (nr - 3) 7 ++ rowZ (fun x => x + backZ TT ds x + 1) (led - 3) 7).filter (aboutP nr led)) ∧ LawSt s₁.heap s₁.heap.objs.size h (mA D gl tg Do Dp Da) o1 og on od os ot oh ob ow ol ((Da, LCg.lst Dav) :: ((H, handsO 0) :: (Dd, LCg.lst dv) :: tp))) ?_ ?_
  ·
    k_dflt (refine LCt.Assign_ListComp_T (F₀ := Fh14) (by rfl) (by with_unfolding_all rfl) (by with_unfolding_all rfl) (by decide) (by rfl) (by decide) (by rfl) (by rfl) (by rfl) ?_)
    (iterate 4 walk1)
    rename_i Dw ws g1 F1 N1 hI1 l1
    have hwl : ws.length = 14 := IntsAre.length hI1
    k_dflt (refine LCt.CompSrcT.ledger (by rfl) F1 N1 List.mem_cons_self (by rw [List.size_toArray, hwl, sizeLine_eq]; omega) ?_)
    intro g7
    refine compRestT_inv (n := ws.toArray.size) (J14 _ (aboutP nr led) (rowZ (fun x => x + forthZ TT ds x) (nr - 3) 7 ++ rowZ (fun x => x + backZ TT ds x + 1) (led - 3) 7)) ?_ ?_ _ 0 [] _ (by simp) ⟨fun p hp => hp, IntsAre.nil⟩
    · intro i ys nw v I oI C oC Da m₂ h tk hi hJ hP hC hx F7 N7 off ne
      obtain ⟨z, tz, rfl, hz⟩ := ints_item hI1 (i := i) (v := v) (by simpa using hP)
      have hsrc := hJ.1 _ List.mem_cons_self
      have q3 : (s₁.heap.objs.size+1+1+1, on) ∈ nw := hJ.1 _ (by simp)
      have q10 : (s₁.heap.objs.size+1+1+1+1+1+1+1+1+1+1, ol) ∈ nw := hJ.1 _ (by simp)
      have hin := fun {t : Tok} => J14_in (t := t) hJ hz
      have hout := J14_out hJ hz
      (try clear Fh14); (try clear Nh14); (try clear l1); clear F1 N1 hJ hi hDA hD0 hP hz hI1 hiDo hiDp
      k_steps
      · exact comp_same F7 N7 off (Or.inr ⟨_, hsrc, rfl, _, rfl⟩) (hin (aboutP_t (by assumption) (by assumption)))
      · exact comp_same F7 N7 off (Or.inr ⟨_, hsrc, rfl, _, rfl⟩) (hout (aboutP_f2 (by assumption)))
      · exact comp_same F7 N7 off (Or.inr ⟨_, hsrc, rfl, _, rfl⟩) (hout (aboutP_f1 (by assumption)))
    · intro ys nw hJ
      unfold LCg.FinA
      intro Da h8 tk8 F8 N8 off8
      have hI2 := J14_end hJ (Nat.le_of_eq (by rw [List.size_toArray, IntsAre.length hI1]))
      exact ⟨rfl, h8, _, Da, ys, rfl, hI2, fin_led F8 N8 (fun p hp => hJ.1 p (List.mem_cons_of_mem _ (LawSt.subMem hp))) (fun p hp => offh14 p (List.mem_cons_of_mem _ (List.mem_cons_of_mem _ hp))) d1 dg dn dd (by assumption) dt dh db dw dl (lst_nocell ys)⟩
  rintro s' ⟨h15, tk15, Da, Dav, rfl, hiDa, F15, N15, off15⟩
  dsimp only [cellsOf] at N15
  clear Fh14 Nh14 offh14 hDA hiDo hiDp hoDo hoDp
  have hDA : DeedsAt (cellsOf s₁.heap.objs.size o1 og on od os ot oh ob ow ol ((Da, LCg.lst Dav) :: ((H, handsO 0) :: (Dd, LCg.lst dv) :: tp))) Dd H ds := hD0.mono fun p hp => mem_tl (List.mem_cons_of_mem _ hp)
  have hoDa : Off10 s₁.heap.objs.size Da := off15 _ List.mem_cons_self
  have hspan := fun {ns : List Int} hp ho => span_told hT5 hok nr hle (ns := ns) hp ho
  have hzl : ((rowZ (fun x => x + forthZ TT ds x) (nr - 3) 7 ++ rowZ (fun x => x + backZ TT ds x + 1) (led - 3) 7).filter (aboutP nr led)).length < 64 := Nat.lt_of_le_of_lt (List.length_filter_le ..) (by show 14 < 64; decide)
  generalize (rowZ (fun x => x + forthZ TT ds x) (nr - 3) 7 ++ rowZ (fun x => x + backZ TT ds x + 1) (led - 3) 7).filter (aboutP nr led) = za at hiDa hspan hzl
  with_reducible refine stmt_cut (fun s' => ∃ (h : Heap) (tk : Nat), s' = { s₁ with heap := h, toks := tk } ∧ LawSt s₁.heap s₁.heap.objs.size h (mA D gl tg Do Dp Da) o1 og on od os ot oh ob ow ol ((H, handsO 0) :: (Dd, LCg.lst dv) :: tp)) ?_ ?_
  ·
    (iterate 8 walk1)
    have hlst : h15.IsList Da Dav.toArray := ⟨_, (N15 (Da, LCg.lst Dav) (mem_tl (tl := ((Da, LCg.lst Dav) :: ((H, handsO 0) :: (Dd, LCg.lst dv) :: tp))) List.mem_cons_self)).1, rfl, _, rfl⟩
    k_here
    k_dflt (refine kso_sorted F15 N15 hlst hiDa hzl ?_)
    intro Ds vs1 ns1 c1 h16 F16 N16 l1 hi1 e1 p1 o1' b1'
    obtain rfl := hspan p1 o1'
    clear hlst e1 p1 o1' b1' hspan
    k_steps
    · rename_i F17 N17 hI17 l17 e17
      exact ⟨rfl, _, _, rfl, LawSt.sub (tl := ((Da, LCg.lst Dav) :: ((H, handsO 0) :: (Dd, LCg.lst dv) :: tp))) ⟨F17, fun p hp => N17 p (List.mem_cons_of_mem _ (List.mem_cons_of_mem _ hp)), off15⟩ (fun p hp => List.mem_cons_of_mem _ hp)⟩
    · rename_i e17
      exact absurd (row_range (nr + led)) e17
  rintro s' ⟨h17, tk17, rfl, F17, N17, off17⟩
  dsimp only [cellsOf] at N17
  clear F15 N15 off15 hDA hoDa hiDa hspan hzl hle hled dl
  have hDA : DeedsAt (cellsOf s₁.heap.objs.size o1 og on od os ot oh ob ow ol ((H, handsO 0) :: (Dd, LCg.lst dv) :: tp)) Dd H ds := hD0.mono fun p hp => mem_tl hp
  have htop := back_small hT5 hok hl6 (x := gl) (by omega) (by omega)
  have hgal := fun x => gal_row hT5 ds hok x gl
  with_reducible refine stmt_cut (fun s' => ∃ (h : Heap) (tk : Nat) (tq : Tok), s' = { s₁ with heap := h, toks := tk } ∧ LawSt s₁.heap s₁.heap.objs.size h (mTop D gl tg Do Dp Da (backZ TT ds gl) tq) o1 og on od os ot oh ob ow ol ((H, handsO 0) :: (Dd, LCg.lst dv) :: tp)) ?_ ?_
  ·
    k_steps
    rename_i h18 F18 N18
    exact ⟨rfl, h18, _, _, rfl, F18, N18, off17⟩
  rintro s' ⟨h18, tk18, tq, rfl, F18, N18, off18⟩
  dsimp only [cellsOf] at N18
  clear F17 N17 off17
  generalize backZ TT ds gl = top at F18 hgal htop
  have hup := (hgal top).mpr (Int.le_refl _)
  have hbe := mt (hgal (top + 1)).mp (by omega)
  clear hgal
  with_reducible refine stmt_cut (fun s' => ∃ (h : Heap) (tk : Nat) (tq2 : Tok), s' = { s₁ with heap := h, toks := tk } ∧ LawSt s₁.heap s₁.heap.objs.size h (mUpto D gl tg Do Dp Da top tq (forthZ TT ds top) tq2) o1 og on od os ot oh ob ow ol ((H, handsO 0) :: (Dd, LCg.lst dv) :: tp)) ?_ ?_
  ·
    k_steps
    rename_i h19 F19 N19
    exact ⟨rfl, h19, _, _, rfl, F19, N19, off18⟩
  rintro s' ⟨h19, tk19, tq2, rfl, F19, N19, off19⟩
  dsimp only [cellsOf] at N19
  clear F18 N18 off18
  generalize forthZ TT ds top = upt at F19 hup
  with_reducible refine stmt_cut (fun s' => ∃ (h : Heap) (tk : Nat) (tq3 : Tok), s' = { s₁ with heap := h, toks := tk } ∧ LawSt s₁.heap s₁.heap.objs.size h (mBey D gl tg Do Dp Da top tq upt tq2 (forthZ TT ds (top + 1)) tq3) o1 og on od os ot oh ob ow ol ((H, handsO 0) :: (Dd, LCg.lst dv) :: tp)) ?_ ?_
  ·
    k_steps
    rename_i h20 F20 N20
    exact ⟨rfl, h20, _, _, rfl, F20, N20, off19⟩
  rintro s' ⟨h20, tk20, tq3, rfl, F20, N20, off20⟩
  dsimp only [cellsOf] at N20
  clear F19 N19 off19 hDA hD0
  generalize forthZ TT ds (top + 1) = bey at F20 hbe
  k_steps)
end Mine

set_option maxRecDepth 100000 in
set_option maxHeartbeats 8000000 in
theorem PySem.Challenge.cw_ph0100_01_holds : PySem.Challenge.rw_ph0100_01.Holds := by
  exact Mine.t1
