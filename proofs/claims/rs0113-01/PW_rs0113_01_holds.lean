import PyProof.Rows.All
import Wide.All
import OpenK.AllK
import Wide.FinOn
import Lean
import PySem.Challenge.RW_rs0113_01
open PySem PySem.W PyProof.Rows
set_option Elab.async false
set_option compiler.extract_closed false
namespace Mine
set_option maxRecDepth 100000 in
set_option maxHeartbeats 8000000 in
open_top hd for PySem.Challenge.rw_rs0113_01
theorem isList_in {h₀ h : Heap} {L l : Addr} {news : List (Addr × Obj)} {vs : List Value} {n : Nat} (N : News h₀ L h news) (hm : (l, listOf vs.toArray n) ∈ news) : h.IsList l vs.toArray := ⟨_, (N _ hm).1, rfl, n, rfl⟩
theorem news_tail {h₀ h : Heap} {L : Addr} {x : Addr × Obj} {news : List (Addr × Obj)} (N : News h₀ L h (x :: news)) : News h₀ L h news := fun p hp => N p (List.mem_cons_of_mem _ hp)
/-- the ints of a list, put in order -/
def srt (ns : List Int) : List Int := ns.mergeSort (fun a b => decide (a ≤ b))
theorem srt_perm (ns : List Int) : (srt ns).Perm ns := List.mergeSort_perm ns _
theorem srt_sorted (ns : List Int) : (srt ns).Pairwise (· ≤ ·) := by
  have h := List.pairwise_mergeSort (le := fun a b : Int => decide (a ≤ b)) (by intro a b c; simp; omega) (by intro a b; simp; omega) ns
  exact h.imp (by intro a b h; simpa using h)
theorem srt_length (ns : List Int) : (srt ns).length = ns.length := (srt_perm ns).length_eq
theorem srt_eq {ns n' : List Int} (hp : n'.Perm ns) (ho : n'.Pairwise (· ≤ ·)) : n' = srt ns :=
  List.Perm.eq_of_pairwise (fun a b _ _ h1 h2 => Int.le_antisymm h1 h2) ho (srt_sorted ns) (hp.trans (srt_perm ns).symm)
theorem fmod2 (a : Int) : Int.fmod a 2 = a % 2 := Int.fmod_eq_emod_of_nonneg a (by decide)
theorem fdiv2 (a : Int) : Int.fdiv a 2 = a / 2 := Int.fdiv_eq_ediv_of_nonneg a (by decide)
theorem ret_at {Q : Value → Shared → Prop} {x y : Int} {t : Tok} {s : Shared} (e : x = y) (h : Q (.int y t) s) : Q (.int x t) s := e ▸ h
/-- a cut of a list of ints: its two ends, what it holds, how many -/
def SlicePart (vs : List Value) (ns : List Int) (vl vu : Value) (ms : List Int) (c : Nat) : Prop := ∃ lo hi, IsPart vl lo ∧ IsPart vu hi ∧ IntsAre (slicePick vs.toArray lo hi none).toList ms ∧ ms.length = c
theorem sp_run {vs : List Value} {ns : List Int} {x y : Int} {t u : Tok} (hi : IntsAre vs ns) (h : 0 ≤ x) (h2 : 0 ≤ y) : SlicePart vs ns (.int x t) (.int y u) ((ns.drop x.toNat).take (min y.toNat ns.length - x.toNat)) (min (min y.toNat ns.length - x.toNat) (ns.length - x.toNat)) :=
  ⟨_, _, .int _ _, .int _ _, kmk_run hi h h2, (List.length_take ..).trans (congrArg _ (List.length_drop ..))⟩
theorem sp_upto {vs : List Value} {ns : List Int} {y : Int} {u : Tok} (hi : IntsAre vs ns) (h : 0 ≤ y) : SlicePart vs ns .none (.int y u) (ns.take y.toNat) (min y.toNat ns.length) :=
  ⟨_, _, .none, .int _ _, kmk_upto hi h, List.length_take ..⟩
theorem sp_from {vs : List Value} {ns : List Int} {x : Int} {t : Tok} (hi : IntsAre vs ns) (h : 0 ≤ x) : SlicePart vs ns (.int x t) .none (ns.drop x.toNat) (ns.length - x.toNat) :=
  ⟨_, _, .int _ _, .none, kmk_from hi h, List.length_drop ..⟩
theorem slice_ints {prog : Program} {w : World} {A : Around} {E : Value → Shared → Prop} {s : Shared} {h₀ : Heap} {L l : Addr} {m : Str → Option Value} {news : List (Addr × Obj)} {value slice : PySem.Expr} {vs : List Value} {ns ms : List Int} {c : Nat} {vl vu : Value} {Q : Value → Shared → Prop}
    (F : Fr h₀ L s.heap m) (N : News h₀ L s.heap news) (hl : s.heap.IsList l vs.toArray) (hi : IntsAre vs ns) (sp : SlicePart vs ns vl vu ms c) (hz : ns.length ≤ 64)
    (h : ∀ D ws h', Fr h₀ L h' m → News h₀ L h' ((D, listOf (List.toArray ws) 0) :: news) → (∀ p ∈ news, p.1 < D) → IntsAre ws ms → ms.length = c → ms.length ≤ ns.length → Q (.ref D) { s with heap := h' })
    (hs : subscripted slice false (.ref l) (.ref s.heap.objs.size) = operate [.ref s.heap.objs.size, .ref l] (getItem (.ref l) (.ref s.heap.objs.size))) (ht : ∀ r, letTemporaryGo value (.ref l) r = pure ()) :
    wpAny (model prog w) A (subscriptTail value slice (.ref l) (.ref s.heap.objs.size)) Q E { s with heap := s.heap.push { cls := .type "slice", data := .fields #[vl, vu, .none] } } := by
  obtain ⟨lo, hi', p1, p2, hm, hc⟩ := sp
  exact kmk_slice_ints F N hl p1 p2 hi hm hc h hs ht (kmk_sz hi (by rw [sizeLine_eq]; omega))
/-- the middle of an odd number of ints -/
def med (ns : List Int) : Int := (srt ns).getD (ns.length / 2) 0
theorem pw_append_max {xs : List Int} {M : Int} (h : xs.Pairwise (· ≤ ·)) (hM : ∀ a ∈ xs, a ≤ M) : (xs ++ [M]).Pairwise (· ≤ ·) := by
  rw [List.pairwise_append]
  exact ⟨h, List.pairwise_singleton _ _, fun a ha b hb => by simp at hb; subst hb; exact hM a ha⟩
theorem med_low {ns : List Int} {M : Int} (hM : ∀ a ∈ ns, a ≤ M) (hodd : ns.length % 2 = 1) : (srt ([M + 1] ++ ns)).getD ((([M + 1] ++ ns).length - 1) / 2) 0 = med ns := by
  have e : srt ns ++ [M + 1] = srt ([M + 1] ++ ns) := srt_eq ((List.perm_append_comm.trans (List.Perm.append_left _ (srt_perm ns)))) (pw_append_max (srt_sorted ns) fun a ha => by have := hM a ((srt_perm ns).mem_iff.mp ha); omega)
  have hl := srt_length ns
  rw [← e]
  unfold med
  have h2 : ([M + 1] ++ ns).length - 1 = ns.length := by simp
  rw [h2]
  simp only [List.getD_eq_getElem?_getD]
  rw [List.getElem?_append_left (by omega)]
theorem med_high {ns : List Int} {M : Int} (hM : ∀ a ∈ ns, M ≤ a) (hodd : ns.length % 2 = 1) : (srt (ns ++ [M - 1])).getD ((ns ++ [M - 1]).length / 2) 0 = med ns := by
  have e : (M - 1) :: srt ns = srt (ns ++ [M - 1]) := srt_eq ((List.Perm.cons _ (srt_perm ns)).trans (List.perm_append_comm (l₁ := [M - 1]))) (List.pairwise_cons.mpr ⟨fun a ha => by have := hM a ((srt_perm ns).mem_iff.mp ha); omega, srt_sorted ns⟩)
  rw [← e]
  unfold med
  have h2 : (ns ++ [M - 1]).length / 2 = ns.length / 2 + 1 := by simp; omega
  rw [h2]
  simp only [List.getD_eq_getElem?_getD, List.getElem?_cons_succ]
theorem perm_sum {a b : List Int} (h : a.Perm b) : a.sum = b.sum := by
  induction h with
  | nil => rfl
  | cons x _ ih => simp [ih]
  | swap x y l => simp; omega
  | trans _ _ h1 h2 => exact h1.trans h2
theorem med_three {ns : List Int} {M N : Int} (h3 : ns.length = 3) (hM : M ∈ ns) (hM' : ∀ a ∈ ns, a ≤ M) (hN : N ∈ ns) (hN' : ∀ a ∈ ns, N ≤ a) : ns.sum - M - N = med ns := by
  have hp := srt_perm ns
  have hs := srt_sorted ns
  have hl := srt_length ns
  unfold med
  rw [h3] at hl ⊢
  rw [← perm_sum hp]
  have m1 := hp.mem_iff (a := M)
  have m2 := hp.mem_iff (a := N)
  match hq : srt ns, hl with
  | [x, y, z], _ =>
    rw [hq] at hp hs m1 m2
    have hx := hM' x (hp.mem_iff.mp (by simp))
    have hy := hM' y (hp.mem_iff.mp (by simp))
    have hz := hM' z (hp.mem_iff.mp (by simp))
    have hx' := hN' x (hp.mem_iff.mp (by simp))
    have hy' := hN' y (hp.mem_iff.mp (by simp))
    have hz' := hN' z (hp.mem_iff.mp (by simp))
    have hM2 := m1.mpr hM
    have hN2 := m2.mpr hN
    simp at hM2 hN2 hs
    simp
    omega
theorem filter_nil_of {xs : List Int} {f : Int → Bool} (h : ∀ a ∈ xs, f a = false) : xs.filter f = [] := by
  rw [List.filter_eq_nil_iff]
  intro a ha; rw [h a ha]; exact Bool.false_ne_true
theorem med_counts {ns : List Int} (hodd : ns.length % 2 = 1) : (ns.filter fun a => decide (a < med ns)).length ≤ ns.length / 2 ∧ (ns.filter fun a => decide (med ns < a)).length ≤ ns.length / 2 := by
  have hp := srt_perm ns
  have hs := srt_sorted ns
  have hl := srt_length ns
  have hk : ns.length / 2 < (srt ns).length := by omega
  have hv : med ns = (srt ns)[ns.length / 2] := by unfold med; simp [hk]
  have p1 := (hp.filter fun a => decide (a < med ns)).length_eq
  have p2 := (hp.filter fun a => decide (med ns < a)).length_eq
  rw [← p1, ← p2]
  have hlo : ∀ a ∈ (srt ns).drop (ns.length / 2), med ns ≤ a := by
    intro a ha
    obtain ⟨j, hj, rfl⟩ := List.mem_iff_getElem.mp ha
    rw [List.getElem_drop, hv]
    by_cases h0 : j = 0
    · subst h0; simp
    · exact List.pairwise_iff_getElem.mp hs _ _ _ _ (by omega)
  have hhi : ∀ a ∈ (srt ns).take (ns.length / 2 + 1), a ≤ med ns := by
    intro a ha
    obtain ⟨j, hj, rfl⟩ := List.mem_iff_getElem.mp ha
    rw [List.getElem_take, hv]
    have hj' : j < ns.length / 2 + 1 := by simp at hj; omega
    by_cases h0 : j = ns.length / 2
    · subst h0; simp
    · exact List.pairwise_iff_getElem.mp hs _ _ _ _ (by omega)
  constructor
  · conv => lhs; arg 1; arg 2; rw [← List.take_append_drop (ns.length / 2) (srt ns)]
    rw [List.filter_append, filter_nil_of (xs := (srt ns).drop (ns.length / 2)) (by intro a ha; have := hlo a ha; simp; omega)]
    have := List.length_filter_le (fun a => decide (a < med ns)) ((srt ns).take (ns.length / 2))
    simp only [List.append_nil]
    simp only [List.length_take] at this
    omega
  · conv => lhs; arg 1; arg 2; rw [← List.take_append_drop (ns.length / 2 + 1) (srt ns)]
    rw [List.filter_append, filter_nil_of (xs := (srt ns).take (ns.length / 2 + 1)) (by intro a ha; have := hhi a ha; simp; omega)]
    have := List.length_filter_le (fun a => decide (med ns < a)) ((srt ns).drop (ns.length / 2 + 1))
    simp only [List.nil_append]
    simp only [List.length_drop] at this
    omega
def funBody : Stmt → List Stmt
  | .FunctionDef _ _ b .. => b
  | _ => []
noncomputable def funScope : Stmt → Scope
  | .FunctionDef _ _ _ _ _ _ sc .. => sc
  | _ => default
def forBody : Stmt → List Stmt
  | .For _ _ b .. => b
  | _ => []
noncomputable def leftDef : Stmt := PySem.Challenge.pw_rs0113_01.main.body.getD 62 (.Pass default)
noncomputable def leftBody : List Stmt := funBody leftDef
noncomputable def leftScope : Scope := funScope leftDef
noncomputable def forOne : Stmt := (forBody (leftBody.getD 1 (.Pass default))).getD 0 (.Pass default)
noncomputable def forWidth : Stmt := (forBody forOne).getD 0 (.Pass default)
noncomputable def forI : Stmt := (forBody forWidth).getD 0 (.Pass default)
noncomputable def turnI : List Stmt := forBody forI
noncomputable def stOf (k : Nat) : Stmt := turnI.getD k (.Pass default)
/-- the lists that a list of the dict refers to -/
inductive RowsIn (pool : List (Addr × Obj)) : List Value → List (List Int) → Prop where
  | nil : RowsIn pool [] []
  | cons {b : Addr} {vs : List Value} {ns : List Int} {k : Nat} {v : List Value} {r : List (List Int)} : (b, listOf vs.toArray k) ∈ pool → IntsAre vs ns → RowsIn pool v r → RowsIn pool (.ref b :: v) (ns :: r)
theorem RowsIn.mono {pool pool' : List (Addr × Obj)} {v : List Value} {r : List (List Int)} (h : RowsIn pool v r) (hs : ∀ p ∈ pool, p ∈ pool') : RowsIn pool' v r := by
  induction h with
  | nil => exact .nil
  | cons hm hi _ ih => exact .cons (hs _ hm) hi ih
theorem RowsIn.snoc {pool : List (Addr × Obj)} {v : List Value} {r : List (List Int)} {b : Addr} {vs : List Value} {ns : List Int} {k : Nat} (h : RowsIn pool v r) (hm : (b, listOf vs.toArray k) ∈ pool) (hi : IntsAre vs ns) : RowsIn pool (v ++ [.ref b]) (r ++ [ns]) := by
  induction h with
  | nil => exact .cons hm hi .nil
  | cons hm' hi' _ ih => exact .cons hm' hi' ih
theorem RowsIn.length {pool : List (Addr × Obj)} {v : List Value} {r : List (List Int)} (h : RowsIn pool v r) : v.length = r.length := by
  induction h with
  | nil => rfl
  | cons _ _ _ ih => simp [ih]
theorem RowsIn.get {pool : List (Addr × Obj)} {v : List Value} {r : List (List Int)} (h : RowsIn pool v r) : ∀ {i : Nat} {x : Value}, v[i]? = some x → ∃ b vs ns k, x = .ref b ∧ (b, listOf vs.toArray k) ∈ pool ∧ IntsAre vs ns ∧ r[i]? = some ns := by
  induction h with
  | nil => intro i x hx; simp at hx
  | cons hm hi _ ih =>
    intro i x hx
    cases i with
    | zero => simp at hx; exact ⟨_, _, _, _, hx.symm, hm, hi, rfl⟩
    | succ i => simpa using ih (by simpa using hx)
noncomputable abbrev envL (L : Addr) : Env := envOfC (Str.ofString "_law_left") leftScope L 84 (.ref 83)
/-- a remark that the walk's lines find by its type -/
structure Hold (P : Prop) : Prop where
def JoinI (s : Shared) (W : Prop) (v : Value) (s' : Shared) : Prop := ∃ (x : Int) (tk : Tok) (tk' : Nat), v = .int x tk ∧ s' = { s with toks := tk' } ∧ (0 ≤ x ∧ x ≤ 4 ∨ W)
theorem JoinI.intro {s : Shared} {W : Prop} {x : Int} {tk : Tok} {tk' : Nat} (h : 0 ≤ x ∧ x ≤ 4 ∨ W) : JoinI s W (.int x tk) { s with toks := tk' } := ⟨x, tk, tk', rfl, rfl, h⟩
theorem join_int {M : Model} {A : Around} {t : Sem Value} {Q E : Value → Shared → Prop} {s : Shared} {W : Prop} (_hW : Hold W) (h : wpAny M A t (JoinI s W) E s)
    (k : ∀ (x : Int) (tk : Tok) (tk' : Nat), (0 ≤ x ∧ x ≤ 4 ∨ W) → Q (.int x tk) { s with toks := tk' }) : wpAny M A t Q E s :=
  wpAny_mono h (fun v s' ⟨x, tk, tk', e1, e2, e3⟩ => by subst e1; subst e2; exact k x tk tk' e3) fun _ _ e => e
def JoinN (s : Shared) (h₀ : Heap) (L : Addr) (m : Str → Option Value) (news : List (Addr × Obj)) (f : Flow) (s' : Shared) : Prop := f = .next ∧ ∃ (h' : Heap) (tk' : Nat), s' = { s with heap := h', toks := tk' } ∧ Fr h₀ L h' m ∧ News h₀ L h' news
theorem JoinN.intro {s : Shared} {h₀ h' : Heap} {L : Addr} {m : Str → Option Value} {news news' : List (Addr × Obj)} {tk' : Nat} (F : Fr h₀ L h' m) (N : News h₀ L h' news') (hs : ∀ p ∈ news, p ∈ news') : JoinN s h₀ L m news .next { s with heap := h', toks := tk' } :=
  ⟨rfl, h', tk', rfl, F, fun p hp => N p (hs p hp)⟩
theorem join_next {M : Model} {A : Around} {t : Sem Flow} {Q : Flow → Shared → Prop} {E : Value → Shared → Prop} {s : Shared} {h₀ : Heap} {L : Addr} {m : Str → Option Value} {news : List (Addr × Obj)} (_F : Fr h₀ L s.heap m) (_N : News h₀ L s.heap news)
    (h : wpAny M A t (JoinN s h₀ L m news) E s)
    (k : ∀ (h' : Heap) (tk' : Nat), Fr h₀ L h' m → News h₀ L h' news → Q .next { s with heap := h', toks := tk' }) : wpAny M A t Q E s :=
  wpAny_mono h (fun f s' ⟨e0, h', tk', e1, F, N⟩ => by subst e0; subst e1; exact k h' tk' F N) fun _ _ e => e
theorem fmod5 (a : Int) : 0 ≤ Int.fmod a 5 ∧ Int.fmod a 5 ≤ 4 := by
  rw [Int.fmod_eq_emod_of_nonneg a (by decide)]; omega
/-- the pool lies outside the dict's own lists -/
def PoolOk (L a1 : Nat) (pool : List (Addr × Obj)) : Prop := ∀ p ∈ pool, @LT.lt Nat _ p.1 L ∨ @LT.lt Nat _ a1 p.1
theorem PoolOk.ne {L a1 c : Nat} {pool : List (Addr × Obj)} (h : PoolOk L a1 pool) (hc : L ≤ c ∧ c ≤ a1) : ∀ p ∈ pool, p.1 ≠ c := fun p hp e => by
  have h1 := h p hp
  have h2 : @Eq Nat p.1 c := e
  omega
theorem PoolOk.cons {L a1 c : Nat} {o : Obj} {pool : List (Addr × Obj)} (h : PoolOk L a1 pool) (hc : c < L ∨ a1 < c) : PoolOk L a1 ((c, o) :: pool) := fun p hp => by
  rcases List.mem_cons.mp hp with rfl | hp
  · exact hc
  · exact h p hp
def Ord6 (L d a7 a5 a3 a1 : Nat) : Prop := L + 1 < d ∧ d < a7 ∧ a7 < a5 ∧ a5 < a3 ∧ a3 < a1

theorem ints_dat {pool : List (Addr × Obj)} {vs : List Value} {ns : List Int} (h : IntsAre vs ns) : DatAll pool vs (ns.map Dat.int) := by
  induction h with
  | nil => exact .nil
  | cons n t _ ih => exact .cons (.int n t) ih
theorem RowsIn.dat {pool : List (Addr × Obj)} {v : List Value} {r : List (List Int)} (h : RowsIn pool v r) : DatAll pool v (r.map fun ns => Dat.list (ns.map Dat.int)) := by
  induction h with
  | nil => exact .nil
  | cons hm hi _ ih => exact .cons (.list hm (ints_dat hi)) ih
theorem dat_int_inj : ∀ {a b : List Int}, a.map Dat.int = b.map Dat.int → a = b
  | [], [], _ => rfl
  | [], _ :: _, h => by simp at h
  | _ :: _, [], h => by simp at h
  | x :: a, y :: b, h => by
    simp only [List.map_cons, List.cons.injEq, Dat.int.injEq] at h
    rw [h.1, dat_int_inj h.2]
theorem dat_mem {f : List Int} {r : List (List Int)} : Dat.list (f.map Dat.int) ∈ r.map (fun ns => Dat.list (ns.map Dat.int)) ↔ f ∈ r := by
  rw [List.mem_map]
  constructor
  · rintro ⟨a, ha, e⟩
    rw [Dat.list.injEq] at e
    rw [← dat_int_inj e]; exact ha
  · intro h; exact ⟨f, h, rfl⟩
theorem dat_ok (n : Nat) (ns : List Int) : kqdOk (n + 1) (Dat.list (ns.map Dat.int)) = true := by
  simp only [kqdOk, List.all_eq_true, List.mem_map]
  rintro d ⟨x, _, rfl⟩
  cases n <;> rfl
theorem allLt_mem {D : Nat} {news : List (Addr × Obj)} (h : AllLt D news) : ∀ p ∈ news, @LT.lt Nat _ p.1 D := by
  induction news with
  | nil => intro p hp; cases hp
  | cons q r ih =>
    intro p hp
    rcases List.mem_cons.mp hp with rfl | hp
    · exact h.1
    · exact ih h.2 p hp
theorem ne_of_l1 {D c : Addr} {o : Obj} {news : List (Addr × Obj)} (l1 : ∀ p ∈ news, p.1 < D) (hc : (c, o) ∈ news) : D ≠ c := fun e => absurd (l1 _ hc) (e ▸ Nat.lt_irrefl _)
theorem ne_of_l2 {D c : Addr} {o : Obj} {news : List (Addr × Obj)} (l1 : AllLt D news) (hc : (c, o) ∈ news) : D ≠ c := fun e => absurd (allLt_mem l1 _ hc) (e ▸ Nat.lt_irrefl _)
theorem updF_mem {c : Addr} {o : Obj} {news : List (Addr × Obj)} {g : Obj → List (Addr × Obj)} (U : UpdF c o news g) : ∀ o', (c, o') ∈ g o' := by
  induction U with
  | head _ => intro o'; exact List.mem_cons_self ..
  | tail _ _ ih => intro o'; exact List.mem_cons_of_mem _ (ih o')
theorem updF_old {c : Addr} {o : Obj} {news : List (Addr × Obj)} {g : Obj → List (Addr × Obj)} (U : UpdF c o news g) : (c, o) ∈ news := by
  induction U with
  | head _ => exact List.mem_cons_self ..
  | tail _ _ ih => exact List.mem_cons_of_mem _ ih
theorem storeX_M {M : Model} {A : Around} {E : Value → Shared → Prop} {s : Shared} {h₀ : Heap} {L a : Addr} {m : Str → Option Value} {cn : Str} {cs : Scope} {ccd : Value} {cl : List (Str × Addr)} {x : Str} {v : Value} {Q : Unit → Shared → Prop} {news : List (Addr × Obj)}
    (F : Fr h₀ L s.heap m) (N : News h₀ L s.heap news)
    (h : ∀ (h' : Heap) (m' : Str → Option Value), Fr h₀ L h' m' → News h₀ L h' news → m' x = some v → (∀ y, y ≠ x → m' y = m y) → Q () { s with heap := h', toks := s.toks + 1 })
    (hk : cs.kind = .function) (hx : (envX cn cs L a ccd cl).kindOf x = some .local) : wpAny M A (storeName (envX cn cs L a ccd cl) x v) Q E s :=
  storeX_L F N (fun h' F' N' => h h' _ F' N' (if_pos rfl) (fun y hy => if_neg hy)) hk hx
/-- the neighbours from i on -/
def win (i width : Nat) (ns : List Int) : List Int := (ns.drop i).take width
theorem win_eq {i width : Nat} {ns : List Int} (h : i + width ≤ ns.length) : List.take (min ((i : Int) + (width : Int)).toNat ns.length - (i : Int).toNat) (List.drop (i : Int).toNat ns) = win i width ns := by
  unfold win
  have h1 : ((i : Int) + (width : Int)).toNat = i + width := by omega
  have h2 : (i : Int).toNat = i := by omega
  rw [h1, h2, Nat.min_eq_left h]
  congr 1
  omega
theorem win_length {i width : Nat} {ns : List Int} (h : i + width ≤ ns.length) : (win i width ns).length = width := by
  unfold win
  simp only [List.length_take, List.length_drop]
  omega
theorem len_carried {prog : Program} {w : World} {A : Around} {E : Value → Shared → Prop} {s : Shared} {D : Addr} {ys : List Value} {f : Int → Bool} {ns : List Int} {Q : Value → Shared → Prop} (hl : s.heap.IsList D ys.toArray) (hc : CarriedAll ys (List.map PyData.int (List.filter f ns))) (h7 : ns.length ≤ 7)
    (h : Q (.int (((ns.filter f).length : Nat) : Int) (s.toks + 1)) { s with toks := s.toks + 1 + 1 }) : wpAny (model prog w) A (call (.builtin "len") [.ref D]) Q E s := by
  have hi : IntsAre ys ((List.filter f ns).map id) := CarriedAll.intsOf hc
  rw [List.map_id] at hi
  exact len_ints_fit hl hi (by have := List.length_filter_le f ns; omega) h
section
variable {prog : Program} {w : World} {A : Around} {E : Value → Shared → Prop} {s : Shared} {h₀ : Heap} {L d a D : Addr} {o : Obj} {news : List (Addr × Obj)} {Q : Value → Shared → Prop}
theorem dict_item {value slice : PySem.Expr} {k : Int} {t : Tok} {kvs : List (Int × Value)} {v : Value} (N : News h₀ L s.heap news) (hp : (d, o) ∈ news) (hd : o.IsDictOf (intKind prog w) kvs) (hv : valueAt kvs k = some v) (h : Q v { s with toks := s.toks + 1 })
    (hs : subscripted slice false (.ref d) (.int k t) = operate [.ref d, .int k t] (getItem (.ref d) (.int k t)) := by with_unfolding_all rfl) : wpAny (model prog w) A (subscriptTail value slice (.ref d) (.int k t)) Q E s :=
  have hD := kda_dict N hp hd
  tail_any hD.typeIs slot_dict_getitem.lookup (wpAny_getItem_of (intKind_is prog w k t) hD.mapOf hv h) hs
theorem rows_notIn {v ws : List Value} {n k : Nat} {r : List (List Int)} {fl : List Int} (N : News h₀ L s.heap news) (ma : (a, listOf v.toArray n) ∈ news) (R : RowsIn news v r) (hD : (D, listOf ws.toArray k) ∈ news) (hI : IntsAre ws fl) (hu : A.units + 64 < cLine)
    (h : Q (.bool (!decide (fl ∈ r))) s) : wpAny (model prog w) A (compareOp .NotIn (.ref D) (.ref a)) Q E s := by
  refine kqd_notIn N ma rfl rfl R.dat (fun _ h => h) (.list hD (ints_dat hI)) (fun _ h => h) ?_ (dat_ok 7 fl) hu ?_
  · intro d hd
    obtain ⟨x, _, rfl⟩ := List.mem_map.mp hd
    exact dat_ok 7 x
  · have key : ∀ (i : Decidable (Dat.list (fl.map Dat.int) ∈ r.map fun ns => Dat.list (ns.map Dat.int))), @decide _ i = decide (fl ∈ r) := by
      intro i
      by_cases hq : fl ∈ r
      · rw [decide_eq_true hq, @decide_eq_true _ i (dat_mem.mpr hq)]
      · rw [decide_eq_false hq, @decide_eq_false _ i (fun z => hq (dat_mem.mp z))]
    rw [key]
    exact h
end
local macro_rules | `(tactic| k_mem) => `(tactic| first | (with_reducible assumption) | (with_reducible refine List.mem_cons_of_mem _ ?_; k_mem))
local macro_rules | `(tactic| is_list) => `(tactic| exact isList_in (by k_asm) (by k_mem))
local macro_rules | `(tactic| walk_at "my enter") => `(tactic| (refine wpAny_call ?_; k_dflt (refine' code_def ?mek1 ?mek2 ?mek3 ?mek4 ?mek5 ?mekA ?mekF ?mekK ?mek6 ?mek7 ?mek8 ?mek9 ?mekB ?_ ?mec2 ?mec3 ?mec4 ?mec5; (case mekA => exact rfl); (case mekF => assumption); (case mekK => assumption); (case mek1 => k_asm); (case mek2 => k_asm); (case mek3 => k_asm); (case mek4 => k_asm); (case mek5 => k_asm); (case mek6 => k_is); (case mek7 => k_is); (case mek8 => (simp only [depth_deeper, depth_caller]; decide)); (case mek9 => exact BindsTo.of_eq rfl); (case mec5 => decide); (case mekB => exact locs rfl); (case mec2 => exact rfl); (case mec3 => exact rfl); (case mec4 => exact rfl); k_whole; intro g' L' h' FG' F' N' B' X' T'; (try dsimp only); (try k_lift B'); (try k_fold))))
local macro_rules | `(tactic| walk_at "binaryOp Add ref ref") => `(tactic| (k_here; (with_reducible show wpAny _ _ (binaryOp _ (Value.ref _) (Value.ref _)) _ _ _); k_dflt (refine' kmk_add_ints ?madF ?madN ?mada ?madb ?madi ?madj ?_ ?madz; (case madF => k_asm); (case madN => k_asm); (case mada => exact isList_in (by k_asm) (by k_mem)); (case madb => exact isList_in (by k_asm) (by k_mem)); (case madi => l_ints); (case madj => l_ints); (case madz => (simp only [sizeLine_eq, List.length_cons, List.length_nil, List.length_append]; omega))); intro D' ws' h' F' N' l1 hI'; (try k_lt l1); (try k_sweep)))
local macro_rules | `(tactic| walk_at "my enterC") => `(tactic| (refine wpAny_call ?_; k_dflt (refine' code_defC ?mek1 ?mek2 ?mek3 ?mek4 ?mek5 ?mekA ?mekF ?mekK ?mek6 ?mek7 ?mek8 ?mek9 ?mekB ?mekD ?_ ?mec2 ?mec3 ?mec4; (case mekA => exact rfl); (case mekF => assumption); (case mekK => assumption); (case mek1 => k_asm); (case mek2 => k_asm); (case mek3 => k_asm); (case mek4 => k_asm); (case mek5 => k_asm); (case mek6 => k_is); (case mek7 => k_is); (case mek8 => (simp only [depth_deeper, depth_caller]; decide)); (case mek9 => exact BindsTo.of_eq rfl); (case mekB => exact rfl); (case mekD => decide +kernel); (case mec2 => exact rfl); (case mec3 => exact rfl); (case mec4 => exact rfl); k_whole)))
local macro_rules | `(tactic| walk_at "eval Name") => `(tactic| (k_here; k_dflt (refine' nameX_C ?mnc1 ?mnc2 ?mnc3 ?mnc4 ?_ ?mnc5 ?mnc6; (case mnc5 => rfl); (case mnc6 => rfl); (case mnc1 => k_asm); (case mnc2 => rfl); (case mnc3 => k_mem); (case mnc4 => with_reducible assumption); k_whole)))
local macro_rules | `(tactic| walk_at "eval Name") => `(tactic| (k_here; k_dflt (refine' nameX_L ?mnl1 ?mnl2 ?_ ?mnl3 ?mnl4; (case mnl1 => k_asm); (case mnl2 => with_reducible assumption); (case mnl3 => rfl); (case mnl4 => rfl))))
local macro_rules | `(tactic| walk_at "subscriptTail Name Slice ref ref") => `(tactic| (k_here; (with_reducible show wpAny _ _ (subscriptTail _ (PySem.Expr.Slice _ _ none _) (Value.ref _) (Value.ref _)) _ _ _); k_dflt (refine' slice_ints ?msl1 ?msl2 ?msl3 ?msl4 ?msl5 ?msl6 ?_ ?msl7 ?msl8; (case msl1 => k_asm); (case msl2 => k_asm); (case msl3 => first | exact isList_in (by k_asm) (by k_mem) | exact Fr.lst (by k_asm) (by k_asm)); (case msl4 => l_ints); (case msl5 => first | exact sp_run (by l_ints) (by omega) (by omega) | exact sp_upto (by l_ints) (by omega) | exact sp_from (by l_ints) (by omega)); (case msl6 => first | omega | (simp only [List.length_cons, List.length_nil]; omega)); (case msl7 => with_unfolding_all rfl); (case msl8 => (intro _; with_unfolding_all rfl))); intro D' ws' h' F' N' l1 hI' hC' hL'; (try k_lt l1); (try k_sweep)))
set_option maxRecDepth 100000 in
set_option maxHeartbeats 8000000 in
theorem median_call {w : World} {p : Program} {loose : List Str} {mean : ExcName → Option Value} {mg mb : Str → Option Value} {e1 e2 e3 : Env} {A₀ : Around} {base h₀ : Heap} {L : Addr} {m : Str → Option Value} {s : Shared} {Q E : Value → Shared → Prop} {news : List (Addr × Obj)} {l : Addr} {vs : List Value} {ns : List Int} {n : Nat} (B : Below A₀ base [e2, e1] h₀) (F : Fr h₀ L s.heap m) (X : (hd.heap_39 w.params).In h₀) (N : News h₀ L s.heap news) (T : Top p loose mean mg mb h₀) (hf : e3.frame = some L) (hk : e3.scope.kind = .function)
    (hm : (l, listOf vs.toArray n) ∈ news) (hI : IntsAre vs ns) (hodd : ns.length % 2 = 1) (h7 : ns.length ≤ 8)
    (hret : ∀ t h' tk', Fr h₀ L h' m → News h₀ L h' news → Q (.int ((srt ns).getD (ns.length / 2) 0) t) { s with heap := h', toks := tk' }) :
    wpAny (model PySem.Challenge.rw_rs0113_01.row.prog w) (((callerA.deeper e1).deeper e2).deeper e3) (call (.ref 34) [.ref l]) Q E s := by
  w_top off; revert X; k_fill; intro X
  walk_at "my enter"
  k_steps
  all_goals first
  | (exfalso; (have hA := IntsAre.length (by assumption)); omega)
  | (exfalso; (rename (Int.fmod _ 2 ≠ 1) => hx9); rw [fmod2] at hx9; omega)
  | ((rename List.Perm _ _ => hp9); (rename List.Pairwise _ _ => ho9); (have hE9 := srt_eq hp9 ho9); subst hE9; (refine ret_at ?_ (hret _ _ _ (by assumption) (news_tail (by assumption)))); (have hl9 := srt_length ns); (try rw [fdiv2]); (congr 1; omega))
  | ((rename (Int.fmod _ 2 ≠ 1) => hx9); rw [fmod2] at hx9; (rename List.Perm _ _ => hp9); (rename List.Pairwise _ _ => ho9); (have hE9 := srt_eq hp9 ho9); subst hE9; (refine ret_at ?_ (hret _ _ _ (by assumption) (news_tail (by assumption)))); (have hl9 := srt_length ns); (try rw [fdiv2]); (congr 1; omega))
  | ((rename (Int.fmod _ 2 = 1) => hx9); rw [fmod2] at hx9; (rename List.Perm _ _ => hp9); (rename List.Pairwise _ _ => ho9); (have hE9 := srt_eq hp9 ho9); subst hE9; (refine ret_at ?_ (hret _ _ _ (by assumption) (news_tail (by assumption)))); (have hl9 := srt_length ns); (try rw [fdiv2]); (congr 1; omega))
set_option maxRecDepth 100000 in
set_option maxHeartbeats 8000000 in
theorem median_low_call {w : World} {p : Program} {loose : List Str} {mean : ExcName → Option Value} {mg mb : Str → Option Value} {e1 e2 e3 : Env} {A₀ : Around} {base h₀ : Heap} {L : Addr} {m : Str → Option Value} {s : Shared} {Q E : Value → Shared → Prop} {news : List (Addr × Obj)} {l : Addr} {vs : List Value} {ns : List Int} {n : Nat} (B : Below A₀ base [e2, e1] h₀) (F : Fr h₀ L s.heap m) (X : (hd.heap_39 w.params).In h₀) (N : News h₀ L s.heap news) (T : Top p loose mean mg mb h₀) (hf : e3.frame = some L) (hk : e3.scope.kind = .function)
    (hm : (l, listOf vs.toArray n) ∈ news) (hI : IntsAre vs ns) (hpos : 0 < ns.length) (h7 : ns.length ≤ 8)
    (hret : ∀ t h' tk', Fr h₀ L h' m → News h₀ L h' news → Q (.int ((srt ns).getD ((ns.length - 1) / 2) 0) t) { s with heap := h', toks := tk' }) :
    wpAny (model PySem.Challenge.rw_rs0113_01.row.prog w) (((callerA.deeper e1).deeper e2).deeper e3) (call (.ref 41) [.ref l]) Q E s := by
  w_top off; revert X; k_fill; intro X
  walk_at "my enter"
  k_steps
  all_goals first
  | (exfalso; (have hA := IntsAre.length (by assumption)); omega)
  | (exfalso; (rename (Int.fmod _ 2 ≠ 1) => hx9); rw [fmod2] at hx9; omega)
  | ((rename List.Perm _ _ => hp9); (rename List.Pairwise _ _ => ho9); (have hE9 := srt_eq hp9 ho9); subst hE9; (refine ret_at ?_ (hret _ _ _ (by assumption) (news_tail (by assumption)))); (have hl9 := srt_length ns); (try rw [fdiv2]); (congr 1; omega))
  | ((rename (Int.fmod _ 2 ≠ 1) => hx9); rw [fmod2] at hx9; (rename List.Perm _ _ => hp9); (rename List.Pairwise _ _ => ho9); (have hE9 := srt_eq hp9 ho9); subst hE9; (refine ret_at ?_ (hret _ _ _ (by assumption) (news_tail (by assumption)))); (have hl9 := srt_length ns); (try rw [fdiv2]); (congr 1; omega))
  | ((rename (Int.fmod _ 2 = 1) => hx9); rw [fmod2] at hx9; (rename List.Perm _ _ => hp9); (rename List.Pairwise _ _ => ho9); (have hE9 := srt_eq hp9 ho9); subst hE9; (refine ret_at ?_ (hret _ _ _ (by assumption) (news_tail (by assumption)))); (have hl9 := srt_length ns); (try rw [fdiv2]); (congr 1; omega))
set_option maxRecDepth 100000 in
set_option maxHeartbeats 8000000 in
theorem median_high_call {w : World} {p : Program} {loose : List Str} {mean : ExcName → Option Value} {mg mb : Str → Option Value} {e1 e2 e3 : Env} {A₀ : Around} {base h₀ : Heap} {L : Addr} {m : Str → Option Value} {s : Shared} {Q E : Value → Shared → Prop} {news : List (Addr × Obj)} {l : Addr} {vs : List Value} {ns : List Int} {n : Nat} (B : Below A₀ base [e2, e1] h₀) (F : Fr h₀ L s.heap m) (X : (hd.heap_39 w.params).In h₀) (N : News h₀ L s.heap news) (T : Top p loose mean mg mb h₀) (hf : e3.frame = some L) (hk : e3.scope.kind = .function)
    (hm : (l, listOf vs.toArray n) ∈ news) (hI : IntsAre vs ns) (hpos : 0 < ns.length) (h7 : ns.length ≤ 8)
    (hret : ∀ t h' tk', Fr h₀ L h' m → News h₀ L h' news → Q (.int ((srt ns).getD (ns.length / 2) 0) t) { s with heap := h', toks := tk' }) :
    wpAny (model PySem.Challenge.rw_rs0113_01.row.prog w) (((callerA.deeper e1).deeper e2).deeper e3) (call (.ref 48) [.ref l]) Q E s := by
  w_top off; revert X; k_fill; intro X
  walk_at "my enter"
  k_steps
  all_goals first
  | (exfalso; (have hA := IntsAre.length (by assumption)); omega)
  | (exfalso; (rename (Int.fmod _ 2 ≠ 1) => hx9); rw [fmod2] at hx9; omega)
  | ((rename List.Perm _ _ => hp9); (rename List.Pairwise _ _ => ho9); (have hE9 := srt_eq hp9 ho9); subst hE9; (refine ret_at ?_ (hret _ _ _ (by assumption) (news_tail (by assumption)))); (have hl9 := srt_length ns); (try rw [fdiv2]); (congr 1; omega))
  | ((rename (Int.fmod _ 2 ≠ 1) => hx9); rw [fmod2] at hx9; (rename List.Perm _ _ => hp9); (rename List.Pairwise _ _ => ho9); (have hE9 := srt_eq hp9 ho9); subst hE9; (refine ret_at ?_ (hret _ _ _ (by assumption) (news_tail (by assumption)))); (have hl9 := srt_length ns); (try rw [fdiv2]); (congr 1; omega))
  | ((rename (Int.fmod _ 2 = 1) => hx9); rw [fmod2] at hx9; (rename List.Perm _ _ => hp9); (rename List.Pairwise _ _ => ho9); (have hE9 := srt_eq hp9 ho9); subst hE9; (refine ret_at ?_ (hret _ _ _ (by assumption) (news_tail (by assumption)))); (have hl9 := srt_length ns); (try rw [fdiv2]); (congr 1; omega))
section
local macro_rules | `(tactic| walk_at "call ref") => `(tactic| (k_here; (with_reducible show wpAny _ _ (call (Value.ref _) [Value.ref _]) _ _ _); (with_unfolding_all (first | refine' median_call ?mmk1 ?mmk2 ?mmk3 ?mmk4 ?mmk5 ?mmk6 ?mmk7 ?mmk8 ?mmk9 ?mmk10 ?mmk11 ?_ | refine' median_low_call ?mmk1 ?mmk2 ?mmk3 ?mmk4 ?mmk5 ?mmk6 ?mmk7 ?mmk8 ?mmk9 ?mmk10 ?mmk11 ?_ | refine' median_high_call ?mmk1 ?mmk2 ?mmk3 ?mmk4 ?mmk5 ?mmk6 ?mmk7 ?mmk8 ?mmk9 ?mmk10 ?mmk11 ?_); (case mmk1 => k_asm); (case mmk2 => k_asm); (case mmk3 => k_asm); (case mmk4 => k_asm); (case mmk5 => k_asm); (case mmk6 => rfl); (case mmk7 => rfl); (case mmk8 => k_mem); (case mmk9 => l_ints); (case mmk10 => first | assumption | ((try simp only [List.length_append, List.length_cons, List.length_nil]); omega)); (case mmk11 => ((try simp only [List.length_append, List.length_cons, List.length_nil]); omega))); intro t9 h' tk9 F' N'; (try k_sweep)))
set_option maxRecDepth 100000 in
set_option maxHeartbeats 8000000 in
theorem mid_call {w : World} {p : Program} {loose : List Str} {mean : ExcName → Option Value} {mg mb : Str → Option Value} {e1 e2 : Env} {A₀ : Around} {base h₀ : Heap} {L : Addr} {m : Str → Option Value} {s : Shared} {Q E : Value → Shared → Prop} {news : List (Addr × Obj)} {l : Addr} {vs : List Value} {ns : List Int} {n : Nat} {way : Int} {tw : Tok} (B : Below A₀ base [e1] h₀) (F : Fr h₀ L s.heap m) (X : (hd.heap_39 w.params).In h₀) (N : News h₀ L s.heap news) (T : Top p loose mean mg mb h₀) (hf : e2.frame = some L) (hk : e2.scope.kind = .function)
    (hm : (l, listOf vs.toArray n) ∈ news) (hI : IntsAre vs ns) (hodd : ns.length % 2 = 1) (h7 : ns.length ≤ 7) (hw : 0 ≤ way ∧ way ≤ 4 ∨ ns.length = 3)
    (hret : ∀ t h' tk', Fr h₀ L h' m → News h₀ L h' news → Q (.int (med ns) t) { s with heap := h', toks := tk' }) :
    wpAny (model PySem.Challenge.rw_rs0113_01.row.prog w) ((callerA.deeper e1).deeper e2) (call (.ref 79) [.ref l, .int way tw]) Q E s := by
  w_top off; revert X; k_fill; intro X
  walk_at "my enter"
  k_steps
  · exact hret _ _ _ (by assumption) (by assumption)
  · refine ret_at ?_ (hret _ _ _ (by assumption) (by assumption)); unfold med; congr 1; omega
  · exact hret _ _ _ (by assumption) (by assumption)
  · exact ret_at (med_low (by assumption) hodd) (hret _ _ _ (by assumption) (news_tail (news_tail (by assumption))))
  · exact ret_at (med_high (by assumption) hodd) (hret _ _ _ (by assumption) (news_tail (news_tail (by assumption))))
  · refine ret_at ?_ (hret _ _ _ (by assumption) (by assumption))
    refine med_three (by omega) (by assumption) (by assumption) (by assumption) (by assumption)
end
theorem execs_app_wp {M : Model} {Γ : Ctx} {env : Env} {a b : List Stmt} {Q : Flow → Pos → Shared → Prop} {E : Value → Pos → Shared → Prop} : ∀ {p : Pos} {s : Shared},
    Sem.wp M Γ (execs a env) (fun f p' s' => match f with | .next => Sem.wp M Γ (execs b env) Q E p' s' | f => Q f p' s') E p s → Sem.wp M Γ (execs (a ++ b) env) Q E p s := by
  induction a with
  | nil => intro p s h; exact h
  | cons st r ih =>
    intro p s h
    show Sem.wp M Γ (execs (st :: (r ++ b)) env) _ _ p s
    rw [execs_cons, Sem.wp_bind'] at h ⊢
    refine Sem.wp_mono M Γ _ (fun f p' s' h' => ?_) (fun _ _ _ h' => h') p s h
    cases f with
    | next => exact ih h'
    | brk => exact h'
    | cont => exact h'
    | ret v => exact h'
theorem execs_app {M : Model} {A : Around} {env : Env} {a b : List Stmt} {Q : Flow → Shared → Prop} {E : Value → Shared → Prop} {s : Shared}
    (h : wpAny M A (execs a env) (fun f s' => match f with | .next => wpAny M A (execs b env) Q E s' | f => Q f s') E s) : wpAny M A (execs (a ++ b) env) Q E s := by
  intro Γ p hΓ
  refine execs_app_wp (Sem.wp_mono M Γ _ (fun f p' s' h' => ?_) (fun _ _ _ h' => h') p s (h Γ p hΓ))
  cases f with
  | next => exact h' Γ p' hΓ
  | brk => exact h'
  | cont => exact h'
  | ret v => exact h'
/-- what lies outside the dict's own lists -/
def poolOf (L a1 : Nat) (news : List (Addr × Obj)) : List (Addr × Obj) := news.filter fun p => decide (@LT.lt Nat _ p.1 L ∨ @LT.lt Nat _ a1 p.1)
theorem mem_poolOf {L a1 : Nat} {news : List (Addr × Obj)} {x : Addr × Obj} : x ∈ poolOf L a1 news ↔ x ∈ news ∧ (@LT.lt Nat _ x.1 L ∨ @LT.lt Nat _ a1 x.1) := by
  unfold poolOf
  rw [List.mem_filter, decide_eq_true_eq]
theorem poolOf_ok {L a1 : Nat} {news : List (Addr × Obj)} : PoolOk L a1 (poolOf L a1 news) := fun _ hp => (mem_poolOf.mp hp).2
structure LeftSt (prog : Program) (w : World) (L d a7 a5 a3 a1 : Nat) (kvs : List (Int × Value)) (r7 r5 r3 r1 : List (List Int)) (T : Nat) (news : List (Addr × Obj)) : Prop where
  dict : ∃ od, (d, od) ∈ news ∧ Obj.IsDictOf (intKind prog w) od kvs
  cell : ∃ oc co, (L + 1, oc) ∈ news ∧ oc.data = .cell co
  l7 : ∃ v n, (a7, listOf (List.toArray v) n) ∈ news ∧ RowsIn (poolOf L a1 news) v r7
  l5 : ∃ v n, (a5, listOf (List.toArray v) n) ∈ news ∧ RowsIn (poolOf L a1 news) v r5
  l3 : ∃ v n, (a3, listOf (List.toArray v) n) ∈ news ∧ RowsIn (poolOf L a1 news) v r3
  l1 : ∃ v n, (a1, listOf (List.toArray v) n) ∈ news ∧ RowsIn (poolOf L a1 news) v r1
  bound : r5.length + r3.length + r1.length ≤ T
/-- one more, if it is not there -/
def put (f : List Int) (r : List (List Int)) : List (List Int) := if f ∈ r then r else r ++ [f]
theorem put_length (f : List Int) (r : List (List Int)) : (put f r).length ≤ r.length + 1 := by
  unfold put; split <;> simp
theorem news_fun {h₀ h : Heap} {L : Addr} {news : List (Addr × Obj)} (N : News h₀ L h news) {a : Addr} {o o' : Obj} (h1 : (a, o) ∈ news) (h2 : (a, o') ∈ news) : o = o' := by
  have e1 := (N _ h1).1
  have e2 := (N _ h2).1
  exact Option.some.inj (e1.symm.trans e2)
/-- the row with some neighbours given way to their middle -/
def fewerOf (i width : Nat) (ns : List Int) : List Int := ns.take i ++ [med (win i width ns)] ++ ns.drop (i + width)
theorem fewerOf_length {i width : Nat} {ns : List Int} (h : i + width ≤ ns.length) : (fewerOf i width ns).length = ns.length - width + 1 := by
  unfold fewerOf
  simp only [List.length_append, List.length_take, List.length_drop, List.length_cons, List.length_nil]
  omega
def addrAt (a5 a3 a1 : Nat) (k : Nat) : Nat := if k = 5 then a5 else if k = 3 then a3 else a1
theorem turnI_eq : turnI = [stOf 0, stOf 1, stOf 2] ++ [stOf 3, stOf 4, stOf 5] := by with_unfolding_all rfl
theorem tail6 {x a b c d e f : Addr × Obj} {pool : List (Addr × Obj)} (h : x ∈ pool) : x ∈ a :: b :: c :: d :: e :: f :: pool :=
  .tail _ (.tail _ (.tail _ (.tail _ (.tail _ (.tail _ h)))))
theorem sub6 {a b c d e f f' : Addr × Obj} {pool pool' : List (Addr × Obj)} (hs : ∀ x ∈ pool, x ∈ pool') : ∀ x ∈ a :: b :: c :: d :: e :: f :: pool, x = f ∨ x ∈ a :: b :: c :: d :: e :: f' :: pool' := by
  intro x hx
  simp only [List.mem_cons] at hx ⊢
  rcases hx with h | h | h | h | h | h | h
  · exact .inr (.inl h)
  · exact .inr (.inr (.inl h))
  · exact .inr (.inr (.inr (.inl h)))
  · exact .inr (.inr (.inr (.inr (.inl h))))
  · exact .inr (.inr (.inr (.inr (.inr (.inl h)))))
  · exact .inl h
  · exact .inr (.inr (.inr (.inr (.inr (.inr (.inr (hs x h)))))))
def iterOf : Stmt → PySem.Expr
  | .For _ it .. => it
  | _ => .Constant .none 0 default
/-- the rows of five, of three and of one, as far as they are found -/
structure RS where
  r5 : List (List Int)
  r3 : List (List Int)
  r1 : List (List Int)
def RS.step (size width i : Nat) (ns : List Int) (R : RS) : RS :=
  ⟨if size - width + 1 = 5 then put (fewerOf i width ns) R.r5 else R.r5, if size - width + 1 = 3 then put (fewerOf i width ns) R.r3 else R.r3, if size - width + 1 = 1 then put (fewerOf i width ns) R.r1 else R.r1⟩
def RS.foldI (size width n : Nat) (ns : List Int) (R : RS) : RS := (List.range n).foldl (fun R i => R.step size width i ns) R
theorem RS.foldI_succ (size width n : Nat) (ns : List Int) (R : RS) : R.foldI size width (n + 1) ns = (R.foldI size width n ns).step size width n ns := by
  unfold RS.foldI
  rw [List.range_succ, List.foldl_append]
  rfl
def RS.foldW (size n : Nat) (ns : List Int) (R : RS) : RS := (List.range n).foldl (fun R j => R.foldI size (3 + 2 * j) (size - (3 + 2 * j) + 1) ns) R
theorem RS.foldW_succ (size n : Nat) (ns : List Int) (R : RS) : R.foldW size (n + 1) ns = (R.foldW size n ns).foldI size (3 + 2 * n) (size - (3 + 2 * n) + 1) ns := by
  unfold RS.foldW
  rw [List.range_succ, List.foldl_append]
  rfl
def RS.foldO (size n : Nat) (rows : List (List Int)) (R : RS) : RS := rows.foldl (fun R ns => R.foldW size n ns) R
theorem RS.foldO_succ (size n : Nat) {rows : List (List Int)} {j : Nat} {ns : List Int} (h : rows[j]? = some ns) (R : RS) : R.foldO size n (rows.take (j + 1)) = (R.foldO size n (rows.take j)).foldW size n ns := by
  unfold RS.foldO
  rw [List.take_add_one, h, List.foldl_append]
  rfl
theorem RowsIn.imp {pool pool' : List (Addr × Obj)} {v : List Value} {r : List (List Int)} (h : RowsIn pool v r) (hs : ∀ (b : Addr) (vs : List Value) (k : Nat), (b, listOf vs.toArray k) ∈ pool → (b, listOf vs.toArray k) ∈ pool') : RowsIn pool' v r := by
  induction h with
  | nil => exact .nil
  | cons hm hi _ ih => exact .cons (hs _ _ _ hm) hi ih
section
variable {prog : Program} {w : World} {L d a7 a5 a3 a1 : Nat} {kvs : List (Int × Value)} {r7 r5 r3 r1 : List (List Int)} {T : Nat} {news news' : List (Addr × Obj)}
theorem LeftSt.mono (S : LeftSt prog w L d a7 a5 a3 a1 kvs r7 r5 r3 r1 T news) (hs : ∀ x ∈ news, x ∈ news') : LeftSt prog w L d a7 a5 a3 a1 kvs r7 r5 r3 r1 T news' := by
  have hp : ∀ x ∈ poolOf L a1 news, x ∈ poolOf L a1 news' := fun x hx => mem_poolOf.mpr ⟨hs _ (mem_poolOf.mp hx).1, (mem_poolOf.mp hx).2⟩
  obtain ⟨⟨od, hdm, hod⟩, ⟨oc, co, hcm, hoc⟩, ⟨v7, n7, h7m, R7⟩, ⟨v5, n5, h5m, R5⟩, ⟨v3, n3, h3m, R3⟩, ⟨v1, n1, h1m, R1⟩, hbd⟩ := S
  exact ⟨⟨od, hs _ hdm, hod⟩, ⟨oc, co, hs _ hcm, hoc⟩, ⟨v7, n7, hs _ h7m, R7.mono hp⟩, ⟨v5, n5, hs _ h5m, R5.mono hp⟩, ⟨v3, n3, hs _ h3m, R3.mono hp⟩, ⟨v1, n1, hs _ h1m, R1.mono hp⟩, hbd⟩
theorem LeftSt.more {T' : Nat} (S : LeftSt prog w L d a7 a5 a3 a1 kvs r7 r5 r3 r1 T news) (h : T ≤ T') : LeftSt prog w L d a7 a5 a3 a1 kvs r7 r5 r3 r1 T' news := by
  obtain ⟨h1, h2, h3, h4, h5, h6, hbd⟩ := S
  exact ⟨h1, h2, h3, h4, h5, h6, by omega⟩
theorem LeftSt.drop {h₀ h : Heap} {F I : Addr} {oI : Obj} (S : LeftSt prog w L d a7 a5 a3 a1 kvs r7 r5 r3 r1 T news) (hord : Ord6 L d a7 a5 a3 a1) (N : News h₀ F h news) (hm : (I, oI) ∈ news) (hI : @LT.lt Nat _ a1 I) (hc : oI.cls ≠ .type "list") :
    LeftSt prog w L d a7 a5 a3 a1 kvs r7 r5 r3 r1 T (news.filter fun p => decide (p.1 ≠ I)) := by
  simp only [Ord6] at hord
  have hin : ∀ {x : Addr × Obj}, x ∈ news → @LE.le Nat _ x.1 a1 → x ∈ news.filter fun p => decide (p.1 ≠ I) := by
    intro x hx hle
    rw [List.mem_filter, decide_eq_true_eq]
    exact ⟨hx, neN (by omega)⟩
  have hp : ∀ (b : Addr) (vs : List Value) (k : Nat), (b, listOf vs.toArray k) ∈ poolOf L a1 news → (b, listOf vs.toArray k) ∈ poolOf L a1 (news.filter fun p => decide (p.1 ≠ I)) := by
    intro b vs k hb
    obtain ⟨h1, h2⟩ := mem_poolOf.mp hb
    refine mem_poolOf.mpr ⟨?_, h2⟩
    rw [List.mem_filter, decide_eq_true_eq]
    refine ⟨h1, fun e => ?_⟩
    have e' : b = I := e
    subst e'
    exact hc (by rw [news_fun N hm h1])
  obtain ⟨⟨od, hdm, hod⟩, ⟨oc, co, hcm, hoc⟩, ⟨v7, n7, h7m, R7⟩, ⟨v5, n5, h5m, R5⟩, ⟨v3, n3, h3m, R3⟩, ⟨v1, n1, h1m, R1⟩, hbd⟩ := S
  exact ⟨⟨od, hin hdm (by dsimp only; omega), hod⟩, ⟨oc, co, hin hcm (by dsimp only; omega), hoc⟩, ⟨v7, n7, hin h7m (by dsimp only; omega), R7.imp hp⟩, ⟨v5, n5, hin h5m (by dsimp only; omega), R5.imp hp⟩, ⟨v3, n3, hin h3m (by dsimp only; omega), R3.imp hp⟩, ⟨v1, n1, hin h1m (by dsimp only; omega), R1.imp hp⟩, hbd⟩
end
structure RS.Le (R : RS) (a b c : Nat) : Prop where
  h5 : R.r5.length ≤ a
  h3 : R.r3.length ≤ b
  h1 : R.r1.length ≤ c
structure RS.Ok (R : RS) : Prop where
  h5 : ∀ f ∈ R.r5, f.length = 5
  h3 : ∀ f ∈ R.r3, f.length = 3
  h1 : ∀ f ∈ R.r1, f.length = 1
theorem mem_put {f g : List Int} {r : List (List Int)} : g ∈ put f r ↔ g = f ∨ g ∈ r := by
  unfold put
  split
  · rename_i h
    constructor
    · exact .inr
    · rintro (rfl | h')
      · exact h
      · exact h'
  · simp [or_comm]
theorem RS.step_ok {R : RS} {size width i : Nat} {ns : List Int} (h : R.Ok) (hl : ns.length = size) (hi : i + width ≤ size) : (R.step size width i ns).Ok := by
  have hf : (fewerOf i width ns).length = size - width + 1 := by rw [fewerOf_length (by omega), hl]
  obtain ⟨h5, h3, h1⟩ := h
  unfold RS.step
  refine ⟨?_, ?_, ?_⟩ <;> dsimp only <;> split
  · rename_i e; intro f hm; rcases mem_put.mp hm with rfl | hm; omega; exact h5 f hm
  · exact h5
  · rename_i e; intro f hm; rcases mem_put.mp hm with rfl | hm; omega; exact h3 f hm
  · exact h3
  · rename_i e; intro f hm; rcases mem_put.mp hm with rfl | hm; omega; exact h1 f hm
  · exact h1
theorem RS.foldI_ok {R : RS} {size width n : Nat} {ns : List Int} (h : R.Ok) (hl : ns.length = size) (hn : n + width ≤ size + 1) : (R.foldI size width n ns).Ok := by
  induction n with
  | zero => exact h
  | succ n ih => rw [RS.foldI_succ]; exact RS.step_ok (ih (by omega)) hl (by omega)
theorem RS.foldW_ok {R : RS} {size n : Nat} {ns : List Int} (h : R.Ok) (hl : ns.length = size) (hn : 2 * n + 1 ≤ size) : (R.foldW size n ns).Ok := by
  induction n with
  | zero => exact h
  | succ n ih => rw [RS.foldW_succ]; exact RS.foldI_ok (ih (by omega)) hl (by omega)
theorem RS.foldO_ok {size n : Nat} (hn : 2 * n + 1 ≤ size) {rows : List (List Int)} (hl : ∀ ns ∈ rows, ns.length = size) : ∀ {R : RS}, R.Ok → (R.foldO size n rows).Ok := by
  induction rows with
  | nil => intro R h; exact h
  | cons ns r ih =>
    intro R h
    exact ih (fun x hx => hl x (List.mem_cons_of_mem _ hx)) (RS.foldW_ok h (hl ns (List.mem_cons_self ..)) hn)
theorem RS.step_le {R : RS} {size width i a b c : Nat} {ns : List Int} (h : R.Le a b c) : (R.step size width i ns).Le (a + if size - width + 1 = 5 then 1 else 0) (b + if size - width + 1 = 3 then 1 else 0) (c + if size - width + 1 = 1 then 1 else 0) := by
  obtain ⟨h5, h3, h1⟩ := h
  have p5 := put_length (fewerOf i width ns) R.r5
  have p3 := put_length (fewerOf i width ns) R.r3
  have p1 := put_length (fewerOf i width ns) R.r1
  unfold RS.step
  refine ⟨?_, ?_, ?_⟩ <;> dsimp only <;> split <;> simp_all <;> omega
theorem RS.foldI_le {R : RS} {size width n a b c : Nat} {ns : List Int} (h : R.Le a b c) : (R.foldI size width n ns).Le (a + if size - width + 1 = 5 then n else 0) (b + if size - width + 1 = 3 then n else 0) (c + if size - width + 1 = 1 then n else 0) := by
  induction n with
  | zero =>
    have e : R.foldI size width 0 ns = R := rfl
    rw [e]
    simpa using h
  | succ n ih =>
    rw [RS.foldI_succ]
    have q := RS.step_le (size := size) (width := width) (i := n) (ns := ns) ih
    obtain ⟨q5, q3, q1⟩ := q
    refine ⟨?_, ?_, ?_⟩
    · split at q5 <;> split <;> simp_all <;> omega
    · split at q3 <;> split <;> simp_all <;> omega
    · split at q1 <;> split <;> simp_all <;> omega
theorem RS.Le.mono {R : RS} {a b c a' b' c' : Nat} (h : R.Le a b c) (h1 : a ≤ a') (h2 : b ≤ b') (h3 : c ≤ c') : R.Le a' b' c' := ⟨Nat.le_trans h.h5 h1, Nat.le_trans h.h3 h2, Nat.le_trans h.h1 h3⟩
theorem RS.foldW7_le {R : RS} {n a b c : Nat} {ns : List Int} (hn : n ≤ 3) (h : R.Le a b c) : (R.foldW 7 n ns).Le (a + 5) (b + 3) (c + 1) := by
  have h1 : (R.foldW 7 1 ns).Le (a + 5) b c := RS.foldI_le (size := 7) (width := 3) (n := 5) (ns := ns) h
  have h2 : (R.foldW 7 2 ns).Le (a + 5) (b + 3) c := by rw [RS.foldW_succ]; exact RS.foldI_le (size := 7) (width := 5) (n := 3) (ns := ns) h1
  have h3 : (R.foldW 7 3 ns).Le (a + 5) (b + 3) (c + 1) := by rw [RS.foldW_succ]; exact RS.foldI_le (size := 7) (width := 7) (n := 1) (ns := ns) h2
  match n, hn with
  | 0, _ => exact RS.Le.mono (R := R) h (by omega) (by omega) (by omega)
  | 1, _ => exact h1.mono (by omega) (by omega) (by omega)
  | 2, _ => exact h2.mono (by omega) (by omega) (by omega)
  | 3, _ => exact h3
theorem RS.foldW5_le {R : RS} {n a b c : Nat} {ns : List Int} (hn : n ≤ 2) (h : R.Le a b c) : (R.foldW 5 n ns).Le a (b + 3) (c + 1) := by
  have h1 : (R.foldW 5 1 ns).Le a (b + 3) c := RS.foldI_le (size := 5) (width := 3) (n := 3) (ns := ns) h
  have h2 : (R.foldW 5 2 ns).Le a (b + 3) (c + 1) := by rw [RS.foldW_succ]; exact RS.foldI_le (size := 5) (width := 5) (n := 1) (ns := ns) h1
  match n, hn with
  | 0, _ => exact RS.Le.mono (R := R) h (by omega) (by omega) (by omega)
  | 1, _ => exact h1.mono (by omega) (by omega) (by omega)
  | 2, _ => exact h2
theorem RS.foldW3_le {R : RS} {n a b c : Nat} {ns : List Int} (hn : n ≤ 1) (h : R.Le a b c) : (R.foldW 3 n ns).Le a b (c + 1) := by
  have h1 : (R.foldW 3 1 ns).Le a b (c + 1) := RS.foldI_le (size := 3) (width := 3) (n := 1) (ns := ns) h
  match n, hn with
  | 0, _ => exact RS.Le.mono (R := R) h (by omega) (by omega) (by omega)
  | 1, _ => exact h1
theorem RS.foldO_le {size n x y z : Nat} (hW : ∀ {R : RS} {a b c : Nat} {ns : List Int}, R.Le a b c → (R.foldW size n ns).Le (a + x) (b + y) (c + z)) {rows : List (List Int)} : ∀ {R : RS} {a b c : Nat}, R.Le a b c → (R.foldO size n rows).Le (a + x * rows.length) (b + y * rows.length) (c + z * rows.length) := by
  induction rows with
  | nil =>
    intro R a b c h
    have e : R.foldO size n [] = R := rfl
    rw [e]
    simpa using h
  | cons ns r ih =>
    intro R a b c h
    have q := ih (hW (ns := ns) h)
    refine RS.Le.mono q ?_ ?_ ?_ <;> simp only [List.length_cons, Nat.mul_add] <;> omega
/-- how far the three sizes lead -/
def stage0 : RS := ⟨[], [], []⟩
def stage1 (n : Nat → Nat) (row : List Int) : RS := stage0.foldO 7 (n 7) [row]
def stage2 (n : Nat → Nat) (row : List Int) : RS := (stage1 n row).foldO 5 (n 5) (stage1 n row).r5
def stage3 (n : Nat → Nat) (row : List Int) : RS := (stage2 n row).foldO 3 (n 3) (stage2 n row).r3
theorem stage_le {n : Nat → Nat} (hn : ∀ s, 2 * n s + 1 ≤ s ∨ s < 3) (row : List Int) : stage0.Le 0 0 0 ∧ (stage1 n row).Le 5 3 1 ∧ (stage2 n row).Le 5 18 6 ∧ (stage3 n row).Le 5 18 24 := by
  have n7 := hn 7
  have n5 := hn 5
  have n3 := hn 3
  have s0 : stage0.Le 0 0 0 := ⟨Nat.le_refl _, Nat.le_refl _, Nat.le_refl _⟩
  have s1 : (stage1 n row).Le 5 3 1 := by
    unfold stage1
    exact (RS.foldO_le (x := 5) (y := 3) (z := 1) (fun h => RS.foldW7_le (by omega) h) s0).mono (by simp) (by simp) (by simp)
  have s2 : (stage2 n row).Le 5 18 6 := by
    have := s1.h5
    unfold stage2
    exact (RS.foldO_le (x := 0) (y := 3) (z := 1) (fun h => RS.foldW5_le (by omega) h) s1).mono (by omega) (by omega) (by omega)
  have s3 : (stage3 n row).Le 5 18 24 := by
    have := s2.h3
    unfold stage3
    exact (RS.foldO_le (x := 0) (y := 0) (z := 1) (fun h => RS.foldW3_le (by omega) h) s2).mono (by omega) (by omega) (by omega)
  exact ⟨s0, s1, s2, s3⟩
theorem stage_ok {n : Nat → Nat} (hn : ∀ s, 2 * n s + 1 ≤ s ∨ s < 3) {row : List Int} (h7 : row.length = 7) : stage0.Ok ∧ (stage1 n row).Ok ∧ (stage2 n row).Ok ∧ (stage3 n row).Ok := by
  have n7 := hn 7
  have n5 := hn 5
  have n3 := hn 3
  have s0 : stage0.Ok := ⟨by simp [stage0], by simp [stage0], by simp [stage0]⟩
  have s1 : (stage1 n row).Ok := by unfold stage1; exact RS.foldO_ok (by omega) (by simp [h7]) s0
  have s2 : (stage2 n row).Ok := by unfold stage2; exact RS.foldO_ok (by omega) s1.h5 s1
  have s3 : (stage3 n row).Ok := by unfold stage3; exact RS.foldO_ok (by omega) s2.h3 s2
  exact ⟨s0, s1, s2, s3⟩
section
variable {prog : Program} {w : World} {A : Around} {E : Value → Shared → Prop} {s : Shared} {env : Env} {h₀ : Heap} {x : Str} {body : List Stmt} {Q : Flow → Shared → Prop}
theorem range_loop {r : Addr} {a b c : Int} {t u v : Tok} {n : Nat} {m₀ : Str → Option Value} {news : List (Addr × Obj)} (J : Nat → (Str → Option Value) → List (Addr × Obj) → Prop)
    (hh : A.handled = none) (hr : IsRange s.heap r a b c t u v) (hsmall : Builtin.Range.small a b c = true) (hn : Builtin.Range.rangeSize a b c = (n : Int)) (F : Fr h₀ env.locals s.heap m₀) (N : News h₀ env.locals s.heap news) (h0 : J 0 m₀ news)
    (turn : ∀ (I : Addr) (i : Nat) (m₁ : Str → Option Value) (news₁ : List (Addr × Obj)) (t : Tok) (h : Heap) (tk : Nat), (∀ p ∈ news, p.1 < I) → i < n → J i m₁ news₁ → (∀ p ∈ news₁, p.1 ≠ I) →
      Fr h₀ env.locals h (fun y => if y = x then some (.int (a + (i : Int) * c) t) else m₁ y) → News h₀ env.locals h ((I, krsIt (a + ((i + 1 : Nat) : Int) * c) ((n : Int) - ((i + 1 : Nat) : Int)) c) :: news₁) →
      wpAny (model prog w) A (execs body env) (fun f s₂ => f = .next ∧ UnrEnd h₀ env.locals { s with heap := h, toks := tk } I (krsIt (a + ((i + 1 : Nat) : Int) * c) ((n : Int) - ((i + 1 : Nat) : Int)) c) (J (i + 1)) s₂) E { s with heap := h, toks := tk })
    (done : ∀ (m₁ : Str → Option Value) (news₁ : List (Addr × Obj)) (h : Heap) (tk : Nat), J n m₁ news₁ → Fr h₀ env.locals h m₁ → News h₀ env.locals h news₁ → Q .next { s with heap := h, toks := tk }) :
    wpAny (model prog w) A (pyIter (.ref r)) (fun it s₂ => LoopAtV prog w A h₀ env x body Q E it s₂) E s := by
  refine krs_iter hh hr hsmall hn F N fun I hI => ?_
  have rest : ∀ (k i : Nat) (m₁ : Str → Option Value) (news₁ : List (Addr × Obj)), i + k = n → J i m₁ news₁ → (∀ p ∈ news₁, p.1 ≠ I) → KrsRest prog w A E h₀ env x body Q s I a c n k i m₁ news₁ := by
    intro k
    induction k with
    | zero =>
      intro i m₁ news₁ hi hJ _ h tk F' N'
      have : i = n := by omega
      subst this
      exact done m₁ news₁ h tk hJ F' N'
    | succ k ih =>
      intro i m₁ news₁ hi hJ hoff t h tk F' N'
      refine wpAny_mono (turn I i m₁ news₁ t h tk hI (by omega) hJ hoff F' N') (fun f s₂ hf => ?_) fun _ _ e => e
      obtain ⟨rfl, h', tk', m', news', e, F₂, N₂, off, hJ'⟩ := hf
      exact ⟨h', tk', m', news', e, F₂, N₂, off, ih (i + 1) m' news' (by omega) hJ' off⟩
  exact rest n 0 m₀ news (by omega) h0 fun p hp e => absurd (hI p hp) (e ▸ Nat.lt_irrefl _)

theorem list_loop {l : Addr} {vs : List Value} {nn : Nat} {m₀ : Str → Option Value} {news : List (Addr × Obj)} (J : Nat → (Str → Option Value) → List (Addr × Obj) → Prop)
    (hh : A.handled = none) (F : Fr h₀ env.locals s.heap m₀) (N : News h₀ env.locals s.heap news) (h0 : J 0 m₀ news) (hJl : ∀ i m₁ nx, J i m₁ nx → (l, listOf vs.toArray nn) ∈ nx)
    (turn : ∀ (I : Addr) (oI : Obj) (i : Nat) (v : Value) (m₁ : Str → Option Value) (news₁ : List (Addr × Obj)) (h : Heap) (tk : Nat), (∀ p ∈ news, p.1 < I) → oI.cls = .type "list_iterator" → vs[i]? = some v → J i m₁ news₁ → (∀ p ∈ news₁, p.1 ≠ I) →
      Fr h₀ env.locals h (fun y => if y = x then some v else m₁ y) → News h₀ env.locals h ((I, oI) :: news₁) →
      wpAny (model prog w) A (execs body env) (fun f s₂ => f = .next ∧ UnrEnd h₀ env.locals { s with heap := h, toks := tk } I oI (J (i + 1)) s₂) E { s with heap := h, toks := tk })
    (done : ∀ (m₁ : Str → Option Value) (news₁ : List (Addr × Obj)) (h : Heap) (tk : Nat), J vs.length m₁ news₁ → Fr h₀ env.locals h m₁ → News h₀ env.locals h news₁ → Q .next { s with heap := h, toks := tk }) :
    wpAny (model prog w) A (pyIter (.ref l)) (fun it s₂ => LoopAtV prog w A h₀ env x body Q E it s₂) E s := by
  have hl := hJl _ _ _ h0
  have hol : s.heap.get? l = some (listOf vs.toArray nn) := (N _ hl).1
  have hls : s.heap.IsList l vs.toArray := ⟨_, hol, rfl, nn, rfl⟩
  have hne : l ≠ s.heap.objs.size := Nat.ne_of_lt (Heap.lt_size hol)
  have hI : ∀ p ∈ news, p.1 < s.heap.objs.size := fun p hp => Heap.lt_size (N p hp).1
  refine wpAny_pyIter_list hls ?_
  have W := Walks.list (prog := prog) (w := w) hh s.heap.objs.size l hne vs.toArray
  have hnew := next_is_new F
  refine ⟨_, _, _, vs.toArray.size, _, _, m₀, news, J, rfl, W, ?_, ?_, ?_, ⟨⟨_, Heap.get?_push_size _ rfl, rfl, rfl⟩, hls.at fun o e => Heap.get?_push_of_some _ e⟩, F.push _, (fun p hp => ⟨Heap.get?_push_of_some _ (N p hp).1, (N p hp).2⟩), h0, ?_, ?_⟩
  · intro hm
    rcases List.mem_cons.mp hm with e | hm
    · exact absurd F.ns.lt (e ▸ Nat.lt_irrefl _)
    · exact (N _ hl).2.1 ((List.mem_singleton.mp hm).symm)
  · intro b hb
    rw [List.mem_singleton.mp hb]
    exact hnew
  · intro p hp hq
    exact absurd (hI p hp) ((List.mem_singleton.mp hq) ▸ Nat.lt_irrefl _)
  · rintro i v m₁ news₁ s₁ own ⟨hh', tk', rfl⟩ hin hP hJ hoff hown hget hall hst F₁ N₁
    obtain ⟨⟨oI, hoI, hcls, hdat⟩, _⟩ := hst
    have hmem : (s.heap.objs.size, oI) ∈ own := hall _ (List.mem_cons_self ..) hnew _ hoI
    have hl₁ := hJl _ _ _ hJ
    have hlo : hh'.get? l = some (listOf vs.toArray nn) := (N₁ _ (List.mem_append.mpr (.inr hl₁))).1
    have hv : vs[i]? = some v := by simpa using hP
    have hoff' : ∀ p ∈ news₁, p.1 ≠ s.heap.objs.size := fun p hp e => hoff p hp (List.mem_singleton.mpr e)
    have N₂ : News h₀ env.locals hh' ((s.heap.objs.size, oI) :: news₁) := fun p hp => by
      rcases List.mem_cons.mp hp with rfl | hp
      · exact N₁ _ (List.mem_append_left _ hmem)
      · exact N₁ _ (List.mem_append_right _ hp)
    refine wpAny_mono (turn _ oI i v m₁ news₁ hh' tk' hI hcls hv hJ hoff' F₁ N₂) (fun f s₂ hf => ?_) fun _ _ e => e
    obtain ⟨rfl, h', tk, m', news', e, F', N', off, hJ'⟩ := hf
    refine .next ⟨rfl, h', tk, m', news', e, F', fun p hp => ?_, fun p hp hq => off p hp (List.mem_singleton.mp hq), hJ'⟩
    rcases List.mem_append.mp hp with hp | hp
    · have h2 : hh'.get? p.1 = some p.2 := hget p hp
      rcases List.mem_cons.mp (hown p hp) with h1 | h1
      · rw [h1, hoI] at h2
        have h3 : p = (s.heap.objs.size, oI) := Prod.ext h1 (Option.some.inj h2).symm
        rw [h3]; exact N' _ (List.mem_cons_self ..)
      · have h1 := List.mem_singleton.mp h1
        rw [h1, hlo] at h2
        have h3 : p = (l, listOf vs.toArray nn) := Prod.ext h1 (Option.some.inj h2).symm
        rw [h3]; exact N' _ (List.mem_cons_of_mem _ (hJl _ _ _ hJ'))
    · exact N' _ (List.mem_cons_of_mem _ hp)
  · rintro h' tk m' news' F' N' _ hJ
    rw [List.size_toArray] at hJ
    exact done m' news' h' tk hJ F' N'
end
section
variable {prog : Program} {w : World} {A : Around} {E : Value → Shared → Prop} {s : Shared} {env : Env} {h₀ : Heap} {x : Str} {body : List Stmt} {Q : Flow → Shared → Prop}
theorem tuple_loop {l : Addr} {vs : List Value} {nn : Nat} {m₀ : Str → Option Value} {news : List (Addr × Obj)} (J : Nat → (Str → Option Value) → List (Addr × Obj) → Prop)
    (hh : A.handled = none) (F : Fr h₀ env.locals s.heap m₀) (N : News h₀ env.locals s.heap news) (h0 : J 0 m₀ news) (hJl : ∀ i m₁ nx, J i m₁ nx → (l, ({ cls := .type "tuple", data := .seq vs.toArray nn } : Obj)) ∈ nx)
    (turn : ∀ (I : Addr) (oI : Obj) (i : Nat) (v : Value) (m₁ : Str → Option Value) (news₁ : List (Addr × Obj)) (h : Heap) (tk : Nat), (∀ p ∈ news, p.1 < I) → oI.cls = .type "tuple_iterator" → vs[i]? = some v → J i m₁ news₁ → (∀ p ∈ news₁, p.1 ≠ I) →
      Fr h₀ env.locals h (fun y => if y = x then some v else m₁ y) → News h₀ env.locals h ((I, oI) :: news₁) →
      wpAny (model prog w) A (execs body env) (fun f s₂ => f = .next ∧ UnrEnd h₀ env.locals { s with heap := h, toks := tk } I oI (J (i + 1)) s₂) E { s with heap := h, toks := tk })
    (done : ∀ (m₁ : Str → Option Value) (news₁ : List (Addr × Obj)) (h : Heap) (tk : Nat), J vs.length m₁ news₁ → Fr h₀ env.locals h m₁ → News h₀ env.locals h news₁ → Q .next { s with heap := h, toks := tk }) :
    wpAny (model prog w) A (pyIter (.ref l)) (fun it s₂ => LoopAtV prog w A h₀ env x body Q E it s₂) E s := by
  have hl := hJl _ _ _ h0
  have hol : s.heap.get? l = some (({ cls := .type "tuple", data := .seq vs.toArray nn } : Obj)) := (N _ hl).1
  have hls : s.heap.IsTuple l vs.toArray := ⟨_, hol, rfl, nn, rfl⟩
  have hne : l ≠ s.heap.objs.size := Nat.ne_of_lt (Heap.lt_size hol)
  have hI : ∀ p ∈ news, p.1 < s.heap.objs.size := fun p hp => Heap.lt_size (N p hp).1
  refine wpAny_pyIter_tuple hls ?_
  have W := Walks.tuple (prog := prog) (w := w) hh s.heap.objs.size l hne vs.toArray
  have hnew := next_is_new F
  refine ⟨_, _, _, vs.toArray.size, _, _, m₀, news, J, rfl, W, ?_, ?_, ?_, ⟨⟨_, Heap.get?_push_size _ rfl, rfl, rfl⟩, hls.at fun o e => Heap.get?_push_of_some _ e⟩, F.push _, (fun p hp => ⟨Heap.get?_push_of_some _ (N p hp).1, (N p hp).2⟩), h0, ?_, ?_⟩
  · intro hm
    rcases List.mem_cons.mp hm with e | hm
    · exact absurd F.ns.lt (e ▸ Nat.lt_irrefl _)
    · exact (N _ hl).2.1 ((List.mem_singleton.mp hm).symm)
  · intro b hb
    rw [List.mem_singleton.mp hb]
    exact hnew
  · intro p hp hq
    exact absurd (hI p hp) ((List.mem_singleton.mp hq) ▸ Nat.lt_irrefl _)
  · rintro i v m₁ news₁ s₁ own ⟨hh', tk', rfl⟩ hin hP hJ hoff hown hget hall hst F₁ N₁
    obtain ⟨⟨oI, hoI, hcls, hdat⟩, _⟩ := hst
    have hmem : (s.heap.objs.size, oI) ∈ own := hall _ (List.mem_cons_self ..) hnew _ hoI
    have hl₁ := hJl _ _ _ hJ
    have hlo : hh'.get? l = some (({ cls := .type "tuple", data := .seq vs.toArray nn } : Obj)) := (N₁ _ (List.mem_append.mpr (.inr hl₁))).1
    have hv : vs[i]? = some v := by simpa using hP
    have hoff' : ∀ p ∈ news₁, p.1 ≠ s.heap.objs.size := fun p hp e => hoff p hp (List.mem_singleton.mpr e)
    have N₂ : News h₀ env.locals hh' ((s.heap.objs.size, oI) :: news₁) := fun p hp => by
      rcases List.mem_cons.mp hp with rfl | hp
      · exact N₁ _ (List.mem_append_left _ hmem)
      · exact N₁ _ (List.mem_append_right _ hp)
    refine wpAny_mono (turn _ oI i v m₁ news₁ hh' tk' hI hcls hv hJ hoff' F₁ N₂) (fun f s₂ hf => ?_) fun _ _ e => e
    obtain ⟨rfl, h', tk, m', news', e, F', N', off, hJ'⟩ := hf
    refine .next ⟨rfl, h', tk, m', news', e, F', fun p hp => ?_, fun p hp hq => off p hp (List.mem_singleton.mp hq), hJ'⟩
    rcases List.mem_append.mp hp with hp | hp
    · have h2 : hh'.get? p.1 = some p.2 := hget p hp
      rcases List.mem_cons.mp (hown p hp) with h1 | h1
      · rw [h1, hoI] at h2
        have h3 : p = (s.heap.objs.size, oI) := Prod.ext h1 (Option.some.inj h2).symm
        rw [h3]; exact N' _ (List.mem_cons_self ..)
      · have h1 := List.mem_singleton.mp h1
        rw [h1, hlo] at h2
        have h3 : p = (l, ({ cls := .type "tuple", data := .seq vs.toArray nn } : Obj)) := Prod.ext h1 (Option.some.inj h2).symm
        rw [h3]; exact N' _ (List.mem_cons_of_mem _ (hJl _ _ _ hJ'))
    · exact N' _ (List.mem_cons_of_mem _ hp)
  · rintro h' tk m' news' F' N' _ hJ
    rw [List.size_toArray] at hJ
    exact done m' news' h' tk hJ F' N'
end
theorem ints_unique {vs : List Value} {a b : List Int} (h1 : IntsAre vs a) (h2 : IntsAre vs b) : a = b := by
  induction h1 generalizing b with
  | nil => cases h2; rfl
  | cons n t _ ih => cases h2 with | cons _ _ h => rw [ih h]
def HeadOf (news : List (Addr × Obj)) (v y : Value) : Prop := ∀ (b : Addr) (vs : List Value) (k : Nat) (ns : List Int), v = .ref b → (b, listOf vs.toArray k) ∈ news → IntsAre vs ns → ∃ t, y = .int (ns.getD 0 0) t
theorem heads_ints {news : List (Addr × Obj)} {v ys : List Value} {r : List (List Int)} (hR : RowsIn news v r) (hP : Paired (HeadOf news) v ys) : IntsAre ys (r.map fun f => f.getD 0 0) := by
  induction hR generalizing ys with
  | nil => cases hP; exact .nil
  | cons hm hi _ ih =>
    cases hP with
    | cons hF hP =>
      obtain ⟨t, rfl⟩ := hF _ _ _ _ rfl hm hi
      exact .cons _ _ (ih hP)
section
variable {prog : Program} {w : World} {A : Around} {E : Value → Shared → Prop} {s : Shared} {env : Env} {h₀ : Heap} {L : Addr} {m : Str → Option Value} {news : List (Addr × Obj)}
theorem comp_heads {iter : PySem.Expr} {x : Str} {px p1 p2 p3 pos : Pos} {k0 : Nat} {scope : Scope} {Q : Value → Shared → Prop} {a : Addr} {v : List Value} {n : Nat} {r : List (List Int)}
    (hh : A.handled = none) (F : Fr h₀ L s.heap m) (N : News h₀ L s.heap news) (ham : (a, listOf v.toArray n) ∈ news) (R : RowsIn news v r) (hne : ∀ f ∈ r, 0 < f.length) (hv : v.length ≤ 1000)
    (hfree : ∀ y ∈ scope.names, y.2 ≠ .free) (hcell : ∀ y ∈ scope.names, y.2 ≠ .cell) (hkind : scope.kind = .function)
    (hnames : ∀ y ∈ scope.names, y.2 = .local → scope.names.lookup y.1 = some .local) (hx : scope.names.lookup x = some .local) (hdb : (x == ("__debug__" : Str)) = false)
    (hs : ∀ x, foldedSetIterable iter env x = pure x)
    (hsub : ∀ (b : Addr) (u : Tok), subscripted (.Constant (.int 0) k0 p2) false (.ref b) (.int 0 u) = operate [.ref b, .int 0 u] (getItem (.ref b) (.int 0 u)))
    (hgo : ∀ (b : Addr) (r : Value), letTemporaryGo (.Name x p1) (.ref b) r = pure ())
    (hit : ∀ Q' : Value → Shared → Prop, (∀ tk, Q' (.ref a) { s with toks := tk }) → wpAny (model prog w) A (eval iter env) Q' E s)
    (hret : ∀ (h' : Heap) (tk : Nat) (D : Addr) (ys : List Value) (k : Nat), Fr h₀ L h' m → News h₀ L h' ((D, listOf ys.toArray k) :: news) → IntsAre ys (r.map fun f => f.getD 0 0) → Q (.ref D) { s with heap := h', toks := tk }) :
    wpAny (model prog w) A (eval (.ListComp (.Subscript (.Name x p1) (.Constant (.int 0) k0 p2) p3) [⟨.Name x px, iter, [], 0⟩] scope pos) env) Q E s := by
  have hol : s.heap.get? a = some (listOf v.toArray n) := (N _ ham).1
  have hls : s.heap.IsList a v.toArray := ⟨_, hol, rfl, n, rfl⟩
  have hna : a ≠ s.heap.objs.size := Nat.ne_of_lt (Heap.lt_size hol)
  refine wpAny_ListComp_walk (fun _ => true) (HeadOf news) hfree hcell hkind hnames hx (hit _ fun tk => ?_) hs
  refine wpAny_pyIter_list (s := { s with toks := tk }) hls ?_
  have W := Walks.list (prog := prog) (w := w) hh s.heap.objs.size a hna v.toArray
  refine ⟨_, _, _, _, _, _, rfl, W, by simp [sizeLine_eq]; omega, ⟨⟨_, Heap.get?_push_size _ rfl, rfl, rfl⟩, hls.at fun o e => Heap.get?_push_of_some _ e⟩, ?_, ⟨?_, ?_⟩, ?_⟩
  · intro b hb
    show b < (s.heap.push _).objs.size
    rw [Heap.size_push]
    rcases List.mem_cons.mp hb with rfl | hb
    · exact Nat.lt_succ_self _
    · rw [List.mem_singleton.mp hb]; exact Nat.lt_succ_of_lt (Heap.lt_size hol)
  · intro C i u s₃ m₃ E' _ _ _ _ _
    exact wpAny_pure ⟨rfl, s₃.heap, s₃.toks, rfl, fun _ _ e => e⟩
  · intro C i u s₃ m₃ E' hP _ hns hm hk _
    have hP' : v[i]? = some u := by simpa using hP
    obtain ⟨b, vs, ns, k, rfl, hbm, hI, hr⟩ := R.get hP'
    have hbl : s₃.heap.IsList b vs.toArray := by
      refine ⟨_, hk b _ ?_ (Heap.get?_push_of_some _ (N _ hbm).1), rfl, k, rfl⟩
      intro hb
      exact absurd (Heap.lt_size (N _ hbm).1) ((List.mem_singleton.mp hb) ▸ Nat.lt_irrefl _)
    refine Subscript_ (wpAny_Name (wpAny_loadName_local (env := compEnv scope C env) hkind (by simpa [Env.kindOf, compEnv] using hx) hns hm ?_) hdb)
    refine wpAny_Constant_int (item_list_ints (s := { s₃ with toks := s₃.toks + 1 }) hbl hI (by omega) (by have := hne ns (List.mem_of_getElem? hr); omega) (by decide) (fun t => ?_) (hsub _ _) (hgo _))
    refine ⟨?_, s₃.heap, s₃.toks + 1, rfl, fun _ _ e => e⟩
    intro b' vs' k' ns' e hm' hI'
    cases e
    have e1 := news_fun N hbm hm'
    have e2 : vs = vs' := by
      have := congrArg Obj.data e1
      simp only [Data.seq.injEq] at this
      simpa using this.1
    subst e2
    rw [ints_unique hI' hI]
    exact ⟨t, rfl⟩
  · intro D h' tk' ys vs hD hl hpl hlen hvs hPair hk
    have hvv : vs = v := by
      apply List.ext_getElem?
      intro j
      by_cases hj : j < vs.length
      · have := hvs j vs[j] (by simp [hj])
        have h1 : v[j]? = some vs[j] := by simpa using this
        rw [h1]; simp [hj]
      · have h2 : v.length ≤ j := by simp at hlen; omega
        rw [List.getElem?_eq_none (by omega), List.getElem?_eq_none h2]
    subst hvv
    have hkk : ∀ b o, s.heap.get? b = some o → h'.get? b = some o := fun b o e => hk b o (fun hb => absurd (Heap.lt_size e) ((List.mem_singleton.mp hb) ▸ Nat.lt_irrefl _)) (Heap.get?_push_of_some _ e)
    have hDs : s.heap.get? D = none := by
      cases e : s.heap.get? D with
      | none => rfl
      | some o => have e' := Heap.get?_push_of_some ({ cls := .type "list_iterator", data := .fields #[.ref a, .int 0 0] } : Obj) e; rw [hD] at e'; cases e'
    obtain ⟨k, hDk⟩ := hpl
    have F' : Fr h₀ L h' m := F.kept hkk
    have hys : ys = ys.toList.toArray := by simp
    refine hret h' tk' D ys.toList k F' ?_ (heads_ints R (by rwa [List.filter_eq_self.mpr (fun _ _ => rfl)] at hPair))
    intro q hq
    rcases List.mem_cons.mp hq with rfl | hq
    · refine ⟨by rw [hDk], ?_, ?_⟩
      · intro e
        obtain ⟨oL, _, _, hL, _⟩ := F.ns
        have e' : D = L := e
        rw [e', hL] at hDs; cases hDs
      · cases e : h₀.get? D with
        | none => rfl
        | some o => have := F.keep D o e; rw [hDs] at this; cases this
    · exact ⟨hkk _ _ (N q hq).1, (N q hq).2⟩
end
theorem news_drop2 {h₀ h : Heap} {L : Addr} {x y : Addr × Obj} {news : List (Addr × Obj)} (N : News h₀ L h (x :: y :: news)) : News h₀ L h (x :: news) := fun p hp => by
  rcases List.mem_cons.mp hp with rfl | hp
  · exact N _ (List.mem_cons_self ..)
  · exact N _ (List.mem_cons_of_mem _ (List.mem_cons_of_mem _ hp))
section
local macro_rules | `(tactic| walk_at "call ref") => `(tactic| (k_here; (with_reducible show wpAny _ _ (call (Value.ref 79) [Value.ref _, Value.int _ _]) _ _ _); (with_unfolding_all refine' mid_call ?mmk1 ?mmk2 ?mmk3 ?mmk4 ?mmk5 ?mmk6 ?mmk7 ?mmk8 ?mmk9 ?mmk10 ?mmk11 ?mmk12 ?_; (case mmk1 => k_asm); (case mmk2 => k_asm); (case mmk3 => k_asm); (case mmk4 => k_asm); (case mmk5 => k_asm); (case mmk6 => rfl); (case mmk7 => rfl); (case mmk8 => k_mem); (case mmk9 => l_ints); (case mmk10 => omega); (case mmk11 => omega); (case mmk12 => omega)); intro t9 h' tk9 F' N'; (try k_sweep)))
local macro_rules | `(tactic| walk_at "eval IfExp") => `(tactic| (k_here; (with_reducible show wpAny _ _ (eval (Expr.IfExp _ _ _ _) _) _ _ _); refine join_int (by assumption) ?_ ?_; ((rename Hold _ => hH9); clear hH9); rotate_left; intro x9 tx9 tk9 hx9; rotate_right))
local macro_rules | `(tactic| walk_at "JoinI") => `(tactic| (refine JoinI.intro ?_; first | (right; omega) | (left; exact fmod5 _)))
local macro_rules | `(tactic| k_updF) => `(tactic| first | (with_reducible assumption) | (refine' UpdF.tail ?muf1 ?muf2; (case muf1 => first | exact ne_of_l1 (by assumption) (by assumption) | exact ne_of_l2 (by assumption) (by assumption) | k_ne); (case muf2 => k_updF)))
local macro_rules | `(tactic| walk_at "storeName") => `(tactic| (k_here; k_dflt (refine' storeX_C ?msc1 ?msc2 ?msc3 ?msc4 ?msc5 ?_ ?msc6 ?msc7; (case msc6 => rfl); (case msc7 => rfl); (case msc1 => k_asm); (case msc2 => k_asm); (case msc3 => rfl); (case msc4 => k_updF); (case msc5 => k_asm)); intro h' o' F' N' d'; (try dsimp only at N'); ((rename UpdF _ _ _ _ => hU9); (have hM9 := updF_mem hU9 o')); (try ((rename (∀ o' : Obj, _ ∈ _) => hB9); (have hB8 := hB9 o'))); (try k_sweep)))
local macro_rules | `(tactic| walk_at "storeName") => `(tactic| (k_here; k_dflt (refine' storeX_M ?msm1 ?msm2 ?_ ?msm3 ?msm4; (case msm1 => k_asm); (case msm2 => k_asm); (case msm3 => rfl); (case msm4 => rfl)); intro h' m' F' N' me9 mn9; (try (have q1 := (mn9 (Str.ofString "rows") (by decide +kernel)).trans (by with_reducible assumption))); (try (have q2 := (mn9 (Str.ofString "widest") (by decide +kernel)).trans (by with_reducible assumption))); (try (have q3 := (mn9 (Str.ofString "start") (by decide +kernel)).trans (by with_reducible assumption))); (try (have q4 := (mn9 (Str.ofString "size") (by decide +kernel)).trans (by with_reducible assumption))); (try (have q5 := (mn9 (Str.ofString "one") (by decide +kernel)).trans (by with_reducible assumption))); (try (have q6 := (mn9 (Str.ofString "width") (by decide +kernel)).trans (by with_reducible assumption))); (try (have q7 := (mn9 (Str.ofString "i") (by decide +kernel)).trans (by with_reducible assumption))); (try (have q8 := (mn9 (Str.ofString "some") (by decide +kernel)).trans (by with_reducible assumption))); (try k_sweep)))
local macro_rules | `(tactic| walk_at "call builtin:len") => `(tactic| (k_here; (with_reducible show wpAny _ _ (call (Value.builtin _) [Value.ref _]) _ _ _); (with_unfolding_all refine' len_carried ?mln1 ?mln2 ?mln3 ?_; (case mln1 => assumption); (case mln2 => assumption); (case mln3 => omega))))
set_option maxRecDepth 100000 in
set_option maxHeartbeats 8000000 in
theorem chunkA {w : World} {p : Program} {loose : List Str} {mean : ExcName → Option Value} {mg mb : Str → Option Value} {e1 : Env} {A₀ : Around} {base h₀ : Heap} {L : Nat} {m : Str → Option Value} {s : Shared} {Q : Flow → Shared → Prop} {E : Value → Shared → Prop} {news : List (Addr × Obj)}
    {g : Obj → List (Addr × Obj)} {b : Addr} {oc : Obj} {co : Option Value} {vs : List Value} {k : Nat} {tw ts td ti : Tok} {wd st : Int} {width i : Nat} {ns : List Int}
    (B : Below A₀ base [e1] h₀) (F : Fr h₀ L s.heap m) (X : (hd.heap_39 w.params).In h₀) (T : Top p loose mean mg mb h₀) (N : News h₀ L s.heap news)
    (U : UpdF (L + 1) oc news g) (hoc : oc.data = .cell co) (hcm : (L + 1, oc) ∈ news)
    (hb : (b, listOf vs.toArray k) ∈ news) (hbg : ∀ o', (b, listOf vs.toArray k) ∈ g o') (hI : IntsAre vs ns)
    (hwidth : width = 3 ∨ width = 5 ∨ width = 7) (hi : i + width ≤ ns.length) (h7 : ns.length ≤ 7) (hwd : wd = 7 ∨ wd = 3 ∧ width = 3)
    (m2 : m (Str.ofString "widest") = some (.int wd tw)) (m3 : m (Str.ofString "start") = some (.int st ts))
    (m5 : m (Str.ofString "one") = some (.ref b)) (m6 : m (Str.ofString "width") = some (.int width td)) (m7 : m (Str.ofString "i") = some (.int i ti))
    (hW : Hold (width = 3))
    (hret : ∀ (h' : Heap) (tk : Nat) (m' : Str → Option Value) (D : Addr) (ws : List Value) (o' : Obj) (t : Tok), Fr h₀ L h' m' → News h₀ L h' ((D, listOf ws.toArray 0) :: g o') → (∀ p ∈ news, p.1 < D) → IntsAre ws (win i width ns) → o'.data = .cell (some (.int (med (win i width ns)) t)) →
      m' (Str.ofString "some") = some (.ref D) → (∀ y, y ≠ Str.ofString "some" → m' y = m y) → Q .next { s with heap := h', toks := tk }) :
    wpAny (model PySem.Challenge.rw_rs0113_01.row.prog w) ((callerA.deeper e1).deeper (envL L)) (execs [stOf 0, stOf 1, stOf 2] (envL L)) Q E s := by
  have hb1 : [stOf 0, stOf 1, stOf 2] = [stOf 0, stOf 1, stOf 2] := rfl
  conv at hb1 => rhs; arg 1; whnf
  conv at hb1 => rhs; arg 2; arg 1; whnf
  conv at hb1 => rhs; arg 2; arg 2; arg 1; whnf
  have hb2 : leftScope = leftScope := rfl
  conv at hb2 => rhs; whnf
  rw [hb1]; unfold envL; rw [hb2]; clear hb1 hb2
  w_top off; revert X; k_fill; intro X
  k_steps
  exact hret _ _ _ _ _ _ _ (by assumption) (news_tail (by assumption)) (by assumption) (by rw [← win_eq hi]; assumption) (by rw [← win_eq hi]; assumption) (by assumption) (by assumption)
set_option maxRecDepth 100000 in
set_option maxHeartbeats 8000000 in
theorem chunkB {w : World} {p : Program} {loose : List Str} {mean : ExcName → Option Value} {mg mb : Str → Option Value} {e1 : Env} {A₀ : Around} {base h₀ : Heap} {L : Nat} {m : Str → Option Value} {s : Shared} {Q : Flow → Shared → Prop} {E : Value → Shared → Prop} {news : List (Addr × Obj)}
    {D : Addr} {oc : Obj} {ws : List Value} {k : Nat} {td t : Tok} {width : Nat} {ns : List Int}
    (B : Below A₀ base [e1] h₀) (F : Fr h₀ L s.heap m) (X : (hd.heap_39 w.params).In h₀) (T : Top p loose mean mg mb h₀) (N : News h₀ L s.heap ((D, listOf ws.toArray k) :: (L + 1, oc) :: news))
    (hoc : oc.data = .cell (some (.int (med ns) t)))
    (hI : IntsAre ws ns) (hlen : ns.length = width)
    (hwidth : width = 3 ∨ width = 5 ∨ width = 7)
    (m6 : m (Str.ofString "width") = some (.int width td)) (m7 : m (Str.ofString "some") = some (.ref D))
    (hret : ∀ (h' : Heap) (tk : Nat), Fr h₀ L h' m → News h₀ L h' ((D, listOf ws.toArray k) :: (L + 1, oc) :: news) → Q .next { s with heap := h', toks := tk }) :
    wpAny (model PySem.Challenge.rw_rs0113_01.row.prog w) ((callerA.deeper e1).deeper (envL L)) (exec (stOf 3) (envL L)) Q E s := by
  have hb1 : stOf 3 = stOf 3 := rfl
  conv at hb1 => rhs; whnf
  have hb2 : leftScope = leftScope := rfl
  conv at hb2 => rhs; whnf
  rw [hb1]; unfold envL; rw [hb2]; clear hb1 hb2
  w_top off; revert X; k_fill; intro X
  k_steps
  · exfalso
    have hc9 := med_counts (ns := ns) (by omega)
    (rename (Int.fdiv _ 2 < _) => hx9)
    rw [fdiv2] at hx9
    simp only [gt_iff_lt] at hx9
    split at hx9 <;> omega
  · exact hret _ _ (by assumption) (news_tail (by assumption))
  · exact hret _ _ (by assumption) (by assumption)
set_option maxRecDepth 100000 in
set_option maxHeartbeats 8000000 in
theorem chunkC {w : World} {p : Program} {loose : List Str} {mean : ExcName → Option Value} {mg mb : Str → Option Value} {e1 : Env} {A₀ : Around} {base h₀ : Heap} {L : Nat} {m : Str → Option Value} {s : Shared} {Q : Flow → Shared → Prop} {E : Value → Shared → Prop} {news : List (Addr × Obj)}
    {b : Addr} {oc : Obj} {vs : List Value} {k : Nat} {td ti t : Tok} {width i : Nat} {ns : List Int} {mid : Int}
    (B : Below A₀ base [e1] h₀) (F : Fr h₀ L s.heap m) (X : (hd.heap_39 w.params).In h₀) (T : Top p loose mean mg mb h₀) (N : News h₀ L s.heap news)
    (hcm : (L + 1, oc) ∈ news) (hoc : oc.data = .cell (some (.int mid t)))
    (hb : (b, listOf vs.toArray k) ∈ news) (hI : IntsAre vs ns) 
    (hwidth : width = 3 ∨ width = 5 ∨ width = 7) (hi : i + width ≤ ns.length) (h7 : ns.length ≤ 7)
    (m5 : m (Str.ofString "one") = some (.ref b)) (m6 : m (Str.ofString "width") = some (.int width td)) (m7 : m (Str.ofString "i") = some (.int i ti))
    (hret : ∀ (h' : Heap) (tk : Nat) (m' : Str → Option Value) (D : Addr) (ws : List Value), Fr h₀ L h' m' → News h₀ L h' ((D, listOf ws.toArray 0) :: news) → (∀ p ∈ news, p.1 < D) → IntsAre ws (ns.take i ++ [mid] ++ ns.drop (i + width)) →
      m' (Str.ofString "fewer") = some (.ref D) → (∀ y, y ≠ Str.ofString "fewer" → m' y = m y) → Q .next { s with heap := h', toks := tk }) :
    wpAny (model PySem.Challenge.rw_rs0113_01.row.prog w) ((callerA.deeper e1).deeper (envL L)) (exec (stOf 4) (envL L)) Q E s := by
  have hb1 : stOf 4 = stOf 4 := rfl
  conv at hb1 => rhs; whnf
  have hb2 : leftScope = leftScope := rfl
  conv at hb2 => rhs; whnf
  rw [hb1]; unfold envL; rw [hb2]; clear hb1 hb2
  w_top off; revert X; k_fill; intro X
  k_steps
  (rename (_ ∧ _ ∧ _ ∧ _ ∧ AllLt _ _) => hl9)
  (rename News _ _ _ _ => hN9)
  have e1 : ((i : Int) + (width : Int)).toNat = i + width := by omega
  have e2 : (i : Int).toNat = i := by omega
  (rename IntsAre _ (_ ++ _ ++ _) => hI9)
  rw [e1, e2] at hI9
  refine hret _ _ _ _ _ (by assumption) ?_ (allLt_mem hl9.2.2.2.2) hI9 (by assumption) (by assumption)
  intro p9 hp9
  rcases List.mem_cons.mp hp9 with rfl | hp9
  · exact hN9 _ (List.mem_cons_self ..)
  · exact hN9 _ (by simp [hp9])
section
local macro_rules | `(tactic| walk_at "subscriptTail") => `(tactic| (k_here; (with_reducible show wpAny _ _ (subscriptTail _ _ (Value.ref _) (Value.int _ _)) _ _ _); k_dflt (refine' dict_item ?mdi1 ?mdi2 ?mdi3 ?mdi4 ?_ ?mdi5; (case mdi1 => k_asm); (case mdi2 => k_mem); (case mdi3 => k_asm); (case mdi4 => with_reducible assumption); (case mdi5 => with_unfolding_all rfl))))
local macro_rules | `(tactic| walk_at "compareOp NotIn") => `(tactic| (k_here; (with_reducible show wpAny _ _ (compareOp CmpOp.NotIn (Value.ref _) (Value.ref _)) _ _ _); k_dflt (refine' rows_notIn ?mri1 ?mri2 ?mri3 ?mri4 ?mri5 ?mri6 ?_; (case mri1 => k_asm); (case mri2 => k_mem); (case mri3 => assumption); (case mri4 => k_mem); (case mri5 => assumption); (case mri6 => ((have hcL9 := cLine_is); (simp only [units_in1, units_deeper, Around.mark_units, units_caller]); omega)))))
local macro_rules | `(tactic| k_upd) => `(tactic| (with_reducible assumption))
set_option maxRecDepth 100000 in
set_option maxHeartbeats 8000000 in
theorem chunkD {w : World} {p : Program} {loose : List Str} {mean : ExcName → Option Value} {mg mb : Str → Option Value} {e1 : Env} {A₀ : Around} {base h₀ : Heap} {L : Nat} {m : Str → Option Value} {s : Shared} {Q : Flow → Shared → Prop} {E : Value → Shared → Prop} {news news' : List (Addr × Obj)}
    {d a D : Addr} {od : Obj} {v ws : List Value} {n k : Nat} {r : List (List Int)} {fl : List Int} {kvs : List (Int × Value)}
    (B : Below A₀ base [e1] h₀) (F : Fr h₀ L s.heap m) (X : (hd.heap_39 w.params).In h₀) (T : Top p loose mean mg mb h₀) (N : News h₀ L s.heap news)
    (hdm : (d, od) ∈ news) (hod : od.IsDictOf (intKind PySem.Challenge.rw_rs0113_01.row.prog w) kvs) (hv : valueAt kvs (fl.length : Int) = some (.ref a))
    (ham : (a, listOf v.toArray n) ∈ news) (R : RowsIn news v r) (hD : (D, listOf ws.toArray k) ∈ news) (hI : IntsAre ws fl) (hf7 : fl.length ≤ 7) (hvs : v.toArray.size ≤ 1000)
    (U : Upd a (listOf v.toArray n) (listOf (v.toArray.push (.ref D)) (n + 1)) news news')
    (m1 : m (Str.ofString "rows") = some (.ref d)) (m8 : m (Str.ofString "fewer") = some (.ref D))
    (hret : ∀ (h' : Heap) (tk : Nat), Fr h₀ L h' m → (fl ∈ r → News h₀ L h' news) → (fl ∉ r → News h₀ L h' news') → Q .next { s with heap := h', toks := tk }) :
    wpAny (model PySem.Challenge.rw_rs0113_01.row.prog w) ((callerA.deeper e1).deeper (envL L)) (exec (stOf 5) (envL L)) Q E s := by
  have hb1 : stOf 5 = stOf 5 := rfl
  conv at hb1 => rhs; whnf
  have hb2 : leftScope = leftScope := rfl
  conv at hb2 => rhs; whnf
  rw [hb1]; unfold envL; rw [hb2]; clear hb1 hb2
  w_top off; revert X; k_fill; intro X
  k_steps
  · exact hret _ _ (by assumption) (fun _ => by assumption) (fun h9 => absurd (by assumption) h9)
  · exact hret _ _ (by assumption) (fun h9 => absurd h9 (by assumption)) (fun _ => by assumption)
end
set_option maxHeartbeats 2000000 in
theorem turn_call {w : World} {p : Program} {loose : List Str} {mean : ExcName → Option Value} {mg mb : Str → Option Value} {e1 : Env} {A₀ : Around} {base h₀ : Heap} {L d a7 a5 a3 a1 b : Nat} {m : Str → Option Value} {s : Shared} {Q : Flow → Shared → Prop} {E : Value → Shared → Prop} {news : List (Addr × Obj)}
    {kvs : List (Int × Value)} {r7 r5 r3 r1 : List (List Int)} {T : Nat} {vs : List Value} {k : Nat} {tw ts td ti : Tok} {wd st : Int} {width i : Nat} {ns : List Int}
    (B : Below A₀ base [e1] h₀) (F : Fr h₀ L s.heap m) (X : (hd.heap_39 w.params).In h₀) (Tp : Top p loose mean mg mb h₀) (N : News h₀ L s.heap news)
    (S : LeftSt PySem.Challenge.rw_rs0113_01.row.prog w L d a7 a5 a3 a1 kvs r7 r5 r3 r1 T news) (hord : Ord6 L d a7 a5 a3 a1) (k5 : valueAt kvs 5 = some (.ref a5)) (k3 : valueAt kvs 3 = some (.ref a3)) (k1 : valueAt kvs 1 = some (.ref a1))
    (hb : (b, listOf vs.toArray k) ∈ news) (hbA : b < L ∨ a1 < b) (hI : IntsAre vs ns) (hsize : ns.length = 3 ∨ ns.length = 5 ∨ ns.length = 7) (hwidth : width = 3 ∨ width = 5 ∨ width = 7) (hi : i + width ≤ ns.length) (hwd : wd = 7 ∨ wd = 3 ∧ width = 3) (hT : T ≤ 900)
    (m1 : m (Str.ofString "rows") = some (.ref d)) (m2 : m (Str.ofString "widest") = some (.int wd tw)) (m3 : m (Str.ofString "start") = some (.int st ts))
    (m5 : m (Str.ofString "one") = some (.ref b)) (m6 : m (Str.ofString "width") = some (.int width td)) (m7 : m (Str.ofString "i") = some (.int i ti))
    (hret : ∀ (h' : Heap) (tk : Nat) (m' : Str → Option Value) (news' : List (Addr × Obj)), Fr h₀ L h' m' → News h₀ L h' news' →
      LeftSt PySem.Challenge.rw_rs0113_01.row.prog w L d a7 a5 a3 a1 kvs r7 (if ns.length - width + 1 = 5 then put (fewerOf i width ns) r5 else r5) (if ns.length - width + 1 = 3 then put (fewerOf i width ns) r3 else r3) (if ns.length - width + 1 = 1 then put (fewerOf i width ns) r1 else r1) (T + 1) news' →
      (∀ x ∈ news, (@LT.lt Nat _ x.1 L ∨ @LT.lt Nat _ a1 x.1 ∨ x.1 = a7 ∨ x.1 = a5 ∨ x.1 = a3) → x.1 ≠ addrAt a5 a3 a1 (ns.length - width + 1) → x ∈ news') → (∀ y, y ≠ Str.ofString "some" → y ≠ Str.ofString "fewer" → m' y = m y) → Q .next { s with heap := h', toks := tk }) :
    wpAny (model PySem.Challenge.rw_rs0113_01.row.prog w) ((callerA.deeper e1).deeper (envL L)) (execs turnI (envL L)) Q E s := by
  obtain ⟨⟨od, hdm, hod⟩, ⟨oc, co, hcm, hoc⟩, ⟨v7, n7, h7m, R7⟩, ⟨v5, n5, h5m, R5⟩, ⟨v3, n3, h3m, R3⟩, ⟨v1, n1, h1m, R1⟩, hbd⟩ := S
  have hord' := hord
  simp only [Ord6] at hord'
  have hPok : PoolOk L a1 (poolOf L a1 news) := poolOf_ok
  have hPsub : ∀ x ∈ poolOf L a1 news, x ∈ news := fun x hx => (mem_poolOf.mp hx).1
  generalize hpool : poolOf L a1 news = pool at *
  have hbP : (b, listOf vs.toArray k) ∈ pool := hpool ▸ mem_poolOf.mpr ⟨hb, hbA⟩
  have N0 : News h₀ L s.heap ((d, od) :: (a7, listOf v7.toArray n7) :: (a5, listOf v5.toArray n5) :: (a3, listOf v3.toArray n3) :: (a1, listOf v1.toArray n1) :: (L + 1, oc) :: pool) := by
    intro x hx
    simp only [List.mem_cons] at hx
    rcases hx with rfl | rfl | rfl | rfl | rfl | rfl | hx
    · exact N _ hdm
    · exact N _ h7m
    · exact N _ h5m
    · exact N _ h3m
    · exact N _ h1m
    · exact N _ hcm
    · exact N _ (hPsub _ hx)
  have U : UpdF (L + 1) oc ((d, od) :: (a7, listOf v7.toArray n7) :: (a5, listOf v5.toArray n5) :: (a3, listOf v3.toArray n3) :: (a1, listOf v1.toArray n1) :: (L + 1, oc) :: pool)
      (fun o' => (d, od) :: (a7, listOf v7.toArray n7) :: (a5, listOf v5.toArray n5) :: (a3, listOf v3.toArray n3) :: (a1, listOf v1.toArray n1) :: (L + 1, o') :: pool) :=
    .tail (neN (by omega)) (.tail (neN (by omega)) (.tail (neN (by omega)) (.tail (neN (by omega)) (.tail (neN (by omega)) (.head (hPok.ne (by omega)))))))
  rw [turnI_eq]
  refine execs_app (chunkA (k := k) B F X Tp N0 U hoc (by simp) (tail6 hbP) (fun o' => tail6 hbP) hI hwidth hi (by omega) hwd m2 m3 m5 m6 m7 ⟨⟩ ?_)
  intro h1 tk1 m' D ws o' t F1 N1 hlt hIw hoc' ms mn
  refine wpAny_execs_cons (chunkB (news := (d, od) :: (a7, listOf v7.toArray n7) :: (a5, listOf v5.toArray n5) :: (a3, listOf v3.toArray n3) :: (a1, listOf v1.toArray n1) :: (L + 1, o') :: pool) (D := D) (oc := o') (ws := ws) (k := 0) B F1 X Tp ?_ hoc' hIw (win_length hi) hwidth ((mn _ (by decide +kernel)).trans m6) ms ?_)
  · intro x hx
    rcases List.mem_cons.mp hx with rfl | hx
    · exact N1 _ (List.mem_cons_self ..)
    rcases List.mem_cons.mp hx with rfl | hx
    · exact N1 _ (by simp)
    · exact N1 _ (List.mem_cons_of_mem _ hx)
  intro h2 tk2 F2 N2
  refine wpAny_execs_cons (chunkC (news := (d, od) :: (a7, listOf v7.toArray n7) :: (a5, listOf v5.toArray n5) :: (a3, listOf v3.toArray n3) :: (a1, listOf v1.toArray n1) :: (L + 1, o') :: pool) (k := k) (oc := o') B F2 X Tp (news_tail (news_tail N2)) (by simp) hoc' (tail6 hbP) hI hwidth hi (by omega) ((mn _ (by decide +kernel)).trans m5) ((mn _ (by decide +kernel)).trans m6) ((mn _ (by decide +kernel)).trans m7) ?_)
  intro h3 tk3 m'' D2 ws2 F3 N3 hlt2 hI2 mf mn2
  have hD2 : @LT.lt Nat _ a1 D2 := hlt2 (a1, listOf v1.toArray n1) (by simp)
  have N4 : News h₀ L h3 ((d, od) :: (a7, listOf v7.toArray n7) :: (a5, listOf v5.toArray n5) :: (a3, listOf v3.toArray n3) :: (a1, listOf v1.toArray n1) :: (L + 1, o') :: (D2, listOf ws2.toArray 0) :: pool) := by
    intro x hx
    apply N3
    simp only [List.mem_cons] at hx ⊢
    rcases hx with h | h | h | h | h | h | h | h
    · exact .inr (.inl h)
    · exact .inr (.inr (.inl h))
    · exact .inr (.inr (.inr (.inl h)))
    · exact .inr (.inr (.inr (.inr (.inl h))))
    · exact .inr (.inr (.inr (.inr (.inr (.inl h)))))
    · exact .inr (.inr (.inr (.inr (.inr (.inr (.inl h))))))
    · exact .inl h
    · exact .inr (.inr (.inr (.inr (.inr (.inr (.inr h))))))
  have hPok2 : PoolOk L a1 ((D2, listOf ws2.toArray 0) :: pool) := hPok.cons (.inr hD2)
  have hfl : (fewerOf i width ns).length = ns.length - width + 1 := fewerOf_length hi
  have hI2' : IntsAre ws2 (fewerOf i width ns) := hI2
  have l5 := R5.length
  have l3 := R3.length
  have l1 := R1.length
  have hm' : ∀ y, y ≠ Str.ofString "some" → y ≠ Str.ofString "fewer" → m'' y = m y := fun y h1 h2 => (mn2 y h2).trans (mn y h1)
  have hd' : (d, od) ∈ news := hdm
  have keep : ∀ (e5 e3 e1 : Addr × Obj), (a5, listOf v5.toArray n5) = e5 ∨ ns.length - width + 1 = 5 → (a3, listOf v3.toArray n3) = e3 ∨ ns.length - width + 1 = 3 → (a1, listOf v1.toArray n1) = e1 ∨ ns.length - width + 1 = 1 →
      ∀ x ∈ news, (@LT.lt Nat _ x.1 L ∨ @LT.lt Nat _ a1 x.1 ∨ x.1 = a7 ∨ x.1 = a5 ∨ x.1 = a3) → x.1 ≠ addrAt a5 a3 a1 (ns.length - width + 1) → x ∈ (d, od) :: (a7, listOf v7.toArray n7) :: e5 :: e3 :: e1 :: (L + 1, o') :: (D2, listOf ws2.toArray 0) :: pool := by
    intro e5 e3 e1 c5 c3 c1 x hx hr hne
    have inP : (@LT.lt Nat _ x.1 L ∨ @LT.lt Nat _ a1 x.1) → x ∈ (d, od) :: (a7, listOf v7.toArray n7) :: e5 :: e3 :: e1 :: (L + 1, o') :: (D2, listOf ws2.toArray 0) :: pool := fun h => tail6 (List.mem_cons_of_mem _ (hpool ▸ mem_poolOf.mpr ⟨hx, h⟩))
    obtain ⟨xa, xo⟩ := x
    rcases hr with h | h | h | h | h
    · exact inP (.inl h)
    · exact inP (.inr h)
    · have h' : xa = a7 := h
      subst h'
      rw [news_fun N hx h7m]
      simp
    · have h' : xa = a5 := h
      subst h'
      rw [news_fun N hx h5m]
      rcases c5 with rfl | c5
      · simp
      · simp [addrAt, c5] at hne
    · have h' : xa = a3 := h
      subst h'
      rw [news_fun N hx h3m]
      rcases c3 with rfl | c3
      · simp
      · simp [addrAt, c3] at hne
  have fin : ∀ (h' : Heap) (tk : Nat) (v5' v3' v1' : List Value) (n5' n3' n1' : Nat) (r5' r3' r1' : List (List Int)), Fr h₀ L h' m'' →
      News h₀ L h' ((d, od) :: (a7, listOf v7.toArray n7) :: (a5, listOf v5'.toArray n5') :: (a3, listOf v3'.toArray n3') :: (a1, listOf v1'.toArray n1') :: (L + 1, o') :: (D2, listOf ws2.toArray 0) :: pool) →
      RowsIn ((D2, listOf ws2.toArray 0) :: pool) v5' r5' → RowsIn ((D2, listOf ws2.toArray 0) :: pool) v3' r3' → RowsIn ((D2, listOf ws2.toArray 0) :: pool) v1' r1' → r5'.length + r3'.length + r1'.length ≤ T + 1 →
      LeftSt PySem.Challenge.rw_rs0113_01.row.prog w L d a7 a5 a3 a1 kvs r7 r5' r3' r1' (T + 1) ((d, od) :: (a7, listOf v7.toArray n7) :: (a5, listOf v5'.toArray n5') :: (a3, listOf v3'.toArray n3') :: (a1, listOf v1'.toArray n1') :: (L + 1, o') :: (D2, listOf ws2.toArray 0) :: pool) := by
    intro h' tk v5' v3' v1' n5' n3' n1' r5' r3' r1' F' N' R5' R3' R1' hb'
    have hsub : ∀ x ∈ (D2, listOf ws2.toArray 0) :: pool, x ∈ poolOf L a1 ((d, od) :: (a7, listOf v7.toArray n7) :: (a5, listOf v5'.toArray n5') :: (a3, listOf v3'.toArray n3') :: (a1, listOf v1'.toArray n1') :: (L + 1, o') :: (D2, listOf ws2.toArray 0) :: pool) :=
      fun x hx => mem_poolOf.mpr ⟨tail6 hx, hPok2 x hx⟩
    exact ⟨⟨od, by simp, hod⟩, ⟨o', _, by simp, hoc'⟩, ⟨v7, n7, by simp, R7.mono fun x hx => hsub x (List.mem_cons_of_mem _ hx)⟩, ⟨v5', n5', by simp, R5'.mono hsub⟩, ⟨v3', n3', by simp, R3'.mono hsub⟩, ⟨v1', n1', by simp, R1'.mono hsub⟩, hb'⟩
  have up : ∀ {v : List Value} {r : List (List Int)}, RowsIn pool v r → RowsIn ((D2, listOf ws2.toArray 0) :: pool) v r := fun h => h.mono fun x hx => List.mem_cons_of_mem _ hx
  have snoc : ∀ {v : List Value} {r : List (List Int)}, RowsIn pool v r → RowsIn ((D2, listOf ws2.toArray 0) :: pool) (v ++ [.ref D2]) (r ++ [fewerOf i width ns]) := fun h => (up h).snoc (List.mem_cons_self ..) hI2'
  have all : ∀ {v : List Value} {r : List (List Int)} {e5 e3 e1 : Addr × Obj}, RowsIn pool v r → RowsIn ((d, od) :: (a7, listOf v7.toArray n7) :: e5 :: e3 :: e1 :: (L + 1, o') :: (D2, listOf ws2.toArray 0) :: pool) v r := fun h => h.mono fun x hx => tail6 (List.mem_cons_of_mem _ hx)
  have hq : ns.length - width + 1 = 5 ∨ ns.length - width + 1 = 3 ∨ ns.length - width + 1 = 1 := by omega
  have one : ∀ {st : Stmt} {s' : Shared}, wpAny (model PySem.Challenge.rw_rs0113_01.row.prog w) ((callerA.deeper e1).deeper (envL L)) (exec st (envL L)) (fun f s'' => match f with | .next => Q .next s'' | f => Q f s'') E s' → wpAny (model PySem.Challenge.rw_rs0113_01.row.prog w) ((callerA.deeper e1).deeper (envL L)) (execs [st] (envL L)) Q E s' := by
    intro st s' h
    refine wpAny_execs_cons (wpAny_mono h (fun f s'' hf => ?_) fun _ _ e => e)
    cases f with
    | next => exact wpAny_execs_nil hf
    | brk => exact hf
    | cont => exact hf
    | ret v => exact hf
  have mr : m'' (Str.ofString "rows") = some (.ref d) := (hm' _ (by decide +kernel) (by decide +kernel)).trans m1
  refine one ?_
  rcases hq with hq | hq | hq
  · rw [if_pos hq, if_neg (by omega), if_neg (by omega)] at hret
    refine chunkD (a := a5) (v := v5) (n := n5) (r := r5) (fl := fewerOf i width ns) (od := od) (kvs := kvs) B F3 X Tp N4 (by simp) hod (by rw [hfl, hq]; exact k5) (by simp) (all R5) (k := 0) (tail6 (List.mem_cons_self ..)) hI2' (by omega) (by simp; omega)
      (.tail (neN (by omega)) (.tail (neN (by omega)) (.head (fun x hx => ?_)))) mr mf ?_
    · simp only [List.mem_cons] at hx
      rcases hx with rfl | rfl | rfl | hx
      · exact neN (by omega)
      · exact neN (by omega)
      · exact neN (by omega)
      · exact hPok2.ne (by omega) x (by simpa using hx)
    · intro h5 tk5 F5 Ny Nn
      by_cases hin : fewerOf i width ns ∈ r5
      · have hp : put (fewerOf i width ns) r5 = r5 := if_pos hin
        rw [hp] at hret
        exact hret _ _ _ _ F5 (Ny hin) (fin _ tk5 _ _ _ _ _ _ _ _ _ F5 (Ny hin) (up R5) (up R3) (up R1) (by omega)) (keep _ _ _ (.inl rfl) (.inl rfl) (.inl rfl)) hm'
      · have hp : put (fewerOf i width ns) r5 = r5 ++ [fewerOf i width ns] := if_neg hin
        rw [hp] at hret
        have N5 := Nn hin
        rw [List.push_toArray] at N5
        exact hret _ _ _ _ F5 N5 (fin _ tk5 _ _ _ _ _ _ _ _ _ F5 N5 (snoc R5) (up R3) (up R1) (by simp; omega)) (keep _ _ _ (.inr hq) (.inl rfl) (.inl rfl)) hm'
  · rw [if_neg (by omega), if_pos hq, if_neg (by omega)] at hret
    refine chunkD (a := a3) (v := v3) (n := n3) (r := r3) (fl := fewerOf i width ns) (od := od) (kvs := kvs) B F3 X Tp N4 (by simp) hod (by rw [hfl, hq]; exact k3) (by simp) (all R3) (k := 0) (tail6 (List.mem_cons_self ..)) hI2' (by omega) (by simp; omega)
      (.tail (neN (by omega)) (.tail (neN (by omega)) (.tail (neN (by omega)) (.head (fun x hx => ?_))))) mr mf ?_
    · simp only [List.mem_cons] at hx
      rcases hx with rfl | rfl | hx
      · exact neN (by omega)
      · exact neN (by omega)
      · exact hPok2.ne (by omega) x (by simpa using hx)
    · intro h5 tk5 F5 Ny Nn
      by_cases hin : fewerOf i width ns ∈ r3
      · have hp : put (fewerOf i width ns) r3 = r3 := if_pos hin
        rw [hp] at hret
        exact hret _ _ _ _ F5 (Ny hin) (fin _ tk5 _ _ _ _ _ _ _ _ _ F5 (Ny hin) (up R5) (up R3) (up R1) (by omega)) (keep _ _ _ (.inl rfl) (.inl rfl) (.inl rfl)) hm'
      · have hp : put (fewerOf i width ns) r3 = r3 ++ [fewerOf i width ns] := if_neg hin
        rw [hp] at hret
        have N5 := Nn hin
        rw [List.push_toArray] at N5
        exact hret _ _ _ _ F5 N5 (fin _ tk5 _ _ _ _ _ _ _ _ _ F5 N5 (up R5) (snoc R3) (up R1) (by simp; omega)) (keep _ _ _ (.inl rfl) (.inr hq) (.inl rfl)) hm'
  · rw [if_neg (by omega), if_neg (by omega), if_pos hq] at hret
    refine chunkD (a := a1) (v := v1) (n := n1) (r := r1) (fl := fewerOf i width ns) (od := od) (kvs := kvs) B F3 X Tp N4 (by simp) hod (by rw [hfl, hq]; exact k1) (by simp) (all R1) (k := 0) (tail6 (List.mem_cons_self ..)) hI2' (by omega) (by simp; omega)
      (.tail (neN (by omega)) (.tail (neN (by omega)) (.tail (neN (by omega)) (.tail (neN (by omega)) (.head (fun x hx => ?_)))))) mr mf ?_
    · simp only [List.mem_cons] at hx
      rcases hx with rfl | hx
      · exact neN (by omega)
      · exact hPok2.ne (by omega) x (by simpa using hx)
    · intro h5 tk5 F5 Ny Nn
      by_cases hin : fewerOf i width ns ∈ r1
      · have hp : put (fewerOf i width ns) r1 = r1 := if_pos hin
        rw [hp] at hret
        exact hret _ _ _ _ F5 (Ny hin) (fin _ tk5 _ _ _ _ _ _ _ _ _ F5 (Ny hin) (up R5) (up R3) (up R1) (by omega)) (keep _ _ _ (.inl rfl) (.inl rfl) (.inl rfl)) hm'
      · have hp : put (fewerOf i width ns) r1 = r1 ++ [fewerOf i width ns] := if_neg hin
        rw [hp] at hret
        have N5 := Nn hin
        rw [List.push_toArray] at N5
        exact hret _ _ _ _ F5 N5 (fin _ tk5 _ _ _ _ _ _ _ _ _ F5 N5 (up R5) (up R3) (snoc R1) (by simp; omega)) (keep _ _ _ (.inl rfl) (.inl rfl) (.inr hq)) hm'
set_option maxRecDepth 100000 in
set_option maxHeartbeats 8000000 in
theorem iterI {w : World} {p : Program} {loose : List Str} {mean : ExcName → Option Value} {mg mb : Str → Option Value} {e1 : Env} {A₀ : Around} {base h₀ : Heap} {L : Nat} {m : Str → Option Value} {s : Shared} {Q : Value → Shared → Prop} {E : Value → Shared → Prop} {news : List (Addr × Obj)}
    {tz td : Tok} {size width : Nat}
    (B : Below A₀ base [e1] h₀) (F : Fr h₀ L s.heap m) (X : (hd.heap_39 w.params).In h₀) (T : Top p loose mean mg mb h₀) (N : News h₀ L s.heap news)
    (m4 : m (Str.ofString "size") = some (.int size tz)) (m6 : m (Str.ofString "width") = some (.int width td)) (hle : width ≤ size) (h7 : size ≤ 7)
    (hret : ∀ (h' : Heap) (tk : Nat) (r : Addr) (t u v : Tok), IsRange h' r 0 ((size : Int) - (width : Int) + 1) 1 t u v → Fr h₀ L h' m → News h₀ L h' news → Q (.ref r) { s with heap := h', toks := tk }) :
    wpAny (model PySem.Challenge.rw_rs0113_01.row.prog w) ((callerA.deeper e1).deeper (envL L)) (eval (iterOf forI) (envL L)) Q E s := by
  have hb1 : iterOf forI = iterOf forI := rfl
  conv at hb1 => rhs; whnf
  have hb2 : leftScope = leftScope := rfl
  conv at hb2 => rhs; whnf
  rw [hb1]; unfold envL; rw [hb2]; clear hb1 hb2
  w_top off; revert X; k_fill; intro X
  k_steps
  exact hret _ _ _ _ _ _ (by assumption) (by assumption) (by assumption)
set_option maxRecDepth 100000 in
set_option maxHeartbeats 8000000 in
theorem iterW {w : World} {p : Program} {loose : List Str} {mean : ExcName → Option Value} {mg mb : Str → Option Value} {e1 : Env} {A₀ : Around} {base h₀ : Heap} {L : Nat} {m : Str → Option Value} {s : Shared} {Q : Value → Shared → Prop} {E : Value → Shared → Prop} {news : List (Addr × Obj)}
    {tz td : Tok} {size : Nat} {wd : Int}
    (B : Below A₀ base [e1] h₀) (F : Fr h₀ L s.heap m) (X : (hd.heap_39 w.params).In h₀) (T : Top p loose mean mg mb h₀) (N : News h₀ L s.heap news)
    (m4 : m (Str.ofString "size") = some (.int size tz)) (m6 : m (Str.ofString "widest") = some (.int wd td)) (h7 : size ≤ 7) (hwd : wd = 3 ∨ wd = 7)
    (hret : ∀ (h' : Heap) (tk : Nat) (r : Addr) (t u v : Tok), IsRange h' r 3 ((if wd < (size : Int) then wd else (size : Int)) + 1) 2 t u v → Fr h₀ L h' m → News h₀ L h' news → Q (.ref r) { s with heap := h', toks := tk }) :
    wpAny (model PySem.Challenge.rw_rs0113_01.row.prog w) ((callerA.deeper e1).deeper (envL L)) (eval (iterOf forWidth) (envL L)) Q E s := by
  have hb1 : iterOf forWidth = iterOf forWidth := rfl
  conv at hb1 => rhs; whnf
  have hb2 : leftScope = leftScope := rfl
  conv at hb2 => rhs; whnf
  rw [hb1]; unfold envL; rw [hb2]; clear hb1 hb2
  w_top off; revert X; k_fill; intro X
  k_steps
  exact hret _ _ _ _ _ _ (by assumption) (by assumption) (by assumption)
theorem forI_eq : ∃ px pos, forI = .For (.Name (Str.ofString "i") px) (iterOf forI) turnI [] pos := ⟨_, _, by with_unfolding_all rfl⟩
def Cond (L a7 a5 a3 a1 : Nat) (x : Addr × Obj) : Prop := @LT.lt Nat _ x.1 L ∨ @LT.lt Nat _ a1 x.1 ∨ x.1 = a7 ∨ x.1 = a5 ∨ x.1 = a3
theorem addrAt_in {L d a7 a5 a3 a1 : Nat} (h : Ord6 L d a7 a5 a3 a1) (k : Nat) : L < addrAt a5 a3 a1 k ∧ addrAt a5 a3 a1 k ≤ a1 := by
  simp only [Ord6] at h
  unfold addrAt
  split
  · omega
  · split <;> omega
set_option maxHeartbeats 2000000 in
theorem loopI {w : World} {p : Program} {loose : List Str} {mean : ExcName → Option Value} {mg mb : Str → Option Value} {e1 : Env} {A₀ : Around} {base h₀ : Heap} {L d a7 a5 a3 a1 b : Nat} {m : Str → Option Value} {s : Shared} {Q : Flow → Shared → Prop} {news : List (Addr × Obj)}
    {kvs : List (Int × Value)} {r7 : List (List Int)} {R : RS} {T : Nat} {vs : List Value} {k : Nat} {tw ts tz td : Tok} {wd st : Int} {width : Nat} {ns : List Int}
    (B : Below A₀ base [e1] h₀) (F : Fr h₀ L s.heap m) (X : (hd.heap_39 w.params).In h₀) (Tp : Top p loose mean mg mb h₀) (N : News h₀ L s.heap news)
    (S : LeftSt PySem.Challenge.rw_rs0113_01.row.prog w L d a7 a5 a3 a1 kvs r7 R.r5 R.r3 R.r1 T news) (hord : Ord6 L d a7 a5 a3 a1) (k5 : valueAt kvs 5 = some (.ref a5)) (k3 : valueAt kvs 3 = some (.ref a3)) (k1 : valueAt kvs 1 = some (.ref a1))
    (hb : (b, listOf vs.toArray k) ∈ news) (hbA : b < L ∨ a1 < b) (hI : IntsAre vs ns) (hsize : ns.length = 3 ∨ ns.length = 5 ∨ ns.length = 7) (hwidth : width = 3 ∨ width = 5 ∨ width = 7) (hws : width ≤ ns.length) (hwd : wd = 7 ∨ wd = 3 ∧ width = 3) (hT : T ≤ 880)
    (m1 : m (Str.ofString "rows") = some (.ref d)) (m2 : m (Str.ofString "widest") = some (.int wd tw)) (m3 : m (Str.ofString "start") = some (.int st ts)) (m4 : m (Str.ofString "size") = some (.int ns.length tz))
    (m5 : m (Str.ofString "one") = some (.ref b)) (m6 : m (Str.ofString "width") = some (.int width td))
    (hret : ∀ (h' : Heap) (tk : Nat) (m' : Str → Option Value) (news' : List (Addr × Obj)), Fr h₀ L h' m' → News h₀ L h' news' →
      LeftSt PySem.Challenge.rw_rs0113_01.row.prog w L d a7 a5 a3 a1 kvs r7 (R.foldI ns.length width (ns.length - width + 1) ns).r5 (R.foldI ns.length width (ns.length - width + 1) ns).r3 (R.foldI ns.length width (ns.length - width + 1) ns).r1 (T + (ns.length - width + 1)) news' →
      (∀ x ∈ news, Cond L a7 a5 a3 a1 x → x.1 ≠ addrAt a5 a3 a1 (ns.length - width + 1) → x ∈ news') → (∀ y, y ≠ Str.ofString "some" → y ≠ Str.ofString "fewer" → y ≠ Str.ofString "i" → m' y = m y) → Q .next { s with heap := h', toks := tk }) :
    wpAny (model PySem.Challenge.rw_rs0113_01.row.prog w) ((callerA.deeper e1).deeper (envL L)) (exec forI (envL L)) Q (fun _ _ => False) s := by
  obtain ⟨px, pos, he⟩ := forI_eq
  rw [he]
  refine For_invV h₀ (by with_unfolding_all rfl) (by with_unfolding_all rfl) (iterI B F X Tp N m4 m6 hws (by omega) ?_) (by intro _; with_unfolding_all rfl) PassesOwn.never
  intro h1 tk1 r t u v hr F1 N1
  have haddr := addrAt_in hord (ns.length - width + 1)
  have hbne : b ≠ addrAt a5 a3 a1 (ns.length - width + 1) := by omega
  refine range_loop (n := ns.length - width + 1) (news := news) (fun j m₁ nx => LeftSt PySem.Challenge.rw_rs0113_01.row.prog w L d a7 a5 a3 a1 kvs r7 (R.foldI ns.length width j ns).r5 (R.foldI ns.length width j ns).r3 (R.foldI ns.length width j ns).r1 (T + j) nx ∧
      (∀ x ∈ news, Cond L a7 a5 a3 a1 x → x.1 ≠ addrAt a5 a3 a1 (ns.length - width + 1) → x ∈ nx) ∧ (∀ y, y ≠ Str.ofString "some" → y ≠ Str.ofString "fewer" → y ≠ Str.ofString "i" → m₁ y = m y))
    rfl hr ?_ ?_ F1 N1 ⟨S, fun x hx _ _ => hx, fun _ _ _ _ => rfl⟩ ?_ ?_
  · rcases hsize with h | h | h <;> rcases hwidth with rfl | rfl | rfl <;> first | omega | (rw [h]; decide +kernel)
  · rcases hsize with h | h | h <;> rcases hwidth with rfl | rfl | rfl <;> first | omega | (rw [h]; decide +kernel)
  · rintro I j m₁ news₁ t9 h tk hfresh hj ⟨S₁, keep₁, hm₁⟩ hoff F₂ N₂
    have hIa : @LT.lt Nat _ a1 I := by
      obtain ⟨v1, n1, h1m, _⟩ := S.l1
      exact hfresh _ h1m
    have hb1 : (b, listOf vs.toArray k) ∈ news₁ := keep₁ _ hb (by rcases hbA with h | h; exact .inl h; exact .inr (.inl h)) hbne
    have S₂ := S₁.mono (news' := (I, krsIt ((0 : Int) + ((j + 1 : Nat) : Int) * 1) (((ns.length - width + 1 : Nat) : Int) - ((j + 1 : Nat) : Int)) 1) :: news₁) fun x hx => List.mem_cons_of_mem _ hx
    refine turn_call (tw := tw) (ts := ts) (td := td) (ti := t9) (st := st) B F₂ X Tp N₂ S₂ hord k5 k3 k1 (List.mem_cons_of_mem _ hb1) hbA hI hsize hwidth (i := j) (by omega) hwd (by omega) ?_ ?_ ?_ ?_ ?_ ?_ ?_
    · exact (if_neg (by decide +kernel)).trans ((hm₁ _ (by decide +kernel) (by decide +kernel) (by decide +kernel)).trans m1)
    · exact (if_neg (by decide +kernel)).trans ((hm₁ _ (by decide +kernel) (by decide +kernel) (by decide +kernel)).trans m2)
    · exact (if_neg (by decide +kernel)).trans ((hm₁ _ (by decide +kernel) (by decide +kernel) (by decide +kernel)).trans m3)
    · exact (if_neg (by decide +kernel)).trans ((hm₁ _ (by decide +kernel) (by decide +kernel) (by decide +kernel)).trans m5)
    · exact (if_neg (by decide +kernel)).trans ((hm₁ _ (by decide +kernel) (by decide +kernel) (by decide +kernel)).trans m6)
    · exact (if_pos rfl).trans (by rw [show (0 : Int) + (j : Int) * 1 = (j : Int) by omega])
    · intro h' tk' m' news' F' N' S' keep' hm'
      have hIm : (I, krsIt ((0 : Int) + ((j + 1 : Nat) : Int) * 1) (((ns.length - width + 1 : Nat) : Int) - ((j + 1 : Nat) : Int)) 1) ∈ news' := keep' _ (List.mem_cons_self ..) (.inr (.inl hIa)) (neN (by omega))
      refine ⟨rfl, h', tk', m', news'.filter fun p => decide (p.1 ≠ I), rfl, F', ?_, ?_, ?_, ?_, ?_⟩
      · intro x hx
        rcases List.mem_cons.mp hx with rfl | hx
        · exact N' _ hIm
        · exact N' _ (List.mem_filter.mp hx).1
      · intro x hx
        exact of_decide_eq_true (List.mem_filter.mp hx).2
      · have S3 := S'.drop hord N' hIm hIa (by simp [krsIt])
        rw [RS.foldI_succ]
        exact S3
      · intro x hx hc hne
        have hx1 := keep₁ x hx hc hne
        rw [List.mem_filter, decide_eq_true_eq]
        exact ⟨keep' x (List.mem_cons_of_mem _ hx1) hc hne, hoff x hx1⟩
      · intro y h1 h2 h3
        exact (hm' y h1 h2).trans ((if_neg h3).trans (hm₁ y h1 h2 h3))
  · rintro m₁ news₁ h tk ⟨S₁, keep₁, hm₁⟩ F₂ N₂
    exact hret _ _ _ _ F₂ N₂ S₁ keep₁ hm₁
theorem forWidth_eq : ∃ px pos, forWidth = .For (.Name (Str.ofString "width") px) (iterOf forWidth) [forI] [] pos := ⟨_, _, by with_unfolding_all rfl⟩
def nW (size : Nat) (wd : Int) : Nat := if wd = 3 then 1 else (size - 1) / 2
theorem one_stmt {M : Model} {A : Around} {env : Env} {st : Stmt} {Q : Flow → Shared → Prop} {E : Value → Shared → Prop} {s : Shared} (h : wpAny M A (exec st env) Q E s) : wpAny M A (execs [st] env) Q E s := by
  refine wpAny_execs_cons (wpAny_mono h (fun f s'' hf => ?_) fun _ _ e => e)
  cases f with
  | next => exact wpAny_execs_nil hf
  | brk => exact hf
  | cont => exact hf
  | ret v => exact hf
set_option maxHeartbeats 2000000 in
theorem loopW {w : World} {p : Program} {loose : List Str} {mean : ExcName → Option Value} {mg mb : Str → Option Value} {e1 : Env} {A₀ : Around} {base h₀ : Heap} {L d a7 a5 a3 a1 b aS : Nat} {m : Str → Option Value} {s : Shared} {Q : Flow → Shared → Prop} {news : List (Addr × Obj)}
    {kvs : List (Int × Value)} {r7 : List (List Int)} {R : RS} {T : Nat} {vs : List Value} {k : Nat} {tw ts tz : Tok} {wd st : Int} {ns : List Int}
    (B : Below A₀ base [e1] h₀) (F : Fr h₀ L s.heap m) (X : (hd.heap_39 w.params).In h₀) (Tp : Top p loose mean mg mb h₀) (N : News h₀ L s.heap news)
    (S : LeftSt PySem.Challenge.rw_rs0113_01.row.prog w L d a7 a5 a3 a1 kvs r7 R.r5 R.r3 R.r1 T news) (hord : Ord6 L d a7 a5 a3 a1) (k5 : valueAt kvs 5 = some (.ref a5)) (k3 : valueAt kvs 3 = some (.ref a3)) (k1 : valueAt kvs 1 = some (.ref a1))
    (hb : (b, listOf vs.toArray k) ∈ news) (hbA : b < L ∨ a1 < b) (hI : IntsAre vs ns) (hsize : ns.length = 3 ∧ aS = a3 ∨ ns.length = 5 ∧ aS = a5 ∨ ns.length = 7 ∧ aS = a7) (hwd : wd = 7 ∨ wd = 3) (hT : T ≤ 860)
    (m1 : m (Str.ofString "rows") = some (.ref d)) (m2 : m (Str.ofString "widest") = some (.int wd tw)) (m3 : m (Str.ofString "start") = some (.int st ts)) (m4 : m (Str.ofString "size") = some (.int ns.length tz))
    (m5 : m (Str.ofString "one") = some (.ref b))
    (hret : ∀ (h' : Heap) (tk : Nat) (m' : Str → Option Value) (news' : List (Addr × Obj)), Fr h₀ L h' m' → News h₀ L h' news' →
      LeftSt PySem.Challenge.rw_rs0113_01.row.prog w L d a7 a5 a3 a1 kvs r7 (R.foldW ns.length (nW ns.length wd) ns).r5 (R.foldW ns.length (nW ns.length wd) ns).r3 (R.foldW ns.length (nW ns.length wd) ns).r1 (T + 15) news' →
      (∀ x ∈ news, (@LT.lt Nat _ x.1 L ∨ @LT.lt Nat _ a1 x.1 ∨ x.1 = aS) → x ∈ news') → (∀ y, y ≠ Str.ofString "some" → y ≠ Str.ofString "fewer" → y ≠ Str.ofString "i" → y ≠ Str.ofString "width" → m' y = m y) → Q .next { s with heap := h', toks := tk }) :
    wpAny (model PySem.Challenge.rw_rs0113_01.row.prog w) ((callerA.deeper e1).deeper (envL L)) (exec forWidth (envL L)) Q (fun _ _ => False) s := by
  obtain ⟨px, pos, he⟩ := forWidth_eq
  rw [he]
  refine For_invV h₀ (by with_unfolding_all rfl) (by with_unfolding_all rfl) (iterW B F X Tp N m4 m2 (by omega) (by omega) ?_) (by intro _; with_unfolding_all rfl) PassesOwn.never
  intro h1 tk1 r t u v hr F1 N1
  have hord' := hord
  simp only [Ord6] at hord'
  have hn : nW ns.length wd ≤ 3 ∧ (wd = 3 → nW ns.length wd = 1) ∧ 3 + 2 * nW ns.length wd ≤ ns.length + 2 := by
    unfold nW
    rcases hwd with rfl | rfl
    · rw [if_neg (by decide)]; omega
    · rw [if_pos rfl]; omega
  refine range_loop (n := nW ns.length wd) (news := news) (fun j m₁ nx => LeftSt PySem.Challenge.rw_rs0113_01.row.prog w L d a7 a5 a3 a1 kvs r7 (R.foldW ns.length j ns).r5 (R.foldW ns.length j ns).r3 (R.foldW ns.length j ns).r1 (T + 5 * j) nx ∧
      (∀ x ∈ news, (@LT.lt Nat _ x.1 L ∨ @LT.lt Nat _ a1 x.1 ∨ x.1 = aS) → x ∈ nx) ∧ (∀ y, y ≠ Str.ofString "some" → y ≠ Str.ofString "fewer" → y ≠ Str.ofString "i" → y ≠ Str.ofString "width" → m₁ y = m y))
    rfl hr ?_ ?_ F1 N1 ⟨S, fun x hx _ => hx, fun _ _ _ _ _ => rfl⟩ ?_ ?_
  · unfold nW at hn
    rcases hwd with rfl | rfl <;> rcases hsize with ⟨h, _⟩ | ⟨h, _⟩ | ⟨h, _⟩ <;> rw [h] <;> decide +kernel
  · rcases hwd with rfl | rfl <;> rcases hsize with ⟨h, _⟩ | ⟨h, _⟩ | ⟨h, _⟩ <;> rw [h] <;> decide +kernel
  · rintro I j m₁ news₁ t9 h tk hfresh hj ⟨S₁, keep₁, hm₁⟩ hoff F₂ N₂
    have hIa : @LT.lt Nat _ a1 I := by
      obtain ⟨v1, n1, h1m, _⟩ := S.l1
      exact hfresh _ h1m
    have hb1 : (b, listOf vs.toArray k) ∈ news₁ := keep₁ _ hb (by rcases hbA with h | h; exact .inl h; exact .inr (.inl h))
    have S₂ := S₁.mono (news' := (I, krsIt ((3 : Int) + ((j + 1 : Nat) : Int) * 2) (((nW ns.length wd : Nat) : Int) - ((j + 1 : Nat) : Int)) 2) :: news₁) fun x hx => List.mem_cons_of_mem _ hx
    have haddr := addrAt_in hord (ns.length - (3 + 2 * j) + 1)
    have haS : aS ≠ addrAt a5 a3 a1 (ns.length - (3 + 2 * j) + 1) := by
      unfold addrAt
      rcases hsize with ⟨h, rfl⟩ | ⟨h, rfl⟩ | ⟨h, rfl⟩
      · rw [h, if_neg (by omega), if_neg (by omega)]; omega
      · rw [h, if_neg (by omega)]; split <;> omega
      · rw [h]; split; omega; split <;> omega
    have hcond : ∀ x : Addr × Obj, (@LT.lt Nat _ x.1 L ∨ @LT.lt Nat _ a1 x.1 ∨ x.1 = aS) → Cond L a7 a5 a3 a1 x ∧ x.1 ≠ addrAt a5 a3 a1 (ns.length - (3 + 2 * j) + 1) := by
      intro x hx
      rcases hx with hx | hx | hx
      · exact ⟨.inl hx, neN (by omega)⟩
      · exact ⟨.inr (.inl hx), neN (by omega)⟩
      · refine ⟨?_, by rw [hx]; exact haS⟩
        rcases hsize with ⟨_, rfl⟩ | ⟨_, rfl⟩ | ⟨_, rfl⟩
        · exact .inr (.inr (.inr (.inr hx)))
        · exact .inr (.inr (.inr (.inl hx)))
        · exact .inr (.inr (.inl hx))
    have hwd' : wd = 7 ∨ wd = 3 ∧ 3 + 2 * j = 3 := by
      rcases hwd with h | h
      · exact .inl h
      · have := hn.2.1 h; right; omega
    refine one_stmt (loopI (tw := tw) (ts := ts) (tz := tz) (td := t9) (st := st) (width := 3 + 2 * j) B F₂ X Tp N₂ S₂ hord k5 k3 k1 (List.mem_cons_of_mem _ hb1) hbA hI (by omega) (by omega) (by omega) hwd' (by omega) ?_ ?_ ?_ ?_ ?_ ?_ ?_)
    · exact (if_neg (by decide +kernel)).trans ((hm₁ _ (by decide +kernel) (by decide +kernel) (by decide +kernel) (by decide +kernel)).trans m1)
    · exact (if_neg (by decide +kernel)).trans ((hm₁ _ (by decide +kernel) (by decide +kernel) (by decide +kernel) (by decide +kernel)).trans m2)
    · exact (if_neg (by decide +kernel)).trans ((hm₁ _ (by decide +kernel) (by decide +kernel) (by decide +kernel) (by decide +kernel)).trans m3)
    · exact (if_neg (by decide +kernel)).trans ((hm₁ _ (by decide +kernel) (by decide +kernel) (by decide +kernel) (by decide +kernel)).trans m4)
    · exact (if_neg (by decide +kernel)).trans ((hm₁ _ (by decide +kernel) (by decide +kernel) (by decide +kernel) (by decide +kernel)).trans m5)
    · exact (if_pos rfl).trans (by rw [show (3 : Int) + (j : Int) * 2 = ((3 + 2 * j : Nat) : Int) by omega])
    · intro h' tk' m' news' F' N' S' keep' hm'
      have hIc := hcond (I, krsIt ((3 : Int) + ((j + 1 : Nat) : Int) * 2) (((nW ns.length wd : Nat) : Int) - ((j + 1 : Nat) : Int)) 2) (.inr (.inl hIa))
      have hIm := keep' _ (List.mem_cons_self ..) hIc.1 hIc.2
      refine ⟨rfl, h', tk', m', news'.filter fun p => decide (p.1 ≠ I), rfl, F', ?_, ?_, ?_, ?_, ?_⟩
      · intro x hx
        rcases List.mem_cons.mp hx with rfl | hx
        · exact N' _ hIm
        · exact N' _ (List.mem_filter.mp hx).1
      · intro x hx
        exact of_decide_eq_true (List.mem_filter.mp hx).2
      · have S3 := (S'.drop hord N' hIm hIa (by simp [krsIt])).more (T' := T + 5 * (j + 1)) (by omega)
        rw [RS.foldW_succ]
        exact S3
      · intro x hx hc
        have hx1 := keep₁ x hx hc
        rw [List.mem_filter, decide_eq_true_eq]
        exact ⟨keep' x (List.mem_cons_of_mem _ hx1) (hcond x hc).1 (hcond x hc).2, hoff x hx1⟩
      · intro y h1 h2 h3 h4
        exact (hm' y h1 h2 h3).trans ((if_neg h4).trans (hm₁ y h1 h2 h3 h4))
  · rintro m₁ news₁ h tk ⟨S₁, keep₁, hm₁⟩ F₂ N₂
    exact hret _ _ _ _ F₂ N₂ (S₁.more (by omega)) keep₁ hm₁
section
local macro_rules | `(tactic| walk_at "subscriptTail") => `(tactic| (k_here; (with_reducible show wpAny _ _ (subscriptTail _ _ (Value.ref _) (Value.int _ _)) _ _ _); k_dflt (refine' dict_item ?mdi1 ?mdi2 ?mdi3 ?mdi4 ?_ ?mdi5; (case mdi1 => k_asm); (case mdi2 => k_mem); (case mdi3 => k_asm); (case mdi4 => with_reducible assumption); (case mdi5 => with_unfolding_all rfl))))
set_option maxRecDepth 100000 in
set_option maxHeartbeats 8000000 in
theorem iterO {w : World} {p : Program} {loose : List Str} {mean : ExcName → Option Value} {mg mb : Str → Option Value} {e1 : Env} {A₀ : Around} {base h₀ : Heap} {L : Nat} {m : Str → Option Value} {s : Shared} {Q : Value → Shared → Prop} {E : Value → Shared → Prop} {news : List (Addr × Obj)}
    {d a : Addr} {od : Obj} {kvs : List (Int × Value)} {tz : Tok} {size : Nat}
    (B : Below A₀ base [e1] h₀) (F : Fr h₀ L s.heap m) (X : (hd.heap_39 w.params).In h₀) (T : Top p loose mean mg mb h₀) (N : News h₀ L s.heap news)
    (hdm : (d, od) ∈ news) (hod : od.IsDictOf (intKind PySem.Challenge.rw_rs0113_01.row.prog w) kvs) (hv : valueAt kvs (size : Int) = some (.ref a))
    (m1 : m (Str.ofString "rows") = some (.ref d)) (m4 : m (Str.ofString "size") = some (.int size tz))
    (hret : ∀ (tk : Nat), Q (.ref a) { s with toks := tk }) :
    wpAny (model PySem.Challenge.rw_rs0113_01.row.prog w) ((callerA.deeper e1).deeper (envL L)) (eval (iterOf forOne) (envL L)) Q E s := by
  have hb1 : iterOf forOne = iterOf forOne := rfl
  conv at hb1 => rhs; whnf
  have hb2 : leftScope = leftScope := rfl
  conv at hb2 => rhs; whnf
  rw [hb1]; unfold envL; rw [hb2]; clear hb1 hb2
  w_top off; revert X; k_fill; intro X
  k_steps
  exact hret _
theorem forOne_eq : ∃ px pos, forOne = .For (.Name (Str.ofString "one") px) (iterOf forOne) [forWidth] [] pos := ⟨_, _, by with_unfolding_all rfl⟩
set_option maxHeartbeats 2000000 in
theorem loopO {w : World} {p : Program} {loose : List Str} {mean : ExcName → Option Value} {mg mb : Str → Option Value} {e1 : Env} {A₀ : Around} {base h₀ : Heap} {L d a7 a5 a3 a1 aS : Nat} {m : Str → Option Value} {s : Shared} {Q : Flow → Shared → Prop} {news : List (Addr × Obj)}
    {kvs : List (Int × Value)} {r7 rS : List (List Int)} {R : RS} {T : Nat} {vS : List Value} {nS : Nat} {tw ts tz : Tok} {wd st : Int} {size : Nat}
    (B : Below A₀ base [e1] h₀) (F : Fr h₀ L s.heap m) (X : (hd.heap_39 w.params).In h₀) (Tp : Top p loose mean mg mb h₀) (N : News h₀ L s.heap news)
    (S : LeftSt PySem.Challenge.rw_rs0113_01.row.prog w L d a7 a5 a3 a1 kvs r7 R.r5 R.r3 R.r1 T news) (hord : Ord6 L d a7 a5 a3 a1) (k5 : valueAt kvs 5 = some (.ref a5)) (k3 : valueAt kvs 3 = some (.ref a3)) (k1 : valueAt kvs 1 = some (.ref a1)) (kS : valueAt kvs (size : Int) = some (.ref aS))
    (hS : (aS, listOf vS.toArray nS) ∈ news) (RS0 : RowsIn (poolOf L a1 news) vS rS) (hlen : ∀ ns ∈ rS, ns.length = size) (hsize : size = 3 ∧ aS = a3 ∨ size = 5 ∧ aS = a5 ∨ size = 7 ∧ aS = a7) (hwd : wd = 7 ∨ wd = 3) (hT : T + 15 * rS.length ≤ 860)
    (m1 : m (Str.ofString "rows") = some (.ref d)) (m2 : m (Str.ofString "widest") = some (.int wd tw)) (m3 : m (Str.ofString "start") = some (.int st ts)) (m4 : m (Str.ofString "size") = some (.int size tz))
    (hret : ∀ (h' : Heap) (tk : Nat) (m' : Str → Option Value) (news' : List (Addr × Obj)), Fr h₀ L h' m' → News h₀ L h' news' →
      LeftSt PySem.Challenge.rw_rs0113_01.row.prog w L d a7 a5 a3 a1 kvs r7 (R.foldO size (nW size wd) rS).r5 (R.foldO size (nW size wd) rS).r3 (R.foldO size (nW size wd) rS).r1 (T + 15 * rS.length) news' →
      (∀ x ∈ news, (@LT.lt Nat _ x.1 L ∨ @LT.lt Nat _ a1 x.1 ∨ x.1 = aS) → x ∈ news') → (∀ y, y ≠ Str.ofString "some" → y ≠ Str.ofString "fewer" → y ≠ Str.ofString "i" → y ≠ Str.ofString "width" → y ≠ Str.ofString "one" → m' y = m y) → Q .next { s with heap := h', toks := tk }) :
    wpAny (model PySem.Challenge.rw_rs0113_01.row.prog w) ((callerA.deeper e1).deeper (envL L)) (exec forOne (envL L)) Q (fun _ _ => False) s := by
  obtain ⟨px, pos, he⟩ := forOne_eq
  rw [he]
  obtain ⟨od, hdm, hod⟩ := S.dict
  refine For_invV h₀ (by with_unfolding_all rfl) (by with_unfolding_all rfl) (iterO B F X Tp N hdm hod kS m1 m4 ?_) (by intro _; with_unfolding_all rfl) PassesOwn.never
  intro tk1
  have hord' := hord
  simp only [Ord6] at hord'
  have hvl : vS.length = rS.length := RS0.length
  refine list_loop (vs := vS) (nn := nS) (news := news) (fun j m₁ nx => LeftSt PySem.Challenge.rw_rs0113_01.row.prog w L d a7 a5 a3 a1 kvs r7 (R.foldO size (nW size wd) (rS.take j)).r5 (R.foldO size (nW size wd) (rS.take j)).r3 (R.foldO size (nW size wd) (rS.take j)).r1 (T + 15 * j) nx ∧
      (∀ x ∈ news, (@LT.lt Nat _ x.1 L ∨ @LT.lt Nat _ a1 x.1 ∨ x.1 = aS) → x ∈ nx) ∧ (∀ y, y ≠ Str.ofString "some" → y ≠ Str.ofString "fewer" → y ≠ Str.ofString "i" → y ≠ Str.ofString "width" → y ≠ Str.ofString "one" → m₁ y = m y))
    rfl F N ⟨S, fun x hx _ => hx, fun _ _ _ _ _ _ => rfl⟩ (fun i m₁ nx h => h.2.1 _ hS (.inr (.inr rfl))) ?_ ?_
  · rintro I oI j v m₁ news₁ h tk hfresh hcls hv ⟨S₁, keep₁, hm₁⟩ hoff F₂ N₂
    obtain ⟨b, vs, ns, k, rfl, hbm, hI, hr⟩ := RS0.get hv
    have hj : j < rS.length := by
      rw [← hvl]
      exact (List.getElem?_eq_some_iff.mp hv).1
    have hnl : ns.length = size := hlen ns (List.mem_of_getElem? hr)
    obtain ⟨hbn, hbA⟩ := mem_poolOf.mp hbm
    have hIa : @LT.lt Nat _ a1 I := by
      obtain ⟨v1, n1, h1m, _⟩ := S.l1
      exact hfresh _ h1m
    have hb1 : (b, listOf vs.toArray k) ∈ news₁ := keep₁ _ hbn (by rcases hbA with h | h; exact .inl h; exact .inr (.inl h))
    have S₂ := S₁.mono (news' := (I, oI) :: news₁) fun x hx => List.mem_cons_of_mem _ hx
    refine one_stmt (loopW (tw := tw) (ts := ts) (tz := tz) (st := st) (ns := ns) (aS := aS) B F₂ X Tp N₂ S₂ hord k5 k3 k1 (List.mem_cons_of_mem _ hb1) hbA hI (by rw [hnl]; exact hsize) hwd (by omega) ?_ ?_ ?_ ?_ ?_ ?_)
    · exact (if_neg (by decide +kernel)).trans ((hm₁ _ (by decide +kernel) (by decide +kernel) (by decide +kernel) (by decide +kernel) (by decide +kernel)).trans m1)
    · exact (if_neg (by decide +kernel)).trans ((hm₁ _ (by decide +kernel) (by decide +kernel) (by decide +kernel) (by decide +kernel) (by decide +kernel)).trans m2)
    · exact (if_neg (by decide +kernel)).trans ((hm₁ _ (by decide +kernel) (by decide +kernel) (by decide +kernel) (by decide +kernel) (by decide +kernel)).trans m3)
    · rw [hnl]
      exact (if_neg (by decide +kernel)).trans ((hm₁ _ (by decide +kernel) (by decide +kernel) (by decide +kernel) (by decide +kernel) (by decide +kernel)).trans m4)
    · exact if_pos rfl
    · intro h' tk' m' news' F' N' S' keep' hm'
      rw [hnl] at S'
      have hIm := keep' (I, oI) (List.mem_cons_self ..) (.inr (.inl hIa))
      refine ⟨rfl, h', tk', m', news'.filter fun p => decide (p.1 ≠ I), rfl, F', ?_, ?_, ?_, ?_, ?_⟩
      · intro x hx
        rcases List.mem_cons.mp hx with rfl | hx
        · exact N' _ hIm
        · exact N' _ (List.mem_filter.mp hx).1
      · intro x hx
        exact of_decide_eq_true (List.mem_filter.mp hx).2
      · have S3 := (S'.drop hord N' hIm hIa (by rw [hcls]; decide)).more (T' := T + 15 * (j + 1)) (by omega)
        rw [RS.foldO_succ _ _ hr]
        exact S3
      · intro x hx hc
        have hx1 := keep₁ x hx hc
        rw [List.mem_filter, decide_eq_true_eq]
        exact ⟨keep' x (List.mem_cons_of_mem _ hx1) hc, hoff x hx1⟩
      · intro y h1 h2 h3 h4 h5
        exact (hm' y h1 h2 h3 h4).trans ((if_neg h5).trans (hm₁ y h1 h2 h3 h4 h5))
  · rintro m₁ news₁ h tk ⟨S₁, keep₁, hm₁⟩ F₂ N₂
    rw [hvl, List.take_length] at S₁
    exact hret _ _ _ _ F₂ N₂ S₁ keep₁ hm₁
end
section
noncomputable def forSize : Stmt := leftBody.getD 1 (.Pass default)
set_option maxRecDepth 100000 in
set_option maxHeartbeats 8000000 in
theorem iterS {w : World} {p : Program} {loose : List Str} {mean : ExcName → Option Value} {mg mb : Str → Option Value} {e1 : Env} {A₀ : Around} {base h₀ : Heap} {L : Nat} {m : Str → Option Value} {s : Shared} {Q : Value → Shared → Prop} {E : Value → Shared → Prop} {news : List (Addr × Obj)}
    (B : Below A₀ base [e1] h₀) (F : Fr h₀ L s.heap m) (X : (hd.heap_39 w.params).In h₀) (T : Top p loose mean mg mb h₀) (N : News h₀ L s.heap news)
    (hret : ∀ (h' : Heap) (tk : Nat) (D : Addr) (t1 t2 t3 : Tok) (n : Nat), Fr h₀ L h' m → News h₀ L h' ((D, ({ cls := .type "tuple", data := .seq [Value.int 7 t1, .int 5 t2, .int 3 t3].toArray n } : Obj)) :: news) → (∀ p ∈ news, p.1 < D) → Q (.ref D) { s with heap := h', toks := tk }) :
    wpAny (model PySem.Challenge.rw_rs0113_01.row.prog w) ((callerA.deeper e1).deeper (envL L)) (eval (iterOf forSize) (envL L)) Q E s := by
  have hb1 : iterOf forSize = iterOf forSize := rfl
  conv at hb1 => rhs; whnf
  have hb2 : leftScope = leftScope := rfl
  conv at hb2 => rhs; whnf
  rw [hb1]; unfold envL; rw [hb2]; clear hb1 hb2
  w_top off; revert X; k_fill; intro X
  k_steps
  exact hret _ _ _ _ _ _ _ (by assumption) (by assumption) (by assumption)

theorem forSize_eq : ∃ px pos, forSize = .For (.Name (Str.ofString "size") px) (iterOf forSize) [forOne] [] pos := ⟨_, _, by with_unfolding_all rfl⟩
theorem LeftSt.retight {prog : Program} {w : World} {L d a7 a5 a3 a1 : Nat} {kvs : List (Int × Value)} {r7 r5 r3 r1 : List (List Int)} {T T' : Nat} {news : List (Addr × Obj)} (S : LeftSt prog w L d a7 a5 a3 a1 kvs r7 r5 r3 r1 T news) (h : r5.length + r3.length + r1.length ≤ T') : LeftSt prog w L d a7 a5 a3 a1 kvs r7 r5 r3 r1 T' news := by
  obtain ⟨h1, h2, h3, h4, h5, h6, _⟩ := S
  exact ⟨h1, h2, h3, h4, h5, h6, h⟩
def stg (n : Nat → Nat) (row : List Int) (j : Nat) : RS := if j = 0 then stage0 else if j = 1 then stage1 n row else if j = 2 then stage2 n row else stage3 n row
theorem nW_ok {wd : Int} (hwd : wd = 7 ∨ wd = 3) (s : Nat) : 2 * nW s wd + 1 ≤ s ∨ s < 3 := by
  unfold nW
  rcases hwd with rfl | rfl
  · rw [if_neg (by decide)]; omega
  · rw [if_pos rfl]; omega
set_option maxHeartbeats 2000000 in
theorem loopS {w : World} {p : Program} {loose : List Str} {mean : ExcName → Option Value} {mg mb : Str → Option Value} {e1 : Env} {A₀ : Around} {base h₀ : Heap} {L d a7 a5 a3 a1 : Nat} {m : Str → Option Value} {s : Shared} {Q : Flow → Shared → Prop} {news : List (Addr × Obj)}
    {kvs : List (Int × Value)} {row : List Int} {tw ts : Tok} {wd st : Int}
    (B : Below A₀ base [e1] h₀) (F : Fr h₀ L s.heap m) (X : (hd.heap_39 w.params).In h₀) (Tp : Top p loose mean mg mb h₀) (N : News h₀ L s.heap news)
    (S : LeftSt PySem.Challenge.rw_rs0113_01.row.prog w L d a7 a5 a3 a1 kvs [row] [] [] [] 47 news) (hord : Ord6 L d a7 a5 a3 a1) (k7 : valueAt kvs 7 = some (.ref a7)) (k5 : valueAt kvs 5 = some (.ref a5)) (k3 : valueAt kvs 3 = some (.ref a3)) (k1 : valueAt kvs 1 = some (.ref a1))
    (hrow : row.length = 7) (hwd : wd = 7 ∨ wd = 3)
    (m1 : m (Str.ofString "rows") = some (.ref d)) (m2 : m (Str.ofString "widest") = some (.int wd tw)) (m3 : m (Str.ofString "start") = some (.int st ts))
    (hret : ∀ (h' : Heap) (tk : Nat) (m' : Str → Option Value) (news' : List (Addr × Obj)), Fr h₀ L h' m' → News h₀ L h' news' →
      LeftSt PySem.Challenge.rw_rs0113_01.row.prog w L d a7 a5 a3 a1 kvs [row] (stage3 (fun s => nW s wd) row).r5 (stage3 (fun s => nW s wd) row).r3 (stage3 (fun s => nW s wd) row).r1 47 news' →
      (∀ x ∈ news, (@LT.lt Nat _ x.1 L ∨ @LT.lt Nat _ a1 x.1) → x ∈ news') → m' (Str.ofString "rows") = some (.ref d) → Q .next { s with heap := h', toks := tk }) :
    wpAny (model PySem.Challenge.rw_rs0113_01.row.prog w) ((callerA.deeper e1).deeper (envL L)) (exec forSize (envL L)) Q (fun _ _ => False) s := by
  obtain ⟨px, pos, he⟩ := forSize_eq
  rw [he]
  refine For_invV h₀ (by with_unfolding_all rfl) (by with_unfolding_all rfl) (iterS B F X Tp N ?_) (by intro _; with_unfolding_all rfl) PassesOwn.never
  intro h1 tk1 D t1 t2 t3 nT F1 N1 hlt
  have hord' := hord
  simp only [Ord6] at hord'
  have hDa : @LT.lt Nat _ a1 D := by
    obtain ⟨v1, n1, h1m, _⟩ := S.l1
    exact hlt _ h1m
  obtain ⟨q0, q1, q2, q3⟩ := stage_le (n := fun s => nW s wd) (nW_ok hwd) row
  obtain ⟨o0, o1, o2, o3⟩ := stage_ok (n := fun s => nW s wd) (nW_ok hwd) hrow
  refine tuple_loop (l := D) (vs := [Value.int 7 t1, .int 5 t2, .int 3 t3]) (nn := nT) (news := _ :: news) (fun j m₁ nx => LeftSt PySem.Challenge.rw_rs0113_01.row.prog w L d a7 a5 a3 a1 kvs [row] (stg (fun s => nW s wd) row j).r5 (stg (fun s => nW s wd) row j).r3 (stg (fun s => nW s wd) row j).r1 47 nx ∧
      (∀ x ∈ (D, ({ cls := .type "tuple", data := .seq [Value.int 7 t1, .int 5 t2, .int 3 t3].toArray nT } : Obj)) :: news, (@LT.lt Nat _ x.1 L ∨ @LT.lt Nat _ a1 x.1) → x ∈ nx) ∧
      (∀ y, y ≠ Str.ofString "some" → y ≠ Str.ofString "fewer" → y ≠ Str.ofString "i" → y ≠ Str.ofString "width" → y ≠ Str.ofString "one" → y ≠ Str.ofString "size" → m₁ y = m y))
    rfl F1 N1 ⟨S.mono fun x hx => List.mem_cons_of_mem _ hx, fun x hx _ => hx, fun _ _ _ _ _ _ _ => rfl⟩ (fun i m₁ nx h => h.2.1 _ (List.mem_cons_self ..) (.inr hDa)) ?_ ?_
  · rintro I oI j v m₁ news₁ h tk hfresh hcls hv ⟨S₁, keep₁, hm₁⟩ hoff F₂ N₂
    have hIa : @LT.lt Nat _ a1 I := Nat.lt_trans hDa (hfresh _ (List.mem_cons_self ..))
    have S₂ := S₁.mono (news' := (I, oI) :: news₁) fun x hx => List.mem_cons_of_mem _ hx
    have M : ∀ {y : Str} {v : Value} {u : Option Value}, y ≠ Str.ofString "some" → y ≠ Str.ofString "fewer" → y ≠ Str.ofString "i" → y ≠ Str.ofString "width" → y ≠ Str.ofString "one" → y ≠ Str.ofString "size" → m y = some v → (if y = Str.ofString "size" then u else m₁ y) = some v :=
      fun a b c d e f g => (if_neg f).trans ((hm₁ _ a b c d e f).trans g)
    have fin : ∀ {size : Nat} {R' : RS} {T' : Nat} (h' : Heap) (tk' : Nat) (m' : Str → Option Value) (news' : List (Addr × Obj)) (aS : Nat), R' = stg (fun s => nW s wd) row (j + 1) → R'.r5.length + R'.r3.length + R'.r1.length ≤ 47 → Fr h₀ L h' m' → News h₀ L h' news' →
        LeftSt PySem.Challenge.rw_rs0113_01.row.prog w L d a7 a5 a3 a1 kvs [row] R'.r5 R'.r3 R'.r1 T' news' →
        (∀ x ∈ (I, oI) :: news₁, (@LT.lt Nat _ x.1 L ∨ @LT.lt Nat _ a1 x.1 ∨ x.1 = aS) → x ∈ news') → (∀ y, y ≠ Str.ofString "some" → y ≠ Str.ofString "fewer" → y ≠ Str.ofString "i" → y ≠ Str.ofString "width" → y ≠ Str.ofString "one" → m' y = if y = Str.ofString "size" then some v else m₁ y) →
        (Flow.next = .next ∧ UnrEnd h₀ L { s with heap := h, toks := tk } I oI (fun m₁ nx => LeftSt PySem.Challenge.rw_rs0113_01.row.prog w L d a7 a5 a3 a1 kvs [row] (stg (fun s => nW s wd) row (j + 1)).r5 (stg (fun s => nW s wd) row (j + 1)).r3 (stg (fun s => nW s wd) row (j + 1)).r1 47 nx ∧
          (∀ x ∈ (D, ({ cls := .type "tuple", data := .seq [Value.int 7 t1, .int 5 t2, .int 3 t3].toArray nT } : Obj)) :: news, (@LT.lt Nat _ x.1 L ∨ @LT.lt Nat _ a1 x.1) → x ∈ nx) ∧
          (∀ y, y ≠ Str.ofString "some" → y ≠ Str.ofString "fewer" → y ≠ Str.ofString "i" → y ≠ Str.ofString "width" → y ≠ Str.ofString "one" → y ≠ Str.ofString "size" → m₁ y = m y)) { s with heap := h', toks := tk' }) := by
      intro size R' T' h' tk' m' news' aS hR hb F' N' S' keep' hm'
      have hIm := keep' (I, oI) (List.mem_cons_self ..) (.inr (.inl hIa))
      refine ⟨rfl, h', tk', m', news'.filter fun p => decide (p.1 ≠ I), rfl, F', ?_, ?_, ?_, ?_, ?_⟩
      · intro x hx
        rcases List.mem_cons.mp hx with rfl | hx
        · exact N' _ hIm
        · exact N' _ (List.mem_filter.mp hx).1
      · intro x hx
        exact of_decide_eq_true (List.mem_filter.mp hx).2
      · rw [← hR]
        exact (S'.drop hord N' hIm hIa (by rw [hcls]; decide)).retight hb
      · intro x hx hc
        have hx1 := keep₁ x hx hc
        rw [List.mem_filter, decide_eq_true_eq]
        exact ⟨keep' x (List.mem_cons_of_mem _ hx1) (by rcases hc with h | h; exact .inl h; exact .inr (.inl h)), hoff x hx1⟩
      · intro y h1 h2 h3 h4 h5 h6
        exact (hm' y h1 h2 h3 h4 h5).trans ((if_neg h6).trans (hm₁ y h1 h2 h3 h4 h5 h6))
    have hj : j = 0 ∨ j = 1 ∨ j = 2 := by
      have := (List.getElem?_eq_some_iff.mp hv).1
      simp at this
      omega
    rcases hj with rfl | rfl | rfl
    · simp at hv
      subst hv
      obtain ⟨v7, n7, h7m, R7⟩ := S₂.l7
      refine one_stmt (loopO (tw := tw) (ts := ts) (tz := t1) (st := st) (size := 7) (aS := a7) (rS := [row]) (R := stage0) (vS := v7) (nS := n7) B F₂ X Tp N₂ S₂ hord k5 k3 k1 k7 h7m R7 (by simp [hrow]) (by omega) hwd (by simp) (M (by decide +kernel) (by decide +kernel) (by decide +kernel) (by decide +kernel) (by decide +kernel) (by decide +kernel) m1) (M (by decide +kernel) (by decide +kernel) (by decide +kernel) (by decide +kernel) (by decide +kernel) (by decide +kernel) m2) (M (by decide +kernel) (by decide +kernel) (by decide +kernel) (by decide +kernel) (by decide +kernel) (by decide +kernel) m3) (if_pos rfl) ?_)
      intro h' tk' m' news' F' N' S' keep' hm'
      exact fin (size := 7) h' tk' m' news' a7 (R' := stage1 (fun s => nW s wd) row) rfl (by have := q1.h5; have := q1.h3; have := q1.h1; omega) F' N' S' keep' hm'
    · simp at hv
      subst hv
      obtain ⟨v5, n5, h5m, R5⟩ := S₂.l5
      refine one_stmt (loopO (tw := tw) (ts := ts) (tz := t2) (st := st) (size := 5) (aS := a5) (rS := (stage1 (fun s => nW s wd) row).r5) (R := stage1 (fun s => nW s wd) row) (vS := v5) (nS := n5) B F₂ X Tp N₂ S₂ hord k5 k3 k1 k5 h5m R5 o1.h5 (by omega) hwd (by have := q1.h5; omega) (M (by decide +kernel) (by decide +kernel) (by decide +kernel) (by decide +kernel) (by decide +kernel) (by decide +kernel) m1) (M (by decide +kernel) (by decide +kernel) (by decide +kernel) (by decide +kernel) (by decide +kernel) (by decide +kernel) m2) (M (by decide +kernel) (by decide +kernel) (by decide +kernel) (by decide +kernel) (by decide +kernel) (by decide +kernel) m3) (if_pos rfl) ?_)
      intro h' tk' m' news' F' N' S' keep' hm'
      exact fin (size := 5) h' tk' m' news' a5 (R' := stage2 (fun s => nW s wd) row) rfl (by have := q2.h5; have := q2.h3; have := q2.h1; omega) F' N' S' keep' hm'
    · simp at hv
      subst hv
      obtain ⟨v3, n3, h3m, R3⟩ := S₂.l3
      refine one_stmt (loopO (tw := tw) (ts := ts) (tz := t3) (st := st) (size := 3) (aS := a3) (rS := (stage2 (fun s => nW s wd) row).r3) (R := stage2 (fun s => nW s wd) row) (vS := v3) (nS := n3) B F₂ X Tp N₂ S₂ hord k5 k3 k1 k3 h3m R3 o2.h3 (by omega) hwd (by have := q2.h3; omega) (M (by decide +kernel) (by decide +kernel) (by decide +kernel) (by decide +kernel) (by decide +kernel) (by decide +kernel) m1) (M (by decide +kernel) (by decide +kernel) (by decide +kernel) (by decide +kernel) (by decide +kernel) (by decide +kernel) m2) (M (by decide +kernel) (by decide +kernel) (by decide +kernel) (by decide +kernel) (by decide +kernel) (by decide +kernel) m3) (if_pos rfl) ?_)
      intro h' tk' m' news' F' N' S' keep' hm'
      exact fin (size := 3) h' tk' m' news' a3 (R' := stage3 (fun s => nW s wd) row) rfl (by have := q3.h5; have := q3.h3; have := q3.h1; omega) F' N' S' keep' hm'
  · rintro m₁ news₁ h tk ⟨S₁, keep₁, hm₁⟩ F₂ N₂
    exact hret _ _ _ _ F₂ N₂ S₁ (fun x hx hc => keep₁ x (List.mem_cons_of_mem _ hx) hc) ((hm₁ _ (by decide +kernel) (by decide +kernel) (by decide +kernel) (by decide +kernel) (by decide +kernel) (by decide +kernel)).trans m1)
end
section
noncomputable def stHead : Stmt := leftBody.getD 0 (.Pass default)
set_option maxRecDepth 100000 in
set_option maxHeartbeats 8000000 in
theorem headL {w : World} {p : Program} {loose : List Str} {mean : ExcName → Option Value} {mg mb : Str → Option Value} {e1 : Env} {A₀ : Around} {base h₀ : Heap} {L : Nat} {m : Str → Option Value} {s : Shared} {Q : Flow → Shared → Prop} {E : Value → Shared → Prop} {news : List (Addr × Obj)}
    {l : Addr} {oc : Obj}
    (B : Below A₀ base [e1] h₀) (F : Fr h₀ L s.heap m) (X : (hd.heap_39 w.params).In h₀) (T : Top p loose mean mg mb h₀) (N : News h₀ L s.heap ((L + 1, oc) :: news))
    (mr : m (Str.ofString "row") = some (.ref l))
    (hret : ∀ (h' : Heap) (tk : Nat) (m' : Str → Option Value) (d a7 a5 a3 a1 : Nat) (od : Obj) (kvs : List (Int × Value)), Fr h₀ L h' m' →
      News h₀ L h' ((a1, listOf (List.toArray []) 0) :: (a3, listOf (List.toArray []) 0) :: (a5, listOf (List.toArray []) 0) :: (a7, listOf (List.toArray [Value.ref l]) 0) :: (d, od) :: (L + 1, oc) :: news) → Obj.IsDictOf (intKind PySem.Challenge.rw_rs0113_01.row.prog w) od kvs →
      valueAt kvs 7 = some (.ref a7) → valueAt kvs 5 = some (.ref a5) → valueAt kvs 3 = some (.ref a3) → valueAt kvs 1 = some (.ref a1) → Ord6 L d a7 a5 a3 a1 → m' (Str.ofString "rows") = some (.ref d) → (∀ y, y ≠ Str.ofString "rows" → m' y = m y) → Q .next { s with heap := h', toks := tk }) :
    wpAny (model PySem.Challenge.rw_rs0113_01.row.prog w) ((callerA.deeper e1).deeper (envL L)) (exec stHead (envL L)) Q E s := by
  have hb1 : stHead = stHead := rfl
  conv at hb1 => rhs; whnf
  have hb2 : leftScope = leftScope := rfl
  conv at hb2 => rhs; whnf
  rw [hb1]; unfold envL; rw [hb2]; clear hb1 hb2
  w_top off; revert X; k_fill; intro X
  k_steps
  exact hret _ _ _ _ _ _ _ _ _ _ (by assumption) (by assumption) (by assumption) rfl rfl rfl rfl (by simp only [Ord6]; omega) (by assumption) (by assumption)
end
section
noncomputable def stEnd : Stmt := leftBody.getD 2 (.Pass default)
local macro_rules | `(tactic| walk_at "subscriptTail") => `(tactic| (k_here; (with_reducible show wpAny _ _ (subscriptTail _ _ (Value.ref _) (Value.int _ _)) _ _ _); k_dflt (refine' dict_item ?mdi1 ?mdi2 ?mdi3 ?mdi4 ?_ ?mdi5; (case mdi1 => k_asm); (case mdi2 => k_mem); (case mdi3 => k_asm); (case mdi4 => assumption); (case mdi5 => with_unfolding_all rfl))))
local macro_rules | `(tactic| walk_at "eval ListComp") => `(tactic| (k_here; (with_unfolding_all refine' comp_heads ?mch1 ?mch2 ?mch3 ?mch4 ?mch5 ?mch6 ?mch7 ?mch8 ?mch9 ?mch10 ?mch11 ?mch12 ?mch13 ?mch14 ?mch15 ?mch16 ?_ ?_; (case mch1 => rfl); (case mch2 => k_asm); (case mch3 => k_asm); (case mch4 => assumption); (case mch5 => assumption); (case mch6 => assumption); (case mch7 => assumption); (case mch8 => decide); (case mch9 => decide); (case mch10 => rfl); (case mch11 => decide); (case mch12 => rfl); (case mch13 => decide); (case mch14 => (intro _; rfl)); (case mch15 => (intro _ _; with_unfolding_all rfl)); (case mch16 => (intro _ _; with_unfolding_all rfl))); rotate_left; intro h' tk9 D' ys' k' F' N' hI'; rotate_right; intro q9 hq9))
set_option maxRecDepth 100000 in
set_option maxHeartbeats 8000000 in
theorem endL {w : World} {p : Program} {loose : List Str} {mean : ExcName → Option Value} {mg mb : Str → Option Value} {e1 : Env} {A₀ : Around} {base h₀ : Heap} {L : Nat} {m : Str → Option Value} {s : Shared} {Q : Flow → Shared → Prop} {E : Value → Shared → Prop} {news : List (Addr × Obj)}
    {d a1 : Addr} {od : Obj} {kvs : List (Int × Value)} {v : List Value} {n : Nat} {r : List (List Int)}
    (B : Below A₀ base [e1] h₀) (F : Fr h₀ L s.heap m) (X : (hd.heap_39 w.params).In h₀) (T : Top p loose mean mg mb h₀) (N : News h₀ L s.heap news)
    (hdm : (d, od) ∈ news) (hod : od.IsDictOf (intKind PySem.Challenge.rw_rs0113_01.row.prog w) kvs) (hv1 : valueAt kvs 1 = some (.ref a1))
    (ham : (a1, listOf v.toArray n) ∈ news) (R : RowsIn news v r) (hne : ∀ f ∈ r, 0 < f.length) (hvl : v.length ≤ 1000) (hr : r.length ≤ 24)
    (m1 : m (Str.ofString "rows") = some (.ref d))
    (hret : ∀ (h' : Heap) (tk : Nat) (D : Addr) (ys : List Value) (k : Nat), Fr h₀ L h' m → News h₀ L h' ((D, listOf ys.toArray k) :: news) → IntsAre ys (srt (r.map fun f => f.getD 0 0)) → Q (.ret (.ref D)) { s with heap := h', toks := tk }) :
    wpAny (model PySem.Challenge.rw_rs0113_01.row.prog w) ((callerA.deeper e1).deeper (envL L)) (exec stEnd (envL L)) Q E s := by
  have hb1 : stEnd = stEnd := rfl
  conv at hb1 => rhs; whnf
  have hb2 : leftScope = leftScope := rfl
  conv at hb2 => rhs; whnf
  rw [hb1]; unfold envL; rw [hb2]; clear hb1 hb2
  w_top off; revert X; k_fill; intro X
  k_steps
  · rename_i hq; exact hq _
  · (rename List.Perm _ _ => hp9)
    (rename List.Pairwise _ _ => ho9)
    have hE9 := srt_eq hp9 ho9
    subst hE9
    exact hret _ _ _ _ _ (by assumption) (news_drop2 (by assumption)) (by assumption)
end
end
theorem leftBody_eq : leftBody = [stHead, forSize, stEnd] := by with_unfolding_all rfl
/-- what _law_left gives: the ints that can be left -/
def leftOf (wd : Int) (row : List Int) : List Int := srt ((stage3 (fun s => nW s wd) row).r1.map fun f => f.getD 0 0)
set_option maxHeartbeats 2000000 in
theorem left_body {w : World} {p : Program} {loose : List Str} {mean : ExcName → Option Value} {mg mb : Str → Option Value} {e1 : Env} {A₀ : Around} {base h₀ : Heap} {L : Nat} {m : Str → Option Value} {s : Shared} {Q : Flow → Shared → Prop} {news : List (Addr × Obj)}
    {l : Nat} {oc : Obj} {co : Option Value} {vs : List Value} {k : Nat} {row : List Int} {tw ts : Tok} {wd st : Int}
    (B : Below A₀ base [e1] h₀) (F : Fr h₀ L s.heap m) (X : (hd.heap_39 w.params).In h₀) (Tp : Top p loose mean mg mb h₀) (N : News h₀ L s.heap ((L + 1, oc) :: news)) (hoc : oc.data = .cell co)
    (hlow : ∀ x ∈ news, @LT.lt Nat _ x.1 L) (hl : (l, listOf vs.toArray k) ∈ news) (hI : IntsAre vs row) (hrow : row.length = 7) (hwd : wd = 7 ∨ wd = 3)
    (mr : m (Str.ofString "row") = some (.ref l)) (m2 : m (Str.ofString "widest") = some (.int wd tw)) (m3 : m (Str.ofString "start") = some (.int st ts))
    (hret : ∀ (h' : Heap) (tk : Nat) (m' : Str → Option Value) (D : Addr) (ys : List Value) (k : Nat), Fr h₀ L h' m' → News h₀ L h' ((D, listOf ys.toArray k) :: news) → IntsAre ys (leftOf wd row) → Q (.ret (.ref D)) { s with heap := h', toks := tk }) :
    wpAny (model PySem.Challenge.rw_rs0113_01.row.prog w) ((callerA.deeper e1).deeper (envL L)) (execs leftBody (envL L)) Q (fun _ _ => False) s := by
  rw [leftBody_eq]
  refine wpAny_execs_cons (headL B F X Tp N mr ?_)
  intro h1 tk1 m' d a7 a5 a3 a1 od kvs F1 N1 hod k7 k5 k3 k1 hord mrows mn
  have hord' := hord
  simp only [Ord6] at hord'
  have hpool : ∀ x ∈ news, x ∈ poolOf L a1 ((a1, listOf (List.toArray []) 0) :: (a3, listOf (List.toArray []) 0) :: (a5, listOf (List.toArray []) 0) :: (a7, listOf (List.toArray [Value.ref l]) 0) :: (d, od) :: (L + 1, oc) :: news) :=
    fun x hx => mem_poolOf.mpr ⟨tail6 hx, .inl (hlow x hx)⟩
  have S : LeftSt PySem.Challenge.rw_rs0113_01.row.prog w L d a7 a5 a3 a1 kvs [row] [] [] [] 47 ((a1, listOf (List.toArray []) 0) :: (a3, listOf (List.toArray []) 0) :: (a5, listOf (List.toArray []) 0) :: (a7, listOf (List.toArray [Value.ref l]) 0) :: (d, od) :: (L + 1, oc) :: news) :=
    ⟨⟨od, by simp, hod⟩, ⟨oc, co, by simp, hoc⟩, ⟨[.ref l], 0, by simp, .cons (hpool _ hl) hI .nil⟩, ⟨[], 0, by simp, .nil⟩, ⟨[], 0, by simp, .nil⟩, ⟨[], 0, by simp, .nil⟩, by simp⟩
  refine wpAny_execs_cons (loopS B F1 X Tp N1 S hord k7 k5 k3 k1 hrow hwd mrows ((mn _ (by decide +kernel)).trans m2) ((mn _ (by decide +kernel)).trans m3) ?_)
  intro h2 tk2 m'' news' F2 N2 S2 keep2 mrows2
  obtain ⟨od2, hdm, hod2⟩ := S2.dict
  obtain ⟨v1, n1, h1m, R1⟩ := S2.l1
  obtain ⟨q0, q1, q2, q3⟩ := stage_le (n := fun s => nW s wd) (nW_ok hwd) row
  obtain ⟨o0, o1, o2, o3⟩ := stage_ok (n := fun s => nW s wd) (nW_ok hwd) hrow
  have hv1 := R1.length
  have hq := q3.h1
  refine one_stmt (endL B F2 X Tp N2 hdm hod2 k1 h1m (R1.mono fun x hx => (mem_poolOf.mp hx).1) (fun f hf => by have := o3.h1 f hf; omega) (by omega) hq mrows2 ?_)
  intro h3 tk3 D ys k' F3 N3 hI3
  refine hret h3 tk3 m'' D ys k' F3 ?_ hI3
  intro x hx
  rcases List.mem_cons.mp hx with rfl | hx
  · exact N3 _ (List.mem_cons_self ..)
  · exact N3 _ (List.mem_cons_of_mem _ (keep2 x (tail6 hx) (.inl (hlow x hx))))
set_option maxRecDepth 100000 in
set_option maxHeartbeats 8000000 in
theorem left_call {w : World} {p : Program} {loose : List Str} {mean : ExcName → Option Value} {mg mb : Str → Option Value} {e1 : Env} {A₀ : Around} {base h₀ : Heap} {L : Addr} {m : Str → Option Value} {s : Shared} {Q E : Value → Shared → Prop} {news : List (Addr × Obj)} {l : Nat} {vs : List Value} {row : List Int} {n : Nat} {wd st : Int} {tw ts : Tok} (B : Below A₀ base [] h₀) (F : Fr h₀ L s.heap m) (X : (hd.heap_39 w.params).In h₀) (N : News h₀ L s.heap news) (T : Top p loose mean mg mb h₀) (hf : e1.frame = some L) (hk : e1.scope.kind = .function)
    (hm : (l, listOf vs.toArray n) ∈ news) (hI : IntsAre vs row) (h7 : row.length = 7) (hwd : wd = 7 ∨ wd = 3)
    (hret : ∀ (h' : Heap) (tk : Nat) (D : Addr) (ys : List Value) (k : Nat), Fr h₀ L h' m → News h₀ L h' ((D, listOf ys.toArray k) :: news) → IntsAre ys (leftOf wd row) → Q (.ref D) { s with heap := h', toks := tk }) :
    wpAny (model PySem.Challenge.rw_rs0113_01.row.prog w) (callerA.deeper e1) (call (.ref 84) [.ref l, .int wd tw, .int st ts]) Q E s := by
  w_top off; revert X; k_fill; intro X
  walk_at "my enterC"
  intro g' L' h' tk' cells' FG' F' N' Y' B' X' T' l1
  obtain ⟨o', hE', d1'⟩ := CellsAre.one Y'
  subst hE'
  simp only [List.cons_append, List.nil_append] at N'
  refine wpAny_mono (left_body (L := L') (l := l) (vs := vs) (k := n) (row := row) (tw := tw) (ts := ts) (wd := wd) (st := st) B' F' X' T' N' d1' l1 hm hI h7 hwd rfl rfl rfl ?_) (fun _ _ q => q) (fun _ _ q => q.elim)
  intro h3 tk3 m3 D ys k F3 N3 hI3
  exact leaveK_ F3 N3 (fun kF kN => hret _ _ _ _ _ kF kN hI3)
theorem indices_eq (n a k : Nat) : Builtin.Str.strSliceIndices (some (a : Int)) (some ((a : Int) + (k : Int))) 1 n = (List.range (min (a + k) n - min a n)).map (min a n + ·) := by
  rw [← sliceRange_one]
  unfold Builtin.Str.strSliceIndices
  simp only [show (1 : Int) > 0 by decide, if_true]
  have h1 : ¬ ((a : Int) < 0) := by omega
  have h2 : ¬ ((a : Int) + (k : Int) < 0) := by omega
  rw [if_neg h1, if_neg h2]
  congr 1 <;> omega
theorem slice_eq (x : Str) (a k : Nat) : Txt.slice x (some (a : Int)) (some ((a : Int) + (k : Int))) = ⟨((x.cps.toList.drop a).take k).toArray⟩ := by
  have hlen : x.length = x.cps.toList.length := by simp [Str.length]
  have hpick : ((Builtin.Str.strSliceIndices (some (a : Int)) (some ((a : Int) + (k : Int))) 1 x.length).filterMap (x.cps[·]?)) = (x.cps.toList.drop a).take k := by
    rw [indices_eq, pick_run]
    rw [hlen]
    by_cases h : a ≤ x.cps.toList.length
    · rw [Nat.min_eq_left h]
      by_cases h2 : a + k ≤ x.cps.toList.length
      · rw [Nat.min_eq_left h2]; congr 1; omega
      · rw [Nat.min_eq_right (by omega), List.take_of_length_le (by rw [List.length_drop]; omega), List.take_of_length_le (by rw [List.length_drop]; omega)]
    · have e1 : min a x.cps.toList.length = x.cps.toList.length := Nat.min_eq_right (by omega)
      rw [e1, List.drop_of_length_le (Nat.le_refl _), List.drop_of_length_le (by omega)]
      simp
  unfold Txt.slice
  rw [hpick]
  split
  · rename_i h
    simp only [beq_self_eq_true, Bool.true_and, beq_iff_eq] at h
    have hl : ((x.cps.toList.drop a).take k).length = x.cps.toList.length := by
      rw [← hpick, indices_eq, pick_run]
      rw [indices_eq, List.length_map, List.length_range, hlen] at h
      rw [List.length_take, List.length_drop, hlen]
      omega
    have ha : a = 0 ∨ x.cps.toList.length = 0 := by
      rw [List.length_take, List.length_drop] at hl; omega
    have he : (x.cps.toList.drop a).take k = x.cps.toList := by
      rcases ha with rfl | h0
      · rw [List.drop_zero] at hl ⊢
        exact List.take_of_length_le (by rw [List.length_take] at hl; omega)
      · have : x.cps.toList = [] := List.eq_nil_of_length_eq_zero h0
        rw [this]; simp
    rw [he]
  · rfl
set_option maxRecDepth 100000
theorem look_c60 (w : World) : PySem.Challenge.rw_rs0113_01 = PySem.Challenge.rw_rs0113_01 → ∃ t, nsIn (hd.heap_39 w.params) 49 ⟨([60] : List Nat).toArray⟩ = some (some (.int 20 t)) := by
  k_fill
  intro _
  exact ⟨_, by k_is⟩
theorem look_c62 (w : World) : PySem.Challenge.rw_rs0113_01 = PySem.Challenge.rw_rs0113_01 → ∃ t, nsIn (hd.heap_39 w.params) 49 ⟨([62] : List Nat).toArray⟩ = some (some (.int 21 t)) := by
  k_fill
  intro _
  exact ⟨_, by k_is⟩
theorem look_c62_c61 (w : World) : PySem.Challenge.rw_rs0113_01 = PySem.Challenge.rw_rs0113_01 → ∃ t, nsIn (hd.heap_39 w.params) 49 ⟨([62, 61] : List Nat).toArray⟩ = some (some (.int 30 t)) := by
  k_fill
  intro _
  exact ⟨_, by k_is⟩
theorem look_c60_c61 (w : World) : PySem.Challenge.rw_rs0113_01 = PySem.Challenge.rw_rs0113_01 → ∃ t, nsIn (hd.heap_39 w.params) 49 ⟨([60, 61] : List Nat).toArray⟩ = some (some (.int 29 t)) := by
  k_fill
  intro _
  exact ⟨_, by k_is⟩
theorem look_c60_c60 (w : World) : PySem.Challenge.rw_rs0113_01 = PySem.Challenge.rw_rs0113_01 → ∃ t, nsIn (hd.heap_39 w.params) 49 ⟨([60, 60] : List Nat).toArray⟩ = some (some (.int 33 t)) := by
  k_fill
  intro _
  exact ⟨_, by k_is⟩
theorem look_c62_c62 (w : World) : PySem.Challenge.rw_rs0113_01 = PySem.Challenge.rw_rs0113_01 → ∃ t, nsIn (hd.heap_39 w.params) 49 ⟨([62, 62] : List Nat).toArray⟩ = some (some (.int 34 t)) := by
  k_fill
  intro _
  exact ⟨_, by k_is⟩
theorem look_c60_c62 (w : World) : PySem.Challenge.rw_rs0113_01 = PySem.Challenge.rw_rs0113_01 → nsIn (hd.heap_39 w.params) 49 ⟨([60, 62] : List Nat).toArray⟩ = some none := by
  k_fill
  intro _
  k_is
theorem look_c62_c60 (w : World) : PySem.Challenge.rw_rs0113_01 = PySem.Challenge.rw_rs0113_01 → nsIn (hd.heap_39 w.params) 49 ⟨([62, 60] : List Nat).toArray⟩ = some none := by
  k_fill
  intro _
  k_is
theorem look_c62_c61_c62 (w : World) : PySem.Challenge.rw_rs0113_01 = PySem.Challenge.rw_rs0113_01 → nsIn (hd.heap_39 w.params) 49 ⟨([62, 61, 62] : List Nat).toArray⟩ = some none := by
  k_fill
  intro _
  k_is
theorem look_c62_c61_c60 (w : World) : PySem.Challenge.rw_rs0113_01 = PySem.Challenge.rw_rs0113_01 → nsIn (hd.heap_39 w.params) 49 ⟨([62, 61, 60] : List Nat).toArray⟩ = some none := by
  k_fill
  intro _
  k_is
theorem look_c60_c62_c61 (w : World) : PySem.Challenge.rw_rs0113_01 = PySem.Challenge.rw_rs0113_01 → nsIn (hd.heap_39 w.params) 49 ⟨([60, 62, 61] : List Nat).toArray⟩ = some none := by
  k_fill
  intro _
  k_is
theorem look_c60_c60_c62 (w : World) : PySem.Challenge.rw_rs0113_01 = PySem.Challenge.rw_rs0113_01 → nsIn (hd.heap_39 w.params) 49 ⟨([60, 60, 62] : List Nat).toArray⟩ = some none := by
  k_fill
  intro _
  k_is
theorem look_c60_c60_c60 (w : World) : PySem.Challenge.rw_rs0113_01 = PySem.Challenge.rw_rs0113_01 → nsIn (hd.heap_39 w.params) 49 ⟨([60, 60, 60] : List Nat).toArray⟩ = some none := by
  k_fill
  intro _
  k_is
theorem look_c60_c61_c60 (w : World) : PySem.Challenge.rw_rs0113_01 = PySem.Challenge.rw_rs0113_01 → nsIn (hd.heap_39 w.params) 49 ⟨([60, 61, 60] : List Nat).toArray⟩ = some none := by
  k_fill
  intro _
  k_is
theorem look_c60_c61_c62 (w : World) : PySem.Challenge.rw_rs0113_01 = PySem.Challenge.rw_rs0113_01 → nsIn (hd.heap_39 w.params) 49 ⟨([60, 61, 62] : List Nat).toArray⟩ = some none := by
  k_fill
  intro _
  k_is
theorem look_c62_c60_c61 (w : World) : PySem.Challenge.rw_rs0113_01 = PySem.Challenge.rw_rs0113_01 → nsIn (hd.heap_39 w.params) 49 ⟨([62, 60, 61] : List Nat).toArray⟩ = some none := by
  k_fill
  intro _
  k_is
theorem look_c62_c62_c60 (w : World) : PySem.Challenge.rw_rs0113_01 = PySem.Challenge.rw_rs0113_01 → nsIn (hd.heap_39 w.params) 49 ⟨([62, 62, 60] : List Nat).toArray⟩ = some none := by
  k_fill
  intro _
  k_is
theorem look_c62_c62_c62 (w : World) : PySem.Challenge.rw_rs0113_01 = PySem.Challenge.rw_rs0113_01 → nsIn (hd.heap_39 w.params) 49 ⟨([62, 62, 62] : List Nat).toArray⟩ = some none := by
  k_fill
  intro _
  k_is
section
noncomputable def bearsDef : Stmt := PySem.Challenge.pw_rs0113_01.main.body.getD 63 (.Pass default)
noncomputable def bearsBody : List Stmt := funBody bearsDef
noncomputable def bearsScope : Scope := funScope bearsDef
def whileBodyOf : Stmt → List Stmt
  | .While _ b .. => b
  | _ => []
noncomputable def bearsTurn : List Stmt := whileBodyOf (bearsBody.getD 3 (.Pass default))
noncomputable def bt (k : Nat) : Stmt := bearsTurn.getD k (.Pass default)
noncomputable abbrev envB (L : Addr) : Env := envOfC (Str.ofString "_law_bears") bearsScope L 89 (.ref 88)
def argOf : Stmt → PySem.Expr
  | .Assign _ (.Call _ (a :: _) ..) .. => a
  | _ => .Constant .none 0 default
def compTest : PySem.Expr → PySem.Expr
  | .ListComp _ (⟨_, _, (t :: _), _⟩ :: _) .. => t
  | _ => .Constant .none 0 default
noncomputable def compScope : PySem.Expr → Scope
  | .ListComp _ _ sc _ => sc
  | _ => default
theorem slice_keep {prog : Program} {w : World} {A : Around} {E : Value → Shared → Prop} {s : Shared} {x : Str} {t : Tok} {Q : Value → Shared → Prop} {value slice : PySem.Expr} {h₀ hX : Heap} {L : Addr} {m : Str → Option Value} {news : List (Addr × Obj)} {i j : Int} {ui uj : Tok} (hF : Fr h₀ L s.heap m) (hN : News h₀ L s.heap news) (hK : ∀ b o, hX.get? b = some o → s.heap.get? b = some o)
    (h : ∀ h' t' k, Fr h₀ L h' m → News h₀ L h' news → (∀ b o, hX.get? b = some o → h'.get? b = some o) → Q (.str (Txt.slice x (some i) (some j)) t') { s with heap := h', toks := k })
    (hs : subscripted slice false (.str x t) (.ref s.heap.objs.size) = operate [.ref s.heap.objs.size, .str x t] (getItem (.str x t) (.ref s.heap.objs.size))) (ht : ∀ r, letTemporaryGo value (.str x t) r = pure ()) (hsz : x.length ≤ sizeLine) :
    wpAny (model prog w) A (subscriptTail value slice (.str x t) (.ref s.heap.objs.size)) Q E { s with heap := s.heap.push { cls := .type "slice", data := .fields #[.int i ui, .int j uj, .none] } } :=
  tail_of_ItemOn (SBH.sliceItem_ss (P := fun h => (Fr h₀ L h m ∧ News h₀ L h news) ∧ ∀ b o, hX.get? b = some o → h.get? b = some o) (fun h ob p => ⟨keptFrN h ob p.1, fun b o e => Heap.get?_push_of_some _ (p.2 b o e)⟩) ⟨⟨hF, hN⟩, hK⟩ (fun h' t' k a => h h' t' k a.1.1 a.1.2 a.2) hsz) hs ht
local macro_rules | `(tactic| walk_at "subscriptTail Name Slice str ref") => `(tactic| (k_here; (with_reducible show wpAny _ _ (subscriptTail _ (PySem.Expr.Slice (some _) (some _) none _) (Value.str _ _) (Value.ref _)) _ _ _); k_dflt (refine' slice_keep ?msk1 ?msk2 ?msk3 ?_ ?msk4 ?msk5 ?msk6; (case msk1 => k_asm); (case msk2 => k_asm); (case msk3 => assumption); (case msk4 => with_unfolding_all rfl); (case msk5 => (intro _; with_unfolding_all rfl)); (case msk6 => (rw [sizeLine_eq]; omega))); intro h' t9 k9 F' N' hK'))
local macro_rules | `(tactic| walk_at "eval Name") => `(tactic| (k_here; k_dflt (refine' wpAny_Name (wpAny_loadName_local ?mnq1 ?mnq2 (Fr.ns ?mnq3) ?mnq4 ?_); (case mnq1 => rfl); (case mnq2 => rfl); (case mnq3 => k_asm); (case mnq4 => with_reducible assumption))))
local macro_rules | `(tactic| walk_at "compareOp In") => `(tactic| (k_here; (with_reducible show wpAny _ _ (compareOp CmpOp.In (Value.str _ _) (Value.ref _)) _ _ _); k_dflt (refine' topIn_K ?mti1 ?mti2 ?mti3 ?mti4 ?mti5 ?mti6 ?_; (case mti1 => k_asm); (case mti2 => k_asm); (case mti3 => k_is); (case mti4 => k_keys); (case mti5 => assumption); (case mti6 => decide))))
local macro_rules | `(tactic| walk_at "compareOp In str ref") => `(tactic| walk_at "compareOp In")
set_option maxRecDepth 100000 in
set_option maxHeartbeats 8000000 in
theorem btest {w : World} {p : Program} {loose : List Str} {mean : ExcName → Option Value} {mg mb : Str → Option Value} {e1 : Env} {A₀ : Around} {base h₀ : Heap} {L C : Nat} {m : Str → Option Value} {s : Shared} {Q : Bool → Shared → Prop} {E : Value → Shared → Prop} {news : List (Addr × Obj)}
    {ol op : Obj} {line : Str} {place k : Nat} {tl tp tk : Tok} {r : Option Value}
    (F : Fr h₀ C s.heap m) (X : (hd.heap_39 w.params).In h₀) (T : Top p loose mean mg mb h₀) (N : News h₀ C s.heap ((L + 1, ol) :: (L + 2, op) :: news))
    (hol : ol.data = .cell (some (.str line tl))) (hop : op.data = .cell (some (.int place tp))) (hlen : line.length ≤ 14)
    {hX : Heap} (hK : ∀ b o, hX.get? b = some o → s.heap.get? b = some o) (mk : m (Str.ofString "k") = some (.int k tk))
    (e : nsIn (hd.heap_39 w.params) 49 (Txt.slice line (some (place : Int)) (some ((place : Int) + (k : Int)))) = some r)
    (hret : ∀ (h' : Heap) (tk : Nat), Fr h₀ C h' m → News h₀ C h' ((L + 1, ol) :: (L + 2, op) :: news) → (∀ b o, hX.get? b = some o → h'.get? b = some o) → Q r.isSome { s with heap := h', toks := tk }) :
    wpAny (model PySem.Challenge.rw_rs0113_01.row.prog w) ((callerA.deeper e1).deeper (envB L)) (isTrue (compTest (argOf (bt 0))) (compEnvC (compScope (argOf (bt 0))) [(Str.ofString "place", L + 2), (Str.ofString "line", L + 1)] C (envB L)) (eval (compTest (argOf (bt 0))) (compEnvC (compScope (argOf (bt 0))) [(Str.ofString "place", L + 2), (Str.ofString "line", L + 1)] C (envB L)))) Q E s := by
  have hb1 : compTest (argOf (bt 0)) = compTest (argOf (bt 0)) := rfl
  conv at hb1 => rhs; whnf
  have hb2 : bearsScope = bearsScope := rfl
  conv at hb2 => rhs; whnf
  have hb3 : compScope (argOf (bt 0)) = compScope (argOf (bt 0)) := rfl
  conv at hb3 => rhs; whnf
  rw [hb1, hb3]; unfold envB; rw [hb2]; clear hb1 hb3 hb2
  w_top off; revert X; k_fill; intro X
  k_steps
  exact hret _ _ (by assumption) (by assumption) (by assumption)
end
def compIter : PySem.Expr → PySem.Expr
  | .ListComp _ (⟨_, it, _, _⟩ :: _) .. => it
  | _ => .Constant .none 0 default
theorem bcomp_eq : ∃ p1 px pos, argOf (bt 0) = .ListComp (.Name (Str.ofString "k") p1) [⟨.Name (Str.ofString "k") px, compIter (argOf (bt 0)), [compTest (argOf (bt 0))], 0⟩] (compScope (argOf (bt 0))) pos := ⟨_, _, _, by with_unfolding_all rfl⟩
set_option maxRecDepth 100000 in
set_option maxHeartbeats 8000000 in
theorem biter {w : World} {p : Program} {loose : List Str} {mean : ExcName → Option Value} {mg mb : Str → Option Value} {e1 : Env} {A₀ : Around} {base h₀ : Heap} {L : Nat} {m : Str → Option Value} {s : Shared} {Q : Value → Shared → Prop} {E : Value → Shared → Prop} {news : List (Addr × Obj)}
    (B : Below A₀ base [e1] h₀) (F : Fr h₀ L s.heap m) (X : (hd.heap_39 w.params).In h₀) (T : Top p loose mean mg mb h₀) (N : News h₀ L s.heap news)
    (hret : ∀ (h' : Heap) (tk : Nat) (D : Addr) (t1 t2 t3 : Tok) (n : Nat), Fr h₀ L h' m → News h₀ L h' ((D, ({ cls := .type "tuple", data := .seq [Value.int 1 t1, .int 2 t2, .int 3 t3].toArray n } : Obj)) :: news) → Q (.ref D) { s with heap := h', toks := tk }) :
    wpAny (model PySem.Challenge.rw_rs0113_01.row.prog w) ((callerA.deeper e1).deeper (envB L)) (eval (compIter (argOf (bt 0))) (envB L)) Q E s := by
  have hb1 : compIter (argOf (bt 0)) = compIter (argOf (bt 0)) := rfl
  conv at hb1 => rhs; whnf
  have hb2 : bearsScope = bearsScope := rfl
  conv at hb2 => rhs; whnf
  rw [hb1]; unfold envB; rw [hb2]; clear hb1 hb2
  w_top off; revert X; k_fill; intro X
  k_steps
  exact hret _ _ _ _ _ _ _ (by assumption) (by assumption)
def sizesOf (f : Int → Bool) : List Int := ([1, 2, 3] : List Int).filter f
def inTab (f : Int → Bool) : Value → Bool
  | .int k _ => f k
  | _ => false
theorem paired_eq {vs ys : List Value} (h : Paired (fun v y : Value => y = v) vs ys) : ys = vs := by
  induction h with
  | nil => rfl
  | cons h _ ih => rw [h, ih]
theorem sizes_ints {f : Int → Bool} {t1 t2 t3 : Tok} : IntsAre ([Value.int 1 t1, .int 2 t2, .int 3 t3].filter (inTab f)) (sizesOf f) := by
  unfold sizesOf
  simp only [List.filter_cons, inTab, List.filter_nil]
  split <;> split <;> split <;> simp_all <;> first | exact .nil | exact .cons _ _ .nil | exact .cons _ _ (.cons _ _ .nil) | exact .cons _ _ (.cons _ _ (.cons _ _ .nil))
set_option maxHeartbeats 2000000 in
theorem bcomp {w : World} {p : Program} {loose : List Str} {mean : ExcName → Option Value} {mg mb : Str → Option Value} {e1 : Env} {A₀ : Around} {base h₀ : Heap} {L : Nat} {m : Str → Option Value} {s : Shared} {Q : Value → Shared → Prop} {E : Value → Shared → Prop} {news : List (Addr × Obj)}
    {ol op : Obj} {line : Str} {place : Nat} {tl tp : Tok} {f : Int → Bool}
    (B : Below A₀ base [e1] h₀) (F : Fr h₀ L s.heap m) (X : (hd.heap_39 w.params).In h₀) (T : Top p loose mean mg mb h₀) (N : News h₀ L s.heap ((L + 1, ol) :: (L + 2, op) :: news))
    (hol : ol.data = .cell (some (.str line tl))) (hop : op.data = .cell (some (.int place tp))) (hlen : line.length ≤ 14)
    (e : ∀ k : Nat, 1 ≤ k → k ≤ 3 → ∃ r, nsIn (hd.heap_39 w.params) 49 (Txt.slice line (some (place : Int)) (some ((place : Int) + (k : Int)))) = some r ∧ r.isSome = f (k : Int))
    (hret : ∀ (h' : Heap) (tk : Nat) (D : Addr) (ys : List Value) (k : Nat), Fr h₀ L h' m → News h₀ L h' ((D, listOf ys.toArray k) :: (L + 1, ol) :: (L + 2, op) :: news) → IntsAre ys (sizesOf f) → Q (.ref D) { s with heap := h', toks := tk }) :
    wpAny (model PySem.Challenge.rw_rs0113_01.row.prog w) ((callerA.deeper e1).deeper (envB L)) (eval (argOf (bt 0)) (envB L)) Q E s := by
  obtain ⟨p1, px, pos, he⟩ := bcomp_eq
  rw [he]
  refine wpAny_ListComp_free (cl := [(Str.ofString "place", L + 2), (Str.ofString "line", L + 1)]) (inTab f) (fun v y => y = v) (by with_unfolding_all rfl) (by with_unfolding_all decide) (by with_unfolding_all rfl) (by with_unfolding_all decide) (by with_unfolding_all rfl) (biter B F X T N ?_) (by intro _; with_unfolding_all rfl)
  intro h1 tk1 D t1 t2 t3 nn F1 N1
  have hol1 : h1.get? D = some ({ cls := .type "tuple", data := .seq [Value.int 1 t1, .int 2 t2, .int 3 t3].toArray nn } : Obj) := (N1 _ (List.mem_cons_self ..)).1
  have hls : h1.IsTuple D [Value.int 1 t1, .int 2 t2, .int 3 t3].toArray := ⟨_, hol1, rfl, nn, rfl⟩
  have hna : D ≠ h1.objs.size := Nat.ne_of_lt (Heap.lt_size hol1)
  have hLlt : L < h1.objs.size := F1.ns.lt
  have N1c := news_tail N1
  refine wpAny_pyIter_tuple (s := { s with heap := h1, toks := tk1 }) hls ?_
  have W := Walks.tuple (prog := PySem.Challenge.rw_rs0113_01.row.prog) (w := w) (A := (callerA.deeper e1).deeper (envB L)) rfl h1.objs.size D hna [Value.int 1 t1, .int 2 t2, .int 3 t3].toArray
  have kept : ∀ (s₃ : Shared), (∀ b o, b ∉ [h1.objs.size] → (h1.push { cls := .type "tuple_iterator", data := .fields #[.ref D, .int 0 0] }).get? b = some o → s₃.heap.get? b = some o) → ∀ b o, h1.get? b = some o → s₃.heap.get? b = some o := by
    intro s₃ hk b o eb
    exact hk b o (fun hb => absurd (Heap.lt_size eb) ((List.mem_singleton.mp hb) ▸ Nat.lt_irrefl _)) (Heap.get?_push_of_some _ eb)
  have frameC : ∀ (C : Addr) (s₃ : Shared) (m₃ : Str → Option Value), (h1.push { cls := .type "tuple_iterator", data := .fields #[.ref D, .int 0 0] }).objs.size ≤ C → s₃.heap.Ns C m₃ → (∀ b o, h1.get? b = some o → s₃.heap.get? b = some o) →
      Fr h₀ C s₃.heap m₃ ∧ News h₀ C s₃.heap ((L + 1, ol) :: (L + 2, op) :: news) := by
    intro C s₃ m₃ hC hns hk
    rw [Heap.size_push] at hC
    refine ⟨⟨hns, fun b o eb => hk b o (F1.keep b o eb), ?_⟩, fun q hq => ⟨hk _ _ (N1c q hq).1, ?_, (N1c q hq).2.2⟩⟩
    · exact Nat.le_trans F1.above (Nat.le_trans (Nat.le_of_lt hLlt) (Nat.le_trans (Nat.le_succ _) hC))
    · exact Nat.ne_of_lt (Nat.lt_of_lt_of_le (Heap.lt_size (N1c q hq).1) (Nat.le_trans (Nat.le_succ _) hC))
  have item : ∀ {i : Nat} {u : Value}, [Value.int 1 t1, .int 2 t2, .int 3 t3].toArray[i]? = some u → ∃ (k : Nat) (t : Tok), u = .int k t ∧ 1 ≤ k ∧ k ≤ 3 := by
    intro i u hu
    match i with
    | 0 => simp at hu; exact ⟨1, t1, hu.symm, by omega, by omega⟩
    | 1 => simp at hu; exact ⟨2, t2, hu.symm, by omega, by omega⟩
    | 2 => simp at hu; exact ⟨3, t3, hu.symm, by omega, by omega⟩
    | i + 3 => simp at hu
  refine ⟨_, _, _, _, _, _, rfl, W, by simp [sizeLine_eq], ⟨⟨_, Heap.get?_push_size _ rfl, rfl, rfl⟩, hls.at fun o e => Heap.get?_push_of_some _ e⟩, ?_, ⟨?_, ?_⟩, ?_⟩
  · intro b hb
    show b < (h1.push _).objs.size
    rw [Heap.size_push]
    rcases List.mem_cons.mp hb with rfl | hb
    · exact Nat.lt_succ_self _
    · rw [List.mem_singleton.mp hb]; exact Nat.lt_succ_of_lt (Heap.lt_size hol1)
  · intro C i u s₃ m₃ E' hC hP hns hm hk _
    obtain ⟨k, t, rfl, hk1, hk3⟩ := item hP
    obtain ⟨r, er, hr⟩ := e k hk1 hk3
    obtain ⟨F₃, N₃⟩ := frameC C s₃ m₃ hC hns (kept s₃ hk)
    rw [List.forIn_cons]
    refine wpAny_bind ?_
    simp only [if_true]
    refine wpAny_bind (btest (A₀ := A₀) (base := base) (hX := s₃.heap) F₃ X T N₃ hol hop hlen (fun _ _ h => h) hm er ?_)
    intro h' tk' _ _ hK
    refine wpAny_pure ?_
    show wpAny _ _ (forIn [] r.isSome _) _ _ _
    rw [List.forIn_nil]
    exact wpAny_pure ⟨hr, h', tk', rfl, hK⟩
  · intro C i u s₃ m₃ E' hC hP _ hns hm hk _
    exact wpAny_Name (wpAny_loadName_local (by with_unfolding_all rfl) (by with_unfolding_all rfl) hns hm ⟨rfl, s₃.heap, s₃.toks, rfl, fun _ _ e => e⟩)
  · intro D' h' tk' ys vs hD hl hpl hlen' hvs hPair hk
    have hvv : vs = [Value.int 1 t1, .int 2 t2, .int 3 t3] := by
      apply List.ext_getElem?
      intro j
      by_cases hj : j < vs.length
      · have := hvs j vs[j] (by simp [hj])
        have h1 : [Value.int 1 t1, .int 2 t2, .int 3 t3][j]? = some vs[j] := by simpa using this
        rw [h1]; simp [hj]
      · have h2 : [Value.int 1 t1, .int 2 t2, .int 3 t3].length ≤ j := by simp at hlen' ⊢; omega
        rw [List.getElem?_eq_none (by omega), List.getElem?_eq_none h2]
    subst hvv
    have hys := paired_eq hPair
    have hkk : ∀ b o, h1.get? b = some o → h'.get? b = some o := fun b o e => hk b o (fun hb => absurd (Heap.lt_size e) ((List.mem_singleton.mp hb) ▸ Nat.lt_irrefl _)) (Heap.get?_push_of_some _ e)
    have hDs : h1.get? D' = none := by
      cases e : h1.get? D' with
      | none => rfl
      | some o => have e' := Heap.get?_push_of_some ({ cls := .type "tuple_iterator", data := .fields #[.ref D, .int 0 0] } : Obj) e; rw [hD] at e'; cases e'
    obtain ⟨k, hDk⟩ := hpl
    refine hret h' tk' D' ys.toList k (F1.kept hkk) ?_ (by rw [hys]; exact sizes_ints)
    intro q hq
    rcases List.mem_cons.mp hq with rfl | hq
    · refine ⟨by rw [hDk], ?_, ?_⟩
      · intro e
        obtain ⟨oL, _, _, hL, _⟩ := F1.ns
        have e' : D' = L := e
        rw [e', hL] at hDs; cases hDs
      · cases e : h₀.get? D' with
        | none => rfl
        | some o => have := F1.keep D' o e; rw [hDs] at this; cases this
    · exact ⟨hkk _ _ (N1c q hq).1, (N1c q hq).2⟩
section
local macro_rules | `(tactic| k_updF) => `(tactic| exact UpdF.tail (neN (by omega)) (UpdF.head (by assumption)))
local macro_rules | `(tactic| walk_at "storeName") => `(tactic| (k_here; k_dflt (refine' storeX_C ?msc1 ?msc2 ?msc3 ?msc4 ?msc5 ?_ ?msc6 ?msc7; (case msc6 => rfl); (case msc7 => rfl); (case msc1 => k_asm); (case msc2 => k_asm); (case msc3 => rfl); (case msc4 => k_updF); (case msc5 => k_asm)); intro h' o' F' N' d'; (try dsimp only at N'); (try k_sweep)))
local macro_rules | `(tactic| walk_at "storeName") => `(tactic| (k_here; k_dflt (refine' storeX_M ?msm1 ?msm2 ?_ ?msm3 ?msm4; (case msm1 => k_asm); (case msm2 => k_asm); (case msm3 => rfl); (case msm4 => rfl)); intro h' m' F' N' me9 mn9; (try (have q1 := (mn9 (Str.ofString "one") (by decide +kernel)).trans (by with_reducible assumption))); (try (have q2 := (mn9 (Str.ofString "two") (by decide +kernel)).trans (by with_reducible assumption))); (try (have q3 := (mn9 (Str.ofString "other") (by decide +kernel)).trans (by with_reducible assumption))); (try (have q4 := (mn9 (Str.ofString "first") (by decide +kernel)).trans (by with_reducible assumption))); (try (have q5 := (mn9 (Str.ofString "second") (by decide +kernel)).trans (by with_reducible assumption))); (try (have q6 := (mn9 (Str.ofString "size") (by decide +kernel)).trans (by with_reducible assumption))); (try (have q7 := (mn9 (Str.ofString "kind") (by decide +kernel)).trans (by with_reducible assumption))); (try k_sweep)))
section
def nextSt (kv one two : Int) (st : Int × Int) : Int × Int :=
  if kv = one then (st.1, if st.2 = 2 then 1 else st.2 + 1)
  else if kv = two then (st.1, if st.2 = 0 then 2 else st.2)
  else if st.2 = 0 then (min (st.1 + 1) 2, st.2) else (st.1, st.2 - 1)
theorem bearsTurn_eq : bearsTurn = [bt 0, bt 1, bt 2, bt 3] := by with_unfolding_all rfl
local macro_rules | `(tactic| walk_at "eval ListComp") => `(tactic| (k_here; (with_unfolding_all refine' bcomp ?mbc1 ?mbc2 ?mbc3 ?mbc4 ?mbc5 ?mbc6 ?mbc7 ?mbc8 ?mbc9 ?_; (case mbc1 => k_asm); (case mbc2 => k_asm); (case mbc3 => k_asm); (case mbc4 => k_asm); (case mbc5 => k_asm); (case mbc6 => assumption); (case mbc7 => assumption); (case mbc8 => assumption); (case mbc9 => assumption)); intro h' tk9 D' ys' k' F' N' hI'))
local macro_rules | `(tactic| walk_at "subscriptTail") => `(tactic| (k_here; (with_reducible show wpAny _ _ (subscriptTail _ _ (Value.ref _) (Value.str _ _)) _ _ _); k_dflt (refine' topItem_K ?mtk1 ?mtk2 ?mtk3 ?mtk4 ?mtk5 ?_; (case mtk1 => k_asm); (case mtk2 => k_asm); (case mtk3 => k_is); (case mtk4 => k_keys); (case mtk5 => assumption))))
set_option maxRecDepth 100000 in
set_option maxHeartbeats 8000000 in
theorem bturnA {w : World} {p : Program} {loose : List Str} {mean : ExcName → Option Value} {mg mb : Str → Option Value} {e1 : Env} {A₀ : Around} {base h₀ : Heap} {L : Nat} {m : Str → Option Value} {s : Shared} {Q : Flow → Shared → Prop} {E : Value → Shared → Prop} {news : List (Addr × Obj)}
    {ol op : Obj} {line : Str} {place : Nat} {tl tp : Tok} {f : Int → Bool} 
    (B : Below A₀ base [e1] h₀) (F : Fr h₀ L s.heap m) (X : (hd.heap_39 w.params).In h₀) (T : Top p loose mean mg mb h₀) (N : News h₀ L s.heap ((L + 1, ol) :: (L + 2, op) :: news))
    (hol : ol.data = .cell (some (.str line tl))) (hop : op.data = .cell (some (.int place tp))) (hlen : line.length ≤ 14)
    (e : ∀ k : Nat, 1 ≤ k → k ≤ 3 → ∃ r, nsIn (hd.heap_39 w.params) 49 (Txt.slice line (some (place : Int)) (some ((place : Int) + (k : Int)))) = some r ∧ r.isSome = f (k : Int))
    (hf : f 1 = true)
    (hret : ∀ (h' : Heap) (tk : Nat) (m' : Str → Option Value) (M : Int) (t : Tok), Fr h₀ L h' m' → News h₀ L h' ((L + 1, ol) :: (L + 2, op) :: news) → M ∈ sizesOf f → (∀ a ∈ sizesOf f, a ≤ M) → m' (Str.ofString "size") = some (.int M t) → (∀ y, y ≠ Str.ofString "size" → m' y = m y) → Q .next { s with heap := h', toks := tk }) :
    wpAny (model PySem.Challenge.rw_rs0113_01.row.prog w) ((callerA.deeper e1).deeper (envB L)) (exec (bt 0) (envB L)) Q E s := by
  have hb1 : bt 0 = bt 0 := rfl
  conv at hb1 => rhs; whnf
  have hb2 : bearsScope = bearsScope := rfl
  conv at hb2 => rhs; whnf
  have hpos : 0 < (sizesOf f).length := by simp [sizesOf, List.filter_cons, hf]
  have hle3 : (sizesOf f).length ≤ 3 := List.length_filter_le _ _
  rw [hb1]; unfold envB; rw [hb2]; clear hb1 hb2
  w_top off; revert X; k_fill; intro X
  k_steps
  exact hret _ _ _ _ _ (by assumption) (news_tail (by assumption)) (by assumption) (by assumption) (by assumption) (by assumption)
local macro_rules | `(tactic| walk_at "loadName") => `(tactic| (k_here; k_dflt (refine' wpAny_loadName_local ?mln1 ?mln2 (Fr.ns ?mln3) ?mln4 ?_; (case mln1 => rfl); (case mln2 => rfl); (case mln3 => k_asm); (case mln4 => with_reducible assumption))))
set_option maxRecDepth 100000 in
set_option maxHeartbeats 8000000 in
theorem bturnB {w : World} {p : Program} {loose : List Str} {mean : ExcName → Option Value} {mg mb : Str → Option Value} {e1 : Env} {A₀ : Around} {base h₀ : Heap} {L : Nat} {m : Str → Option Value} {s : Shared} {Q : Flow → Shared → Prop} {E : Value → Shared → Prop} {news : List (Addr × Obj)}
    {ol op : Obj} {line : Str} {place : Nat} {tl tp tz t1 t2 t3 tf tg tkv : Tok} {sz one two other first second kv : Int}
    (B : Below A₀ base [e1] h₀) (F : Fr h₀ L s.heap m) (X : (hd.heap_39 w.params).In h₀) (T : Top p loose mean mg mb h₀) (N : News h₀ L s.heap ((L + 1, ol) :: (L + 2, op) :: news))
    (hol : ol.data = .cell (some (.str line tl))) (hop : op.data = .cell (some (.int place tp))) (hlen : line.length ≤ 14) (hoff : ∀ p ∈ news, p.1 ≠ L + 2)
    (e : nsIn (hd.heap_39 w.params) 49 (Txt.slice line (some (place : Int)) (some ((place : Int) + sz))) = some (some (.int kv tkv))) (hkv : kv = one ∨ kv = two ∨ kv = other)
    (m1 : m (Str.ofString "size") = some (.int sz tz)) (m2 : m (Str.ofString "one") = some (.int one t1)) (m3 : m (Str.ofString "two") = some (.int two t2)) (m4 : m (Str.ofString "other") = some (.int other t3))
    (m5 : m (Str.ofString "first") = some (.int first tf)) (m6 : m (Str.ofString "second") = some (.int second tg))
    (hret : ∀ (h' : Heap) (tk : Nat) (m' : Str → Option Value) (op' : Obj) (first' second' : Int) (t5 t6 t7 : Tok), Fr h₀ L h' m' → News h₀ L h' ((L + 1, ol) :: (L + 2, op') :: news) → op'.data = .cell (some (.int ((place : Int) + sz) t7)) →
      m' (Str.ofString "one") = some (.int one t1) → m' (Str.ofString "two") = some (.int two t2) → m' (Str.ofString "other") = some (.int other t3) → m' (Str.ofString "first") = some (.int first' t5) → m' (Str.ofString "second") = some (.int second' t6) → (first', second') = nextSt kv one two (first, second) → Q .next { s with heap := h', toks := tk }) :
    wpAny (model PySem.Challenge.rw_rs0113_01.row.prog w) ((callerA.deeper e1).deeper (envB L)) (execs [bt 1, bt 2, bt 3] (envB L)) Q E s := by
  have hb1 : [bt 1, bt 2, bt 3] = [bt 1, bt 2, bt 3] := rfl
  conv at hb1 => rhs; arg 1; whnf
  conv at hb1 => rhs; arg 2; arg 1; whnf
  conv at hb1 => rhs; arg 2; arg 2; arg 1; whnf
  have hb2 : bearsScope = bearsScope := rfl
  conv at hb2 => rhs; whnf
  rw [hb1]; unfold envB; rw [hb2]; clear hb1 hb2
  w_top off; revert X; k_fill; intro X
  k_steps
  all_goals first
    | exact hret _ _ _ _ _ _ _ _ _ (by assumption) (by assumption) (by assumption) (by assumption) (by assumption) (by assumption) (by assumption) (by assumption) (by first | (simp_all [nextSt]; done) | (simp_all [nextSt]; split <;> omega) | (simp_all [nextSt]; omega))
    | (exfalso; omega)
end
structure LangOk (K : Frag) (A0 A1 B0 : Nat) (one two other : Int) : Prop where
  l1 : ∃ t, nsIn K 49 ⟨([B0] : List Nat).toArray⟩ = some (some (.int one t))
  l2 : ∃ t, nsIn K 49 ⟨([B0, B0] : List Nat).toArray⟩ = some (some (.int two t))
  l3 : ∃ t, nsIn K 49 ⟨([A0, A1] : List Nat).toArray⟩ = some (some (.int other t))
  l4 : ∃ v, nsIn K 49 ⟨([A0] : List Nat).toArray⟩ = some (some v)
  n1 : nsIn K 49 ⟨([B0, A0] : List Nat).toArray⟩ = some none
  n2 : nsIn K 49 ⟨([B0, A0, A1] : List Nat).toArray⟩ = some none
  n3 : nsIn K 49 ⟨([B0, B0, A0] : List Nat).toArray⟩ = some none
  n4 : nsIn K 49 ⟨([B0, B0, B0] : List Nat).toArray⟩ = some none
  n5 : nsIn K 49 ⟨([A0, A1, A0] : List Nat).toArray⟩ = some none
  n6 : nsIn K 49 ⟨([A0, A1, B0] : List Nat).toArray⟩ = some none
  d1 : two ≠ one
  d2 : other ≠ one
  d3 : other ≠ two
def flat (A0 A1 B0 : Nat) : List Bool → List Nat
  | [] => []
  | true :: r => A0 :: A1 :: flat A0 A1 B0 r
  | false :: r => B0 :: flat A0 A1 B0 r
def s1 (st : Int × Int) : Int × Int := (st.1, if st.2 = 2 then 1 else st.2 + 1)
def s2 (st : Int × Int) : Int × Int := (st.1, if st.2 = 0 then 2 else st.2)
def s3 (st : Int × Int) : Int × Int := if st.2 = 0 then (min (st.1 + 1) 2, st.2) else (st.1, st.2 - 1)
/-- the two piles -/
def piles : List Bool → Int × Int → Int × Int
  | [], st => st
  | true :: r, st => piles r (s3 st)
  | [false], st => s1 st
  | false :: true :: r, st => piles r (s3 (s1 st))
  | false :: false :: r, st => piles r (s2 st)
structure TokAt (K : Frag) (line : Str) (place : Nat) (A0 A1 B0 : Nat) (one two other : Int) (rest : List Bool) (f : Int → Bool) (sz : Nat) (kv : Int) (tkv : Tok) (rest' : List Bool) : Prop where
  e : ∀ k : Nat, 1 ≤ k → k ≤ 3 → ∃ r, nsIn K 49 (Txt.slice line (some (place : Int)) (some ((place : Int) + (k : Int)))) = some r ∧ r.isSome = f (k : Int)
  f1 : f 1 = true
  mx : ∀ M ∈ sizesOf f, (∀ a ∈ sizesOf f, a ≤ M) → M = (sz : Int)
  kd : nsIn K 49 (Txt.slice line (some (place : Int)) (some ((place : Int) + (sz : Int)))) = some (some (.int kv tkv))
  kv3 : kv = one ∨ kv = two ∨ kv = other
  dr : line.cps.toList.drop (place + sz) = flat A0 A1 B0 rest'
  lt : rest'.length < rest.length
  run : ∀ st, piles rest st = piles rest' (nextSt kv one two st)
theorem sizes3 {f : Int → Bool} (h1 : f 1 = true) (h2 : f 2 = true) (h3 : f 3 = true) : ∀ M ∈ sizesOf f, (∀ a ∈ sizesOf f, a ≤ M) → M = 3 := by
  intro M hM h
  simp [sizesOf, List.filter_cons, h1, h2, h3] at hM h; omega
theorem sizes2 {f : Int → Bool} (h1 : f 1 = true) (h2 : f 2 = true) (h3 : f 3 = false) : ∀ M ∈ sizesOf f, (∀ a ∈ sizesOf f, a ≤ M) → M = 2 := by
  intro M hM h
  simp [sizesOf, List.filter_cons, h1, h2, h3] at hM h; omega
theorem sizes1 {f : Int → Bool} (h1 : f 1 = true) (h2 : f 2 = false) (h3 : f 3 = false) : ∀ M ∈ sizesOf f, (∀ a ∈ sizesOf f, a ≤ M) → M = 1 := by
  intro M hM h
  simp [sizesOf, List.filter_cons, h1, h2, h3] at hM h; omega
theorem tok_of {K : Frag} {line : Str} {place A0 A1 B0 : Nat} {one two other : Int} {rest rest' : List Bool} {b2 b3 : Bool} {sz : Nat} {kv : Int} {tkv : Tok} {t1 t2 t3 : List Nat} {r1 r2 r3 : Option Value}
    (hd : line.cps.toList.drop place = flat A0 A1 B0 rest) (h1 : (flat A0 A1 B0 rest).take 1 = t1) (h2 : (flat A0 A1 B0 rest).take 2 = t2) (h3 : (flat A0 A1 B0 rest).take 3 = t3)
    (e1 : nsIn K 49 ⟨t1.toArray⟩ = some r1) (e2 : nsIn K 49 ⟨t2.toArray⟩ = some r2) (e3 : nsIn K 49 ⟨t3.toArray⟩ = some r3) (i1 : r1.isSome = true) (i2 : r2.isSome = b2) (i3 : r3.isSome = b3)
    (hs : sz = (if b3 then 3 else if b2 then 2 else 1)) (hb : b3 = true → b2 = true) (hk : (if b3 then r3 else if b2 then r2 else r1) = some (.int kv tkv)) (kv3 : kv = one ∨ kv = two ∨ kv = other)
    (dr : (flat A0 A1 B0 rest).drop sz = flat A0 A1 B0 rest') (lt : rest'.length < rest.length) (run : ∀ st, piles rest st = piles rest' (nextSt kv one two st)) :
    TokAt K line place A0 A1 B0 one two other rest (fun k => if k = 1 then true else if k = 2 then b2 else b3) sz kv tkv rest' := by
  have sl : ∀ k : Nat, Txt.slice line (some (place : Int)) (some ((place : Int) + (k : Int))) = ⟨((flat A0 A1 B0 rest).take k).toArray⟩ := fun k => by rw [slice_eq, hd]
  refine ⟨?_, rfl, ?_, ?_, kv3, ?_, lt, run⟩
  · intro k hk1 hk3
    have : k = 1 ∨ k = 2 ∨ k = 3 := by omega
    rcases this with rfl | rfl | rfl
    · exact ⟨r1, by rw [sl, h1]; exact e1, i1⟩
    · exact ⟨r2, by rw [sl, h2]; exact e2, i2⟩
    · exact ⟨r3, by rw [sl, h3]; exact e3, i3⟩
  · subst hs
    cases b3 with
    | true => have := hb rfl; subst this; exact sizes3 rfl rfl rfl
    | false => cases b2 with
      | true => exact sizes2 rfl rfl rfl
      | false => exact sizes1 rfl rfl rfl
  · rw [sl]
    subst hs
    cases b3 with
    | true => simp only [if_true] at hk ⊢; rw [h3, e3, hk]
    | false => cases b2 with
      | true => simp at hk ⊢; rw [h2, e2, hk]
      | false => simp at hk ⊢; rw [h1, e1, hk]
  · rw [← List.drop_drop, hd]; exact dr
theorem tok_at {K : Frag} {line : Str} {place A0 A1 B0 : Nat} {one two other : Int} (LO : LangOk K A0 A1 B0 one two other) {rest : List Bool} (hne : rest ≠ []) (hd : line.cps.toList.drop place = flat A0 A1 B0 rest) :
    ∃ f sz kv tkv rest', TokAt K line place A0 A1 B0 one two other rest f sz kv tkv rest' := by
  obtain ⟨⟨t1, l1⟩, ⟨t2, l2⟩, ⟨t3, l3⟩, ⟨v4, l4⟩, n1, n2, n3, n4, n5, n6, d1, d2, d3⟩ := LO
  have q1 : ∀ st, nextSt one one two st = s1 st := fun st => if_pos rfl
  have q2 : ∀ st, nextSt two one two st = s2 st := fun st => by unfold nextSt; rw [if_neg d1, if_pos rfl]; rfl
  have q3 : ∀ st, nextSt other one two st = s3 st := fun st => by unfold nextSt; rw [if_neg d2, if_neg d3]; rfl
  match rest, hne, hd with
  | [true], _, hd => exact ⟨_, 3, other, t3, [], tok_of (b2 := true) (b3 := true) hd rfl rfl rfl l4 l3 l3 rfl rfl rfl rfl (fun _ => rfl) rfl (.inr (.inr rfl)) rfl (by simp) (fun st => by rw [q3]; rfl)⟩
  | true :: true :: r, _, hd => exact ⟨_, 2, other, t3, true :: r, tok_of (b2 := true) (b3 := false) hd rfl rfl rfl l4 l3 n5 rfl rfl rfl rfl (fun h => by cases h) rfl (.inr (.inr rfl)) rfl (by simp) (fun st => by rw [q3]; rfl)⟩
  | true :: false :: r, _, hd => exact ⟨_, 2, other, t3, false :: r, tok_of (b2 := true) (b3 := false) hd rfl rfl rfl l4 l3 n6 rfl rfl rfl rfl (fun h => by cases h) rfl (.inr (.inr rfl)) rfl (by simp) (fun st => by rw [q3]; simp only [piles])⟩
  | [false], _, hd => exact ⟨_, 3, one, t1, [], tok_of (b2 := true) (b3 := true) hd rfl rfl rfl l1 l1 l1 rfl rfl rfl rfl (fun _ => rfl) rfl (.inl rfl) rfl (by simp) (fun st => by rw [q1]; rfl)⟩
  | false :: true :: r, _, hd => exact ⟨_, 1, one, t1, true :: r, tok_of (b2 := false) (b3 := false) hd rfl rfl rfl l1 n1 n2 rfl rfl rfl rfl (fun h => h) rfl (.inl rfl) rfl (by simp) (fun st => by rw [q1]; rfl)⟩
  | [false, false], _, hd => exact ⟨_, 3, two, t2, [], tok_of (b2 := true) (b3 := true) hd rfl rfl rfl l1 l2 l2 rfl rfl rfl rfl (fun _ => rfl) rfl (.inr (.inl rfl)) rfl (by simp) (fun st => by rw [q2]; rfl)⟩
  | false :: false :: true :: r, _, hd => exact ⟨_, 2, two, t2, true :: r, tok_of (b2 := true) (b3 := false) hd rfl rfl rfl l1 l2 n3 rfl rfl rfl rfl (fun h => by cases h) rfl (.inr (.inl rfl)) rfl (by simp) (fun st => by rw [q2]; rfl)⟩
  | false :: false :: false :: r, _, hd => exact ⟨_, 2, two, t2, false :: r, tok_of (b2 := true) (b3 := false) hd rfl rfl rfl l1 l2 n4 rfl rfl rfl rfl (fun h => by cases h) rfl (.inr (.inl rfl)) rfl (by simp) (fun st => by rw [q2]; simp only [piles])⟩
noncomputable def whileB : Stmt := bearsBody.getD 3 (.Pass default)
def testOf : Stmt → PySem.Expr
  | .While t .. => t
  | _ => .Constant .none 0 default
theorem whileB_eq : ∃ pos, whileB = .While (testOf whileB) bearsTurn [] pos := ⟨_, by with_unfolding_all rfl⟩
set_option maxRecDepth 100000 in
set_option maxHeartbeats 8000000 in
theorem bcond {w : World} {p : Program} {loose : List Str} {mean : ExcName → Option Value} {mg mb : Str → Option Value} {e1 : Env} {A₀ : Around} {base h₀ : Heap} {L : Nat} {m : Str → Option Value} {s : Shared} {Q : Bool → Shared → Prop} {E : Value → Shared → Prop} {news : List (Addr × Obj)}
    {ol op : Obj} {line : Str} {place : Nat} {tl tp : Tok}
    (B : Below A₀ base [e1] h₀) (F : Fr h₀ L s.heap m) (X : (hd.heap_39 w.params).In h₀) (T : Top p loose mean mg mb h₀) (N : News h₀ L s.heap ((L + 1, ol) :: (L + 2, op) :: news))
    (hol : ol.data = .cell (some (.str line tl))) (hop : op.data = .cell (some (.int place tp))) (hlen : line.length ≤ 14)
    (hret : ∀ (tk : Nat), Q (decide ((place : Int) < (line.length : Int))) { s with toks := tk }) :
    wpAny (model PySem.Challenge.rw_rs0113_01.row.prog w) ((callerA.deeper e1).deeper (envB L)) (isTrue (testOf whileB) (envB L) (eval (testOf whileB) (envB L))) Q E s := by
  have hb1 : testOf whileB = testOf whileB := rfl
  conv at hb1 => rhs; whnf
  have hb2 : bearsScope = bearsScope := rfl
  conv at hb2 => rhs; whnf
  rw [hb1]; unfold envB; rw [hb2]; clear hb1 hb2
  w_top off; revert X; k_fill; intro X
  k_steps
  exact hret _
theorem flat_nil {A0 A1 B0 : Nat} {rest : List Bool} (h : flat A0 A1 B0 rest = []) : rest = [] := by
  match rest with
  | [] => rfl
  | true :: r => simp [flat] at h
  | false :: r => simp [flat] at h
set_option maxHeartbeats 2000000 in
theorem bloop {w : World} {p : Program} {loose : List Str} {mean : ExcName → Option Value} {mg mb : Str → Option Value} {e1 : Env} {A₀ : Around} {base h₀ : Heap} {L : Nat} {m : Str → Option Value} {s : Shared} {Q : Flow → Shared → Prop} {news : List (Addr × Obj)}
    {ol op : Obj} {line : Str} {tl tp t1 t2 t3 tf tg : Tok} {one two other : Int} {A0 A1 B0 : Nat} {bs : List Bool}
    (LO : LangOk (hd.heap_39 w.params) A0 A1 B0 one two other)
    (B : Below A₀ base [e1] h₀) (F : Fr h₀ L s.heap m) (X : (hd.heap_39 w.params).In h₀) (T : Top p loose mean mg mb h₀) (N : News h₀ L s.heap ((L + 1, ol) :: (L + 2, op) :: news))
    (hol : ol.data = .cell (some (.str line tl))) (hop : op.data = .cell (some (.int 0 tp))) (hlen : line.length ≤ 14) (hoff : ∀ p ∈ news, p.1 ≠ L + 2) (hline : line.cps.toList = flat A0 A1 B0 bs)
    (m2 : m (Str.ofString "one") = some (.int one t1)) (m3 : m (Str.ofString "two") = some (.int two t2)) (m4 : m (Str.ofString "other") = some (.int other t3))
    (m5 : m (Str.ofString "first") = some (.int 0 tf)) (m6 : m (Str.ofString "second") = some (.int 0 tg))
    (hret : ∀ (h' : Heap) (tk : Nat) (m' : Str → Option Value) (op' : Obj) (t5 t6 : Tok), Fr h₀ L h' m' → News h₀ L h' ((L + 1, ol) :: (L + 2, op') :: news) →
      m' (Str.ofString "first") = some (.int (piles bs (0, 0)).1 t5) → m' (Str.ofString "second") = some (.int (piles bs (0, 0)).2 t6) → Q .next { s with heap := h', toks := tk }) :
    wpAny (model PySem.Challenge.rw_rs0113_01.row.prog w) ((callerA.deeper e1).deeper (envB L)) (exec whileB (envB L)) Q (fun _ _ => False) s := by
  obtain ⟨pos, he⟩ := whileB_eq
  rw [he]
  refine While_inv (L := L) (fun n m₁ nx => ∃ (op₁ : Obj) (place : Nat) (tp₁ : Tok) (rest : List Bool) (a b : Int) (t5 t6 : Tok), nx = (L + 1, ol) :: (L + 2, op₁) :: news ∧ op₁.data = .cell (some (.int place tp₁)) ∧ line.cps.toList.drop place = flat A0 A1 B0 rest ∧ n = rest.length ∧ piles rest (a, b) = piles bs (0, 0) ∧
      m₁ (Str.ofString "one") = some (.int one t1) ∧ m₁ (Str.ofString "two") = some (.int two t2) ∧ m₁ (Str.ofString "other") = some (.int other t3) ∧ m₁ (Str.ofString "first") = some (.int a t5) ∧ m₁ (Str.ofString "second") = some (.int b t6))
    F N ⟨op, 0, tp, bs, 0, 0, tf, tg, rfl, hop, hline, rfl, rfl, m2, m3, m4, m5, m6⟩ ?_ PassesOwn.never
  rintro n m₁ nx h₁ tk₁ F₁ N₁ ⟨op₁, place, tp₁, rest, a, b, t5, t6, rfl, hop₁, hd, rfl, hp, q2, q3, q4, q5, q6⟩
  refine bcond B F₁ X T N₁ hol hop₁ hlen ?_
  intro tk2
  have hll : line.length = line.cps.toList.length := by simp [Str.length]
  by_cases hlt : (place : Int) < (line.length : Int)
  · rw [decide_eq_true hlt, if_pos rfl]
    have hne : rest ≠ [] := by
      intro h0
      subst h0
      have : (line.cps.toList.drop place).length = 0 := by rw [hd]; rfl
      rw [List.length_drop] at this
      omega
    obtain ⟨f, sz, kv, tkv, rest', TK⟩ := tok_at LO hne hd
    rw [bearsTurn_eq]
    refine wpAny_execs_cons (bturnA (f := f) B F₁ X T N₁ hol hop₁ hlen TK.e TK.f1 ?_)
    intro h' tk3 m' M t F' N' hM1 hM2 hms hmn
    have hM := TK.mx M hM1 hM2
    subst hM
    refine bturnB (sz := (sz : Int)) (kv := kv) (tkv := tkv) (first := a) (second := b) (one := one) (two := two) (other := other) B F' X T N' hol hop₁ hlen hoff TK.kd TK.kv3 hms ((hmn _ (by decide +kernel)).trans q2) ((hmn _ (by decide +kernel)).trans q3) ((hmn _ (by decide +kernel)).trans q4) ((hmn _ (by decide +kernel)).trans q5) ((hmn _ (by decide +kernel)).trans q6) ?_
    intro h4 tk4 m4' op4 a' b' t7 t8 t9 F4 N4 hop4 r2 r3 r4 r5 r6 hst
    refine WhileStep.intro F4 N4 TK.lt ⟨op4, place + sz, t9, rest', a', b', t7, t8, rfl, ?_, TK.dr, rfl, ?_, r2, r3, r4, r5, r6⟩
    · rw [hop4]; simp
    · rw [hst, ← TK.run, hp]
  · rw [decide_eq_false hlt, if_neg Bool.false_ne_true]
    have h0 : rest = [] := by
      apply flat_nil (A0 := A0) (A1 := A1) (B0 := B0)
      rw [← hd]
      exact List.drop_of_length_le (by omega)
    subst h0
    have e : (a, b) = piles bs (0, 0) := hp
    refine hret _ _ m₁ op₁ t5 t6 F₁ N₁ ?_ ?_
    · rw [q5, ← e]
    · rw [q6, ← e]
noncomputable def bb (k : Nat) : Stmt := bearsBody.getD k (.Pass default)
theorem bearsBody_eq : bearsBody = [bb 0, bb 1, bb 2] ++ [whileB, bb 4] := by with_unfolding_all rfl
set_option maxRecDepth 100000 in
set_option maxHeartbeats 8000000 in
theorem bhead {w : World} {p : Program} {loose : List Str} {mean : ExcName → Option Value} {mg mb : Str → Option Value} {e1 : Env} {A₀ : Around} {base h₀ : Heap} {L : Nat} {m : Str → Option Value} {s : Shared} {Q : Flow → Shared → Prop} {E : Value → Shared → Prop} {news : List (Addr × Obj)}
    {ol op : Obj} {co : Option Value} {t1 t2 t3 : Tok} {one two other : Int}
    (B : Below A₀ base [e1] h₀) (F : Fr h₀ L s.heap m) (X : (hd.heap_39 w.params).In h₀) (T : Top p loose mean mg mb h₀) (N : News h₀ L s.heap ((L + 1, ol) :: (L + 2, op) :: news))
    (hop : op.data = .cell co) (hoff : ∀ p ∈ news, p.1 ≠ L + 2)
    (m2 : m (Str.ofString "one") = some (.int one t1)) (m3 : m (Str.ofString "two") = some (.int two t2)) (m4 : m (Str.ofString "other") = some (.int other t3))
    (hret : ∀ (h' : Heap) (tk : Nat) (m' : Str → Option Value) (op' : Obj) (t5 t6 t7 : Tok), Fr h₀ L h' m' → News h₀ L h' ((L + 1, ol) :: (L + 2, op') :: news) → op'.data = .cell (some (.int 0 t7)) →
      m' (Str.ofString "one") = some (.int one t1) → m' (Str.ofString "two") = some (.int two t2) → m' (Str.ofString "other") = some (.int other t3) → m' (Str.ofString "first") = some (.int 0 t5) → m' (Str.ofString "second") = some (.int 0 t6) → Q .next { s with heap := h', toks := tk }) :
    wpAny (model PySem.Challenge.rw_rs0113_01.row.prog w) ((callerA.deeper e1).deeper (envB L)) (execs [bb 0, bb 1, bb 2] (envB L)) Q E s := by
  have hb1 : [bb 0, bb 1, bb 2] = [bb 0, bb 1, bb 2] := rfl
  conv at hb1 => rhs; arg 1; whnf
  conv at hb1 => rhs; arg 2; arg 1; whnf
  conv at hb1 => rhs; arg 2; arg 2; arg 1; whnf
  have hb2 : bearsScope = bearsScope := rfl
  conv at hb2 => rhs; whnf
  rw [hb1]; unfold envB; rw [hb2]; clear hb1 hb2
  w_top off; revert X; k_fill; intro X
  k_steps
  exact hret _ _ _ _ _ _ _ (by assumption) (by assumption) (by assumption) (by assumption) (by assumption) (by assumption) (by assumption) (by assumption)
set_option maxRecDepth 100000 in
set_option maxHeartbeats 8000000 in
theorem bend {w : World} {p : Program} {loose : List Str} {mean : ExcName → Option Value} {mg mb : Str → Option Value} {e1 : Env} {A₀ : Around} {base h₀ : Heap} {L : Nat} {m : Str → Option Value} {s : Shared} {Q : Flow → Shared → Prop} {E : Value → Shared → Prop} {news : List (Addr × Obj)}
    {t5 t6 : Tok} {a b : Int}
    (B : Below A₀ base [e1] h₀) (F : Fr h₀ L s.heap m) (X : (hd.heap_39 w.params).In h₀) (T : Top p loose mean mg mb h₀) (N : News h₀ L s.heap news)
    (m5 : m (Str.ofString "first") = some (.int a t5)) (m6 : m (Str.ofString "second") = some (.int b t6))
    (hret : ∀ (tk : Nat), Q (.ret (.bool (decide (b ≤ a)))) { s with toks := tk }) :
    wpAny (model PySem.Challenge.rw_rs0113_01.row.prog w) ((callerA.deeper e1).deeper (envB L)) (exec (bb 4) (envB L)) Q E s := by
  have hb1 : bb 4 = bb 4 := rfl
  conv at hb1 => rhs; whnf
  have hb2 : bearsScope = bearsScope := rfl
  conv at hb2 => rhs; whnf
  rw [hb1]; unfold envB; rw [hb2]; clear hb1 hb2
  w_top off; revert X; k_fill; intro X
  k_steps
  exact hret _
end
/-- what _law_bears tells of a line -/
def bearsOf (bs : List Bool) : Bool := decide ((piles bs (0, 0)).2 ≤ (piles bs (0, 0)).1)
theorem one_stmt' {M : Model} {A : Around} {env : Env} {st : Stmt} {Q : Flow → Shared → Prop} {E : Value → Shared → Prop} {s : Shared} (h : wpAny M A (exec st env) Q E s) : wpAny M A (execs [st] env) Q E s := by
  refine wpAny_execs_cons (wpAny_mono h (fun f s'' hf => ?_) fun _ _ e => e)
  cases f with
  | next => exact wpAny_execs_nil hf
  | brk => exact hf
  | cont => exact hf
  | ret v => exact hf
set_option maxRecDepth 100000 in
set_option maxHeartbeats 8000000 in
theorem bears_call {w : World} {p : Program} {loose : List Str} {mean : ExcName → Option Value} {mg mb : Str → Option Value} {e1 : Env} {A₀ : Around} {base h₀ : Heap} {L : Addr} {m : Str → Option Value} {s : Shared} {Q E : Value → Shared → Prop} {news : List (Addr × Obj)} {line : Str} {tl t1 t2 t3 : Tok} {one two other : Int} {A0 A1 B0 : Nat} {bs : List Bool} (B : Below A₀ base [] h₀) (F : Fr h₀ L s.heap m) (X : (hd.heap_39 w.params).In h₀) (N : News h₀ L s.heap news) (T : Top p loose mean mg mb h₀) (hf : e1.frame = some L) (hk : e1.scope.kind = .function)
    (LO : LangOk (hd.heap_39 w.params) A0 A1 B0 one two other) (hlen : line.length ≤ 14) (hline : line.cps.toList = flat A0 A1 B0 bs)
    (hret : ∀ (h' : Heap) (tk : Nat), Fr h₀ L h' m → News h₀ L h' news → Q (.bool (bearsOf bs)) { s with heap := h', toks := tk }) :
    wpAny (model PySem.Challenge.rw_rs0113_01.row.prog w) (callerA.deeper e1) (call (.ref 89) [.str line tl, .int one t1, .int two t2, .int other t3]) Q E s := by
  w_top off; revert X; k_fill; intro X
  walk_at "my enterC"
  intro g' L' h' tk' cells' FG' F' N' Y' B' X' T' l1
  obtain ⟨o1, o2, hE', d1', d2'⟩ := CellsAre.two Y'
  subst hE'
  simp only [List.cons_append, List.nil_append] at N'
  have N2 : News g' L' h' ((L' + 1, o2) :: (L' + 2, o1) :: news) := by
    intro x hx
    rcases List.mem_cons.mp hx with rfl | hx
    · exact N' _ (List.mem_cons_of_mem _ (List.mem_cons_self ..))
    rcases List.mem_cons.mp hx with rfl | hx
    · exact N' _ (List.mem_cons_self ..)
    · exact N' _ (List.mem_cons_of_mem _ (List.mem_cons_of_mem _ hx))
  have hoff : ∀ p ∈ news, p.1 ≠ L' + 2 := fun p hp => neN (by have : @LT.lt Nat _ p.1 L' := l1 p hp; omega)
  have hol : o2.data = .cell (some (.str line tl)) := d2'
  refine wpAny_mono (Q := fun fl s' => LeaveK h₀ L m g' _ (match fl with | .ret v => v | _ => .none) s') (E := fun _ _ => False) (t := execs bearsBody (envB L')) ?_ (fun _ _ q => q) (fun _ _ q => q.elim)
  rw [bearsBody_eq]
  refine execs_app (bhead (one := one) (two := two) (other := other) (t1 := t1) (t2 := t2) (t3 := t3) B' F' X' T' N2 d1' hoff rfl rfl rfl ?_)
  intro h1 tk1 m' op' t5 t6 t7 F1 N1 hop q1 q2 q3 q4 q5
  refine wpAny_execs_cons (bloop LO B' F1 X' T' N1 hol hop hlen hoff hline q1 q2 q3 q4 q5 ?_)
  intro h2 tk2 m'' op'' t8 t9 F2 N2' r5 r6
  refine one_stmt' (bend B' F2 X' T' N2' r5 r6 ?_)
  intro tk3
  exact leaveK_ F2 (news_tail (news_tail N2')) (fun kF kN => hret _ _ kF kN)
theorem langR (w : World) : LangOk (hd.heap_39 w.params) 62 61 60 20 33 30 :=
  ⟨look_c60 w rfl, look_c60_c60 w rfl, look_c62_c61 w rfl, (look_c62 w rfl).elim fun t h => ⟨_, h⟩, look_c60_c62 w rfl, look_c60_c62_c61 w rfl, look_c60_c60_c62 w rfl, look_c60_c60_c60 w rfl, look_c62_c61_c62 w rfl, look_c62_c61_c60 w rfl, by decide, by decide, by decide⟩
theorem langF (w : World) : LangOk (hd.heap_39 w.params) 60 61 62 21 34 29 :=
  ⟨look_c62 w rfl, look_c62_c62 w rfl, look_c60_c61 w rfl, (look_c60 w rfl).elim fun t h => ⟨_, h⟩, look_c62_c60 w rfl, look_c62_c60_c61 w rfl, look_c62_c62_c60 w rfl, look_c62_c62_c62 w rfl, look_c60_c61_c60 w rfl, look_c60_c61_c62 w rfl, by decide, by decide, by decide⟩
theorem cnt_perm {a b : List Int} (h : a.Perm b) (f : Int → Bool) : (a.filter f).length = (b.filter f).length := (h.filter f).length_eq
/-- the middle against a number -/
theorem le_med {ns : List Int} (hodd : ns.length % 2 = 1) (t : Int) : t ≤ med ns ↔ (ns.filter fun a => decide (a < t)).length ≤ ns.length / 2 := by
  have hp := srt_perm ns
  have hs := srt_sorted ns
  have hl := srt_length ns
  have hk : ns.length / 2 < (srt ns).length := by omega
  have hv : med ns = (srt ns)[ns.length / 2] := by unfold med; simp [hk]
  rw [← cnt_perm hp]
  have hmid : ∀ (j : Nat) (hj : j < (srt ns).length), ns.length / 2 ≤ j → med ns ≤ (srt ns)[j] := by
    intro j hj h
    rw [hv]
    by_cases h0 : ns.length / 2 = j
    · subst h0; exact Int.le_refl _
    · exact List.pairwise_iff_getElem.mp hs _ _ _ _ (by omega)
  have hmid2 : ∀ (j : Nat) (hj : j < (srt ns).length), j ≤ ns.length / 2 → (srt ns)[j] ≤ med ns := by
    intro j hj h
    rw [hv]
    by_cases h0 : j = ns.length / 2
    · subst h0; exact Int.le_refl _
    · exact List.pairwise_iff_getElem.mp hs _ _ _ _ (by omega)
  constructor
  · intro h
    conv => lhs; arg 1; arg 2; rw [← List.take_append_drop (ns.length / 2) (srt ns)]
    rw [List.filter_append, filter_nil_of (xs := (srt ns).drop (ns.length / 2))]
    · have := List.length_filter_le (fun a => decide (a < t)) ((srt ns).take (ns.length / 2))
      simp only [List.append_nil]
      simp only [List.length_take] at this
      omega
    · intro a ha
      obtain ⟨j, hj, rfl⟩ := List.mem_iff_getElem.mp ha
      rw [List.getElem_drop]
      have := hmid (ns.length / 2 + j) (by rw [List.length_drop] at hj; omega) (by omega)
      simp; omega
  · intro h
    by_cases hc : t ≤ med ns
    · exact hc
    exfalso
    conv at h => lhs; arg 1; arg 2; rw [← List.take_append_drop (ns.length / 2 + 1) (srt ns)]
    rw [List.filter_append, List.length_append] at h
    have e : ((srt ns).take (ns.length / 2 + 1)).filter (fun a => decide (a < t)) = (srt ns).take (ns.length / 2 + 1) := by
      rw [List.filter_eq_self]
      intro a ha
      obtain ⟨j, hj, rfl⟩ := List.mem_iff_getElem.mp ha
      rw [List.getElem_take]
      have := hmid2 j (by rw [List.length_take] at hj; omega) (by rw [List.length_take] at hj; omega)
      simp; omega
    rw [e, List.length_take] at h
    omega
theorem cnt_not (ns : List Int) (f : Int → Bool) : (ns.filter f).length + (ns.filter fun a => !f a).length = ns.length := by
  induction ns with
  | nil => rfl
  | cons a r ih =>
    simp only [List.filter_cons]
    cases f a <;> simp <;> omega
/-- below, at, above a number -/
def tri (M x : Int) : Nat := if x < M then 0 else if M < x then 2 else 1
/-- the middle of such -/
def medT (l : List Nat) : Nat := if l.length / 2 < (l.filter fun a => Nat.beq a 0).length then 0 else if l.length / 2 < (l.filter fun a => Nat.beq a 2).length then 2 else 1
theorem cnt_map {f : Int → Nat} {c : Nat} {g : Int → Bool} (h : ∀ x, Nat.beq (f x) c = g x) (ns : List Int) : ((ns.map f).filter fun a => Nat.beq a c).length = (ns.filter g).length := by
  induction ns with
  | nil => rfl
  | cons a r ih =>
    simp only [List.map_cons, List.filter_cons, h a]
    cases g a
    · simpa using ih
    · simpa using ih
theorem tri_med {ns : List Int} (hodd : ns.length % 2 = 1) (M : Int) : tri M (med ns) = medT (ns.map (tri M)) := by
  have h1 := le_med hodd M
  have h2 := le_med hodd (M + 1)
  have c0 : ((ns.map (tri M)).filter fun a => Nat.beq a 0).length = (ns.filter fun a => decide (a < M)).length := cnt_map (by
    intro x; unfold tri; by_cases h : x < M
    · rw [if_pos h, decide_eq_true h]; rfl
    · rw [if_neg h, decide_eq_false h]; split <;> rfl) ns
  have c2 : ((ns.map (tri M)).filter fun a => Nat.beq a 2).length = (ns.filter fun a => !decide (a < M + 1)).length := cnt_map (by
    intro x; unfold tri; by_cases h : x < M
    · rw [if_pos h, decide_eq_true (by omega)]; rfl
    · rw [if_neg h]; by_cases h' : M < x
      · rw [if_pos h', decide_eq_false (by omega)]; rfl
      · rw [if_neg h', decide_eq_true (by omega)]; rfl) ns
  have hn := cnt_not ns fun a => decide (a < M + 1)
  have e : medT (ns.map (tri M)) = if ns.length / 2 < (ns.filter fun a => decide (a < M)).length then 0 else if ns.length / 2 < (ns.filter fun a => !decide (a < M + 1)).length then 2 else 1 := by
    unfold medT
    rw [c0, c2, List.length_map]
  rw [e]
  unfold tri
  by_cases q1 : med ns < M
  · have z1 : ns.length / 2 < (ns.filter fun a => decide (a < M)).length := by omega
    rw [if_pos q1, if_pos z1]
  · have z1 : ¬ ns.length / 2 < (ns.filter fun a => decide (a < M)).length := by omega
    rw [if_neg q1, if_neg z1]
    by_cases q2 : M < med ns
    · have z2 : ns.length / 2 < (ns.filter fun a => !decide (a < M + 1)).length := by omega
      rw [if_pos q2, if_pos z2]
    · have z2 : ¬ ns.length / 2 < (ns.filter fun a => !decide (a < M + 1)).length := by omega
      rw [if_neg q2, if_neg z2]
/-- some neighbours give way to their middle, over any kind -/
def fewG {α : Type} (md : List α → α) (i width : Nat) (l : List α) : List α := l.take i ++ [md ((l.drop i).take width)] ++ l.drop (i + width)
theorem fewG_map {α β : Type} {md : List α → α} {md' : List β → β} {f : α → β} {i width : Nat} {l : List α} (h : f (md ((l.drop i).take width)) = md' (((l.drop i).take width).map f)) : (fewG md i width l).map f = fewG md' i width (l.map f) := by
  unfold fewG
  simp only [List.map_append, List.map_take, List.map_drop, List.map_cons, List.map_nil] at h ⊢
  rw [h]
theorem few_map {β : Type} {md' : List β → β} {f : Int → β} (hf : ∀ ns : List Int, ns.length % 2 = 1 → f (med ns) = md' (ns.map f)) {i width : Nat} {l : List Int} (hi : i + width ≤ l.length) (hw : width % 2 = 1) : (fewerOf i width l).map f = fewG md' i width (l.map f) :=
  fewG_map (md := med) (hf _ (by have := win_length hi; unfold win at this; rw [this]; exact hw))
def cases3 : Nat → List (List Nat)
  | 0 => [[]]
  | n + 1 => (cases3 n).flatMap fun l => [0 :: l, 1 :: l, 2 :: l]
theorem mem_cases3 : ∀ {n : Nat} {l : List Nat}, l.length = n → (∀ x ∈ l, x = 0 ∨ x = 1 ∨ x = 2) → l ∈ cases3 n
  | 0, l, hl, _ => by
    rw [List.eq_nil_of_length_eq_zero hl]; simp [cases3]
  | n + 1, [], hl, _ => by simp at hl
  | n + 1, x :: l, hl, hx => by
    have ih := mem_cases3 (n := n) (l := l) (by simpa using hl) fun y hy => hx y (List.mem_cons_of_mem _ hy)
    have h := hx x (List.mem_cons_self ..)
    unfold cases3
    rw [List.mem_flatMap]
    refine ⟨l, ih, ?_⟩
    rcases h with rfl | rfl | rfl <;> simp
theorem tri_cases (M x : Int) : tri M x = 0 ∨ tri M x = 1 ∨ tri M x = 2 := by
  unfold tri; split
  · simp
  · split <;> simp
theorem tri_self {M x : Int} : tri M x = 1 ↔ x = M := by
  unfold tri; split
  · constructor
    · intro h; cases h
    · intro h; omega
  · split
    · constructor
      · intro h; cases h
      · intro h; omega
    · constructor
      · intro _; omega
      · intro _; rfl
def chk5 (l : List Nat) : Bool := !(Nat.beq (medT l) 1) || (Nat.beq (medT (fewG medT 0 3 l)) 1 || Nat.beq (medT (fewG medT 1 3 l)) 1 || Nat.beq (medT (fewG medT 2 3 l)) 1)
def chk7 (l : List Nat) : Bool := !(Nat.beq (medT l) 1) || (Nat.beq (medT (fewG medT 0 3 l)) 1 || Nat.beq (medT (fewG medT 1 3 l)) 1 || Nat.beq (medT (fewG medT 2 3 l)) 1 || Nat.beq (medT (fewG medT 3 3 l)) 1 || Nat.beq (medT (fewG medT 4 3 l)) 1)
theorem all5 : (cases3 5).all chk5 = true := by decide +kernel
theorem all7 : (cases3 7).all chk7 = true := by decide +kernel
theorem few_med_eq {l : List Int} {i : Nat} (hl : l.length % 2 = 1) (hi : i + 3 ≤ l.length) (M : Int) : Nat.beq (medT (fewG medT i 3 (l.map (tri M)))) 1 = true ↔ med (fewerOf i 3 l) = M := by
  rw [← few_map (fun ns h => tri_med h M) hi (by decide), ← tri_med (by rw [fewerOf_length hi]; omega) M, ← tri_self]
  constructor
  · exact Nat.eq_of_beq_eq_true
  · intro h; rw [h]; rfl
theorem keep5 {l : List Int} (h5 : l.length = 5) : ∃ i, i < 3 ∧ med (fewerOf i 3 l) = med l := by
  have h := List.all_eq_true.mp all5 (l.map (tri (med l))) (mem_cases3 (by simp [h5]) (by
    intro x hx
    obtain ⟨y, _, rfl⟩ := List.mem_map.mp hx
    exact tri_cases _ _))
  unfold chk5 at h
  rw [← tri_med (by omega), tri_self.mpr rfl] at h
  simp only [Nat.beq, Bool.not_true, Bool.false_or, Bool.or_eq_true] at h
  rcases h with (h | h) | h
  · exact ⟨0, by omega, (few_med_eq (by omega) (by omega) _).mp h⟩
  · exact ⟨1, by omega, (few_med_eq (by omega) (by omega) _).mp h⟩
  · exact ⟨2, by omega, (few_med_eq (by omega) (by omega) _).mp h⟩
theorem keep7 {l : List Int} (h7 : l.length = 7) : ∃ i, i < 5 ∧ med (fewerOf i 3 l) = med l := by
  have h := List.all_eq_true.mp all7 (l.map (tri (med l))) (mem_cases3 (by simp [h7]) (by
    intro x hx
    obtain ⟨y, _, rfl⟩ := List.mem_map.mp hx
    exact tri_cases _ _))
  unfold chk7 at h
  rw [← tri_med (by omega), tri_self.mpr rfl] at h
  simp only [Nat.beq, Bool.not_true, Bool.false_or, Bool.or_eq_true] at h
  rcases h with (((h | h) | h) | h) | h
  · exact ⟨0, by omega, (few_med_eq (by omega) (by omega) _).mp h⟩
  · exact ⟨1, by omega, (few_med_eq (by omega) (by omega) _).mp h⟩
  · exact ⟨2, by omega, (few_med_eq (by omega) (by omega) _).mp h⟩
  · exact ⟨3, by omega, (few_med_eq (by omega) (by omega) _).mp h⟩
  · exact ⟨4, by omega, (few_med_eq (by omega) (by omega) _).mp h⟩
def RS.ofN (R : RS) (k : Nat) : List (List Int) := if k = 5 then R.r5 else if k = 3 then R.r3 else R.r1
theorem RS.mem_step {R : RS} {size width i k : Nat} {ns g : List Int} (hk : k = 5 ∨ k = 3 ∨ k = 1) : g ∈ (R.step size width i ns).ofN k ↔ g ∈ R.ofN k ∨ size - width + 1 = k ∧ g = fewerOf i width ns := by
  have key : ∀ (c : Prop) [Decidable c] (r : List (List Int)), g ∈ (if c then put (fewerOf i width ns) r else r) ↔ g ∈ r ∨ c ∧ g = fewerOf i width ns := by
    intro c _ r
    by_cases h : c
    · rw [if_pos h, mem_put]
      constructor
      · rintro (h1 | h1)
        · exact .inr ⟨h, h1⟩
        · exact .inl h1
      · rintro (h1 | h1)
        · exact .inr h1
        · exact .inl h1.2
    · rw [if_neg h]
      constructor
      · exact .inl
      · rintro (h1 | h1)
        · exact h1
        · exact absurd h1.1 h
  rcases hk with rfl | rfl | rfl
  · exact key _ _
  · exact key _ _
  · exact key _ _
theorem RS.mem_foldI {R : RS} {size width n k : Nat} {ns g : List Int} (hk : k = 5 ∨ k = 3 ∨ k = 1) : g ∈ (R.foldI size width n ns).ofN k ↔ g ∈ R.ofN k ∨ size - width + 1 = k ∧ ∃ i, i < n ∧ g = fewerOf i width ns := by
  induction n with
  | zero =>
    constructor
    · exact .inl
    · rintro (h | ⟨_, i, hi, _⟩)
      · exact h
      · omega
  | succ n ih =>
    rw [RS.foldI_succ, RS.mem_step hk, ih]
    constructor
    · rintro ((h | ⟨h1, i, hi, h⟩) | ⟨h1, h⟩)
      · exact .inl h
      · exact .inr ⟨h1, i, by omega, h⟩
      · exact .inr ⟨h1, n, by omega, h⟩
    · rintro (h | ⟨h1, i, hi, h⟩)
      · exact .inl (.inl h)
      · by_cases e : i = n
        · subst e; exact .inr ⟨h1, h⟩
        · exact .inl (.inr ⟨h1, i, by omega, h⟩)
/-- one step from a row: some neighbours, n widths at most, and what is left has k -/
def Step (size n k : Nat) (ns g : List Int) : Prop := ∃ j, j < n ∧ size - (3 + 2 * j) + 1 = k ∧ ∃ i, i < k ∧ g = fewerOf i (3 + 2 * j) ns
theorem RS.mem_foldW {R : RS} {size n k : Nat} {ns g : List Int} (hk : k = 5 ∨ k = 3 ∨ k = 1) : g ∈ (R.foldW size n ns).ofN k ↔ g ∈ R.ofN k ∨ Step size n k ns g := by
  induction n with
  | zero =>
    constructor
    · exact .inl
    · rintro (h | ⟨j, hj, _⟩)
      · exact h
      · omega
  | succ n ih =>
    rw [RS.foldW_succ, RS.mem_foldI hk, ih]
    constructor
    · rintro ((h | ⟨j, hj, h⟩) | ⟨h1, i, hi, h⟩)
      · exact .inl h
      · exact .inr ⟨j, by omega, h⟩
      · exact .inr ⟨n, by omega, h1, i, by omega, h⟩
    · rintro (h | ⟨j, hj, h1, i, hi, h⟩)
      · exact .inl (.inl h)
      · by_cases e : j = n
        · subst e; exact .inr ⟨h1, i, by omega, h⟩
        · exact .inl (.inr ⟨j, by omega, h1, i, hi, h⟩)
theorem RS.mem_foldO {size n k : Nat} {g : List Int} (hk : k = 5 ∨ k = 3 ∨ k = 1) : ∀ {rows : List (List Int)} {R : RS}, g ∈ (R.foldO size n rows).ofN k ↔ g ∈ R.ofN k ∨ ∃ ns, ns ∈ rows ∧ Step size n k ns g
  | [], R => by
    constructor
    · exact .inl
    · rintro (h | ⟨ns, hns, _⟩)
      · exact h
      · cases hns
  | ns :: r, R => by
    have e : R.foldO size n (ns :: r) = (R.foldW size n ns).foldO size n r := rfl
    rw [e, RS.mem_foldO hk, RS.mem_foldW hk]
    constructor
    · rintro ((h | h) | ⟨x, hx, h⟩)
      · exact .inl h
      · exact .inr ⟨ns, List.mem_cons_self .., h⟩
      · exact .inr ⟨x, List.mem_cons_of_mem _ hx, h⟩
    · rintro (h | ⟨x, hx, h⟩)
      · exact .inl (.inl h)
      · rcases List.mem_cons.mp hx with rfl | hx
        · exact .inl (.inr h)
        · exact .inr ⟨x, hx, h⟩
/-- by threes alone -/
def Lft (row : List Int) (v : Int) : Prop := ∃ i, i < 5 ∧ ∃ j, j < 3 ∧ v = med (fewerOf j 3 (fewerOf i 3 row))
theorem few3 {f : List Int} (h : f.length = 3) : fewerOf 0 3 f = [med f] := by
  unfold fewerOf win
  have e1 : f.take 3 = f := List.take_of_length_le (by omega)
  have e2 : f.drop 3 = [] := List.drop_of_length_le (by omega)
  simp [e1, e2]
theorem few_whole {f : List Int} {k : Nat} (h : f.length = k) : fewerOf 0 k f = [med f] := by
  unfold fewerOf win
  have e1 : f.take k = f := List.take_of_length_le (by omega)
  have e2 : f.drop k = [] := List.drop_of_length_le (by omega)
  simp [e1, e2]
section
variable {n : Nat → Nat} {row : List Int} (h7 : row.length = 7)
theorem mem_s15 (hn : n 7 = 1 ∨ n 7 = 3) {g : List Int} : g ∈ (stage1 n row).r5 ↔ ∃ i, i < 5 ∧ g = fewerOf i 3 row := by
  have h := RS.mem_foldO (size := 7) (n := n 7) (k := 5) (g := g) (.inl rfl) (rows := [row]) (R := stage0)
  have e : (stage1 n row).r5 = (stage0.foldO 7 (n 7) [row]).ofN 5 := rfl
  rw [e, h]
  constructor
  · rintro (h | ⟨ns, hns, j, hj, h1, i, hi, h⟩)
    · cases h
    · have : j = 0 := by omega
      subst this
      rw [List.mem_singleton.mp hns] at h
      exact ⟨i, hi, h⟩
  · rintro ⟨i, hi, h⟩
    exact .inr ⟨row, List.mem_singleton.mpr rfl, 0, by omega, by omega, i, hi, h⟩
theorem mem_s13 {g : List Int} : g ∈ (stage1 n row).r3 → ∃ i, i < 3 ∧ g = fewerOf i 5 row := by
  have h := RS.mem_foldO (size := 7) (n := n 7) (k := 3) (g := g) (.inr (.inl rfl)) (rows := [row]) (R := stage0)
  have e : (stage1 n row).r3 = (stage0.foldO 7 (n 7) [row]).ofN 3 := rfl
  rw [e, h]
  rintro (h | ⟨ns, hns, j, hj, h1, i, hi, h⟩)
  · cases h
  · have : j = 1 := by omega
    subst this
    rw [List.mem_singleton.mp hns] at h
    exact ⟨i, hi, h⟩
theorem mem_s11 (hn : n 7 = 1 ∨ n 7 = 3) {g : List Int} : g ∈ (stage1 n row).r1 → g = fewerOf 0 7 row := by
  have h := RS.mem_foldO (size := 7) (n := n 7) (k := 1) (g := g) (.inr (.inr rfl)) (rows := [row]) (R := stage0)
  have e : (stage1 n row).r1 = (stage0.foldO 7 (n 7) [row]).ofN 1 := rfl
  rw [e, h]
  rintro (h | ⟨ns, hns, j, hj, h1, i, hi, h⟩)
  · cases h
  · have : j = 2 := by omega
    have : i = 0 := by omega
    subst j; subst i
    rw [List.mem_singleton.mp hns] at h
    exact h
theorem mem_s23 (hn5 : n 5 = 1 ∨ n 5 = 2) {g : List Int} : g ∈ (stage2 n row).r3 ↔ g ∈ (stage1 n row).r3 ∨ ∃ f, f ∈ (stage1 n row).r5 ∧ ∃ i, i < 3 ∧ g = fewerOf i 3 f := by
  have h := RS.mem_foldO (size := 5) (n := n 5) (k := 3) (g := g) (.inr (.inl rfl)) (rows := (stage1 n row).r5) (R := stage1 n row)
  have e : (stage2 n row).r3 = ((stage1 n row).foldO 5 (n 5) (stage1 n row).r5).ofN 3 := rfl
  rw [e, h]
  constructor
  · rintro (h | ⟨ns, hns, j, hj, h1, i, hi, h⟩)
    · exact .inl h
    · have : j = 0 := by omega
      subst this
      exact .inr ⟨ns, hns, i, hi, h⟩
  · rintro (h | ⟨f, hf, i, hi, h⟩)
    · exact .inl h
    · exact .inr ⟨f, hf, 0, by omega, by omega, i, hi, h⟩
theorem mem_s21 (hn5 : n 5 = 1 ∨ n 5 = 2) {g : List Int} : g ∈ (stage2 n row).r1 → g ∈ (stage1 n row).r1 ∨ ∃ f, f ∈ (stage1 n row).r5 ∧ g = fewerOf 0 5 f := by
  have h := RS.mem_foldO (size := 5) (n := n 5) (k := 1) (g := g) (.inr (.inr rfl)) (rows := (stage1 n row).r5) (R := stage1 n row)
  have e : (stage2 n row).r1 = ((stage1 n row).foldO 5 (n 5) (stage1 n row).r5).ofN 1 := rfl
  rw [e, h]
  rintro (h | ⟨ns, hns, j, hj, h1, i, hi, h⟩)
  · exact .inl h
  · have : j = 1 := by omega
    have : i = 0 := by omega
    subst j; subst i
    exact .inr ⟨ns, hns, h⟩
theorem mem_s31 (hn3 : n 3 = 1) {g : List Int} : g ∈ (stage3 n row).r1 ↔ g ∈ (stage2 n row).r1 ∨ ∃ f, f ∈ (stage2 n row).r3 ∧ g = fewerOf 0 3 f := by
  have h := RS.mem_foldO (size := 3) (n := n 3) (k := 1) (g := g) (.inr (.inr rfl)) (rows := (stage2 n row).r3) (R := stage2 n row)
  have e : (stage3 n row).r1 = ((stage2 n row).foldO 3 (n 3) (stage2 n row).r3).ofN 1 := rfl
  rw [e, h]
  constructor
  · rintro (h | ⟨ns, hns, j, hj, h1, i, hi, h⟩)
    · exact .inl h
    · have : j = 0 := by omega
      have : i = 0 := by omega
      subst j; subst i
      exact .inr ⟨ns, hns, h⟩
  · rintro (h | ⟨f, hf, h⟩)
    · exact .inl h
    · exact .inr ⟨f, hf, 0, by omega, by omega, 0, by omega, h⟩
include h7
theorem few5 {i : Nat} (hi : i < 5) : (fewerOf i 3 row).length = 5 := by rw [fewerOf_length (by omega)]; omega
theorem few53 {i j : Nat} (hi : i < 5) (hj : j < 3) : (fewerOf j 3 (fewerOf i 3 row)).length = 3 := by rw [fewerOf_length (by rw [few5 h7 hi]; omega), few5 h7 hi]
/-- a step of five is two steps of three -/
theorem five_by_three {i : Nat} (hi : i < 3) : ∃ i' j, i' < 5 ∧ j < 3 ∧ fewerOf i 5 row = fewerOf j 3 (fewerOf i' 3 row) := by
  obtain ⟨k, hk, e⟩ := keep5 (l := win i 5 row) (win_length (by omega))
  refine ⟨i + k, i, by omega, hi, ?_⟩
  match row, h7 with
  | [a, b, c, d, p, q, r], _ =>
    have h3 : i = 0 ∨ i = 1 ∨ i = 2 := by omega
    have hk3 : k = 0 ∨ k = 1 ∨ k = 2 := by omega
    rcases h3 with rfl | rfl | rfl <;> rcases hk3 with rfl | rfl | rfl <;> simp [fewerOf, win] at e ⊢ <;> exact e.symm
theorem left_mem (hn7 : n 7 = 1 ∨ n 7 = 3) (hn5 : n 5 = 1 ∨ n 5 = 2) (hn3 : n 3 = 1) {g : List Int} : g ∈ (stage3 n row).r1 ↔ ∃ v, Lft row v ∧ g = [v] := by
  have by5 : ∀ i, i < 5 → Lft row (med (fewerOf i 3 row)) := by
    intro i hi
    obtain ⟨j, hj, e⟩ := keep5 (few5 h7 hi)
    exact ⟨i, hi, j, hj, e.symm⟩
  rw [mem_s31 hn3]
  constructor
  · rintro (h | ⟨f, hf, h⟩)
    · rcases mem_s21 hn5 h with h | ⟨f, hf, h⟩
      · have e := mem_s11 hn7 h
        rw [few_whole h7] at e
        obtain ⟨i, hi, e2⟩ := keep7 h7
        exact ⟨med row, e2 ▸ by5 i hi, e⟩
      · obtain ⟨i, hi, rfl⟩ := (mem_s15 hn7).mp hf
        rw [few_whole (few5 h7 hi)] at h
        exact ⟨_, by5 i hi, h⟩
    · rcases (mem_s23 hn5).mp hf with hf | ⟨f', hf', i, hi, hf⟩
      · obtain ⟨i, hi, rfl⟩ := mem_s13 hf
        obtain ⟨i', j, hi', hj, e⟩ := five_by_three h7 hi
        rw [e, few3 (few53 h7 hi' hj)] at h
        exact ⟨_, ⟨i', hi', j, hj, rfl⟩, h⟩
      · obtain ⟨i', hi', rfl⟩ := (mem_s15 hn7).mp hf'
        subst hf
        rw [few3 (few53 h7 hi' hi)] at h
        exact ⟨_, ⟨i', hi', i, hi, rfl⟩, h⟩
  · rintro ⟨v, ⟨i, hi, j, hj, rfl⟩, rfl⟩
    refine .inr ⟨fewerOf j 3 (fewerOf i 3 row), (mem_s23 hn5).mpr (.inr ⟨fewerOf i 3 row, (mem_s15 hn7).mpr ⟨i, hi, rfl⟩, j, hj, rfl⟩), ?_⟩
    rw [few3 (few53 h7 hi hj)]
end
theorem put_nodup {f : List Int} {r : List (List Int)} (h : r.Nodup) : (put f r).Nodup := by
  unfold put
  split
  · exact h
  · rename_i hf
    rw [List.nodup_append]
    refine ⟨h, by simp, ?_⟩
    intro a ha b hb e
    rw [List.mem_singleton.mp hb] at e
    exact hf (e ▸ ha)
theorem step_nodup {R : RS} {size width i : Nat} {ns : List Int} (h : R.r1.Nodup) : (R.step size width i ns).r1.Nodup := by
  unfold RS.step
  dsimp only
  split
  · exact put_nodup h
  · exact h
theorem foldl_nodup {α : Type} {F : RS → α → RS} (hF : ∀ R a, R.r1.Nodup → (F R a).r1.Nodup) : ∀ {l : List α} {R : RS}, R.r1.Nodup → (l.foldl F R).r1.Nodup
  | [], _, h => h
  | a :: l, R, h => foldl_nodup hF (l := l) (hF R a h)
theorem foldO_nodup {R : RS} {size n : Nat} {rows : List (List Int)} (h : R.r1.Nodup) : (R.foldO size n rows).r1.Nodup :=
  foldl_nodup (fun _ _ h => foldl_nodup (fun _ _ h => foldl_nodup (fun _ _ h => step_nodup h) h) h) h
theorem stage3_nodup (n : Nat → Nat) (row : List Int) : (stage3 n row).r1.Nodup :=
  foldO_nodup (foldO_nodup (foldO_nodup (by simp [stage0])))
/-- the heads, in order -/
def headsOf (n : Nat → Nat) (row : List Int) : List Int := srt ((stage3 n row).r1.map fun f => f.getD 0 0)
section
variable {n n' : Nat → Nat} {row : List Int} (h7 : row.length = 7) (hn7 : n 7 = 1 ∨ n 7 = 3) (hn5 : n 5 = 1 ∨ n 5 = 2) (hn3 : n 3 = 1)
include h7 hn7 hn5 hn3
theorem mem_heads {v : Int} : v ∈ headsOf n row ↔ Lft row v := by
  unfold headsOf
  rw [(srt_perm _).mem_iff, List.mem_map]
  constructor
  · rintro ⟨f, hf, rfl⟩
    obtain ⟨v, hv, rfl⟩ := (left_mem h7 hn7 hn5 hn3).mp hf
    exact hv
  · intro h
    exact ⟨[v], (left_mem h7 hn7 hn5 hn3).mpr ⟨v, h, rfl⟩, rfl⟩
theorem heads_nodup : (headsOf n row).Nodup := by
  refine (srt_perm _).symm.nodup ?_
  show List.Pairwise _ _
  rw [List.pairwise_map]
  refine List.Pairwise.imp_of_mem ?_ (stage3_nodup n row)
  intro a b ha hb hne e
  obtain ⟨v, _, rfl⟩ := (left_mem h7 hn7 hn5 hn3).mp ha
  obtain ⟨w, _, rfl⟩ := (left_mem h7 hn7 hn5 hn3).mp hb
  simp at e
  exact hne (by rw [e])
theorem heads_ne : headsOf n row ≠ [] := by
  intro e
  have : med (fewerOf 0 3 (fewerOf 0 3 row)) ∈ headsOf n row := (mem_heads h7 hn7 hn5 hn3).mpr ⟨0, by omega, 0, by omega, rfl⟩
  rw [e] at this
  cases this
theorem heads_same (hn7' : n' 7 = 1 ∨ n' 7 = 3) (hn5' : n' 5 = 1 ∨ n' 5 = 2) (hn3' : n' 3 = 1) : headsOf n row = headsOf n' row := by
  refine List.Perm.eq_of_pairwise (fun a b _ _ h1 h2 => Int.le_antisymm h1 h2) (srt_sorted _) (srt_sorted _) ?_
  refine (List.perm_ext_iff_of_nodup (heads_nodup h7 hn7 hn5 hn3) (heads_nodup h7 hn7' hn5' hn3')).mpr fun a => ?_
  exact (mem_heads h7 hn7 hn5 hn3).trans (mem_heads h7 hn7' hn5' hn3').symm
end
/-- the side that more are on -/
def majB (l : List Bool) : Bool := Nat.blt (l.length / 2) (l.filter fun b => b).length
def casesB : Nat → List (List Bool)
  | 0 => [[]]
  | n + 1 => (casesB n).flatMap fun l => [true :: l, false :: l]
theorem mem_casesB : ∀ {n : Nat} {l : List Bool}, l.length = n → l ∈ casesB n
  | 0, l, hl => by rw [List.eq_nil_of_length_eq_zero hl]; simp [casesB]
  | n + 1, [], hl => by simp at hl
  | n + 1, x :: l, hl => by
    have ih := mem_casesB (n := n) (l := l) (by simpa using hl)
    unfold casesB
    rw [List.mem_flatMap]
    refine ⟨l, ih, ?_⟩
    cases x <;> simp
def leftB (l : List Bool) : Bool := (List.range 5).any fun i => (List.range 3).any fun j => majB (fewG majB j 3 (fewG majB i 3 l))
theorem allB : ((casesB 7).all fun l => bearsOf l == leftB l) = true := by decide +kernel
theorem bears_left {l : List Bool} (h : l.length = 7) : bearsOf l = leftB l := by
  have := List.all_eq_true.mp allB l (mem_casesB h)
  exact eq_of_beq this
theorem cntB {φ : Int → Bool} (ns : List Int) : ((ns.map φ).filter fun b => b).length = (ns.filter φ).length := by
  induction ns with
  | nil => rfl
  | cons a r ih =>
    simp only [List.map_cons, List.filter_cons]
    cases φ a
    · simpa using ih
    · simpa using ih
theorem majB_map {φ : Int → Bool} (ns : List Int) : majB (ns.map φ) = decide (ns.length / 2 < (ns.filter φ).length) := by
  unfold majB
  rw [cntB, List.length_map]
  rw [Bool.eq_iff_iff]
  simp [Nat.blt_eq]
theorem rise_hom (t : Int) {ns : List Int} (hodd : ns.length % 2 = 1) : decide (t ≤ med ns) = majB (ns.map fun x => decide (t ≤ x)) := by
  have h := le_med hodd t
  have hn := cnt_not ns fun a => decide (a < t)
  have e : (fun a : Int => !decide (a < t)) = fun a => decide (t ≤ a) := by
    funext a
    by_cases h : a < t
    · rw [decide_eq_true h, decide_eq_false (by omega)]; rfl
    · rw [decide_eq_false h, decide_eq_true (by omega)]; rfl
  rw [e] at hn
  rw [majB_map, decide_eq_decide]
  omega
theorem fall_hom (t : Int) {ns : List Int} (hodd : ns.length % 2 = 1) : decide (med ns ≤ t) = majB (ns.map fun x => decide (x ≤ t)) := by
  have h := le_med hodd (t + 1)
  have e : (fun a : Int => decide (a < t + 1)) = fun a => decide (a ≤ t) := by
    funext a
    rw [decide_eq_decide]; omega
  rw [e] at h
  rw [majB_map, decide_eq_decide]
  omega
theorem leftB_iff {φ : Int → Bool} (hφ : ∀ ns : List Int, ns.length % 2 = 1 → φ (med ns) = majB (ns.map φ)) {row : List Int} (h7 : row.length = 7) : leftB (row.map φ) = true ↔ ∃ v, Lft row v ∧ φ v = true := by
  have e : ∀ i j, i < 5 → j < 3 → majB (fewG majB j 3 (fewG majB i 3 (row.map φ))) = φ (med (fewerOf j 3 (fewerOf i 3 row))) := by
    intro i j hi hj
    rw [← few_map hφ (by omega) (by decide), ← few_map hφ (by rw [few5 h7 hi]; omega) (by decide), ← hφ _ (by rw [few53 h7 hi hj])]
  unfold leftB
  rw [List.any_eq_true]
  constructor
  · rintro ⟨i, hi, h⟩
    rw [List.any_eq_true] at h
    obtain ⟨j, hj, h⟩ := h
    rw [List.mem_range] at hi hj
    rw [e i j hi hj] at h
    exact ⟨_, ⟨i, hi, j, hj, rfl⟩, h⟩
  · rintro ⟨v, ⟨i, hi, j, hj, rfl⟩, h⟩
    refine ⟨i, List.mem_range.mpr hi, ?_⟩
    rw [List.any_eq_true]
    exact ⟨j, List.mem_range.mpr hj, by rw [e i j hi hj]; exact h⟩
theorem le_last {l : List Int} (ho : l.Pairwise (· ≤ ·)) {v : Int} (hv : v ∈ l) : v ≤ l.getD (l.length - 1) 0 := by
  obtain ⟨j, hj, rfl⟩ := List.mem_iff_getElem.mp hv
  have e : l.getD (l.length - 1) 0 = l[l.length - 1] := by simp [List.getD_eq_getElem?_getD, List.getElem?_eq_getElem (show l.length - 1 < l.length by omega)]
  rw [e]
  by_cases h0 : j = l.length - 1
  · subst h0; exact Int.le_refl _
  · exact List.pairwise_iff_getElem.mp ho _ _ _ _ (by omega)
theorem first_le {l : List Int} (ho : l.Pairwise (· ≤ ·)) {v : Int} (hv : v ∈ l) : l.getD 0 0 ≤ v := by
  obtain ⟨j, hj, rfl⟩ := List.mem_iff_getElem.mp hv
  have e : l.getD 0 0 = l[0] := by simp [List.getD_eq_getElem?_getD, List.getElem?_eq_getElem (show 0 < l.length by omega)]
  rw [e]
  by_cases h0 : j = 0
  · subst h0; exact Int.le_refl _
  · exact List.pairwise_iff_getElem.mp ho _ _ _ _ (by omega)
theorem getD_mem {l : List Int} {k : Nat} (h : k < l.length) : l.getD k 0 ∈ l := by
  rw [List.getD_eq_getElem?_getD, List.getElem?_eq_getElem h]
  exact List.getElem_mem h
section
variable {n : Nat → Nat} {row : List Int} (h7 : row.length = 7) (hn7 : n 7 = 1 ∨ n 7 = 3) (hn5 : n 5 = 1 ∨ n 5 = 2) (hn3 : n 3 = 1)
include h7 hn7 hn5 hn3
theorem rises_law (t : Int) : bearsOf (row.map fun x => decide (t ≤ x)) = decide (t ≤ (headsOf n row).getD ((headsOf n row).length - 1) 0) := by
  rw [bears_left (by simp [h7]), Bool.eq_iff_iff, leftB_iff (fun ns h => rise_hom t h) h7, decide_eq_true_eq]
  have hne := heads_ne h7 hn7 hn5 hn3
  have hlen : 0 < (headsOf n row).length := List.length_pos_iff.mpr hne
  constructor
  · rintro ⟨v, hv, h⟩
    have h1 := le_last (srt_sorted _) ((mem_heads h7 hn7 hn5 hn3).mpr hv)
    have h2 := of_decide_eq_true h
    exact Int.le_trans h2 h1
  · intro h
    exact ⟨_, (mem_heads h7 hn7 hn5 hn3).mp (getD_mem (by omega)), decide_eq_true h⟩
theorem falls_law (t : Int) : bearsOf (row.map fun x => decide (x ≤ t)) = decide ((headsOf n row).getD 0 0 ≤ t) := by
  rw [bears_left (by simp [h7]), Bool.eq_iff_iff, leftB_iff (fun ns h => fall_hom t h) h7, decide_eq_true_eq]
  have hne := heads_ne h7 hn7 hn5 hn3
  have hlen : 0 < (headsOf n row).length := List.length_pos_iff.mpr hne
  constructor
  · rintro ⟨v, hv, h⟩
    have h1 := first_le (srt_sorted _) ((mem_heads h7 hn7 hn5 hn3).mpr hv)
    have h2 := of_decide_eq_true h
    exact Int.le_trans h1 h2
  · intro h
    exact ⟨_, (mem_heads h7 hn7 hn5 hn3).mp (getD_mem hlen), decide_eq_true h⟩
end
theorem leftOf_same {row : List Int} (h7 : row.length = 7) : leftOf 7 row = leftOf 3 row := heads_same (n := fun s => nW s 7) (n' := fun s => nW s 3) h7 (.inr (by decide)) (.inr (by decide)) (by decide) (.inl (by decide)) (.inl (by decide)) (by decide)
theorem left_rises {row : List Int} (h7 : row.length = 7) (t : Int) : bearsOf (row.map fun x => decide (t ≤ x)) = decide (t ≤ (leftOf 7 row).getD ((leftOf 7 row).length - 1) 0) := rises_law (n := fun s => nW s 7) h7 (.inr (by decide)) (.inr (by decide)) (by decide) t
theorem left_falls {row : List Int} (h7 : row.length = 7) (t : Int) : bearsOf (row.map fun x => decide (x ≤ t)) = decide ((leftOf 7 row).getD 0 0 ≤ t) := falls_law (n := fun s => nW s 7) h7 (.inr (by decide)) (.inr (by decide)) (by decide) t
theorem leftOf_pos {row : List Int} (h7 : row.length = 7) : 0 < (leftOf 7 row).length := List.length_pos_iff.mpr (heads_ne (n := fun s => nW s 7) h7 (.inr (by decide)) (.inr (by decide)) (by decide))
theorem leftOf_le {row : List Int} : (leftOf 7 row).length ≤ 24 := by
  have h := (stage_le (n := fun s => nW s 7) (nW_ok (.inl rfl)) row).2.2.2.h1
  unfold leftOf
  rw [srt_length, List.length_map]
  exact h
section
noncomputable def lawDef : Stmt := PySem.Challenge.pw_rs0113_01.main.body.getD 64 (.Pass default)
noncomputable def lawBody : List Stmt := funBody lawDef
noncomputable def lawScope : Scope := funScope lawDef
noncomputable def lw (k : Nat) : Stmt := lawBody.getD k (.Pass default)
noncomputable abbrev envW (L fa : Addr) (cd : Value) : Env := envOfC (Str.ofString "law") lawScope L fa cd
theorem news_sub {h₀ h : Heap} {L : Addr} {nx ny : List (Addr × Obj)} (N : News h₀ L h nx) (hs : ∀ p ∈ ny, p ∈ nx) : News h₀ L h ny := fun p hp => N p (hs p hp)
/-- the row of seven -/
def rowOf (ns : List Int) : List Int := ns.take 7 ++ ([5, 4, 3, 7, 6, 2, 1] : List Int).drop (ns.take 7).length
theorem rowOf_length (ns : List Int) : (rowOf ns).length = 7 := by
  unfold rowOf
  simp only [List.length_append, List.length_take, List.length_drop, List.length_cons, List.length_nil]
  omega
local macro_rules | `(tactic| walk_at "storeName") => `(tactic| (k_here; k_dflt (refine' storeX_M ?msm1 ?msm2 ?_ ?msm3 ?msm4; (case msm1 => k_asm); (case msm2 => k_asm); (case msm3 => rfl); (case msm4 => rfl)); intro h' m' F' N' me9 mn9; (try (have q1 := (mn9 (Str.ofString "row") (by decide +kernel)).trans (by with_reducible assumption))); (try (have q2 := (mn9 (Str.ofString "left") (by decide +kernel)).trans (by with_reducible assumption))); (try (have q3 := (mn9 (Str.ofString "rises") (by decide +kernel)).trans (by with_reducible assumption))); (try k_sweep)))
set_option maxRecDepth 100000 in
set_option maxHeartbeats 8000000 in
theorem lawA {w : World} {p : Program} {loose : List Str} {mean : ExcName → Option Value} {mg mb : Str → Option Value} {A₀ : Around} {base h₀ : Heap} {L fa : Nat} {cd : Value} {m : Str → Option Value} {s : Shared} {Q : Flow → Shared → Prop} {E : Value → Shared → Prop} {news : List (Addr × Obj)}
    {l : Addr} {vs : List Value} {ns : List Int}
    (B : Below A₀ base [] h₀) (F : Fr h₀ L s.heap m) (X : (hd.heap_39 w.params).In h₀) (T : Top p loose mean mg mb h₀) (N : News h₀ L s.heap news)
    (hl : h₀.IsList l vs.toArray) (hI : IntsAre vs ns) (h63 : ns.length ≤ 63)
    (mr : m (Str.ofString "script") = some (.ref l))
    (hret : ∀ (h' : Heap) (tk : Nat) (m' : Str → Option Value) (D : Addr) (ws : List Value) (k : Nat), Fr h₀ L h' m' → News h₀ L h' ((D, listOf ws.toArray k) :: news) → (∀ p ∈ news, p.1 < D) → IntsAre ws (rowOf ns) → m' (Str.ofString "row") = some (.ref D) → (∀ y, y ≠ Str.ofString "row" → m' y = m y) → Q .next { s with heap := h', toks := tk }) :
    wpAny (model PySem.Challenge.rw_rs0113_01.row.prog w) (callerA.deeper (envW L fa cd)) (exec (lw 0) (envW L fa cd)) Q E s := by
  have hb1 : lw 0 = lw 0 := rfl
  conv at hb1 => rhs; whnf
  have hb2 : lawScope = lawScope := rfl
  conv at hb2 => rhs; whnf
  rw [hb1]; unfold envW; rw [hb2]; clear hb1 hb2
  w_top off; revert X; k_fill; intro X
  k_steps
  (rename News _ _ _ _ => hN9)
  (rename (_ ∧ _) => hl9)
  refine hret _ _ _ _ _ 0 (by assumption) (news_sub hN9 ?_) (fun p hp => allLt_mem hl9.2.2.2.2 p hp) (by assumption) (by assumption) (by assumption)
  intro p hp
  simp only [List.mem_cons] at hp ⊢
  rcases hp with h | h <;> simp [h]
section
local macro_rules | `(tactic| walk_at "call ref") => `(tactic| (k_here; (with_reducible show wpAny _ _ (call (Value.ref 84) [Value.ref _, Value.int _ _, Value.int _ _]) _ _ _); (with_unfolding_all refine' left_call ?mlc1 ?mlc2 ?mlc3 ?mlc4 ?mlc5 ?mlc6 ?mlc7 ?mlc8 ?mlc9 ?mlc10 ?mlc11 ?_; (case mlc1 => k_asm); (case mlc2 => k_asm); (case mlc3 => k_asm); (case mlc4 => k_asm); (case mlc5 => k_asm); (case mlc6 => rfl); (case mlc7 => rfl); (case mlc8 => k_mem); (case mlc9 => assumption); (case mlc10 => assumption); (case mlc11 => omega)); intro h' tk9 D' ys' k' F' N' hI'; (try k_sweep)))
set_option maxRecDepth 100000 in
set_option maxHeartbeats 8000000 in
theorem lawB {w : World} {p : Program} {loose : List Str} {mean : ExcName → Option Value} {mg mb : Str → Option Value} {A₀ : Around} {base h₀ : Heap} {L fa : Nat} {cd : Value} {m : Str → Option Value} {s : Shared} {Q : Flow → Shared → Prop} {E : Value → Shared → Prop} {news : List (Addr × Obj)}
    {l a : Addr} {vs ws : List Value} {ns row : List Int} {k : Nat}
    (B : Below A₀ base [] h₀) (F : Fr h₀ L s.heap m) (X : (hd.heap_39 w.params).In h₀) (T : Top p loose mean mg mb h₀) (N : News h₀ L s.heap news)
    (hl : h₀.IsList l vs.toArray) (hI : IntsAre vs ns) (h63 : ns.length ≤ 63) (hr : (a, listOf ws.toArray k) ∈ news) (hIr : IntsAre ws row) (h7 : row.length = 7)
    (mr : m (Str.ofString "script") = some (.ref l)) (mw : m (Str.ofString "row") = some (.ref a))
    (hret : ∀ (h' : Heap) (tk : Nat) (m' : Str → Option Value) (D : Addr) (ys : List Value) (k : Nat), Fr h₀ L h' m' → News h₀ L h' ((D, listOf ys.toArray k) :: news) → IntsAre ys (leftOf 7 row) → m' (Str.ofString "left") = some (.ref D) → (∀ y, y ≠ Str.ofString "left" → m' y = m y) → Q .next { s with heap := h', toks := tk }) :
    wpAny (model PySem.Challenge.rw_rs0113_01.row.prog w) (callerA.deeper (envW L fa cd)) (exec (lw 1) (envW L fa cd)) Q E s := by
  have hb1 : lw 1 = lw 1 := rfl
  conv at hb1 => rhs; whnf
  have hb2 : lawScope = lawScope := rfl
  conv at hb2 => rhs; whnf
  rw [hb1]; unfold envW; rw [hb2]; clear hb1 hb2
  w_top off; revert X; k_fill; intro X
  k_steps
  exact hret _ _ _ _ _ _ (by assumption) (by assumption) (by assumption) (by assumption) (by assumption)
set_option maxRecDepth 100000 in
set_option maxHeartbeats 8000000 in
theorem lawC {w : World} {p : Program} {loose : List Str} {mean : ExcName → Option Value} {mg mb : Str → Option Value} {A₀ : Around} {base h₀ : Heap} {L fa : Nat} {cd : Value} {m : Str → Option Value} {s : Shared} {Q : Flow → Shared → Prop} {E : Value → Shared → Prop} {news : List (Addr × Obj)}
    {a b : Addr} {vs ws : List Value} {row : List Int} {k kb : Nat}
    (B : Below A₀ base [] h₀) (F : Fr h₀ L s.heap m) (X : (hd.heap_39 w.params).In h₀) (T : Top p loose mean mg mb h₀) (N : News h₀ L s.heap news)
    (hr : (a, listOf ws.toArray k) ∈ news) (hIr : IntsAre ws row) (h7 : row.length = 7) (hb : (b, listOf vs.toArray kb) ∈ news) (hIb : IntsAre vs (leftOf 7 row))
    (mw : m (Str.ofString "row") = some (.ref a)) (ml : m (Str.ofString "left") = some (.ref b))
    (hret : ∀ (h' : Heap) (tk : Nat), Fr h₀ L h' m → News h₀ L h' news → Q .next { s with heap := h', toks := tk }) :
    wpAny (model PySem.Challenge.rw_rs0113_01.row.prog w) (callerA.deeper (envW L fa cd)) (exec (lw 2) (envW L fa cd)) Q E s := by
  have hb1 : lw 2 = lw 2 := rfl
  conv at hb1 => rhs; whnf
  have hb2 : lawScope = lawScope := rfl
  conv at hb2 => rhs; whnf
  rw [hb1]; unfold envW; rw [hb2]; clear hb1 hb2
  w_top off; revert X; k_fill; intro X
  k_steps
  · exact hret _ _ (by assumption) (news_tail (by assumption))
  · exact absurd (leftOf_same h7) (by assumption)
end
noncomputable def tn (k : Nat) : Stmt := (forBody (lw 3)).getD k (.Pass default)
def compElt : PySem.Expr → PySem.Expr
  | .ListComp e .. => e
  | _ => .Constant .none 0 default
theorem str_at {Q : Value → Shared → Prop} {x y : Str} {t : Tok} {s : Shared} (e : y = x) (h : Q (.str y t) s) : Q (.str x t) s := e ▸ h
def txtR (t x : Int) : Str := if t ≤ x then Str.ofString ">=" else Str.ofString "<"
def txtF (t x : Int) : Str := if x ≤ t then Str.ofString "<=" else Str.ofString ">"
section
local macro_rules | `(tactic| walk_at "eval Name") => `(tactic| (k_here; (with_reducible show wpAny _ _ (eval (Expr.Name _ _) (compEnvC _ _ _ _)) _ _ _); k_dflt (first
  | refine LCgL.ld_own (by k_asm) (by with_reducible assumption) (by with_reducible assumption) (by with_reducible assumption) ?_
  | refine kcf_cell (by k_asm) rfl (by with_reducible assumption) (by with_reducible assumption) ?_
  | refine LCgL.ld_global (by k_asm) (by k_asm) (by k_asm) (by k_is) ?_)))
local macro_rules | `(tactic| walk_at "pad 1") => `(tactic| skip)
set_option maxRecDepth 100000 in
set_option maxHeartbeats 8000000 in
theorem elR {w : World} {p : Program} {loose : List Str} {mean : ExcName → Option Value} {mg mb : Str → Option Value} {A₀ : Around} {base h₀ : Heap} {L fa : Nat} {cd : Value} {m : Str → Option Value} {s : Shared} {Q : Value → Shared → Prop} {E : Value → Shared → Prop} {news : List (Addr × Obj)}
    {C : Addr} {oC oc : Obj} {m₂ : Str → Option Value} {x t : Int} {tx tt : Tok}
    (B : Below A₀ base [] h₀) (F : Fr h₀ L s.heap m) (X : (hd.heap_39 w.params).In h₀) (T : Top p loose mean mg mb h₀) (N : News h₀ L s.heap news)
    (hC : (C, oC) ∈ news) (hoC : LCg.NsObj oC m₂) (hx : m₂ (Str.ofString "x") = some (.int x tx)) (hc : (L + 1, oc) ∈ news) (hoc : oc.data = .cell (some (.int t tt)))
    (hret : ∀ (h' : Heap) (tk : Nat) (u : Tok), Fr h₀ L h' m → News h₀ L h' news → Q (.str (txtR t x) u) { s with heap := h', toks := tk }) :
    wpAny (model PySem.Challenge.rw_rs0113_01.row.prog w) (callerA.deeper (envW L fa cd)) (eval (compElt (argOf (tn 0))) (compEnvC (compScope (argOf (tn 0))) [(Str.ofString "t", L + 1)] C (envW L fa cd))) Q E s := by
  have hb0 : compElt (argOf (tn 0)) = compElt (argOf (tn 0)) := rfl
  conv at hb0 => rhs; whnf
  have hb1 : compScope (argOf (tn 0)) = compScope (argOf (tn 0)) := rfl
  conv at hb1 => rhs; whnf
  have hbs : lawScope = lawScope := rfl
  conv at hbs => rhs; whnf
  rw [hb0, hb1]; unfold envW; rw [hbs]; clear hb0 hb1 hbs
  w_top off; revert X; k_fill; intro X
  k_steps
  all_goals (refine str_at ?_ (hret _ _ _ (by assumption) (by assumption)); unfold txtR; first | rw [if_pos (by omega)] | rw [if_neg (by omega)])
set_option maxRecDepth 100000 in
set_option maxHeartbeats 8000000 in
theorem elF {w : World} {p : Program} {loose : List Str} {mean : ExcName → Option Value} {mg mb : Str → Option Value} {A₀ : Around} {base h₀ : Heap} {L fa : Nat} {cd : Value} {m : Str → Option Value} {s : Shared} {Q : Value → Shared → Prop} {E : Value → Shared → Prop} {news : List (Addr × Obj)}
    {C : Addr} {oC oc : Obj} {m₂ : Str → Option Value} {x t : Int} {tx tt : Tok}
    (B : Below A₀ base [] h₀) (F : Fr h₀ L s.heap m) (X : (hd.heap_39 w.params).In h₀) (T : Top p loose mean mg mb h₀) (N : News h₀ L s.heap news)
    (hC : (C, oC) ∈ news) (hoC : LCg.NsObj oC m₂) (hx : m₂ (Str.ofString "x") = some (.int x tx)) (hc : (L + 1, oc) ∈ news) (hoc : oc.data = .cell (some (.int t tt)))
    (hret : ∀ (h' : Heap) (tk : Nat) (u : Tok), Fr h₀ L h' m → News h₀ L h' news → Q (.str (txtF t x) u) { s with heap := h', toks := tk }) :
    wpAny (model PySem.Challenge.rw_rs0113_01.row.prog w) (callerA.deeper (envW L fa cd)) (eval (compElt (argOf (tn 1))) (compEnvC (compScope (argOf (tn 1))) [(Str.ofString "t", L + 1)] C (envW L fa cd))) Q E s := by
  have hb0 : compElt (argOf (tn 1)) = compElt (argOf (tn 1)) := rfl
  conv at hb0 => rhs; whnf
  have hb1 : compScope (argOf (tn 1)) = compScope (argOf (tn 1)) := rfl
  conv at hb1 => rhs; whnf
  have hbs : lawScope = lawScope := rfl
  conv at hbs => rhs; whnf
  rw [hb0, hb1]; unfold envW; rw [hbs]; clear hb0 hb1 hbs
  w_top off; revert X; k_fill; intro X
  k_steps
  all_goals (refine str_at ?_ (hret _ _ _ (by assumption) (by assumption)); unfold txtF; first | rw [if_pos (by omega)] | rw [if_neg (by omega)])
end
theorem compR_eq : ∃ px pos, argOf (tn 0) = .ListComp (compElt (argOf (tn 0))) [⟨.Name (Str.ofString "x") px, compIter (argOf (tn 0)), [], 0⟩] (compScope (argOf (tn 0))) pos := ⟨_, _, by with_unfolding_all rfl⟩
set_option maxRecDepth 100000 in
set_option maxHeartbeats 8000000 in
theorem iterR {w : World} {p : Program} {loose : List Str} {mean : ExcName → Option Value} {mg mb : Str → Option Value} {A₀ : Around} {base h₀ : Heap} {L fa : Nat} {cd : Value} {m : Str → Option Value} {s : Shared} {Q : Value → Shared → Prop} {E : Value → Shared → Prop} {news : List (Addr × Obj)}
    {a : Addr}
    (B : Below A₀ base [] h₀) (F : Fr h₀ L s.heap m) (X : (hd.heap_39 w.params).In h₀) (T : Top p loose mean mg mb h₀) (N : News h₀ L s.heap news)
    (mw : m (Str.ofString "row") = some (.ref a))
    (hret : ∀ (tk : Nat), Q (.ref a) { s with toks := tk }) :
    wpAny (model PySem.Challenge.rw_rs0113_01.row.prog w) (callerA.deeper (envW L fa cd)) (eval (compIter (argOf (tn 0))) (envW L fa cd)) Q E s := by
  have hb0 : compIter (argOf (tn 0)) = compIter (argOf (tn 0)) := rfl
  conv at hb0 => rhs; whnf
  have hbs : lawScope = lawScope := rfl
  conv at hbs => rhs; whnf
  rw [hb0]; unfold envW; rw [hbs]; clear hb0 hbs
  w_top off; revert X; k_fill; intro X
  k_steps
  exact hret _
set_option maxHeartbeats 2000000 in
theorem compR {w : World} {p : Program} {loose : List Str} {mean : ExcName → Option Value} {mg mb : Str → Option Value} {A₀ : Around} {base h₀ : Heap} {L fa : Nat} {cd : Value} {m : Str → Option Value} {s : Shared} {Q : Value → Shared → Prop} {E : Value → Shared → Prop} {news : List (Addr × Obj)}
    {a : Addr} {ws : List Value} {k : Nat} {row : List Int} {oc : Obj} {t : Int} {tt : Tok}
    (B : Below A₀ base [] h₀) (F : Fr h₀ L s.heap m) (X : (hd.heap_39 w.params).In h₀) (T : Top p loose mean mg mb h₀) (N : News h₀ L s.heap news)
    (hr : (a, listOf ws.toArray k) ∈ news) (hIr : IntsAre ws row) (h7 : row.length = 7) (mw : m (Str.ofString "row") = some (.ref a)) (hc : (L + 1, oc) ∈ news) (hoc : oc.data = .cell (some (.int t tt)))
    (hret : ∀ (h' : Heap) (tk : Nat) (D : Addr) (ys : List Value) (n : Nat), Fr h₀ L h' m → News h₀ L h' ((D, listOf ys.toArray n) :: news) → CarriedAll ys (row.map fun x => PyData.str (txtR t x)) → Q (.ref D) { s with heap := h', toks := tk }) :
    wpAny (model PySem.Challenge.rw_rs0113_01.row.prog w) (callerA.deeper (envW L fa cd)) (eval (argOf (tn 0)) (envW L fa cd)) Q E s := by
  obtain ⟨px, pos, he⟩ := compR_eq
  rw [he]
  refine LCg.ListComp_U (cl := [(Str.ofString "t", L + 1)]) F (by with_unfolding_all rfl) (by with_unfolding_all decide) (by with_unfolding_all rfl) (by with_unfolding_all decide) (by with_unfolding_all rfl) (iterR B F X T N mw ?_) (by intro _; with_unfolding_all rfl)
  intro tk
  refine LCg.CompSrc.ledger rfl F N hr (kmk_sz hIr (by rw [sizeLine_eq]; omega)) ?_
  intro g
  refine kct_list (fun x => txtR t x) hIr (fun k t' I oI C oC D m₂ ys h tk E' hk hC hx F₁ N₁ off ne mk => ?_) ?_
  · refine elR (oC := oC) (oc := oc) B F₁ X T N₁ (.tail _ (.head _)) hC hx (.tail _ (.tail _ (.tail _ hc))) hoc ?_
    intro h' tk' u F' N'
    exact LCg.CompEnd.intro F' N' news (fun p hp => hp) off (.inr ⟨_, hr, rfl, _, rfl⟩) ⟨rfl, _, rfl⟩
  · intro ys hc hlen
    intro D h tk F' N' o1
    exact hret _ _ _ _ _ F' N' hc
theorem compF_eq : ∃ px pos, argOf (tn 1) = .ListComp (compElt (argOf (tn 1))) [⟨.Name (Str.ofString "x") px, compIter (argOf (tn 1)), [], 0⟩] (compScope (argOf (tn 1))) pos := ⟨_, _, by with_unfolding_all rfl⟩
set_option maxRecDepth 100000 in
set_option maxHeartbeats 8000000 in
theorem iterF {w : World} {p : Program} {loose : List Str} {mean : ExcName → Option Value} {mg mb : Str → Option Value} {A₀ : Around} {base h₀ : Heap} {L fa : Nat} {cd : Value} {m : Str → Option Value} {s : Shared} {Q : Value → Shared → Prop} {E : Value → Shared → Prop} {news : List (Addr × Obj)}
    {a : Addr}
    (B : Below A₀ base [] h₀) (F : Fr h₀ L s.heap m) (X : (hd.heap_39 w.params).In h₀) (T : Top p loose mean mg mb h₀) (N : News h₀ L s.heap news)
    (mw : m (Str.ofString "row") = some (.ref a))
    (hret : ∀ (tk : Nat), Q (.ref a) { s with toks := tk }) :
    wpAny (model PySem.Challenge.rw_rs0113_01.row.prog w) (callerA.deeper (envW L fa cd)) (eval (compIter (argOf (tn 1))) (envW L fa cd)) Q E s := by
  have hb0 : compIter (argOf (tn 1)) = compIter (argOf (tn 1)) := rfl
  conv at hb0 => rhs; whnf
  have hbs : lawScope = lawScope := rfl
  conv at hbs => rhs; whnf
  rw [hb0]; unfold envW; rw [hbs]; clear hb0 hbs
  w_top off; revert X; k_fill; intro X
  k_steps
  exact hret _
set_option maxHeartbeats 2000000 in
theorem compF {w : World} {p : Program} {loose : List Str} {mean : ExcName → Option Value} {mg mb : Str → Option Value} {A₀ : Around} {base h₀ : Heap} {L fa : Nat} {cd : Value} {m : Str → Option Value} {s : Shared} {Q : Value → Shared → Prop} {E : Value → Shared → Prop} {news : List (Addr × Obj)}
    {a : Addr} {ws : List Value} {k : Nat} {row : List Int} {oc : Obj} {t : Int} {tt : Tok}
    (B : Below A₀ base [] h₀) (F : Fr h₀ L s.heap m) (X : (hd.heap_39 w.params).In h₀) (T : Top p loose mean mg mb h₀) (N : News h₀ L s.heap news)
    (hr : (a, listOf ws.toArray k) ∈ news) (hIr : IntsAre ws row) (h7 : row.length = 7) (mw : m (Str.ofString "row") = some (.ref a)) (hc : (L + 1, oc) ∈ news) (hoc : oc.data = .cell (some (.int t tt)))
    (hret : ∀ (h' : Heap) (tk : Nat) (D : Addr) (ys : List Value) (n : Nat), Fr h₀ L h' m → News h₀ L h' ((D, listOf ys.toArray n) :: news) → CarriedAll ys (row.map fun x => PyData.str (txtF t x)) → Q (.ref D) { s with heap := h', toks := tk }) :
    wpAny (model PySem.Challenge.rw_rs0113_01.row.prog w) (callerA.deeper (envW L fa cd)) (eval (argOf (tn 1)) (envW L fa cd)) Q E s := by
  obtain ⟨px, pos, he⟩ := compF_eq
  rw [he]
  refine LCg.ListComp_U (cl := [(Str.ofString "t", L + 1)]) F (by with_unfolding_all rfl) (by with_unfolding_all decide) (by with_unfolding_all rfl) (by with_unfolding_all decide) (by with_unfolding_all rfl) (iterF B F X T N mw ?_) (by intro _; with_unfolding_all rfl)
  intro tk
  refine LCg.CompSrc.ledger rfl F N hr (kmk_sz hIr (by rw [sizeLine_eq]; omega)) ?_
  intro g
  refine kct_list (fun x => txtF t x) hIr (fun k t' I oI C oC D m₂ ys h tk E' hk hC hx F₁ N₁ off ne mk => ?_) ?_
  · refine elF (oC := oC) (oc := oc) B F₁ X T N₁ (.tail _ (.head _)) hC hx (.tail _ (.tail _ (.tail _ hc))) hoc ?_
    intro h' tk' u F' N'
    exact LCg.CompEnd.intro F' N' news (fun p hp => hp) off (.inr ⟨_, hr, rfl, _, rfl⟩) ⟨rfl, _, rfl⟩
  · intro ys hc hlen
    intro D h tk F' N' o1
    exact hret _ _ _ _ _ F' N' hc
theorem glue_fold : ∀ (r : List Str) (a : Array Nat), (r.foldl (fun acc p => acc ++ (Str.ofString "").cps ++ p.cps) a).toList = a.toList ++ r.flatMap fun x => x.cps.toList
  | [], a => by simp
  | x :: r, a => by
    rw [List.foldl_cons, glue_fold r]
    have e : (Str.ofString "").cps = #[] := by decide
    rw [e]
    simp
theorem glued_cps (l : List Str) : (Txt.join (Str.ofString "") l).cps.toList = l.flatMap fun x => x.cps.toList := by
  show (Builtin.Str.glued (Str.ofString "") l).cps.toList = _
  unfold Builtin.Str.glued
  cases l with
  | nil => rfl
  | cons x r =>
    show (r.foldl (fun acc p => acc ++ (Str.ofString "").cps ++ p.cps) x.cps).toList = _
    rw [glue_fold]
    rfl
theorem lineR (t : Int) (row : List Int) : (Txt.join (Str.ofString "") (row.map fun x => txtR t x)).cps.toList = flat 62 61 60 (row.map fun x => decide (t ≤ x)) := by
  rw [glued_cps]
  induction row with
  | nil => rfl
  | cons x r ih =>
    rw [List.map_cons, List.flatMap_cons, ih, List.map_cons]
    unfold txtR
    by_cases h : t ≤ x
    · rw [if_pos h, decide_eq_true h]; rfl
    · rw [if_neg h, decide_eq_false h]; rfl
theorem lineF (t : Int) (row : List Int) : (Txt.join (Str.ofString "") (row.map fun x => txtF t x)).cps.toList = flat 60 61 62 (row.map fun x => decide (x ≤ t)) := by
  rw [glued_cps]
  induction row with
  | nil => rfl
  | cons x r ih =>
    rw [List.map_cons, List.flatMap_cons, ih, List.map_cons]
    unfold txtF
    by_cases h : x ≤ t
    · rw [if_pos h, decide_eq_true h]; rfl
    · rw [if_neg h, decide_eq_false h]; rfl
theorem flat_length (A0 A1 B0 : Nat) : ∀ bs : List Bool, (flat A0 A1 B0 bs).length ≤ 2 * bs.length
  | [] => by simp [flat]
  | true :: r => by have := flat_length A0 A1 B0 r; simp [flat]; omega
  | false :: r => by have := flat_length A0 A1 B0 r; simp [flat]; omega
theorem line_len {line : Str} {A0 A1 B0 : Nat} {bs : List Bool} (h : line.cps.toList = flat A0 A1 B0 bs) (h7 : bs.length = 7) : line.length ≤ 14 := by
  have e : line.length = line.cps.toList.length := by simp [Str.length]
  have := flat_length A0 A1 B0 bs
  rw [e, h]; omega
theorem txtR_len (t x : Int) : (txtR t x).length ≤ 2 := by
  unfold txtR; split <;> decide
theorem txtF_len (t x : Int) : (txtF t x).length ≤ 2 := by
  unfold txtF; split <;> decide
section
local macro_rules | `(tactic| walk_at "call builtin:str.join") => `(tactic| (k_here; (with_reducible show wpAny _ _ (call (Value.builtin "str.join") [Value.str _ _, Value.ref _]) _ _ _); (refine KT.join_B 2 (isList_in (by k_asm) (by k_mem)) (by with_reducible assumption) (fun a _ => by first | exact txtR_len _ a | exact txtF_len _ a) (by omega) (by decide) ?_); intro t9 k9))
section
local macro_rules | `(tactic| walk_at "eval ListComp") => `(tactic| (k_here; (with_unfolding_all refine' compR ?mcr1 ?mcr2 ?mcr3 ?mcr4 ?mcr5 ?mcr6 ?mcr7 ?mcr8 ?mcr9 ?mcr10 ?mcr11 ?_; (case mcr1 => k_asm); (case mcr2 => k_asm); (case mcr3 => k_asm); (case mcr4 => k_asm); (case mcr5 => k_asm); (case mcr6 => assumption); (case mcr7 => assumption); (case mcr8 => assumption); (case mcr9 => with_reducible assumption); (case mcr10 => assumption); (case mcr11 => assumption)); intro h' tk9 D' ys' n' F' N' hC'))
set_option maxRecDepth 100000 in
set_option maxHeartbeats 8000000 in
theorem lawS0 {w : World} {p : Program} {loose : List Str} {mean : ExcName → Option Value} {mg mb : Str → Option Value} {A₀ : Around} {base h₀ : Heap} {L fa : Nat} {cd : Value} {m : Str → Option Value} {s : Shared} {Q : Flow → Shared → Prop} {E : Value → Shared → Prop} {news : List (Addr × Obj)}
    {a : Addr} {ws : List Value} {k : Nat} {row : List Int} {oc : Obj} {t : Int} {tt : Tok}
    (B : Below A₀ base [] h₀) (F : Fr h₀ L s.heap m) (X : (hd.heap_39 w.params).In h₀) (T : Top p loose mean mg mb h₀) (N : News h₀ L s.heap news)
    (hr : (a, listOf ws.toArray k) ∈ news) (hIr : IntsAre ws row) (h7 : row.length = 7) (mw : m (Str.ofString "row") = some (.ref a)) (hc : (L + 1, oc) ∈ news) (hoc : oc.data = .cell (some (.int t tt)))
    (hret : ∀ (h' : Heap) (tk : Nat) (m' : Str → Option Value) (u : Tok), Fr h₀ L h' m' → News h₀ L h' news → m' (Str.ofString "rises") = some (.str (Txt.join (Str.ofString "") (row.map fun x => txtR t x)) u) → (∀ y, y ≠ Str.ofString "rises" → m' y = m y) → Q .next { s with heap := h', toks := tk }) :
    wpAny (model PySem.Challenge.rw_rs0113_01.row.prog w) (callerA.deeper (envW L fa cd)) (exec (tn 0) (envW L fa cd)) Q E s := by
  have hb0 : tn 0 = tn 0 := rfl
  conv at hb0 => rhs; whnf
  have hbs : lawScope = lawScope := rfl
  conv at hbs => rhs; whnf
  rw [hb0]; unfold envW; rw [hbs]; clear hb0 hbs
  w_top off; revert X; k_fill; intro X
  k_steps
  exact hret _ _ _ _ (by assumption) (news_tail (by assumption)) (by assumption) (by assumption)
end
section
local macro_rules | `(tactic| walk_at "eval ListComp") => `(tactic| (k_here; (with_unfolding_all refine' compF ?mcr1 ?mcr2 ?mcr3 ?mcr4 ?mcr5 ?mcr6 ?mcr7 ?mcr8 ?mcr9 ?mcr10 ?mcr11 ?_; (case mcr1 => k_asm); (case mcr2 => k_asm); (case mcr3 => k_asm); (case mcr4 => k_asm); (case mcr5 => k_asm); (case mcr6 => assumption); (case mcr7 => assumption); (case mcr8 => assumption); (case mcr9 => with_reducible assumption); (case mcr10 => assumption); (case mcr11 => assumption)); intro h' tk9 D' ys' n' F' N' hC'))
local macro_rules | `(tactic| walk_at "pad 2") => `(tactic| skip)
set_option maxRecDepth 100000 in
set_option maxHeartbeats 8000000 in
theorem lawS1 {w : World} {p : Program} {loose : List Str} {mean : ExcName → Option Value} {mg mb : Str → Option Value} {A₀ : Around} {base h₀ : Heap} {L fa : Nat} {cd : Value} {m : Str → Option Value} {s : Shared} {Q : Flow → Shared → Prop} {E : Value → Shared → Prop} {news : List (Addr × Obj)}
    {a : Addr} {ws : List Value} {k : Nat} {row : List Int} {oc : Obj} {t : Int} {tt : Tok}
    (B : Below A₀ base [] h₀) (F : Fr h₀ L s.heap m) (X : (hd.heap_39 w.params).In h₀) (T : Top p loose mean mg mb h₀) (N : News h₀ L s.heap news)
    (hr : (a, listOf ws.toArray k) ∈ news) (hIr : IntsAre ws row) (h7 : row.length = 7) (mw : m (Str.ofString "row") = some (.ref a)) (hc : (L + 1, oc) ∈ news) (hoc : oc.data = .cell (some (.int t tt)))
    (hret : ∀ (h' : Heap) (tk : Nat) (m' : Str → Option Value) (u : Tok), Fr h₀ L h' m' → News h₀ L h' news → m' (Str.ofString "falls") = some (.str (Txt.join (Str.ofString "") (row.map fun x => txtF t x)) u) → (∀ y, y ≠ Str.ofString "falls" → m' y = m y) → Q .next { s with heap := h', toks := tk }) :
    wpAny (model PySem.Challenge.rw_rs0113_01.row.prog w) (callerA.deeper (envW L fa cd)) (exec (tn 1) (envW L fa cd)) Q E s := by
  have hb0 : tn 1 = tn 1 := rfl
  conv at hb0 => rhs; whnf
  have hbs : lawScope = lawScope := rfl
  conv at hbs => rhs; whnf
  rw [hb0]; unfold envW; rw [hbs]; clear hb0 hbs
  w_top off; revert X; k_fill; intro X
  k_steps
  exact hret _ _ _ _ (by assumption) (news_tail (by assumption)) (by assumption) (by assumption)
end
end
section
local macro_rules | `(tactic| walk_at "call ref") => `(tactic| (k_here; (with_reducible show wpAny _ _ (call (Value.ref 89) [Value.str _ _, Value.int _ _, Value.int _ _, Value.int _ _]) _ _ _); (with_unfolding_all refine' bears_call ?mlc1 ?mlc2 ?mlc3 ?mlc4 ?mlc5 ?mlc6 ?mlc7 ?mlc8 ?mlc9 ?mlc10 ?_; (case mlc10 => with_reducible assumption); (case mlc8 => first | exact langR _ | exact langF _); (case mlc1 => k_asm); (case mlc2 => k_asm); (case mlc3 => k_asm); (case mlc4 => k_asm); (case mlc5 => k_asm); (case mlc6 => rfl); (case mlc7 => rfl); (case mlc9 => assumption)); intro h' tk9 F' N'; (try k_sweep)))
set_option maxRecDepth 100000 in
set_option maxHeartbeats 8000000 in
theorem lawS2 {w : World} {p : Program} {loose : List Str} {mean : ExcName → Option Value} {mg mb : Str → Option Value} {A₀ : Around} {base h₀ : Heap} {L fa : Nat} {cd : Value} {m : Str → Option Value} {s : Shared} {Q : Flow → Shared → Prop} {E : Value → Shared → Prop} {news : List (Addr × Obj)}
    {b : Addr} {vl : List Value} {kb : Nat} {lf : List Int} {oc : Obj} {t : Int} {tt tl : Tok} {line : Str} {bs : List Bool}
    (B : Below A₀ base [] h₀) (F : Fr h₀ L s.heap m) (X : (hd.heap_39 w.params).In h₀) (T : Top p loose mean mg mb h₀) (N : News h₀ L s.heap news)
    (hb : (b, listOf vl.toArray kb) ∈ news) (hIl : IntsAre vl lf) (hpos : 0 < lf.length) (hle : lf.length ≤ 24) (ml : m (Str.ofString "left") = some (.ref b)) (mr : m (Str.ofString "rises") = some (.str line tl)) (hc : (L + 1, oc) ∈ news) (hoc : oc.data = .cell (some (.int t tt)))
    (hlen : line.length ≤ 14) (hline : line.cps.toList = flat 62 61 60 bs) (hlaw : bearsOf bs = decide (t ≤ lf.getD (lf.length - 1) 0))
    (hret : ∀ (h' : Heap) (tk : Nat), Fr h₀ L h' m → News h₀ L h' news → Q .next { s with heap := h', toks := tk }) :
    wpAny (model PySem.Challenge.rw_rs0113_01.row.prog w) (callerA.deeper (envW L fa cd)) (exec (tn 2) (envW L fa cd)) Q E s := by
  have hb0 : tn 2 = tn 2 := rfl
  conv at hb0 => rhs; whnf
  have hbs : lawScope = lawScope := rfl
  conv at hbs => rhs; whnf
  rw [hb0]; unfold envW; rw [hbs]; clear hb0 hbs
  w_top off; revert X; k_fill; intro X
  k_steps
  · exfalso
    (rename (_ = true) => hx9)
    rw [hlaw, bne_iff_ne] at hx9
    apply hx9
    first | rfl | (congr 3; omega) | (congr 2; omega) | (congr 4; omega)
  · exact hret _ _ (by assumption) (by assumption)
set_option maxRecDepth 100000 in
set_option maxHeartbeats 8000000 in
theorem lawS3 {w : World} {p : Program} {loose : List Str} {mean : ExcName → Option Value} {mg mb : Str → Option Value} {A₀ : Around} {base h₀ : Heap} {L fa : Nat} {cd : Value} {m : Str → Option Value} {s : Shared} {Q : Flow → Shared → Prop} {E : Value → Shared → Prop} {news : List (Addr × Obj)}
    {b : Addr} {vl : List Value} {kb : Nat} {lf : List Int} {oc : Obj} {t : Int} {tt tl : Tok} {line : Str} {bs : List Bool}
    (B : Below A₀ base [] h₀) (F : Fr h₀ L s.heap m) (X : (hd.heap_39 w.params).In h₀) (T : Top p loose mean mg mb h₀) (N : News h₀ L s.heap news)
    (hb : (b, listOf vl.toArray kb) ∈ news) (hIl : IntsAre vl lf) (hpos : 0 < lf.length) (hle : lf.length ≤ 24) (ml : m (Str.ofString "left") = some (.ref b)) (mr : m (Str.ofString "falls") = some (.str line tl)) (hc : (L + 1, oc) ∈ news) (hoc : oc.data = .cell (some (.int t tt)))
    (hlen : line.length ≤ 14) (hline : line.cps.toList = flat 60 61 62 bs) (hlaw : bearsOf bs = decide (lf.getD 0 0 ≤ t))
    (hret : ∀ (h' : Heap) (tk : Nat), Fr h₀ L h' m → News h₀ L h' news → Q .next { s with heap := h', toks := tk }) :
    wpAny (model PySem.Challenge.rw_rs0113_01.row.prog w) (callerA.deeper (envW L fa cd)) (exec (tn 3) (envW L fa cd)) Q E s := by
  have hb0 : tn 3 = tn 3 := rfl
  conv at hb0 => rhs; whnf
  have hbs : lawScope = lawScope := rfl
  conv at hbs => rhs; whnf
  rw [hb0]; unfold envW; rw [hbs]; clear hb0 hbs
  w_top off; revert X; k_fill; intro X
  k_steps
  · exfalso
    (rename (_ = true) => hx9)
    rw [hlaw, bne_iff_ne] at hx9
    apply hx9
    first | rfl | (congr 3; omega) | (congr 2; omega) | (congr 4; omega)
  · exact hret _ _ (by assumption) (by assumption)
end
section
variable {prog : Program} {w : World} {A : Around} {E : Value → Shared → Prop} {s : Shared} {env : Env} {h₀ : Heap} {target : PySem.Expr} {body : List Stmt} {Q : Flow → Shared → Prop}
theorem list_loopT {l : Addr} {vs : List Value} {nn : Nat} {m₀ : Str → Option Value} {news : List (Addr × Obj)} (J : Nat → (Str → Option Value) → List (Addr × Obj) → Prop)
    (hh : A.handled = none) (F : Fr h₀ env.locals s.heap m₀) (N : News h₀ env.locals s.heap news) (h0 : J 0 m₀ news) (hJl : ∀ i m₁ nx, J i m₁ nx → (l, listOf vs.toArray nn) ∈ nx)
    (turn : ∀ (I : Addr) (oI : Obj) (i : Nat) (v : Value) (m₁ : Str → Option Value) (news₁ : List (Addr × Obj)) (s₁ : Shared), (∀ p ∈ news, p.1 < I) → oI.cls = .type "list_iterator" → vs[i]? = some v → J i m₁ news₁ → (∀ p ∈ news₁, p.1 ≠ I) →
      Fr h₀ env.locals s₁.heap m₁ → News h₀ env.locals s₁.heap ((I, oI) :: news₁) →
      wpAny (model prog w) A (assign target env v) (fun _ s₃ => wpAny (model prog w) A (execs body env) (fun f s₂ => f = .next ∧ UnrEnd h₀ env.locals s₁ I oI (J (i + 1)) s₂) E s₃) E s₁)
    (done : ∀ (m₁ : Str → Option Value) (news₁ : List (Addr × Obj)) (h : Heap) (tk : Nat), J vs.length m₁ news₁ → Fr h₀ env.locals h m₁ → News h₀ env.locals h news₁ → Q .next { s with heap := h, toks := tk }) :
    wpAny (model prog w) A (pyIter (.ref l)) (fun it s₂ => LoopAtT prog w A h₀ env target body Q E it s₂) E s := by
  have hl := hJl _ _ _ h0
  have hol : s.heap.get? l = some (listOf vs.toArray nn) := (N _ hl).1
  have hls : s.heap.IsList l vs.toArray := ⟨_, hol, rfl, nn, rfl⟩
  have hne : l ≠ s.heap.objs.size := Nat.ne_of_lt (Heap.lt_size hol)
  have hI : ∀ p ∈ news, p.1 < s.heap.objs.size := fun p hp => Heap.lt_size (N p hp).1
  refine wpAny_pyIter_list hls ?_
  have W := Walks.list (prog := prog) (w := w) hh s.heap.objs.size l hne vs.toArray
  have hnew := next_is_new F
  refine ⟨_, _, _, vs.toArray.size, _, _, m₀, news, J, rfl, W, ?_, ?_, ?_, ⟨⟨_, Heap.get?_push_size _ rfl, rfl, rfl⟩, hls.at fun o e => Heap.get?_push_of_some _ e⟩, F.push _, (fun p hp => ⟨Heap.get?_push_of_some _ (N p hp).1, (N p hp).2⟩), (fun i s' v Q' st hQ' => letGo_listiter st.1 hQ'), h0, ?_, ?_⟩
  · intro hm
    rcases List.mem_cons.mp hm with e | hm
    · exact absurd F.ns.lt (e ▸ Nat.lt_irrefl _)
    · exact (N _ hl).2.1 ((List.mem_singleton.mp hm).symm)
  · intro b hb
    rw [List.mem_singleton.mp hb]
    exact hnew
  · intro p hp hq
    exact absurd (hI p hp) ((List.mem_singleton.mp hq) ▸ Nat.lt_irrefl _)
  · rintro i v m₁ news₁ s₁ own hin hP hJ hoff hown hget hall hst F₁ N₁
    obtain ⟨⟨oI, hoI, hcls, hdat⟩, _⟩ := hst
    have hmem : (s.heap.objs.size, oI) ∈ own := hall _ (List.mem_cons_self ..) hnew _ hoI
    have hl₁ := hJl _ _ _ hJ
    have hlo : s₁.heap.get? l = some (listOf vs.toArray nn) := (N₁ _ (List.mem_append.mpr (.inr hl₁))).1
    have hv : vs[i]? = some v := by simpa using hP
    have hoff' : ∀ p ∈ news₁, p.1 ≠ s.heap.objs.size := fun p hp e => hoff p hp (List.mem_singleton.mpr e)
    have N₂ : News h₀ env.locals s₁.heap ((s.heap.objs.size, oI) :: news₁) := fun p hp => by
      rcases List.mem_cons.mp hp with rfl | hp
      · exact N₁ _ (List.mem_append_left _ hmem)
      · exact N₁ _ (List.mem_append_right _ hp)
    refine wpAny_mono (turn _ oI i v m₁ news₁ s₁ hI hcls hv hJ hoff' F₁ N₂) (fun _ s₃ h₃ => wpAny_mono h₃ (fun f s₂ hf => ?_) fun _ _ e => e) fun _ _ e => e
    obtain ⟨rfl, h', tk, m', news', e, F', N', off, hJ'⟩ := hf
    refine ⟨rfl, h', tk, m', news', e, F', fun p hp => ?_, fun p hp hq => off p hp (List.mem_singleton.mp hq), hJ'⟩
    rcases List.mem_append.mp hp with hp | hp
    · have h2 : s₁.heap.get? p.1 = some p.2 := hget p hp
      rcases List.mem_cons.mp (hown p hp) with h1 | h1
      · rw [h1, hoI] at h2
        have h3 : p = (s.heap.objs.size, oI) := Prod.ext h1 (Option.some.inj h2).symm
        rw [h3]; exact N' _ (List.mem_cons_self ..)
      · have h1 := List.mem_singleton.mp h1
        rw [h1, hlo] at h2
        have h3 : p = (l, listOf vs.toArray nn) := Prod.ext h1 (Option.some.inj h2).symm
        rw [h3]; exact N' _ (List.mem_cons_of_mem _ (hJl _ _ _ hJ'))
    · exact N' _ (List.mem_cons_of_mem _ hp)
  · rintro h' tk m' news' F' N' _ hJ
    rw [List.size_toArray] at hJ
    exact done m' news' h' tk hJ F' N'
end
theorem forT_eq : ∃ px pos, lw 3 = .For (.Name (Str.ofString "t") px) (iterOf (lw 3)) (forBody (lw 3)) [] pos := ⟨_, _, by with_unfolding_all rfl⟩
theorem bodyT_eq : forBody (lw 3) = [tn 0, tn 1, tn 2, tn 3] := by with_unfolding_all rfl
set_option maxRecDepth 100000 in
set_option maxHeartbeats 8000000 in
theorem iterT {w : World} {p : Program} {loose : List Str} {mean : ExcName → Option Value} {mg mb : Str → Option Value} {A₀ : Around} {base h₀ : Heap} {L fa : Nat} {cd : Value} {m : Str → Option Value} {s : Shared} {Q : Value → Shared → Prop} {E : Value → Shared → Prop} {news : List (Addr × Obj)}
    {a : Addr}
    (B : Below A₀ base [] h₀) (F : Fr h₀ L s.heap m) (X : (hd.heap_39 w.params).In h₀) (T : Top p loose mean mg mb h₀) (N : News h₀ L s.heap news)
    (mw : m (Str.ofString "row") = some (.ref a))
    (hret : ∀ (tk : Nat), Q (.ref a) { s with toks := tk }) :
    wpAny (model PySem.Challenge.rw_rs0113_01.row.prog w) (callerA.deeper (envW L fa cd)) (eval (iterOf (lw 3)) (envW L fa cd)) Q E s := by
  have hb0 : iterOf (lw 3) = iterOf (lw 3) := rfl
  conv at hb0 => rhs; whnf
  have hbs : lawScope = lawScope := rfl
  conv at hbs => rhs; whnf
  rw [hb0]; unfold envW; rw [hbs]; clear hb0 hbs
  w_top off; revert X; k_fill; intro X
  k_steps
  exact hret _
theorem storeT {M : Model} {A : Around} {E : Value → Shared → Prop} {s : Shared} {h₀ : Heap} {L fa : Nat} {cd v : Value} {v₀ : Option Value} {m : Str → Option Value} {Q : Unit → Shared → Prop} {news : List (Addr × Obj)} {g : Obj → List (Addr × Obj)} {oc : Obj}
    (F : Fr h₀ L s.heap m) (N : News h₀ L s.heap news) (U : UpdF (L + 1) oc news g) (hd : oc.data = .cell v₀)
    (h : ∀ h' o', Fr h₀ L h' m → News h₀ L h' (g o') → o'.data = .cell (some v) → Q () { s with heap := h' }) : wpAny M A (storeName (envW L fa cd) (Str.ofString "t") v) Q E s := by
  have hbs : lawScope = lawScope := rfl
  conv at hbs => rhs; whnf
  unfold envW; rw [hbs]
  exact storeX_C F N rfl U hd h rfl rfl
set_option maxRecDepth 100000 in
set_option maxHeartbeats 2000000 in
theorem lawD {w : World} {p : Program} {loose : List Str} {mean : ExcName → Option Value} {mg mb : Str → Option Value} {A₀ : Around} {base h₀ : Heap} {L fa : Nat} {cd : Value} {m : Str → Option Value} {s : Shared} {Q : Flow → Shared → Prop}
    {a b : Nat} {ws vl : List Value} {k kb : Nat} {row : List Int} {oc : Obj} {co : Option Value}
    (B : Below A₀ base [] h₀) (F : Fr h₀ L s.heap m) (X : (hd.heap_39 w.params).In h₀) (T : Top p loose mean mg mb h₀) (N : News h₀ L s.heap [(b, listOf vl.toArray kb), (a, listOf ws.toArray k), (L + 1, oc)])
    (hIr : IntsAre ws row) (h7 : row.length = 7) (hIl : IntsAre vl (leftOf 7 row)) (mw : m (Str.ofString "row") = some (.ref a)) (ml : m (Str.ofString "left") = some (.ref b)) (hoc : oc.data = .cell co)
    (hret : ∀ (h' : Heap) (tk : Nat) (m' : Str → Option Value) (nx : List (Addr × Obj)), Fr h₀ L h' m' → News h₀ L h' nx → Q .next { s with heap := h', toks := tk }) :
    wpAny (model PySem.Challenge.rw_rs0113_01.row.prog w) (callerA.deeper (envW L fa cd)) (exec (lw 3) (envW L fa cd)) Q (fun _ _ => False) s := by
  obtain ⟨px, pos, he⟩ := forT_eq
  rw [he]
  have hbL : b ≠ L + 1 := by
    intro e
    subst e
    have := news_fun N (List.mem_cons_self ..) (.tail _ (.tail _ (.head _)))
    rw [← this] at hoc
    cases hoc
  have haL : a ≠ L + 1 := by
    intro e
    subst e
    have := news_fun N (.tail _ (.head _)) (.tail _ (.tail _ (.head _)))
    rw [← this] at hoc
    cases hoc
  refine For_invT h₀ (iterT B F X T N mw ?_) (by intro _; with_unfolding_all rfl) PassesOwn.never
  intro tk1
  refine list_loopT (vs := ws) (nn := k) (news := [(b, listOf vl.toArray kb), (a, listOf ws.toArray k), (L + 1, oc)]) (fun j m₁ nx => ∃ (oc' : Obj) (co' : Option Value), nx = [(b, listOf vl.toArray kb), (a, listOf ws.toArray k), (L + 1, oc')] ∧ oc'.data = .cell co' ∧ m₁ (Str.ofString "row") = some (.ref a) ∧ m₁ (Str.ofString "left") = some (.ref b))
    rfl F N ⟨oc, co, rfl, hoc, mw, ml⟩ ?_ ?_ ?_
  · rintro i m₁ nx ⟨oc', co', rfl, _⟩
    exact .tail _ (.head _)
  · rintro I oI i v m₁ news₁ s₁ hfresh hcls hv ⟨oc', co', rfl, hoc', mw', ml'⟩ hoff F₁ N₁
    obtain ⟨t, tt, rfl, _⟩ := IntsAre.at hIr i v hv
    have hIL : @Ne Nat I (L + 1) := fun e => hoff (L + 1, oc') (.tail _ (.tail _ (.head _))) e.symm
    have hIa : @Ne Nat a I := hoff (a, listOf ws.toArray k) (.tail _ (.head _))
    have hIb : @Ne Nat b I := hoff (b, listOf vl.toArray kb) (.head _)
    refine wpAny_assign_Name (storeT (g := fun o' => [(I, oI), (b, listOf vl.toArray kb), (a, listOf ws.toArray k), (L + 1, o')]) F₁ N₁ (.tail (neN hIL) (.tail (neN hbL) (.tail (neN haL) (.head (fun _ h => (nomatch h)))))) hoc' ?_)
    intro h₂ o₂ F₂ N₂ hd₂
    have hcm : (L + 1, o₂) ∈ [(I, oI), (b, listOf vl.toArray kb), (a, listOf ws.toArray k), (L + 1, o₂)] := .tail _ (.tail _ (.tail _ (.head _)))
    have ham : (a, listOf ws.toArray k) ∈ [(I, oI), (b, listOf vl.toArray kb), (a, listOf ws.toArray k), (L + 1, o₂)] := .tail _ (.tail _ (.head _))
    have hbm : (b, listOf vl.toArray kb) ∈ [(I, oI), (b, listOf vl.toArray kb), (a, listOf ws.toArray k), (L + 1, o₂)] := .tail _ (.head _)
    rw [bodyT_eq]
    refine wpAny_execs_cons (lawS0 (oc := o₂) (t := t) (tt := tt) B F₂ X T N₂ ham hIr h7 mw' hcm hd₂ ?_)
    intro h₃ tk₃ m₃ u₃ F₃ N₃ r₃ n₃
    refine wpAny_execs_cons (lawS1 (oc := o₂) (t := t) (tt := tt) B F₃ X T N₃ ham hIr h7 ((n₃ _ (by decide +kernel)).trans mw') hcm hd₂ ?_)
    intro h₄ tk₄ m₄ u₄ F₄ N₄ r₄ n₄
    refine wpAny_execs_cons (lawS2 (oc := o₂) (t := t) (tt := tt) (lf := leftOf 7 row) (bs := row.map fun x => decide (t ≤ x)) B F₄ X T N₄ hbm hIl (leftOf_pos h7) leftOf_le ((n₄ _ (by decide +kernel)).trans ((n₃ _ (by decide +kernel)).trans ml')) ((n₄ _ (by decide +kernel)).trans r₃) hcm hd₂ (line_len (lineR t row) (by rw [List.length_map]; exact h7)) (lineR t row) (left_rises h7 t) ?_)
    intro h₅ tk₅ F₅ N₅
    refine one_stmt (lawS3 (oc := o₂) (t := t) (tt := tt) (lf := leftOf 7 row) (bs := row.map fun x => decide (x ≤ t)) B F₅ X T N₅ hbm hIl (leftOf_pos h7) leftOf_le ((n₄ _ (by decide +kernel)).trans ((n₃ _ (by decide +kernel)).trans ml')) r₄ hcm hd₂ (line_len (lineF t row) (by rw [List.length_map]; exact h7)) (lineF t row) (left_falls h7 t) ?_)
    intro h₆ tk₆ F₆ N₆
    refine ⟨rfl, h₆, tk₆, m₄, [(b, listOf vl.toArray kb), (a, listOf ws.toArray k), (L + 1, o₂)], rfl, F₆, N₆, ?_, o₂, _, rfl, hd₂, (n₄ _ (by decide +kernel)).trans ((n₃ _ (by decide +kernel)).trans mw'), (n₄ _ (by decide +kernel)).trans ((n₃ _ (by decide +kernel)).trans ml')⟩
    intro p hp
    simp only [List.mem_cons, List.not_mem_nil, or_false] at hp
    rcases hp with rfl | rfl | rfl
    · exact neN hIb
    · exact neN hIa
    · exact neN (Ne.symm hIL)
  · rintro m₁ nx h tk _ F' N'
    exact hret _ _ _ _ F' N'
set_option maxRecDepth 100000 in
set_option maxHeartbeats 8000000 in
theorem lawZ {w : World} {p : Program} {loose : List Str} {mean : ExcName → Option Value} {mg mb : Str → Option Value} {A₀ : Around} {base h₀ : Heap} {L fa : Nat} {cd : Value} {m : Str → Option Value} {s : Shared} {Q : Flow → Shared → Prop} {E : Value → Shared → Prop} {news : List (Addr × Obj)}
    (B : Below A₀ base [] h₀) (F : Fr h₀ L s.heap m) (X : (hd.heap_39 w.params).In h₀) (T : Top p loose mean mg mb h₀) (N : News h₀ L s.heap news)
    (hret : ∀ (tk : Nat), Q (.ret (.bool true)) { s with toks := tk }) :
    wpAny (model PySem.Challenge.rw_rs0113_01.row.prog w) (callerA.deeper (envW L fa cd)) (exec (lw 4) (envW L fa cd)) Q E s := by
  have hb0 : lw 4 = lw 4 := rfl
  conv at hb0 => rhs; whnf
  have hbs : lawScope = lawScope := rfl
  conv at hbs => rhs; whnf
  rw [hb0]; unfold envW; rw [hbs]; clear hb0 hbs
  w_top off; revert X; k_fill; intro X
  k_steps
  exact hret _
theorem lawBody_eq : lawBody = [lw 0, lw 1, lw 2, lw 3, lw 4] := by with_unfolding_all rfl
set_option maxRecDepth 100000 in
set_option maxHeartbeats 2000000 in
theorem law_body {w : World} {p : Program} {loose : List Str} {mean : ExcName → Option Value} {mg mb : Str → Option Value} {A₀ : Around} {base h₀ : Heap} {L fa : Nat} {cd : Value} {m : Str → Option Value} {s : Shared} {Q : Flow → Shared → Prop}
    {l : Addr} {vs : List Value} {ns : List Int} {oc : Obj} {co : Option Value}
    (B : Below A₀ base [] h₀) (F : Fr h₀ L s.heap m) (X : (hd.heap_39 w.params).In h₀) (T : Top p loose mean mg mb h₀) (N : News h₀ L s.heap [(L + 1, oc)]) (hoc : oc.data = .cell co)
    (hl : h₀.IsList l vs.toArray) (hI : IntsAre vs ns) (h63 : ns.length ≤ 63) (mr : m (Str.ofString "script") = some (.ref l))
    (hret : ∀ (h' : Heap) (tk : Nat) (m' : Str → Option Value), Fr h₀ L h' m' → Q (.ret (.bool true)) { s with heap := h', toks := tk }) :
    wpAny (model PySem.Challenge.rw_rs0113_01.row.prog w) (callerA.deeper (envW L fa cd)) (execs lawBody (envW L fa cd)) Q (fun _ _ => False) s := by
  rw [lawBody_eq]
  refine wpAny_execs_cons (lawA B F X T N hl hI h63 mr ?_)
  intro h1 tk1 m1 a ws k F1 N1 _ hIr mw1 mn1
  refine wpAny_execs_cons (lawB B F1 X T N1 hl hI h63 (List.mem_cons_self ..) hIr (rowOf_length ns) ((mn1 _ (by decide +kernel)).trans mr) mw1 ?_)
  intro h2 tk2 m2 b vl kb F2 N2 hIl ml2 mn2
  have mw2 := (mn2 (Str.ofString "row") (by decide +kernel)).trans mw1
  refine wpAny_execs_cons (lawC B F2 X T N2 (.tail _ (.head _)) hIr (rowOf_length ns) (.head _) hIl mw2 ml2 ?_)
  intro h3 tk3 F3 N3
  refine wpAny_execs_cons (lawD (a := a) (b := b) B F3 X T N3 hIr (rowOf_length ns) hIl mw2 ml2 hoc ?_)
  intro h4 tk4 m4 nx F4 N4
  refine one_stmt (lawZ B F4 X T N4 ?_)
  intro tk5
  exact hret _ _ _ F4
end
set_option maxRecDepth 100000 in
set_option maxHeartbeats 8000000 in
theorem whole : PySem.Challenge.rw_rs0113_01.Holds := by
  refine hd ?_
  w_on
  w_strict (k_go0; (all_goals try k_fold); (refine wpAny_mono (Q := _) (E := fun _ _ => False) ?main (fun _ _ q => q) (fun _ _ q => q.elim)); (case main => ((with_unfolding_all refine' law_body ?ml1 ?ml2 ?ml3 ?ml4 ?ml5 ?ml6 ?ml7 ?ml8 ?ml9 ?ml10 ?ml11); (case ml1 => k_asm); (case ml2 => k_asm); (case ml3 => k_asm); (case ml4 => k_asm); (case ml5 => k_asm); (case ml6 => assumption); (case ml7 => assumption); (case ml8 => assumption); (case ml9 => omega); (case ml10 => rfl); (case ml11 => (intro h' tk' m' F'; k_steps)))))
end Mine
theorem PySem.Challenge.cw_rs0113_01_holds : PySem.Challenge.rw_rs0113_01.Holds := by
  exact Mine.whole
