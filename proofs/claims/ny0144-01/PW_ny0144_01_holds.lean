import PyProof.Rows.All
import Wide.All
import OpenK.AllK
import Wide.FinOn
import PySem.Challenge.RW_ny0144_01
open PySem PySem.W PyProof.Rows
set_option Elab.async false

section
open PySem PySem.W PyProof.Rows
set_option Elab.async false
namespace Mine
set_option maxRecDepth 100000
set_option maxHeartbeats 8000000
/-- the top without the four rows that set __name__ -/
noncomputable def vw : Program := { PySem.Challenge.rw_ny0144_01.row.prog with main := { PySem.Challenge.rw_ny0144_01.row.prog.main with body := (((PySem.Challenge.rw_ny0144_01.row.prog.main.body.eraseIdx 13).eraseIdx 7).eraseIdx 2).eraseIdx 0 } }
/-- the head for any hook: the top is run once, by the kernel alone (in one piece it is smaller than in the kit's pieces) -/
theorem head_of (H : Hook) (k1 : PySem.Challenge.rw_ny0144_01.row.wellSaid = true) (left : LeftO PySem.Challenge.rw_ny0144_01.row.toRowW.prog vw [] (fun s => xlAt vw [] s && recOk (RowW.records (OpenRow.toRowW (OpenLaw.row PySem.Challenge.rw_ny0144_01))) s) (Hook.obs H) (Hook.val H) 962)
    (hw : PySem.Challenge.rw_ny0144_01.row.toRowW.promised) {d : DefRec} {kwd : List (Str × PySem.Expr)} (hdef : defOf vw PySem.Challenge.rw_ny0144_01.row.name = some (d, kwd)) (hp : PySem.Challenge.rw_ny0144_01.row.prog.theDef PySem.Challenge.rw_ny0144_01.row.name = some (d.params, d.body, d.scope)) (hk : kwWritten? d.params.kwonlyargs d.params.kw_defaults = some kwd)
    (call : WalkO vw [] (XL vw []) (Hook.says H) PySem.Challenge.rw_ny0144_01.row.toRowW d kwd fun f vs => PySem.call f vs) : PySem.Challenge.rw_ny0144_01.row.Holds :=
  holds_open (XP := XL vw []) left (Hook.of H) (Hook.keeps H) (fun s e => xl_of s (Bool.and_eq_true_iff.mp e).1) XL.keeps hdef hp hk (fun s e => recFacts_of (Bool.and_eq_true_iff.mp e).2) (by rfl) k1 (by decide +kernel) ⟨rfl, rfl, rfl, rfl, rfl, by decide +kernel⟩ hw call
local macro_rules | `(tactic| o_head $H) => `(tactic| refine head_of $H (by first | assumption | decide +kernel) (fun w => by kernel_rfl) ?hw (by rfl) (by rfl) (by rfl) ?hc)
open_top hd for PySem.Challenge.rw_ny0144_01
end Mine
end

section
/-! the heap's functions, plain -/
namespace Mine
local macro_rules | `(tactic| omega) => `(tactic| lia)
def sdLoop {α : Type} (lt : α → α → Bool) (d x : α) (start : Nat) (pos : Nat) (xs : List α) : List α :=
  if h : start < pos then
    if lt x (xs.getD ((pos - 1) / 2) d) then sdLoop lt d x start ((pos - 1) / 2) (xs.set pos (xs.getD ((pos - 1) / 2) d)) else xs.set pos x
  else xs.set pos x
termination_by pos
decreasing_by omega
def suLoop {α : Type} (lt : α → α → Bool) (d : α) (endpos : Nat) (pos : Nat) (xs : List α) : List α × Nat :=
  if h : 2 * pos + 1 < endpos then
    if 2 * pos + 2 < endpos ∧ lt (xs.getD (2 * pos + 1) d) (xs.getD (2 * pos + 2) d) = false then suLoop lt d endpos (2 * pos + 2) (xs.set pos (xs.getD (2 * pos + 2) d))
    else suLoop lt d endpos (2 * pos + 1) (xs.set pos (xs.getD (2 * pos + 1) d))
  else (xs, pos)
termination_by endpos - pos
decreasing_by all_goals omega
def siftup {α : Type} (lt : α → α → Bool) (d : α) (pos : Nat) (xs : List α) : List α :=
  let r := suLoop lt d xs.length pos xs
  sdLoop lt d (xs.getD pos d) pos r.2 (r.1.set r.2 (xs.getD pos d))
def hpop {α : Type} (lt : α → α → Bool) (d : α) (ys : List α) (y : α) : α × List α := if ys = [] then (y, []) else (ys.getD 0 d, siftup lt d 0 (ys.set 0 y))
def heapifyP {α : Type} (lt : α → α → Bool) (d : α) (xs : List α) : List α := (List.range (xs.length / 2)).reverse.foldl (fun xs i => siftup lt d i xs) xs
section
variable {α : Type} {lt : α → α → Bool} {d : α}
theorem getD_at {xs : List α} {i : Nat} (h : i < xs.length) : xs.getD i d = xs[i] := by simp [List.getD, h]
theorem set_swap_perm {xs : List α} {i j : Nat} {x : α} (hi : i < xs.length) (hj : j < xs.length) (hij : i ≠ j) : ((xs.set i (xs.getD j d)).set j x).Perm (xs.set i x) := by
  have h := List.set_set_perm (as := xs.set i x) (i := i) (j := j) (by simpa using hi) (by simpa using hj)
  rw [List.getElem_set_self, List.getElem_set_ne hij, List.set_set, ← getD_at (d := d) hj] at h
  exact h
theorem sdLoop_perm {x : α} {start : Nat} : ∀ (pos : Nat) (xs : List α), pos < xs.length → (sdLoop lt d x start pos xs).Perm (xs.set pos x) := by
  intro pos
  induction pos using Nat.strongRecOn with
  | ind pos ih =>
    intro xs h
    rw [sdLoop.eq_1]
    split
    · split
      · refine (ih _ (by omega) _ (by simp only [List.length_set]; omega)).trans ?_
        exact set_swap_perm h (by omega) (by omega)
      · exact List.Perm.refl _
    · exact List.Perm.refl _
theorem suLoop_perm {x : α} {endpos : Nat} : ∀ (k pos : Nat) (xs : List α), endpos - pos = k → endpos = xs.length → pos < xs.length →
    (suLoop lt d endpos pos xs).2 < xs.length ∧ (suLoop lt d endpos pos xs).1.length = xs.length ∧ ((suLoop lt d endpos pos xs).1.set (suLoop lt d endpos pos xs).2 x).Perm (xs.set pos x) := by
  intro k
  induction k using Nat.strongRecOn with
  | ind k ih =>
    intro pos xs hk he hp
    rw [suLoop.eq_1]
    split
    · split
      · have := ih (endpos - (2 * pos + 2)) (by omega) (2 * pos + 2) (xs.set pos (xs.getD (2 * pos + 2) d)) rfl (by simp only [List.length_set]; omega) (by simp only [List.length_set]; omega)
        simp only [List.length_set] at this
        exact ⟨this.1, this.2.1, this.2.2.trans (set_swap_perm hp (by omega) (by omega))⟩
      · have := ih (endpos - (2 * pos + 1)) (by omega) (2 * pos + 1) (xs.set pos (xs.getD (2 * pos + 1) d)) rfl (by simp only [List.length_set]; omega) (by simp only [List.length_set]; omega)
        simp only [List.length_set] at this
        exact ⟨this.1, this.2.1, this.2.2.trans (set_swap_perm hp (by omega) (by omega))⟩
    · exact ⟨hp, rfl, List.Perm.refl _⟩
theorem siftup_perm {pos : Nat} {xs : List α} (h : pos < xs.length) : (siftup lt d pos xs).Perm xs := by
  unfold siftup
  obtain ⟨h1, h2, h3⟩ := suLoop_perm (lt := lt) (d := d) (x := xs.getD pos d) _ pos xs rfl rfl h
  dsimp only
  refine (sdLoop_perm _ _ (by simp only [List.length_set]; omega)).trans ?_
  rw [List.set_set]
  refine h3.trans ?_
  rw [getD_at h, List.set_getElem_self]
theorem siftup_length {pos : Nat} {xs : List α} (h : pos < xs.length) : (siftup lt d pos xs).length = xs.length := (siftup_perm h).length_eq
end
end Mine
end

section
open PySem PySem.W PyProof.Rows
set_option Elab.async false
namespace Mine
local macro_rules | `(tactic| omega) => `(tactic| lia)
/-- the keys of the heap's pairs -/
abbrev Key := Int × Int × Int
def klt (x y : Key) : Bool := if x.1 = y.1 then (if x.2.1 = y.2.1 then decide (x.2.2 < y.2.2) else decide (x.2.1 < y.2.1)) else decide (x.1 < y.1)
abbrev tupObj (xs : Array Value) (n : Nat) : Obj := { cls := .type "tuple", data := .seq xs n }
/-- v is a three-place tuple of ints at the heap h -/
def T3 (h : Heap) (v : Value) (k : Key) : Prop := ∃ a n t1 t2 t3, v = .ref a ∧ h.get? a = some (tupObj #[.int k.1 t1, .int k.2.1 t2, .int k.2.2 t3] n)
section
variable {prog : Program} {w : World} {A : Around} {E : Value → Shared → Prop} {s : Shared}
theorem tup_lt_tree {a b : Addr} {x y : Key} {n k : Nat} {t1 t2 t3 u1 u2 u3 : Tok} {P : Fin → Shared → Prop} (ha : s.heap.get? a = some (tupObj #[.int x.1 t1, .int x.2.1 t2, .int x.2.2 t3] n))
    (hb : s.heap.get? b = some (tupObj #[.int y.1 u1, .int y.2.1 u2, .int y.2.2 u3] k)) (h : P (.done (.ret (.bool (klt x y)))) s) :
    wpAny (model prog w) A (Builtin.«tuple.__lt__» ⟨[.ref a, .ref b], []⟩) P E s := by
  show wpAny _ _ (isInstance (.ref b) (.type "tuple") >>= _) _ _ s
  refine wpAny_bind (wpAny_isInstance (T := "tuple") ⟨_, hb, rfl⟩ isSubtype_tuple_tuple ?_)
  simp only [Bool.not_true, Bool.false_eq_true, if_false]
  refine wpAny_bind (wpAny_tupleItemsOf ha rfl ?_)
  refine wpAny_bind (wpAny_tupleItemsOf hb rfl ?_)
  refine wpAny_bind ?_
  dsimp only [List.zip, List.zipWith]
  unfold klt at h
  rw [List.forIn_cons]
  refine wpAny_bind (wpAny_bind (wpAny_eqBool_int ?_))
  by_cases h1 : x.1 = y.1
  · rw [if_pos h1] at h
    rw [show (x.1 == y.1) = true from by simp [h1]]
    simp only [Bool.not_true, Bool.false_eq_true, if_false]
    refine wpAny_pure ?_
    dsimp only
    rw [List.forIn_cons]
    refine wpAny_bind (wpAny_bind (wpAny_eqBool_int ?_))
    by_cases h2 : x.2.1 = y.2.1
    · rw [if_pos h2] at h
      rw [show (x.2.1 == y.2.1) = true from by simp [h2]]
      simp only [Bool.not_true, Bool.false_eq_true, if_false]
      refine wpAny_pure ?_
      dsimp only
      rw [List.forIn_cons]
      refine wpAny_bind (wpAny_bind (wpAny_eqBool_int ?_))
      by_cases h3 : x.2.2 = y.2.2
      · rw [show (x.2.2 == y.2.2) = true from by simp [h3]]
        simp only [Bool.not_true, Bool.false_eq_true, if_false]
        refine wpAny_pure ?_
        dsimp only
        rw [List.forIn_nil]
        refine wpAny_pure ?_
        dsimp only
        rw [h3] at h
        simp only [Int.lt_irrefl, decide_false] at h
        exact wpAny_pure h
      · rw [show (x.2.2 == y.2.2) = false from by simp [h3]]
        simp only [Bool.not_false, if_true]
        exact wpAny_bind (wpAny_rule (wpAny_bind (PyProof.Rows.lt_int (wpAny_pure (wpAny_pure (wpAny_pure h))))))
    · rw [if_neg h2] at h
      rw [show (x.2.1 == y.2.1) = false from by simp [h2]]
      simp only [Bool.not_false, if_true]
      exact wpAny_bind (wpAny_rule (wpAny_bind (PyProof.Rows.lt_int (wpAny_pure (wpAny_pure (wpAny_pure h))))))
  · rw [if_neg h1] at h
    rw [show (x.1 == y.1) = false from by simp [h1]]
    simp only [Bool.not_false, if_true]
    exact wpAny_bind (wpAny_rule (wpAny_bind (PyProof.Rows.lt_int (wpAny_pure (wpAny_pure (wpAny_pure h))))))
theorem tup_lt {u v : Value} {x y : Key} {Q : Value → Shared → Prop} (hu : A.units < cLine) (ha : T3 s.heap u x) (hb : T3 s.heap v y) (h : Q (.bool (klt x y)) s) :
    wpAny (model prog w) A (compareOp .Lt u v) Q E s := by
  obtain ⟨a, n, t1, t2, t3, rfl, ha⟩ := ha
  obtain ⟨b, k, u1, u2, u3, rfl, hb⟩ := hb
  refine cmp_ofLt ?_
  exact wpAny_richCompare_same_room (op := .Lt) (T := "tuple") ⟨_, ha, rfl⟩ ⟨_, hb, rfl⟩ F.slot_tuple_lt
      (wpAny_call_entry F.slot_tuple_lt ⟨_, ha, rfl⟩ F.entry_tuple_lt (tup_lt_tree ha hb ⟨_, rfl, (fun e => nomatch e), h⟩) (F.args_tuple_lt_2 _ _)) hu
end
end Mine
end

section
open PySem PySem.W PyProof.Rows
set_option Elab.async false
namespace Mine
local macro_rules | `(tactic| omega) => `(tactic| lia)
def TIn (tl : List (Addr × Obj)) (v : Value) (k : Key) : Prop := ∃ a n t1 t2 t3, v = .ref a ∧ (a, tupObj #[.int k.1 t1, .int k.2.1 t2, .int k.2.2 t3] n) ∈ tl
theorem TIn.t3 {tl news : List (Addr × Obj)} {h₀ h : Heap} {L : Addr} {v : Value} {k : Key} (H : TIn tl v k) (N : News h₀ L h news) (hs : ∀ p ∈ tl, p ∈ news) : T3 h v k := by
  obtain ⟨a, n, t1, t2, t3, rfl, hm⟩ := H
  exact ⟨a, n, t1, t2, t3, rfl, (N _ (hs _ hm)).1⟩
theorem TIn.mono {tl tl' : List (Addr × Obj)} {v : Value} {k : Key} (H : TIn tl v k) (hs : ∀ p ∈ tl, p ∈ tl') : TIn tl' v k := by
  obtain ⟨a, n, t1, t2, t3, rfl, hm⟩ := H
  exact ⟨a, n, t1, t2, t3, rfl, hs _ hm⟩
def kltV (kf : Value → Key) (u v : Value) : Bool := klt (kf u) (kf v)
section
variable {prog : Program} {w : World} {A : Around} {E : Value → Shared → Prop} {s : Shared} {h₀ : Heap} {L D : Addr} {m : Str → Option Value} {news tl : List (Addr × Obj)} {vs : List Value} {n : Nat} {k : Int} {t u : Tok} {kf : Value → Key}
theorem l_item {value slice : PySem.Expr} {Q : Value → Shared → Prop} (N : News h₀ L s.heap news) (hm : (D, listOf vs.toArray n) ∈ news) (hT : ∀ v ∈ vs, TIn tl v (kf v)) (h0 : 0 ≤ k) (h1 : k < vs.length) (hfit : k < 2 ^ 63)
    (h : ∀ a, vs[k.toNat]? = some (.ref a) → TIn tl (.ref a) (kf (.ref a)) → Q (.ref a) s)
    (hs : subscripted slice false (.ref D) (.int k u) = operate [.ref D, .int k u] (getItem (.ref D) (.int k u)) := by with_unfolding_all rfl)
    (hg : ∀ r, letTemporaryGo value (.ref D) r = pure () := by intro _; with_unfolding_all rfl) :
    wpAny (model prog w) A (subscriptTail value slice (.ref D) (.int k u)) Q E s := by
  have hlt : k.toNat < vs.length := by omega
  have hx : vs[k.toNat]? = some vs[k.toNat] := by simp [hlt]
  have hv := hT vs[k.toNat] (List.getElem_mem hlt)
  obtain ⟨a, n', t1, t2, t3, e, hm'⟩ := id hv
  rw [e] at hx hv
  exact item_listL ⟨_, (N _ hm).1, rfl, n, rfl⟩ h0 hfit hx (h a hx hv) hs hg
theorem l_set {v : Value} {Q : Unit → Shared → Prop} (F : Fr h₀ L s.heap m) (N : News h₀ L s.heap ((D, listOf vs.toArray n) :: tl)) (hoff : ∀ p ∈ tl, p.1 ≠ D) (h0 : 0 ≤ k) (h1 : k < vs.length) (hfit : k < 2 ^ 63)
    (h : ∀ h', Fr h₀ L h' m → News h₀ L h' ((D, listOf (vs.set k.toNat v).toArray n) :: tl) → Q () { s with heap := h' }) :
    wpAny (model prog w) A (setItem (.ref D) (.int k t) v) Q E s := by
  have z := N (D, listOf vs.toArray n) (.head _)
  have hs : vs.toArray.size = vs.length := by simp
  refine ki_setAt z.1 h0 hfit (by omega) (h _ (F.change (Heap.SameBut.update ..) z.2.1 z.2.2) (ki_turn (pre := []) _ N (fun _ h => (nomatch h)) hoff ?_ ?_))
  · apply Array.toList_inj.mp
    simp
  · simp
theorem l_len {Q : Value → Shared → Prop} (N : News h₀ L s.heap news) (hm : (D, listOf vs.toArray n) ∈ news) (hfit : vs.length < 2 ^ 62)
    (h : ∀ t tk', Q (.int (vs.length : Int) t) { s with toks := tk' }) : wpAny (model prog w) A (call (.builtin "len") [.ref D]) Q E s :=
  len_list ⟨_, (N _ hm).1, rfl, n, rfl⟩ (by simp only [List.size_toArray]; omega) (by simpa using h _ _)
theorem l_pop {y : Value} {Q : Value → Shared → Prop} (F : Fr h₀ L s.heap m) (N : News h₀ L s.heap ((D, listOf (vs ++ [y]).toArray n) :: tl)) (hoff : ∀ p ∈ tl, p.1 ≠ D) (hz : vs.length < 1000)
    (h : ∀ h', Fr h₀ L h' m → News h₀ L h' ((D, listOf vs.toArray (n + 1)) :: tl) → Q y { s with heap := h' }) : wpAny (model prog w) A (call (.builtin "list.pop") [.ref D]) Q E s :=
  kl_pop F N (p := vs) (y := y) (kpa_last y vs) (.head hoff) (by rw [PySem.sizeLine_eq]; simp only [List.length_append, List.length_cons, List.length_nil]; omega) h
theorem l_truth {Q : Bool → Shared → Prop} (N : News h₀ L s.heap news) (hm : (D, listOf vs.toArray n) ∈ news) (hz : vs.length < 1000) (h : ∀ tk, Q (decide (vs ≠ [])) { s with toks := tk }) :
    wpAny (model prog w) A (truthy (.ref D)) Q E s := by
  refine wpAny_truthy_list ⟨_, (N _ hm).1, rfl, n, rfl⟩ (by simp only [List.size_toArray]; omega) ?_
  have e : decide (vs ≠ []) = !vs.toArray.isEmpty := by cases vs <;> simp
  rw [← e]
  exact h _
end
end Mine
end

section
open PySem PySem.W PyProof.Rows
set_option Elab.async false
namespace Mine
local macro_rules | `(tactic| omega) => `(tactic| lia)
section
variable {prog : Program} {w : World} {A : Around} {E : Value → Shared → Prop} {Q : Flow → Shared → Prop} {s : Shared} {env : Env} {h₀ : Heap} {L : Addr} {x : Str} {body : List Stmt}
/-- a turn's end of a for: the state handed on -/
def FEnd {σ : Type} (h₀ : Heap) (L : Addr) (Led : σ → List (Addr × Obj)) (ps : σ → List (Str × Value)) (Inv : σ → Prop) (x : Str) (stored : List Str) (m₀ : Str → Option Value) (wr : List Addr) (own : List (Addr × Obj)) (s₁ s₂ : Shared) : Prop :=
  ∃ (c : σ) (h' : Heap) (tk : Nat) (m' : Str → Option Value) (news' : List (Addr × Obj)), s₂ = { s₁ with heap := h', toks := tk } ∧ Fr h₀ L h' m' ∧ News h₀ L h' news' ∧ (∀ p ∈ Led c, p ∈ news') ∧ (∀ p ∈ own, p ∈ news') ∧ (∀ p ∈ Led c, p.1 ∉ wr) ∧
    (∀ p ∈ ps c, m' p.1 = some p.2) ∧ (∀ z, z ≠ x → (∀ p ∈ ps c, z ≠ p.1) → stored.contains z = false → m' z = m₀ z) ∧ Inv c
def FPost {σ : Type} (h₀ : Heap) (L : Addr) (Led : σ → List (Addr × Obj)) (ps : σ → List (Str × Value)) (Inv : σ → Prop) (x : Str) (stored : List Str) (m₀ : Str → Option Value) (wr : List Addr) (own : List (Addr × Obj)) (s₁ : Shared) (Q : Flow → Shared → Prop) (f : Flow) (s₂ : Shared) : Prop :=
  match f with
  | .ret v => Q (.ret v) s₂
  | .brk => Q .next s₂
  | _ => FEnd h₀ L Led ps Inv x stored m₀ wr own s₁ s₂
theorem FPost.next {σ : Type} {Led : σ → List (Addr × Obj)} {ps : σ → List (Str × Value)} {Inv : σ → Prop} {stored : List Str} {m₀ : Str → Option Value} {wr : List Addr} {own : List (Addr × Obj)} {s₁ s₂ : Shared} (h : FEnd h₀ L Led ps Inv x stored m₀ wr own s₁ s₂) :
    FPost h₀ L Led ps Inv x stored m₀ wr own s₁ Q .next s₂ := h
theorem FPost.cont {σ : Type} {Led : σ → List (Addr × Obj)} {ps : σ → List (Str × Value)} {Inv : σ → Prop} {stored : List Str} {m₀ : Str → Option Value} {wr : List Addr} {own : List (Addr × Obj)} {s₁ s₂ : Shared} (h : FEnd h₀ L Led ps Inv x stored m₀ wr own s₁ s₂) :
    FPost h₀ L Led ps Inv x stored m₀ wr own s₁ Q .cont s₂ := h
theorem FPost.brk {σ : Type} {Led : σ → List (Addr × Obj)} {ps : σ → List (Str × Value)} {Inv : σ → Prop} {stored : List Str} {m₀ : Str → Option Value} {wr : List Addr} {own : List (Addr × Obj)} {s₁ s₂ : Shared} (h : Q .next s₂) :
    FPost h₀ L Led ps Inv x stored m₀ wr own s₁ Q .brk s₂ := h
theorem FPost.ret {σ : Type} {Led : σ → List (Addr × Obj)} {ps : σ → List (Str × Value)} {Inv : σ → Prop} {stored : List Str} {m₀ : Str → Option Value} {wr : List Addr} {own : List (Addr × Obj)} {s₁ s₂ : Shared} {v : Value} (h : Q (.ret v) s₂) :
    FPost h₀ L Led ps Inv x stored m₀ wr own s₁ Q (.ret v) s₂ := h
theorem f_end {σ : Type} {Led : σ → List (Addr × Obj)} {ps : σ → List (Str × Value)} {Inv : σ → Prop} {stored : List Str} {m₀ m' : Str → Option Value} {wr : List Addr} {own news' : List (Addr × Obj)} {s₁ : Shared} {h' : Heap} {tk : Nat} (c : σ)
    (F : Fr h₀ L h' m') (N : News h₀ L h' news') (hn : ∀ p ∈ Led c, p ∈ news') (ho : ∀ p ∈ own, p ∈ news') (hw : ∀ p ∈ Led c, p.1 ∉ wr) (hk : ∀ p ∈ ps c, m' p.1 = some p.2)
    (hr : ∀ z, z ≠ x → (∀ p ∈ ps c, z ≠ p.1) → stored.contains z = false → m' z = m₀ z) (hI : Inv c) : FEnd h₀ L Led ps Inv x stored m₀ wr own s₁ { s₁ with heap := h', toks := tk } :=
  ⟨c, h', tk, m', news', rfl, F, N, hn, ho, hw, hk, hr, hI⟩
theorem loop_at {σ : Type} {I : Addr} {fp wr : List Addr} {n : Nat} {P : Nat → Value → Prop} {St : Nat → Heap → Prop} {m₀ : Str → Option Value}
    (W : Walks prog w A I fp wr n P St) (Led : σ → List (Addr × Obj)) (ps : σ → List (Str × Value)) (Inv : Nat → σ → Prop) (stored : List Str) (c₀ : σ)
    (hLf : env.locals ∉ fp) (hwr : ∀ b ∈ wr, h₀.get? b = none) (hst : St 0 s.heap) (F : Fr h₀ env.locals s.heap m₀) (N : News h₀ env.locals s.heap (Led c₀)) (hnw : ∀ p ∈ Led c₀, p.1 ∉ wr) (hI : Inv 0 c₀) (hk : ∀ p ∈ ps c₀, m₀ p.1 = some p.2)
    (turn : ∀ i v (c : σ) (u : Str → Option Value) h tk own, i < n → P i v → (∀ p ∈ own, p.1 ∈ fp) → (∀ b ∈ fp, h₀.get? b = none → ∀ o, h.get? b = some o → (b, o) ∈ own) → St (i + 1) h → (∀ p ∈ Led c, p.1 ∉ wr) → Inv i c →
      Fr h₀ env.locals h (fun y => if y = x then some v else kstB (fun z => if stored.contains z then u z else m₀ z) (ps c) y) → News h₀ env.locals h (Led c ++ own) →
      wpAny (model prog w) A (execs body env) (FPost h₀ env.locals Led ps (Inv (i + 1)) x stored m₀ wr own { s with heap := h, toks := tk } Q) E { s with heap := h, toks := tk })
    (done : ∀ (c : σ) (u : Str → Option Value) h tk, Inv n c → Fr h₀ env.locals h (fun y => if y = x then u y else kstB (fun z => if stored.contains z then u z else m₀ z) (ps c) y) → News h₀ env.locals h (Led c) → Q .next { s with heap := h, toks := tk }) :
    LoopAtV prog w A h₀ env x body Q E (.ref I) s := by
  refine ⟨I, fp, wr, n, P, St, m₀, Led c₀, fun i m nx => ∃ c : σ, nx = Led c ∧ (∀ p ∈ ps c, m p.1 = some p.2) ∧ (∀ z, z ≠ x → (∀ p ∈ ps c, z ≠ p.1) → stored.contains z = false → m z = m₀ z) ∧ Inv i c, rfl, W, hLf, hwr, hnw, hst, F, N, ⟨c₀, rfl, hk, fun _ _ _ _ => rfl, hI⟩, ?_, ?_⟩
  · rintro i v m₁ nx s₁ own ⟨h, tk, rfl⟩ hi hP ⟨c, rfl, h1, h2, hI'⟩ hoff hown _ hall hst' F₁ N₁
    have N₂ : News h₀ env.locals h (Led c ++ own) := fun p hp => N₁ p ((List.mem_append.mp hp).elim (fun h => List.mem_append.mpr (.inr h)) fun h => List.mem_append.mpr (.inl h))
    refine wpAny_mono (turn i v c m₁ h tk own hi hP hown hall hst' hoff hI' (kst_fr h1 h2 F₁) N₂) (fun f s₂ p => ?_) fun _ _ e => e
    have fin : FEnd h₀ env.locals Led ps (Inv (i + 1)) x stored m₀ wr own { s with heap := h, toks := tk } s₂ → LoopStepU h₀ env.locals wr own (fun m nx => ∃ c : σ, nx = Led c ∧ (∀ p ∈ ps c, m p.1 = some p.2) ∧ (∀ z, z ≠ x → (∀ p ∈ ps c, z ≠ p.1) → stored.contains z = false → m z = m₀ z) ∧ Inv (i + 1) c) { s with heap := h, toks := tk } .next s₂ := by
      rintro ⟨c', h', tk', m', news', e, F', N', hn, ho, hw, hk', hr', hI''⟩
      refine ⟨rfl, h', tk', m', Led c', e, F', fun p hp => ?_, hw, c', rfl, hk', hr', hI''⟩
      rcases List.mem_append.mp hp with hp | hp
      · exact N' p (ho p hp)
      · exact N' p (hn p hp)
    cases f with
    | ret v => exact .ret p
    | brk => exact .brk p
    | next => exact .next (fin p)
    | cont => exact .cont (fin p)
  · rintro h' tk m' nx F' N' _ ⟨c, rfl, h1, h2, hI'⟩
    exact done c m' h' tk hI' (kst_frOut h1 h2 F') N'
theorem for_inv {px pos : Pos} {iter : Expr} {m : Str → Option Value} (_F : Fr h₀ env.locals s.heap m) (hx : env.kindOf x = some .local)
    (hp : (env.scope.kind == .class || (env.scope.kind == .module && env.locals != env.globals)) = false)
    (hs : ∀ x, foldedSetIterable iter env x = pure x) (hE : PassesOwn (model prog w) A env E)
    (h : wpAny (model prog w) A (eval iter env) (fun xv s₁ => wpAny (model prog w) A (pyIter xv) (fun it s₂ => LoopAtV prog w A h₀ env x body Q E it s₂) E s₁) E s) :
    wpAny (model prog w) A (exec (.For (.Name x px) iter body [] pos) env) Q E s := For_invV h₀ hx hp h hs hE
end
end Mine
end

section
open PySem PySem.W PyProof.Rows PySem.Calls
set_option Elab.async false
set_option maxRecDepth 100000
namespace Mine
local macro_rules | `(tactic| omega) => `(tactic| lia)
section
variable {prog : Program} {w : World} {A : Around} {E : Value → Shared → Prop} {s : Shared}
theorem call_range_rev {r : Addr} {b : Int} {t u v : Tok} {Q : Value → Shared → Prop} (hr : IsRange s.heap r 0 b 1 t u v) (h0 : 0 ≤ b) (h1 : b < 1000)
    (h : Q (.ref s.heap.objs.size) { s with heap := s.heap.push { cls := .type "range_iterator", data := .fields #[rawInt (b - 1), rawInt b, rawInt (-1)] } }) :
    wpAny (model prog w) A (call (.builtin "range.__reversed__") [.ref r]) Q E s := by
  have hT : s.TypeIs (.ref r) "range" := ⟨_, hr, rfl⟩
  have hsz : Builtin.Range.rangeSize 0 b 1 = b := by
    unfold Builtin.Range.rangeSize
    simp only [show (1 : Int) > 0 from by omega, if_true]
    split <;> omega
  have hsm : (Builtin.Range.rangeFitsLong 0 && Builtin.Range.rangeFitsLong b && Builtin.Range.rangeFitsLong 1 && Builtin.Range.rangeFitsLong (-1) && Builtin.Range.rangeFitsLong (0 - 1) && Builtin.Range.rangeFitsLong b) = true := by
    have e : Builtin.Range.rangeFitsLong b = true := by unfold Builtin.Range.rangeFitsLong; simp; omega
    rw [e]; decide
  refine wpAny_call_entry F.slot_range_reversed hT F.entry_range_reversed ?_ (F.args_range_reversed_1 _)
  unfold Builtin.«range.__reversed__»
  refine wpAny_bind (wpAny_of_eq (a := Value.ref r) rfl ?_)
  refine wpAny_bind (m := Builtin.Range.rangeFields (Value.ref r)) ?_
  unfold Builtin.Range.rangeFields
  refine wpAny_bind (wpAny_field hr rfl (x := .int 0 t) rfl ?_)
  refine wpAny_bind (wpAny_of_eq (a := some 0) rfl ?_)
  refine wpAny_bind (wpAny_field hr rfl (x := .int b u) rfl ?_)
  refine wpAny_bind (wpAny_of_eq (a := some b) rfl ?_)
  refine wpAny_bind (wpAny_field hr rfl (x := .int 1 v) rfl ?_)
  refine wpAny_bind (wpAny_of_eq (a := some 1) rfl ?_)
  refine wpAny_pure ?_
  dsimp only
  rw [hsz, hsm]
  simp only [Bool.not_true, Bool.false_eq_true, if_false, if_true]
  have e : (0 : Int) + (b - 1) * 1 = b - 1 := by omega
  rw [e]
  exact wpAny_bind (wpAny_newObj_type (wpAny_pure ⟨_, rfl, h⟩))
theorem sub_ri_reversed : isSubtype (.type "range_iterator") (.type "reversed") = pure false := by rw [isSubtype_type]; kernel_rfl
theorem code_reversed_range {r : Addr} {b : Int} {t u v : Tok} {Q₁ : Value → Shared → Prop} (hr : IsRange s.heap r 0 b 1 t u v) (h0 : 0 ≤ b) (h1 : b < 1000)
    (h : Q₁ (.ref s.heap.objs.size) { s with heap := s.heap.push { cls := .type "range_iterator", data := .fields #[rawInt (b - 1), rawInt b, rawInt (-1)] } }) :
    codeAny (model prog w) A (.call (.builtin "reversed.__new__") ⟨[.type "reversed", .ref r], []⟩) (wants Q₁ E) s := by
  have hT : s.TypeIs (.ref r) "range" := ⟨_, hr, rfl⟩
  refine codeAny_of_tree ?_
  show wpAny _ A.in1 (do checkBuiltinCall "reversed.__new__" ⟨[.type "reversed", .ref r], []⟩; again (.builtin "reversed.__new__" ⟨[.type "reversed", .ref r], []⟩)) _ _ s
  refine wpAny_bind (wpAny_of_eq (F.newCall_reversed_1 _) (wpAny_pure ⟨plainId_quiet F.plain_reversed_new _, codeAny_builtin F.entry_reversed_new ?_⟩))
  rw [Around.under_plainId F.plain_reversed_new _]
  unfold Builtin.«reversed.__new__»
  refine wpAny_bind (wpAny_of_eq (newClass_reversed _) ?_)
  refine wpAny_bind (wpAny_of_eq (a := ()) (by first | rfl | kernel_rfl) ?_)
  refine wpAny_bind (wpAny_of_eq (a := ()) (by first | rfl | kernel_rfl) ?_)
  refine wpAny_bind (wpAny_specialOf hT F.slot_range_reversed.lookup ?_)
  refine wpAny_bind (wpAny_of_eq (F.slot_range_reversed.bind _) ?_)
  show wpAny _ _ (if (Value.builtin "range.__reversed__" == Value.none) = true then _ else _) _ _ _
  rw [if_neg (show ¬ ((Value.builtin "range.__reversed__" == Value.none) = true) from Bool.false_ne_true)]
  refine wpAny_bind (wpAny_rule ?_)
  refine wpAny_bind (m := runValue (.call (.builtin "range.__reversed__") ⟨[.ref r], []⟩)) (show wpAny _ _ (call (.builtin "range.__reversed__") [.ref r]) _ _ _ from call_range_rev hr h0 h1 ?_)
  first
  | exact wpAny_pure h
  | exact wpAny_bind (wpAny_pure (wpAny_pure h))
theorem call_reversed_range {r : Addr} {b : Int} {t u v : Tok} {Q : Value → Shared → Prop} (hr : IsRange s.heap r 0 b 1 t u v) (h0 : 0 ≤ b) (h1 : b < 1000)
    (h : Q (.ref s.heap.objs.size) { s with heap := s.heap.push { cls := .type "range_iterator", data := .fields #[rawInt (b - 1), rawInt b, rawInt (-1)] } }) :
    wpAny (model prog w) A (call (.type "reversed") [.ref r]) Q E s := by
  refine callType_other (U := "range_iterator") (Q₁ := fun obj s₁ => obj = .ref s.heap.objs.size ∧ s₁ = { s with heap := s.heap.push { cls := .type "range_iterator", data := .fields #[rawInt (b - 1), rawInt b, rawInt (-1)] } }) (by decide +kernel) F.create_reversed ⟨_, _, F.mro_reversed⟩ F.made_reversed sub_ri_reversed (F.typeCall_reversed_1 _) (code_reversed_range hr h0 h1 ⟨rfl, rfl⟩) ?_
  rintro obj s₁ ⟨rfl, rfl⟩
  exact ⟨⟨_, Heap.get?_push_size _ rfl, rfl⟩, h⟩
theorem rev_loop {env : Env} {h₀ : Heap} {x : Str} {body : List Stmt} {Q : Flow → Shared → Prop} {σ : Type} {r : Addr} {t u v : Tok} {n : Nat} {m₀ : Str → Option Value} {news : List (Addr × Obj)}
    (Led : σ → List (Addr × Obj)) (ps : σ → List (Str × Value)) (Inv : Nat → σ → Prop) (stored : List Str) (c₀ : σ)
    (hh : A.handled = none) (hr : IsRange s.heap r 0 (n : Int) 1 t u v) (h1 : n < 1000) (F : Fr h₀ env.locals s.heap m₀) (N : News h₀ env.locals s.heap news) (hN : ∀ p ∈ Led c₀, p ∈ news) (hI : Inv 0 c₀) (hk : ∀ p ∈ ps c₀, m₀ p.1 = some p.2)
    (turn : ∀ i tv (c : σ) (u : Str → Option Value) h tk I own, i < n → (∀ p ∈ news, p.1 < I) → (∀ p ∈ own, p.1 = I) → (∃ o, (I, o) ∈ own) → (∀ p ∈ Led c, p.1 ≠ I) → Inv i c →
      Fr h₀ env.locals h (fun y => if y = x then some (.int ((n : Int) - 1 - (i : Int)) tv) else kstB (fun z => if stored.contains z then u z else m₀ z) (ps c) y) → News h₀ env.locals h (Led c ++ own) →
      wpAny (model prog w) A (execs body env) (FPost h₀ env.locals Led ps (Inv (i + 1)) x stored m₀ [I] own { s with heap := h, toks := tk } Q) E { s with heap := h, toks := tk })
    (done : ∀ (c : σ) (u : Str → Option Value) h tk, Inv n c → Fr h₀ env.locals h (fun y => if y = x then u y else kstB (fun z => if stored.contains z then u z else m₀ z) (ps c) y) → News h₀ env.locals h (Led c) → Q .next { s with heap := h, toks := tk }) :
    wpAny (model prog w) A (call (.type "reversed") [.ref r]) (fun xv s₁ => wpAny (model prog w) A (pyIter xv) (fun it s₂ => LoopAtV prog w A h₀ env x body Q E it s₂) E s₁) E s := by
  refine call_reversed_range hr (by omega) (by omega) ?_
  have hit : IsRangeIter (s.heap.push { cls := .type "range_iterator", data := .fields #[rawInt ((n : Int) - 1), rawInt (n : Int), rawInt (-1)] }) s.heap.objs.size ((n : Int) - 1) (n : Int) (-1) := Heap.get?_push_size _ rfl
  refine wpAny_pyIter_rangeiter hit ?_
  have hlt : ∀ p ∈ news, p.1 < s.heap.objs.size := fun p hp => Heap.lt_size (N p hp).1
  refine loop_at (I := s.heap.objs.size) (Walks.range hh s.heap.objs.size ((n : Int) - 1) (-1) n) Led ps Inv stored c₀ ?_ ?_ ?_ (F.push _) (fun p hp => ⟨Heap.get?_push_of_some _ (N p (hN p hp)).1, (N p (hN p hp)).2⟩) ?_ hI hk ?_ ?_
  · intro hm
    exact absurd F.ns.lt ((List.mem_singleton.mp hm) ▸ Nat.lt_irrefl _)
  · intro b hb
    rw [List.mem_singleton.mp hb]
    exact next_is_new F
  · simpa using hit
  · intro p hp hI
    exact absurd (hlt p (hN p hp)) ((List.mem_singleton.mp hI) ▸ Nat.lt_irrefl _)
  · rintro i v' c u' h tk own hi ⟨tv, rfl⟩ hown hall hst' hoff hI' F' N'
    have e : (n : Int) - 1 + (i : Int) * (-1) = (n : Int) - 1 - (i : Int) := by omega
    rw [e] at F'
    exact turn i tv c u' h tk _ own hi hlt (fun p hp => List.mem_singleton.mp (hown p hp)) ⟨_, hall _ (List.mem_singleton.mpr rfl) (next_is_new F) _ hst'⟩ (fun p hp q => hoff p hp (List.mem_singleton.mpr q)) hI' F' N'
  · intro c u' h tk hI' F' N'
    exact done c u' h tk hI' F' N'
theorem str_loop {env : Env} {h₀ : Heap} {x : Str} {body : List Stmt} {Q : Flow → Shared → Prop} {σ : Type} {xt : Str} {tx : Tok} {m₀ : Str → Option Value} {news : List (Addr × Obj)}
    (Led : σ → List (Addr × Obj)) (ps : σ → List (Str × Value)) (Inv : Nat → σ → Prop) (stored : List Str) (c₀ : σ)
    (hh : A.handled = none) (F : Fr h₀ env.locals s.heap m₀) (N : News h₀ env.locals s.heap news) (hN : ∀ p ∈ Led c₀, p ∈ news) (hI : Inv 0 c₀) (hk : ∀ p ∈ ps c₀, m₀ p.1 = some p.2)
    (turn : ∀ i d tv (c : σ) (u : Str → Option Value) h tk I own, xt.cps[i]? = some d → (∀ p ∈ news, p.1 < I) → (∀ p ∈ own, p.1 = I) → (∃ o, (I, o) ∈ own) → (∀ p ∈ Led c, p.1 ≠ I) → Inv i c →
      Fr h₀ env.locals h (fun y => if y = x then some (.str (⟨#[d]⟩ : Str) tv) else kstB (fun z => if stored.contains z then u z else m₀ z) (ps c) y) → News h₀ env.locals h (Led c ++ own) →
      wpAny (model prog w) A (execs body env) (FPost h₀ env.locals Led ps (Inv (i + 1)) x stored m₀ [I] own { s with heap := h, toks := tk } Q) E { s with heap := h, toks := tk })
    (done : ∀ (c : σ) (u : Str → Option Value) h tk, Inv xt.cps.size c → Fr h₀ env.locals h (fun y => if y = x then u y else kstB (fun z => if stored.contains z then u z else m₀ z) (ps c) y) → News h₀ env.locals h (Led c) → Q .next { s with heap := h, toks := tk }) :
    wpAny (model prog w) A (pyIter (.str xt tx)) (fun it s₂ => LoopAtV prog w A h₀ env x body Q E it s₂) E s := by
  have hlt : ∀ p ∈ news, p.1 < s.heap.objs.size := fun p hp => Heap.lt_size (N p hp).1
  have fin : ∀ (o : Obj) (St : Nat → Heap → Prop), (∀ i h, St i h → ∃ o, h.get? s.heap.objs.size = some o) → Walks prog w A s.heap.objs.size [s.heap.objs.size] [s.heap.objs.size] xt.cps.size (SignAt xt) St → St 0 (s.heap.push o) →
      LoopAtV prog w A h₀ env x body Q E (.ref s.heap.objs.size) { s with heap := s.heap.push o } := by
    intro o St hob W hst
    refine loop_at (I := s.heap.objs.size) W Led ps Inv stored c₀ ?_ ?_ hst (F.push _) (fun p hp => ⟨Heap.get?_push_of_some _ (N p (hN p hp)).1, (N p (hN p hp)).2⟩) ?_ hI hk ?_ ?_
    · intro hm
      exact absurd F.ns.lt ((List.mem_singleton.mp hm) ▸ Nat.lt_irrefl _)
    · intro b hb
      rw [List.mem_singleton.mp hb]
      exact next_is_new F
    · intro p hp hI
      exact absurd (hlt p (hN p hp)) ((List.mem_singleton.mp hI) ▸ Nat.lt_irrefl _)
    · rintro i v' c u' h tk own hi ⟨d, tv, hd, rfl⟩ hown hall hst' hoff hI' F' N'
      obtain ⟨ob, hb⟩ := hob _ _ hst'
      exact turn i d tv c u' h tk _ own hd hlt (fun p hp => List.mem_singleton.mp (hown p hp)) ⟨ob, hall _ (List.mem_singleton.mpr rfl) (next_is_new F) _ hb⟩ (fun p hp q => hoff p hp (List.mem_singleton.mpr q)) hI' F' N'
    · intro c u' h tk hI' F' N'
      exact done c u' h tk hI' F' N'
  cases ha : xt.cps.all (· < 128)
  · exact wpAny_pyIter_wide ha (fin _ _ (fun i h st => ⟨_, st.choose_spec.1⟩) (Walks.strWide hh _ xt tx) ⟨_, Heap.get?_push_size _ rfl, rfl, rfl⟩)
  · exact wpAny_pyIter_ascii ha (fin _ _ (fun i h st => ⟨_, st.choose_spec.1⟩) (Walks.strAscii hh _ xt tx) ⟨_, Heap.get?_push_size _ rfl, rfl, rfl⟩)
theorem range_loop {env : Env} {h₀ : Heap} {x : Str} {body : List Stmt} {Q : Flow → Shared → Prop} {σ : Type} {r : Addr} {t u v : Tok} {n : Nat} {m₀ : Str → Option Value} {news : List (Addr × Obj)}
    (Led : σ → List (Addr × Obj)) (ps : σ → List (Str × Value)) (Inv : Nat → σ → Prop) (stored : List Str) (c₀ : σ)
    (hh : A.handled = none) (hr : IsRange s.heap r 0 (n : Int) 1 t u v) (h1 : n < 1000) (F : Fr h₀ env.locals s.heap m₀) (N : News h₀ env.locals s.heap news) (hN : ∀ p ∈ Led c₀, p ∈ news) (hI : Inv 0 c₀) (hk : ∀ p ∈ ps c₀, m₀ p.1 = some p.2)
    (turn : ∀ i tv (c : σ) (u : Str → Option Value) h tk I own, i < n → (∀ p ∈ news, p.1 < I) → (∀ p ∈ own, p.1 = I) → (∃ o, (I, o) ∈ own) → (∀ p ∈ Led c, p.1 ≠ I) → Inv i c →
      Fr h₀ env.locals h (fun y => if y = x then some (.int (i : Int) tv) else kstB (fun z => if stored.contains z then u z else m₀ z) (ps c) y) → News h₀ env.locals h (Led c ++ own) →
      wpAny (model prog w) A (execs body env) (FPost h₀ env.locals Led ps (Inv (i + 1)) x stored m₀ [I] own { s with heap := h, toks := tk } Q) E { s with heap := h, toks := tk })
    (done : ∀ (c : σ) (u : Str → Option Value) h tk, Inv n c → Fr h₀ env.locals h (fun y => if y = x then u y else kstB (fun z => if stored.contains z then u z else m₀ z) (ps c) y) → News h₀ env.locals h (Led c) → Q .next { s with heap := h, toks := tk }) :
    wpAny (model prog w) A (pyIter (.ref r)) (fun it s₂ => LoopAtV prog w A h₀ env x body Q E it s₂) E s := by
  have hsz : Builtin.Range.rangeSize 0 (n : Int) 1 = (n : Int) := by
    unfold Builtin.Range.rangeSize
    simp only [show (1 : Int) > 0 from by omega, if_true]
    split <;> omega
  have hsmall : Builtin.Range.small 0 (n : Int) 1 = true := by
    have e : ∀ k : Int, 0 ≤ k → k ≤ 1000 → Builtin.Range.rangeFitsLong k = true := fun k a b => by unfold Builtin.Range.rangeFitsLong; simp; omega
    unfold Builtin.Range.small
    rw [hsz, e _ (by omega) (by omega), e n (by omega) (by omega), e _ (by omega) (by omega)]
    simp only [show (1 : Int) > 0 from by omega, if_true]
    rw [e _ (by omega) (by omega)]
    simp
  refine wpAny_pyIter_range hr hsmall ?_
  rw [hsz]
  have hit : IsRangeIter (s.heap.push { cls := .type "range_iterator", data := .fields #[rawInt 0, rawInt (n : Int), rawInt 1] }) s.heap.objs.size 0 (n : Int) 1 := Heap.get?_push_size _ rfl
  have hlt : ∀ p ∈ news, p.1 < s.heap.objs.size := fun p hp => Heap.lt_size (N p hp).1
  refine loop_at (I := s.heap.objs.size) (Walks.range hh s.heap.objs.size 0 1 n) Led ps Inv stored c₀ ?_ ?_ ?_ (F.push _) (fun p hp => ⟨Heap.get?_push_of_some _ (N p (hN p hp)).1, (N p (hN p hp)).2⟩) ?_ hI hk ?_ ?_
  · intro hm
    exact absurd F.ns.lt ((List.mem_singleton.mp hm) ▸ Nat.lt_irrefl _)
  · intro b hb
    rw [List.mem_singleton.mp hb]
    exact next_is_new F
  · simpa using hit
  · intro p hp hI
    exact absurd (hlt p (hN p hp)) ((List.mem_singleton.mp hI) ▸ Nat.lt_irrefl _)
  · rintro i v' c u' h tk own hi ⟨tv, rfl⟩ hown hall hst' hoff hI' F' N'
    have e : (0 : Int) + (i : Int) * 1 = (i : Int) := by omega
    rw [e] at F'
    exact turn i tv c u' h tk _ own hi hlt (fun p hp => List.mem_singleton.mp (hown p hp)) ⟨_, hall _ (List.mem_singleton.mpr rfl) (next_is_new F) _ hst'⟩ (fun p hp q => hoff p hp (List.mem_singleton.mpr q)) hI' F' N'
  · intro c u' h tk hI' F' N'
    exact done c u' h tk hI' F' N'
end
end Mine
end

section
open PySem PySem.W PyProof.Rows
set_option Elab.async false
set_option pp.deepTerms false
set_option pp.maxSteps 3000
set_option pp.proofs false
set_option linter.unusedVariables false
set_option maxRecDepth 100000
set_option maxHeartbeats 8000000
namespace Mine
local macro_rules | `(tactic| omega) => `(tactic| lia)
local macro_rules | `(tactic| ktr_unf) => `(tactic| repeat' ((fail_if_success (with_reducible show wpAny _ _ (exec (Stmt.While _ _ _ _) _) _ _ _)); (fail_if_success (with_reducible show wpAny _ _ (call (Value.ref _) _ _) _ _ _)); (fail_if_success (with_reducible show KswEnd _ _ _ _ _ _ _ _ _ _ _ _)); (fail_if_success (with_reducible show wpAny _ _ (exec (Stmt.For _ _ _ _ _) _) _ _ _)); (first | (k_unfold; (try dsimp only)) | walk1 | (dsimp only; walk1) | (leave1; (try dsimp only)))))
theorem c_siftdown {w : World} {mean : ExcName → Option Value} {mg mb : Str → Option Value} {dp un : Nat} {gd : Option (List Code)} {cn : Str} {cs : Scope} {a : Addr} {ccd : Value} {cl : List (Str × Addr)} {outer : List Env} {A₀ : Around} {base h₀ : Heap} {L : Addr} {m : Str → Option Value} {s : Shared} {Q E : Value → Shared → Prop} {kf : Value → Key} {tl : List (Addr × Obj)} {l : Addr} {vs : List Value} {n : Nat} {start pos₀ : Nat} {t1 t2 : Tok} (hB : Below A₀ base outer h₀) (hF : Fr h₀ L s.heap m) (hX : (Mine.hd.heap_39 w.params).In h₀) (hTop : Top vw (looseW vw []) mean mg mb h₀) (hck : cs.kind = .function)
    (hN : News h₀ L s.heap ((l, listOf vs.toArray n) :: tl)) (hoff : ∀ p ∈ tl, p.1 ≠ l) (hT : ∀ v ∈ vs, TIn tl v (kf v)) (hpos : pos₀ < vs.length) (hlen : vs.length < 1000) (hdp : dp + 1 < recursionLimit) (hun : un + 8 < cLine)
    (hret : ∀ h' tk', Fr h₀ L h' m → News h₀ L h' ((l, listOf (sdLoop (kltV kf) .none (vs.getD pos₀ .none) start pos₀ vs).toArray n) :: tl) → Q .none { s with heap := h', toks := tk' }) :
    wpAny (model PySem.Challenge.rw_ny0144_01.row.prog w) (ktrTop dp un gd cn cs L a ccd cl outer) (call (.ref 42) [.ref l, .int start t1, .int pos₀ t2]) Q E s := by
  revert hX; k_fill; intro hX
  refine wpAny_call ?_
  k_dflt cell_enter
  ktr_unf
  refine l_item (by assumption) (.head _) hT (by omega) (by omega) (by omega) ?_
  intro x hx hxT
  ktr_unf
  rename Fr _ _ _ _ => F1
  rename News _ _ _ _ => N1
  refine ksw_while (σ := Int × Tok × List Value) (fun c => (l, listOf c.2.2.toArray n) :: tl) (fun c => [(Str.ofString "pos", .int c.1 c.2.1)])
    (fun c => 0 ≤ c.1 ∧ c.1 < c.2.2.length ∧ c.2.2.length = vs.length ∧ (∀ v ∈ c.2.2, TIn tl v (kf v))) [Str.ofString "parentpos", Str.ofString "parent"]
    (fun c => sdLoop (kltV kf) .none (.ref x) start c.1.toNat c.2.2 = sdLoop (kltV kf) .none (.ref x) start pos₀ vs) (fun c => c.1.toNat) ((pos₀ : Int), t2, vs) F1 N1 ⟨by show (0 : Int) ≤ (pos₀ : Int); omega, by show (pos₀ : Int) < (vs.length : Int); omega, rfl, hT⟩ (by kst_all) (by simp) ?_ (by passes_own)
  clear F1 N1
  rintro ⟨pos, tp, us⟩ u h tk ⟨f0, f1, f2, f3⟩ hP F1 N1
  dsimp only at f0 f1 f2 f3 hP N1
  dsimp only [kstB] at F1
  dsimp only
  ktr_unf
  · (rename ((start : Int) < (pos : Int)) => hgt)
    have hgt' : start < pos.toNat := by omega
    have e1 : (pos - 1).fdiv (2 ^ Int.toNat 1) = (((pos.toNat - 1) / 2 : Nat) : Int) := by
      rw [show ((2 : Int) ^ Int.toNat 1) = 2 from rfl, Int.fdiv_eq_ediv_of_nonneg _ (by omega)]
      omega
    refine l_item (by assumption) (.head _) f3 (by omega) (by omega) (by omega) ?_
    intro y hy hyT
    rw [e1] at hy
    have hyv : us.getD ((pos.toNat - 1) / 2) .none = .ref y := by
      have := hy; simp only [Int.toNat_natCast] at this; simp [List.getD, this]
    ktr_unf
    rename News _ _ _ _ => N2
    refine tup_lt (by show un + 3 < cLine; omega) (hxT.t3 N2 fun _ h => .tail _ h) (hyT.t3 N2 fun _ h => .tail _ h) ?_
    ktr_unf
    · (rename (klt _ _ = true) => hlt)
      dsimp only
      refine l_set (by assumption) N2 hoff (by omega) (by omega) (by omega) ?_
      intro h2 F2 N3
      clear N2
      ktr_unf
      refine ksw_end (_, _, us.set pos.toNat (.ref y)) (by assumption) (by assumption) (fun _ h => h) ⟨?_, ?_, ?_, ?_⟩ (by kst_all) (by ksw_same) ?_ ?_
      · dsimp only; rw [e1]; omega
      · dsimp only; rw [e1]; simp only [List.length_set]; omega
      · simp only [List.length_set]; omega
      · intro v hv
        rcases List.mem_or_eq_of_mem_set hv with h | h
        · exact f3 v h
        · subst h; exact hyT
      · dsimp only
        rw [e1, Int.toNat_natCast, ← hP, sdLoop.eq_1 (pos := pos.toNat), dif_pos hgt', hyv, if_pos (show kltV kf (.ref x) (.ref y) = true from hlt)]
      · dsimp only
        rw [e1, Int.toNat_natCast]; omega
    · (rename (klt _ _ = false) => hlt)
      dsimp only
      refine l_set (by assumption) N2 hoff (by omega) (by omega) (by omega) ?_
      intro h2 F2 N3
      clear N2
      ktr_unf
      have hxv : vs.getD pos₀ .none = .ref x := by
        have := hx; simp only [Int.toNat_natCast] at this; simp [List.getD, this]
      refine hret _ _ (by assumption) ?_
      rw [hxv, ← hP, sdLoop.eq_1 (pos := pos.toNat), dif_pos hgt', hyv, if_neg (show ¬ kltV kf (.ref x) (.ref y) = true from by unfold kltV; simp [hlt])]
      assumption
  · dsimp only
    (rename (¬ (start : Int) < (pos : Int)) => hgt)
    have hgt' : ¬ start < pos.toNat := by omega
    refine l_set (by assumption) N1 hoff (by omega) (by omega) (by omega) ?_
    intro h2 F2 N3
    clear N1
    ktr_unf
    have hxv : vs.getD pos₀ .none = .ref x := by
        have := hx; simp only [Int.toNat_natCast] at this; simp [List.getD, this]
    refine hret _ _ (by assumption) ?_
    rw [hxv, ← hP, sdLoop.eq_1 (pos := pos.toNat), dif_neg hgt']
    assumption
end Mine
end

section
open PySem PySem.W PyProof.Rows
set_option Elab.async false
set_option pp.deepTerms false
set_option pp.maxSteps 3000
set_option pp.proofs false
set_option linter.unusedVariables false
set_option maxRecDepth 100000
set_option maxHeartbeats 8000000
namespace Mine
local macro_rules | `(tactic| omega) => `(tactic| lia)
local macro_rules | `(tactic| ktr_unf) => `(tactic| repeat' ((fail_if_success (with_reducible show wpAny _ _ (exec (Stmt.While _ _ _ _) _) _ _ _)); (fail_if_success (with_reducible show wpAny _ _ (call (Value.ref _) _ _) _ _ _)); (fail_if_success (with_reducible show KswEnd _ _ _ _ _ _ _ _ _ _ _ _)); (fail_if_success (with_reducible show wpAny _ _ (exec (Stmt.For _ _ _ _ _) _) _ _ _)); (first | (k_unfold; (try dsimp only)) | walk1 | (dsimp only; walk1) | (leave1; (try dsimp only)))))

theorem c_siftup {w : World} {mean : ExcName → Option Value} {mg mb : Str → Option Value} {dp un : Nat} {gd : Option (List Code)} {cn : Str} {cs : Scope} {a : Addr} {ccd : Value} {cl : List (Str × Addr)} {outer : List Env} {A₀ : Around} {base h₀ : Heap} {L : Addr} {m : Str → Option Value} {s : Shared} {Q E : Value → Shared → Prop} {kf : Value → Key} {tl : List (Addr × Obj)} {l : Addr} {vs : List Value} {n : Nat} {pos₀ : Nat} {t2 : Tok} (hB : Below A₀ base outer h₀) (hF : Fr h₀ L s.heap m) (hX : (Mine.hd.heap_39 w.params).In h₀) (hTop : Top vw (looseW vw []) mean mg mb h₀) (hck : cs.kind = .function)
    (hN : News h₀ L s.heap ((l, listOf vs.toArray n) :: tl)) (hoff : ∀ p ∈ tl, p.1 ≠ l) (hT : ∀ v ∈ vs, TIn tl v (kf v)) (hpos : pos₀ < vs.length) (hlen : vs.length < 1000) (hdp : dp + 2 < recursionLimit) (hun : un + 11 < cLine)
    (hret : ∀ h' tk', Fr h₀ L h' m → News h₀ L h' ((l, listOf (siftup (kltV kf) .none pos₀ vs).toArray n) :: tl) → Q .none { s with heap := h', toks := tk' }) :
    wpAny (model PySem.Challenge.rw_ny0144_01.row.prog w) (ktrTop dp un gd cn cs L a ccd cl outer) (call (.ref 49) [.ref l, .int pos₀ t2]) Q E s := by
  revert hX; k_fill; intro hX
  refine wpAny_call ?_
  k_dflt cell_enter
  ktr_unf
  refine l_len (by assumption) (.head _) (by omega) ?_
  intro tl1 tk1
  ktr_unf
  refine l_item (by assumption) (.head _) hT (by omega) (by omega) (by omega) ?_
  intro x hx hxT
  have hxv : vs.getD pos₀ .none = .ref x := by
    have := hx; simp only [Int.toNat_natCast] at this; simp [List.getD, this]
  ktr_unf
  rename Fr _ _ _ _ => F1
  rename News _ _ _ _ => N1
  refine ksw_while (σ := Int × Tok × Tok × List Value) (fun c => (l, listOf c.2.2.2.toArray n) :: tl) (fun c => [(Str.ofString "pos", .int c.1 c.2.1), (Str.ofString "childpos", .int (2 * c.1 + 1) c.2.2.1)])
    (fun c => 0 ≤ c.1 ∧ c.1 < c.2.2.2.length ∧ c.2.2.2.length = vs.length ∧ (∀ v ∈ c.2.2.2, TIn tl v (kf v))) [Str.ofString "rightpos"]
    (fun c => suLoop (kltV kf) .none vs.length c.1.toNat c.2.2.2 = suLoop (kltV kf) .none vs.length pos₀ vs) (fun c => vs.length - c.1.toNat) ((pos₀ : Int), t2, _, vs) F1 N1 ⟨by show (0 : Int) ≤ (pos₀ : Int); omega, by show (pos₀ : Int) < (vs.length : Int); omega, rfl, hT⟩ (by kst_all) (by simp) ?_ (by passes_own)
  clear F1 N1
  rintro ⟨pos, tp, tc, us⟩ u h tk ⟨f0, f1, f2, f3⟩ hP F1 N1
  dsimp only at f0 f1 f2 f3 hP N1
  dsimp only [kstB] at F1
  dsimp only
  ktr_unf
  · refine l_item (by assumption) (.head _) f3 (by omega) (by omega) (by omega) ?_
    intro y1 hy1 hyT1
    have hyv1 : us.getD (2 * pos.toNat + 1) .none = .ref y1 := by
      rw [show (2 * pos + 1).toNat = 2 * pos.toNat + 1 from by omega] at hy1; simp [List.getD, hy1]
    ktr_unf
    refine l_item (by assumption) (.head _) f3 (by omega) (by omega) (by omega) ?_
    intro y2 hy2 hyT2
    have hyv2 : us.getD (2 * pos.toNat + 2) .none = .ref y2 := by
      rw [show (2 * pos + 1 + 1).toNat = 2 * pos.toNat + 2 from by omega] at hy2; simp [List.getD, hy2]
    ktr_unf
    rename News _ _ _ _ => N2
    refine tup_lt (by show un + 3 < cLine; omega) (hyT1.t3 N2 fun _ h => .tail _ h) (hyT2.t3 N2 fun _ h => .tail _ h) ?_
    ktr_unf
    · (rename (klt _ _ = true) => hlt)
      refine l_item (by assumption) (.head _) f3 (by omega) (by omega) (by omega) ?_
      intro y hy hyT
      have hyv : us.getD (2 * pos + 1).toNat .none = .ref y := by simp [List.getD, hy]
      ktr_unf
      rename News _ _ _ _ => N2
      refine l_set (by assumption) N2 hoff (by omega) (by omega) (by omega) ?_
      intro h2 F2 N3
      clear N2
      ktr_unf
      refine ksw_end (_, _, _, us.set pos.toNat (.ref y)) (by assumption) (by assumption) (fun _ h => h) ⟨?_, ?_, ?_, ?_⟩ (by kst_all) (by ksw_same) ?_ ?_
      · dsimp only; omega
      · dsimp only; simp only [List.length_set]; omega
      · simp only [List.length_set]; omega
      · intro v hv
        rcases List.mem_or_eq_of_mem_set hv with h | h
        · exact f3 v h
        · subst h; exact hyT
      · dsimp only
        rw [← hP, suLoop.eq_1 (pos := pos.toNat), dif_pos (by omega), if_neg (by rw [hyv1, hyv2]; intro hq; have := hq.2; unfold kltV at this; rw [hlt] at this; cases this)]
        rw [show (2 * pos + 1).toNat = 2 * pos.toNat + 1 from by omega] at hyv ⊢
        rw [hyv]
      · dsimp only
        omega

    · (rename (klt _ _ = false) => hlt)
      refine l_item (by assumption) (.head _) f3 (by omega) (by omega) (by omega) ?_
      intro y hy hyT
      have hyv : us.getD (2 * pos + 1 + 1).toNat .none = .ref y := by simp [List.getD, hy]
      ktr_unf
      rename News _ _ _ _ => N2
      refine l_set (by assumption) N2 hoff (by omega) (by omega) (by omega) ?_
      intro h2 F2 N3
      clear N2
      ktr_unf
      refine ksw_end (_, _, _, us.set pos.toNat (.ref y)) (by assumption) (by assumption) (fun _ h => h) ⟨?_, ?_, ?_, ?_⟩ (by kst_all) (by ksw_same) ?_ ?_
      · dsimp only; omega
      · dsimp only; simp only [List.length_set]; omega
      · simp only [List.length_set]; omega
      · intro v hv
        rcases List.mem_or_eq_of_mem_set hv with h | h
        · exact f3 v h
        · subst h; exact hyT
      · dsimp only
        rw [← hP, suLoop.eq_1 (pos := pos.toNat), dif_pos (by omega), if_pos ⟨by omega, by rw [hyv1, hyv2]; exact hlt⟩]
        rw [show (2 * pos + 1 + 1).toNat = 2 * pos.toNat + 2 from by omega] at hyv ⊢
        rw [hyv]
      · dsimp only
        omega
  · clear hun
    refine l_item (by assumption) (.head _) f3 (by omega) (by omega) (by omega) ?_
    intro y hy hyT
    have hyv : us.getD (2 * pos + 1).toNat .none = .ref y := by simp [List.getD, hy]
    ktr_unf
    rename News _ _ _ _ => N2
    refine l_set (by assumption) N2 hoff (by omega) (by omega) (by omega) ?_
    intro h2 F2 N3
    clear N2
    ktr_unf
    refine ksw_end (_, _, _, us.set pos.toNat (.ref y)) (by assumption) (by assumption) (fun _ h => h) ⟨?_, ?_, ?_, ?_⟩ (by kst_all) (by ksw_same) ?_ ?_
    · dsimp only; omega
    · dsimp only; simp only [List.length_set]; omega
    · simp only [List.length_set]; omega
    · intro v hv
      rcases List.mem_or_eq_of_mem_set hv with h | h
      · exact f3 v h
      · subst h; exact hyT
    · dsimp only
      rw [← hP, suLoop.eq_1 (pos := pos.toNat), dif_pos (by omega), if_neg (by omega)]
      rw [show (2 * pos + 1).toNat = 2 * pos.toNat + 1 from by omega] at hyv ⊢
      rw [hyv]
    · dsimp only
      omega
  · have hsp : suLoop (kltV kf) .none vs.length pos.toNat us = (us, pos.toNat) := by rw [suLoop.eq_1, dif_neg (by omega)]
    refine l_set (by assumption) N1 hoff (by omega) (by omega) (by omega) ?_
    intro h2 F2 N3
    clear N1
    ktr_unf
    obtain ⟨p, rfl⟩ := Int.eq_ofNat_of_zero_le f0
    simp only [Int.toNat_natCast] at hP hsp
    rename News _ _ _ _ => N4
    simp only [Int.toNat_natCast] at N4
    refine c_siftdown (by assumption) (by assumption) (by assumption) (by assumption) rfl N4 hoff (kf := kf) ?_ ?_ ?_ ?_ ?_ ?_
    · intro v hv
      rcases List.mem_or_eq_of_mem_set hv with h | h
      · exact f3 v h
      · subst h; exact hxT
    · simp only [List.length_set]; omega
    · simp only [List.length_set]; omega
    · show dp + 1 + 1 < recursionLimit; omega
    · show un + 3 + 8 < cLine; omega
    · intro h5 tk5 F5 N5
      clear N4
      have e : (us.set p (Value.ref x)).getD p .none = .ref x := by
        have : p < us.length := by omega
        simp [List.getD, this]
      rw [e] at N5
      ktr_unf
      refine hret _ _ (by assumption) ?_
      unfold siftup
      rw [← hP, hsp, hxv]
      dsimp only
      assumption
end Mine
end

section
open PySem PySem.W PyProof.Rows
set_option Elab.async false
set_option pp.deepTerms false
set_option pp.maxSteps 3000
set_option pp.proofs false
set_option linter.unusedVariables false
set_option maxRecDepth 100000
set_option maxHeartbeats 8000000
namespace Mine
local macro_rules | `(tactic| omega) => `(tactic| lia)
local macro_rules | `(tactic| ktr_unf) => `(tactic| repeat' ((fail_if_success (with_reducible show wpAny _ _ (exec (Stmt.While _ _ _ _) _) _ _ _)); (fail_if_success (with_reducible show wpAny _ _ (call (Value.ref _) _ _) _ _ _)); (fail_if_success (with_reducible show KswEnd _ _ _ _ _ _ _ _ _ _ _ _)); (fail_if_success (with_reducible show wpAny _ _ (exec (Stmt.For _ _ _ _ _) _) _ _ _)); (first | (k_unfold; (try dsimp only)) | walk1 | (dsimp only; walk1) | (leave1; (try dsimp only)))))

theorem c_heappop {w : World} {mean : ExcName → Option Value} {mg mb : Str → Option Value} {dp un : Nat} {gd : Option (List Code)} {cn : Str} {cs : Scope} {a : Addr} {ccd : Value} {cl : List (Str × Addr)} {outer : List Env} {A₀ : Around} {base h₀ : Heap} {L : Addr} {m : Str → Option Value} {s : Shared} {Q E : Value → Shared → Prop} {kf : Value → Key} {tl : List (Addr × Obj)} {l : Addr} {ys : List Value} {y : Value} {n : Nat} (hB : Below A₀ base outer h₀) (hF : Fr h₀ L s.heap m) (hX : (Mine.hd.heap_39 w.params).In h₀) (hTop : Top vw (looseW vw []) mean mg mb h₀) (hck : cs.kind = .function)
    (hN : News h₀ L s.heap ((l, listOf (ys ++ [y]).toArray n) :: tl)) (hoff : ∀ p ∈ tl, p.1 ≠ l) (hT : ∀ v ∈ ys ++ [y], TIn tl v (kf v)) (hlen : ys.length < 1000) (hdp : dp + 3 < recursionLimit) (hun : un + 14 < cLine)
    (hret : ∀ h' tk' n', Fr h₀ L h' m → News h₀ L h' ((l, listOf (hpop (kltV kf) .none ys y).2.toArray n') :: tl) → Q (hpop (kltV kf) .none ys y).1 { s with heap := h', toks := tk' }) :
    wpAny (model PySem.Challenge.rw_ny0144_01.row.prog w) (ktrTop dp un gd cn cs L a ccd cl outer) (call (.ref 28) [.ref l]) Q E s := by
  revert hX; k_fill; intro hX
  refine wpAny_call ?_
  k_dflt cell_enter
  ktr_unf
  obtain ⟨ay, ny, ty1, ty2, ty3, ey, hym⟩ := hT y (by simp)
  subst ey
  rename News _ _ _ _ => N1
  refine l_pop (by assumption) N1 hoff hlen ?_
  intro h1 F1 N2
  clear N1
  ktr_unf
  · (rename (ys.isEmpty = true) => he)
    have he' : ys = [] := by simpa using he
    subst he'
    have e : hpop (kltV kf) .none [] (.ref ay) = (.ref ay, []) := by simp [hpop]
    rw [e] at hret
    exact hret _ _ _ (by assumption) (by assumption)
  · (rename (ys.isEmpty = false) => he)
    have he' : ys ≠ [] := by intro q; subst q; cases he
    have hpos : 0 < ys.length := List.length_pos_iff.mpr he'
    refine l_item (by assumption) (.head _) (fun v hv => hT v (List.mem_append_left _ hv)) (by omega) (by omega) (by omega) ?_
    intro x hx hxT
    have hxv : ys.getD 0 .none = .ref x := by
      have := hx; simp only [Int.toNat_zero] at this; simp [List.getD, this]
    ktr_unf
    rename News _ _ _ _ => N3
    refine l_set (by assumption) N3 hoff (by omega) (by omega) (by omega) ?_
    intro h2 F2 N4
    clear N3
    ktr_unf
    rename News _ _ _ _ => N5
    refine c_siftup (pos₀ := 0) (by assumption) (by assumption) (by assumption) (by assumption) rfl N5 hoff (kf := kf) ?_ ?_ ?_ ?_ ?_ ?_
    · intro v hv
      rcases List.mem_or_eq_of_mem_set hv with h | h
      · exact hT v (List.mem_append_left _ h)
      · subst h; exact hT _ (by simp)
    · simp only [List.length_set]; omega
    · simp only [List.length_set]; omega
    · show dp + 1 + 2 < recursionLimit; omega
    · show un + 3 + 11 < cLine; omega
    · intro h5 tk5 F5 N6
      clear N5
      ktr_unf
      have e : hpop (kltV kf) .none ys (.ref ay) = (.ref x, siftup (kltV kf) .none 0 (ys.set 0 (.ref ay))) := by rw [hpop, if_neg he', hxv]
      rw [e] at hret
      exact hret _ _ _ (by assumption) (by assumption)
end Mine
end

section
open PySem PySem.W PyProof.Rows
set_option Elab.async false
set_option pp.deepTerms false
set_option pp.maxSteps 3000
set_option pp.proofs false
set_option linter.unusedVariables false
set_option maxRecDepth 100000
set_option maxHeartbeats 8000000
namespace Mine
local macro_rules | `(tactic| omega) => `(tactic| lia)
local macro_rules | `(tactic| ktr_unf) => `(tactic| repeat' ((fail_if_success (with_reducible show wpAny _ _ (exec (Stmt.While _ _ _ _) _) _ _ _)); (fail_if_success (with_reducible show wpAny _ _ (call (Value.ref _) _ _) _ _ _)); (fail_if_success (with_reducible show FEnd _ _ _ _ _ _ _ _ _ _ _ _)); (fail_if_success (with_reducible show wpAny _ _ (pyIter _) _ _ _)); (fail_if_success (with_reducible show KswEnd _ _ _ _ _ _ _ _ _ _ _ _)); (fail_if_success (with_reducible show wpAny _ _ (exec (Stmt.For _ _ _ _ _) _) _ _ _)); (first | (k_unfold; (try dsimp only)) | (with_reducible refine FPost.next ?_) | (with_reducible refine FPost.cont ?_) | (with_reducible refine FPost.brk ?_) | (with_reducible refine FPost.ret ?_) | walk1 | (dsimp only; walk1) | (leave1; (try dsimp only)))))
theorem c_heapify {w : World} {mean : ExcName → Option Value} {mg mb : Str → Option Value} {dp un : Nat} {gd : Option (List Code)} {cn : Str} {cs : Scope} {a : Addr} {ccd : Value} {cl : List (Str × Addr)} {outer : List Env} {A₀ : Around} {base h₀ : Heap} {L : Addr} {m : Str → Option Value} {s : Shared} {Q E : Value → Shared → Prop} {kf : Value → Key} {tl : List (Addr × Obj)} {l : Addr} {vs : List Value} {n : Nat} (hB : Below A₀ base outer h₀) (hF : Fr h₀ L s.heap m) (hX : (Mine.hd.heap_39 w.params).In h₀) (hTop : Top vw (looseW vw []) mean mg mb h₀) (hck : cs.kind = .function)
    (hN : News h₀ L s.heap ((l, listOf vs.toArray n) :: tl)) (hoff : ∀ p ∈ tl, p.1 ≠ l) (hT : ∀ v ∈ vs, TIn tl v (kf v)) (hlen : vs.length < 1000) (hdp : dp + 3 < recursionLimit) (hun : un + 14 < cLine)
    (hret : ∀ h' tk', Fr h₀ L h' m → News h₀ L h' ((l, listOf (heapifyP (kltV kf) .none vs).toArray n) :: tl) → Q .none { s with heap := h', toks := tk' }) :
    wpAny (model PySem.Challenge.rw_ny0144_01.row.prog w) (ktrTop dp un gd cn cs L a ccd cl outer) (call (.ref 35) [.ref l]) Q E s := by
  revert hX; k_fill; intro hX
  refine wpAny_call ?_
  k_dflt cell_enter
  ktr_unf
  refine l_len (by assumption) (.head _) (by omega) ?_
  intro tl1 tk1
  ktr_unf
  rename Fr _ _ _ _ => F1
  refine for_inv F1 (by with_unfolding_all rfl) (by with_unfolding_all rfl) (by intro _; with_unfolding_all rfl) (by passes_own) ?_
  ktr_unf
  rename News _ _ _ _ => N1
  rename Fr _ _ _ _ => F1
  rename IsRange _ _ _ _ _ _ _ _ => hR
  have e0 : ((vs.length : Int)).fdiv 2 = ((vs.length / 2 : Nat) : Int) := by
    rw [Int.fdiv_eq_ediv_of_nonneg _ (by omega)]; omega
  rw [e0] at hR
  refine rev_loop (σ := List Value) (fun c => (l, listOf c.toArray n) :: tl) (fun _ => [])
    (fun i c => c.length = vs.length ∧ (∀ v ∈ c, TIn tl v (kf v)) ∧ c = ((List.range (vs.length / 2)).reverse.take i).foldl (fun xs i => siftup (kltV kf) .none i xs) vs) [] vs rfl hR (by omega) F1 N1 (fun _ h => h) ⟨rfl, hT, by simp⟩ (by kst_all) ?_ ?_
  all_goals clear F1 N1
  · intro i tv us u h tk I own hi hltI hown hIo hoffI hinv F1 N1
    obtain ⟨f1, f2, f3⟩ := hinv
    dsimp only [kstB] at F1
    ktr_unf
    rename News _ _ _ _ => N2
    have hlI : l ≠ I := hoffI (l, listOf us.toArray n) (.head _)
    have hoff' : ∀ p ∈ tl ++ own, p.1 ≠ l := by
      intro p hp
      rcases List.mem_append.mp hp with hp | hp
      · exact hoff p hp
      · rw [hown p hp]; exact fun e => hlI e.symm
    have ei : ((vs.length / 2 : Nat) : Int) - 1 - (i : Int) = ((vs.length / 2 - 1 - i : Nat) : Int) := by omega
    rw [ei]
    refine c_siftup (tl := tl ++ own) (by assumption) (by assumption) (by assumption) (by assumption) rfl N2 hoff' (kf := kf) ?_ ?_ ?_ ?_ ?_ ?_
    · intro v hv
      exact (f2 v hv).mono fun _ h => List.mem_append_left _ h
    · omega
    · omega
    · show dp + 1 + 2 < recursionLimit; omega
    · show un + 3 + 11 < cLine; omega
    · intro h5 tk5 F5 N5
      clear N2
      ktr_unf
      have hpl : vs.length / 2 - 1 - i < us.length := by omega
      refine f_end (siftup (kltV kf) .none (vs.length / 2 - 1 - i) us) (by assumption) N5 ?_ ?_ ?_ (by kst_all) (by kst_same) ⟨?_, ?_, ?_⟩
      · intro p hp
        cases hp with
        | head => exact .head _
        | tail _ h => exact .tail _ (List.mem_append_left _ h)
      · intro p hp
        exact .tail _ (List.mem_append_right _ hp)
      · intro p hp q
        have q := List.mem_singleton.mp q
        cases hp with
        | head => exact hlI q
        | tail _ h => exact hoffI p (.tail _ h) q
      · rw [siftup_length hpl]; exact f1
      · intro v hv
        exact f2 v ((siftup_perm hpl).mem_iff.mp hv)
      · have hx : (List.range (vs.length / 2)).reverse[i]? = some (vs.length / 2 - 1 - i) := by
          rw [List.getElem?_reverse (by simpa using hi)]
          simp only [List.length_range]
          rw [List.getElem?_range (by omega)]
        rw [List.take_add_one, hx, f3]
        simp
  · intro us u h tk hinv F1 N1
    obtain ⟨f1, f2, f3⟩ := hinv
    dsimp only [kstB] at F1
    rw [List.take_of_length_le (by simp)] at f3
    have f4 : us = heapifyP (kltV kf) .none vs := f3
    rw [f4] at N1
    ktr_unf
    exact hret _ _ (by assumption) (by assumption)
end Mine
end

section
open PySem PySem.W PyProof.Rows
/-! the signs, plain -/
namespace Mine
local macro_rules | `(tactic| omega) => `(tactic| lia)
def signs : List Nat := [97, 65, 98, 66, 91, 123]
def low (c : Nat) : Nat := if c = 65 then 97 else if c = 66 then 98 else c
def sc (c d : Nat) : Int := if c = d then 0 else if low c = low d then 1 else 2
def ch (c : Nat) : Str := ⟨#[c]⟩
theorem ch_inj {c d : Nat} (h : ch c = ch d) : c = d := by
  have := congrArg Str.cps h
  simpa [ch] using this
theorem ch_beq (c d : Nat) : (ch c == ch d) = decide (c = d) := by
  by_cases h : c = d
  · subst h; simp
  · rw [decide_eq_false h]
    exact beq_eq_false_iff_ne.mpr fun e => h (ch_inj e)
theorem ch_len (c : Nat) : (ch c).length = 1 := rfl
theorem lower_ch : ∀ c ∈ signs, Txt.lower (ch c) = ch (low c) := by decide +kernel
theorem cost_ch : ∀ c ∈ signs, ∀ d ∈ signs, (([Str.ofString "aA", Str.ofString "Aa", Str.ofString "bB", Str.ofString "Bb"].any fun z => z == ch c ++ ch d) = true ↔ (c ≠ d ∧ low c = low d)) := by decide +kernel
theorem low_sign {c : Nat} (h : c ∈ signs) : low c ∈ signs := by
  revert c; decide +kernel
end Mine
end

section
open PySem PySem.W PyProof.Rows
set_option Elab.async false
set_option pp.deepTerms false
set_option pp.maxSteps 3000
set_option pp.proofs false
set_option linter.unusedVariables false
set_option maxRecDepth 100000
set_option maxHeartbeats 8000000
namespace Mine
local macro_rules | `(tactic| omega) => `(tactic| lia)
local macro_rules | `(tactic| ktr_unf) => `(tactic| repeat' ((fail_if_success (with_reducible show wpAny _ _ (exec (Stmt.While _ _ _ _) _) _ _ _)); (fail_if_success (with_reducible show wpAny _ _ (call (Value.ref _) _ _) _ _ _)); (fail_if_success (with_reducible show FEnd _ _ _ _ _ _ _ _ _ _ _ _)); (fail_if_success (with_reducible show wpAny _ _ (pyIter _) _ _ _)); (fail_if_success (with_reducible show KswEnd _ _ _ _ _ _ _ _ _ _ _ _)); (fail_if_success (with_reducible show wpAny _ _ (exec (Stmt.For _ _ _ _ _) _) _ _ _)); (first | (k_unfold; (try dsimp only)) | (with_reducible refine FPost.next ?_) | (with_reducible refine FPost.cont ?_) | (with_reducible refine FPost.brk ?_) | (with_reducible refine FPost.ret ?_) | walk1 | (dsimp only; walk1) | (leave1; (try dsimp only)))))

theorem c_sub {w : World} {mean : ExcName → Option Value} {mg mb : Str → Option Value} {dp un : Nat} {gd : Option (List Code)} {cn : Str} {cs : Scope} {a : Addr} {ccd : Value} {cl : List (Str × Addr)} {outer : List Env} {A₀ : Around} {base h₀ : Heap} {L : Addr} {m : Str → Option Value} {s : Shared} {Q E : Value → Shared → Prop} {news : List (Addr × Obj)} {c d : Nat} {t1 t2 : Tok} (hB : Below A₀ base outer h₀) (hF : Fr h₀ L s.heap m) (hX : (Mine.hd.heap_39 w.params).In h₀) (hTop : Top vw (looseW vw []) mean mg mb h₀) (hck : cs.kind = .function)
    (hN : News h₀ L s.heap news) (hc : c ∈ signs) (hd : d ∈ signs) (hdp : dp + 1 < recursionLimit) (hun : un + 8 < cLine)
    (hret : ∀ t h' tk', Fr h₀ L h' m → News h₀ L h' news → Q (.int (sc c d) t) { s with heap := h', toks := tk' }) :
    wpAny (model PySem.Challenge.rw_ny0144_01.row.prog w) (ktrTop dp un gd cn cs L a ccd cl outer) (call (.ref 56) [.str (ch c) t1, .str (ch d) t2]) Q E s := by
  revert hX; k_fill; intro hX
  have hx : (ch c).length ≤ 100 := by rw [ch_len]; omega
  have hy : (ch d).length ≤ 100 := by rw [ch_len]; omega
  refine wpAny_call ?_
  k_dflt cell_enter
  ktr_unf
  · (rename ((ch c == ch d) = true) => e)
    rw [ch_beq, decide_eq_true_eq] at e
    have : sc c d = 0 := by rw [sc, if_pos e]
    rw [this] at hret
    exact hret _ _ _ (by assumption) (by assumption)
  · (rename ((ch c == ch d) = false) => e)
    (rename ((Txt.lower (ch c) == Txt.lower (ch d)) = true) => e2)
    rw [ch_beq, decide_eq_false_iff_not] at e
    rw [lower_ch c hc, lower_ch d hd, ch_beq, decide_eq_true_eq] at e2
    have : sc c d = 1 := by rw [sc, if_neg e, if_pos e2]
    rw [this] at hret
    exact hret _ _ _ (by assumption) (by assumption)
  · (rename ((ch c == ch d) = false) => e)
    (rename ((Txt.lower (ch c) == Txt.lower (ch d)) = false) => e2)
    rw [ch_beq, decide_eq_false_iff_not] at e
    rw [lower_ch c hc, lower_ch d hd, ch_beq, decide_eq_false_iff_not] at e2
    have : sc c d = 2 := by rw [sc, if_neg e, if_neg e2]
    rw [this] at hret
    exact hret _ _ _ (by assumption) (by assumption)
theorem c_cost {w : World} {mean : ExcName → Option Value} {mg mb : Str → Option Value} {dp un : Nat} {gd : Option (List Code)} {cn : Str} {cs : Scope} {a : Addr} {ccd : Value} {cl : List (Str × Addr)} {outer : List Env} {A₀ : Around} {base h₀ : Heap} {L : Addr} {m : Str → Option Value} {s : Shared} {Q E : Value → Shared → Prop} {news : List (Addr × Obj)} {c d : Nat} {t1 t2 : Tok} (hB : Below A₀ base outer h₀) (hF : Fr h₀ L s.heap m) (hX : (Mine.hd.heap_39 w.params).In h₀) (hTop : Top vw (looseW vw []) mean mg mb h₀) (hck : cs.kind = .function)
    (hN : News h₀ L s.heap news) (hc : c ∈ signs) (hd : d ∈ signs) (hdp : dp + 1 < recursionLimit) (hun : un + 8 < cLine)
    (hret : ∀ t h' tk', Fr h₀ L h' m → News h₀ L h' news → Q (.int (sc c d) t) { s with heap := h', toks := tk' }) :
    wpAny (model PySem.Challenge.rw_ny0144_01.row.prog w) (ktrTop dp un gd cn cs L a ccd cl outer) (call (.ref 84) [.str (ch c) t1, .str (ch d) t2]) Q E s := by
  revert hX; k_fill; intro hX
  have hx : (ch c).length ≤ 100 := by rw [ch_len]; omega
  have hy : (ch d).length ≤ 100 := by rw [ch_len]; omega
  have hcc := cost_ch c hc d hd
  refine wpAny_call ?_
  k_dflt cell_enter
  ktr_unf
  · (rename ((ch c == ch d) = true) => e)
    rw [ch_beq, decide_eq_true_eq] at e
    have : sc c d = 0 := by rw [sc, if_pos e]
    rw [this] at hret
    exact hret _ _ _ (by assumption) (by assumption)
  · (rename ((ch c == ch d) = false) => e)
    (rename (List.any _ _ = true) => e2)
    rw [ch_beq, decide_eq_false_iff_not] at e
    have : sc c d = 1 := by rw [sc, if_neg e, if_pos (hcc.mp e2).2]
    rw [this] at hret
    exact hret _ _ _ (by assumption) (by rename News _ _ _ _ => N9; exact fun p hp => N9 p (List.mem_cons_of_mem _ hp))
  · (rename ((ch c == ch d) = false) => e)
    (rename (List.any _ _ = false) => e2)
    rw [ch_beq, decide_eq_false_iff_not] at e
    have : sc c d = 2 := by
      rw [sc, if_neg e, if_neg]
      intro h
      have := hcc.mpr ⟨e, h⟩
      rw [e2] at this
      cases this
    rw [this] at hret
    exact hret _ _ _ (by assumption) (by rename News _ _ _ _ => N9; exact fun p hp => N9 p (List.mem_cons_of_mem _ hp))
end Mine
end

section
open PySem PySem.W PyProof.Rows
set_option Elab.async false
set_option pp.deepTerms false
set_option pp.maxSteps 3000
set_option pp.proofs false
set_option linter.unusedVariables false
set_option maxRecDepth 100000
set_option maxHeartbeats 8000000
namespace Mine
local macro_rules | `(tactic| omega) => `(tactic| lia)
local macro_rules | `(tactic| ktr_unf) => `(tactic| repeat' ((fail_if_success (with_reducible show wpAny _ _ (exec (Stmt.While _ _ _ _) _) _ _ _)); (fail_if_success (with_reducible show wpAny _ _ (call (Value.ref _) _ _) _ _ _)); (fail_if_success (with_reducible show FEnd _ _ _ _ _ _ _ _ _ _ _ _)); (fail_if_success (with_reducible show wpAny _ _ (pyIter _) _ _ _)); (fail_if_success (with_reducible show KswEnd _ _ _ _ _ _ _ _ _ _ _ _)); (fail_if_success (with_reducible show wpAny _ _ (exec (Stmt.For _ _ _ _ _) _) _ _ _)); (first | (k_unfold; (try dsimp only)) | (with_reducible refine FPost.next ?_) | (with_reducible refine FPost.cont ?_) | (with_reducible refine FPost.brk ?_) | (with_reducible refine FPost.ret ?_) | walk1 | (dsimp only; walk1) | (leave1; (try dsimp only)))))

def lid : Nat → Int
  | 0 => 0
  | k + 1 => 6 * lid k + 6
theorem lid_step {k : Nat} {r : Int} (h0 : 0 < r) (h : r ≤ lid k) : ∃ j, k = j + 1 ∧ (r - 1).fdiv 6 ≤ lid j := by
  cases k with
  | zero => simp [lid] at h; omega
  | succ j =>
    refine ⟨j, rfl, ?_⟩
    rw [Int.fdiv_eq_ediv_of_nonneg _ (by omega)]
    simp only [lid] at h
    omega
def WordOk (n : Nat) (x : Str) : Prop := x.length ≤ n ∧ ∀ c ∈ x.cps.toList, c ∈ signs
theorem item_sign {i : Int} (h0 : 0 ≤ i) (h1 : i < 6) : ∃ c ∈ signs, Txt.item (Str.ofString "aAbB[{") i = ch c := by
  have e : i = 0 ∨ i = 1 ∨ i = 2 ∨ i = 3 ∨ i = 4 ∨ i = 5 := by omega
  rcases e with rfl | rfl | rfl | rfl | rfl | rfl
  · exact ⟨97, by decide, by decide +kernel⟩
  · exact ⟨65, by decide, by decide +kernel⟩
  · exact ⟨98, by decide, by decide +kernel⟩
  · exact ⟨66, by decide, by decide +kernel⟩
  · exact ⟨91, by decide, by decide +kernel⟩
  · exact ⟨123, by decide, by decide +kernel⟩
theorem c_word {w : World} {mean : ExcName → Option Value} {mg mb : Str → Option Value} {dp un : Nat} {gd : Option (List Code)} {cn : Str} {cs : Scope} {a : Addr} {ccd : Value} {cl : List (Str × Addr)} {outer : List Env} {A₀ : Around} {base h₀ : Heap} {L : Addr} {m : Str → Option Value} {s : Shared} {Q E : Value → Shared → Prop} {news : List (Addr × Obj)} {num kinds : Int} {lim : Nat} {t1 t2 : Tok} (hB : Below A₀ base outer h₀) (hF : Fr h₀ L s.heap m) (hX : (Mine.hd.heap_39 w.params).In h₀) (hTop : Top vw (looseW vw []) mean mg mb h₀) (hck : cs.kind = .function)
    (hN : News h₀ L s.heap news) (hk : 0 < kinds) (hkl : kinds - 1 ≤ lid lim) (hl : lim ≤ 5) (hdp : dp + 1 < recursionLimit) (hun : un + 8 < cLine)
    (hret : ∀ x t h' tk', WordOk lim x → Fr h₀ L h' m → News h₀ L h' news → Q (.str x t) { s with heap := h', toks := tk' }) :
    wpAny (model PySem.Challenge.rw_ny0144_01.row.prog w) (ktrTop dp un gd cn cs L a ccd cl outer) (call (.ref 70) [.int num t1, .int kinds t2]) Q E s := by
  revert hX; k_fill; intro hX
  refine wpAny_call ?_
  k_dflt cell_enter
  ktr_unf
  rename Fr _ _ _ _ => F1
  rename News _ _ _ _ => N1
  refine ksw_while (σ := Int × Tok × Str × Tok) (fun c => news) (fun c => [(Str.ofString "rest", .int c.1 c.2.1), (Str.ofString "word", .str c.2.2.1 c.2.2.2)])
    (fun c => ∃ k, c.1 ≤ lid k ∧ WordOk (lim - k) c.2.2.1 ∧ k ≤ lim) []
    (fun c => 0 ≤ c.1) (fun c => c.1.toNat) (num.fmod kinds, _, Str.ofString "", _) F1 N1 ?_ (by kst_all) ?_ ?_ (by passes_own)
  · refine ⟨lim, ?_, ⟨?_, ?_⟩, Nat.le_refl _⟩
    · dsimp only
      have := Int.fmod_lt_of_pos num hk
      omega
    · exact Nat.zero_le _
    · intro c hc
      cases hc
  · exact Int.fmod_nonneg_of_pos num hk
  · clear F1 N1
    rintro ⟨rest, tr, x, tx⟩ u h tk ⟨k, f1, ⟨f2, f3⟩, f4⟩ f0 F1 N1
    dsimp only at f0 f1 f2 f3 N1
    dsimp only [kstB] at F1
    dsimp only
    have hxl : x.length ≤ 100 := by omega
    ktr_unf
    · (rename (0 < rest) => hr)
      obtain ⟨j, rfl, hj⟩ := lid_step hr f1
      obtain ⟨c, hc, hce⟩ := item_sign (Int.fmod_nonneg_of_pos (rest - 1) (show (0 : Int) < 6 by omega)) (Int.fmod_lt_of_pos (rest - 1) (show (0 : Int) < 6 by omega))
      refine ksw_end ((rest - 1).fdiv 6, _, x ++ Txt.item (Str.ofString "aAbB[{") ((rest - 1).fmod 6), _) (by assumption) (by assumption) (fun _ h => h) ⟨j, hj, ⟨?_, ?_⟩, by omega⟩ (by kst_all) (by ksw_same) ?_ ?_
      · dsimp only
        rw [hce, Str.length_append, ch_len]; omega
      · dsimp only
        rw [hce]
        intro d hd
        rw [Str.cps_append, Array.toList_append] at hd
        rcases List.mem_append.mp hd with hd | hd
        · exact f3 d hd
        · have : d = c := by simpa [ch] using hd
          rw [this]; exact hc
      · dsimp only
        rw [Int.fdiv_eq_ediv_of_nonneg _ (by omega)]; omega
      · dsimp only
        rw [Int.fdiv_eq_ediv_of_nonneg _ (by omega)]; omega
    · exact hret _ _ _ _ ⟨by omega, f3⟩ (by assumption) (by assumption)
end Mine
end

section
open PySem PySem.W PyProof.Rows
set_option Elab.async false
set_option pp.deepTerms false
set_option pp.maxSteps 3000
set_option pp.proofs false
set_option linter.unusedVariables false
set_option maxRecDepth 100000
set_option maxHeartbeats 8000000
namespace Mine
local macro_rules | `(tactic| omega) => `(tactic| lia)
local macro_rules | `(tactic| ktr_unf) => `(tactic| repeat' ((fail_if_success (with_reducible show wpAny _ _ (exec (Stmt.While _ _ _ _) _) _ _ _)); (fail_if_success (with_reducible show wpAny _ _ (call (Value.ref _) _ _) _ _ _)); (fail_if_success (with_reducible show FEnd _ _ _ _ _ _ _ _ _ _ _ _)); (fail_if_success (with_reducible show wpAny _ _ (pyIter _) _ _ _)); (fail_if_success (with_reducible show KswEnd _ _ _ _ _ _ _ _ _ _ _ _)); (fail_if_success (with_reducible show wpAny _ _ (exec (Stmt.For _ _ _ _ _) _) _ _ _)); (first | (k_unfold; (try dsimp only)) | (with_reducible refine FPost.next ?_) | (with_reducible refine FPost.cont ?_) | (with_reducible refine FPost.brk ?_) | (with_reducible refine FPost.ret ?_) | walk1 | (dsimp only; walk1) | (leave1; (try dsimp only)))))

noncomputable def beyondTo (x y : Str) (cs : List Nat) : List Str := cs.flatMap fun c => List.replicate (Txt.count x (ch c) - Txt.count y (ch c)).toNat (ch c)
theorem c_beyond {w : World} {mean : ExcName → Option Value} {mg mb : Str → Option Value} {dp un : Nat} {gd : Option (List Code)} {cn : Str} {cs : Scope} {a : Addr} {ccd : Value} {cl : List (Str × Addr)} {outer : List Env} {A₀ : Around} {base h₀ : Heap} {L : Addr} {m : Str → Option Value} {s : Shared} {Q E : Value → Shared → Prop} {news : List (Addr × Obj)} {x y : Str} {t1 t2 : Tok} (hB : Below A₀ base outer h₀) (hF : Fr h₀ L s.heap m) (hX : (Mine.hd.heap_39 w.params).In h₀) (hTop : Top vw (looseW vw []) mean mg mb h₀) (hck : cs.kind = .function)
    (hN : News h₀ L s.heap news) (hx : x.length ≤ 5) (hy : y.length ≤ 5) (hdp : dp + 1 < recursionLimit) (hun : un + 8 < cLine)
    (hcx : ∀ c, 0 ≤ Txt.count x (ch c) ∧ Txt.count x (ch c) ≤ 5) (hcy : ∀ c, 0 ≤ Txt.count y (ch c) ∧ Txt.count y (ch c) ≤ 5)
    (hret : ∀ l vs n h' tk', StrsAre vs (beyondTo x y [65, 66, 91, 97, 98, 123]) → Fr h₀ L h' m → News h₀ L h' ((l, listOf vs.toArray n) :: news) → (∀ p ∈ news, p.1 < l) → Q (.ref l) { s with heap := h', toks := tk' }) :
    wpAny (model PySem.Challenge.rw_ny0144_01.row.prog w) (ktrTop dp un gd cn cs L a ccd cl outer) (call (.ref 77) [.str x t1, .str y t2]) Q E s := by
  revert hX; k_fill; intro hX
  refine wpAny_call ?_
  k_dflt cell_enter
  ktr_unf
  rename Fr _ _ _ _ => F1
  refine for_inv F1 (by with_unfolding_all rfl) (by with_unfolding_all rfl) (by intro _; with_unfolding_all rfl) (by passes_own) ?_
  ktr_unf
  rename News _ _ _ _ => N1
  (rename Fr _ _ _ _ => F2)
  refine str_loop (σ := Addr × List Value × Nat) (fun c => (c.1, listOf c.2.1.toArray c.2.2) :: news) (fun c => [(Str.ofString "more", .ref c.1)])
    (fun i c => StrsAre c.2.1 (beyondTo x y ([65, 66, 91, 97, 98, 123].take i)) ∧ c.2.1.length ≤ 5 * i ∧ i ≤ 6 ∧ ∀ p ∈ news, p.1 < c.1) [] (_, [], 0) rfl F2 N1 (fun _ h => h) ?_ (by kst_all) ?_ ?_
  · exact ⟨.nil, Nat.zero_le _, by omega, by assumption⟩
  all_goals clear F2 N1
  · intro i d tv c u h tk I own hd hltI hown hIo hoffI hinv F1 N1
    obtain ⟨la, us, n⟩ := c
    obtain ⟨f1, f2, f3, f4⟩ := hinv
    dsimp only at f1 f2 f3 f4 N1
    dsimp only [kstB] at F1
    have hd' : i < 6 ∧ [65, 66, 91, 97, 98, 123][i]? = some d := by
      have e : (Str.ofString "AB[ab{").cps = #[65, 66, 91, 97, 98, 123] := by decide +kernel
      rw [e] at hd
      have := hd
      simp only [List.getElem?_toArray] at hd
      refine ⟨?_, hd⟩
      have := (List.getElem?_eq_some_iff.mp hd).1
      simpa using this
    have hc1 := hcx d
    have hc2 := hcy d
    have hchd : (ch d).length = 1 := rfl
    change Fr _ _ _ (fun y => if y = Str.ofString "sign" then some (.str (ch d) tv) else _) at F1
    ktr_unf
    rename News _ _ _ _ => N2
    (rename Heap.IsList _ _ _ => hL2)
    (rename Fr _ _ _ _ => F2)
    have eR : (List.replicate (if Txt.count x (ch d) - Txt.count y (ch d) > 0 then Txt.count x (ch d) - Txt.count y (ch d) else 0).toNat #[Value.str (ch d) tv].toList).flatten = List.replicate (Txt.count x (ch d) - Txt.count y (ch d)).toNat (Value.str (ch d) tv) := by
      rw [show #[Value.str (ch d) tv].toList = [Value.str (ch d) tv] from rfl, List.flatten_replicate_singleton]
      congr 1
      split <;> omega
    rw [eR] at hL2
    have hlt2 := fun p hp => Heap.lt_size (N2 p hp).1
    refine add_lists F2 N2 (vs := us) ⟨_, (N2 _ (.tail _ (.head _))).1, rfl, n, rfl⟩ hL2 ?_ ?_
    · intro h3 F3 N3
      dsimp only at hlt2 N3
      ktr_unf
      refine f_end (_, us ++ List.replicate (Txt.count x (ch d) - Txt.count y (ch d)).toNat (Value.str (ch d) tv), 0) (by assumption) (by assumption) ?_ ?_ ?_ (by kst_all) (by kst_same) ⟨?_, ?_, ?_, ?_⟩
      · intro p hp
        cases hp with
        | head => exact .head _
        | tail _ h => exact .tail _ (.tail _ (.tail _ (List.mem_append_left _ h)))
      · intro p hp
        exact .tail _ (.tail _ (.tail _ (List.mem_append_right _ hp)))
      · intro p hp q
        have q := List.mem_singleton.mp q
        obtain ⟨oI, hoI⟩ := hIo
        have hI := hlt2 (I, oI) (.tail _ (.tail _ (List.mem_append_right _ hoI)))
        cases hp with
        | head => dsimp only at q hI; exact absurd hI (by rw [← q]; exact Nat.lt_irrefl _)
        | tail _ h => exact absurd (hltI p (.tail _ h)) (by rw [q]; exact Nat.lt_irrefl _)
      · dsimp only
        rw [List.take_add_one, hd'.2]
        unfold beyondTo
        rw [List.flatMap_append]
        refine f1.append' ?_
        have : ∀ k, StrsAre (List.replicate k (Value.str (ch d) tv)) (List.replicate k (ch d)) := by
          intro k
          induction k with
          | zero => exact .nil
          | succ k ih => exact .cons _ _ ih
        simpa using this _
      · dsimp only
        rw [List.length_append, List.length_replicate]
        omega
      · omega
      · intro p hp
        exact hlt2 p (.tail _ (.tail _ (List.mem_append_left _ hp)))
    · rw [PySem.sizeLine_eq, List.length_replicate]; omega
  · intro c u h tk hinv F1 N1
    obtain ⟨la, us, n⟩ := c
    obtain ⟨f1, f2, f3, f4⟩ := hinv
    dsimp only at f1 f2 f3 f4 N1
    dsimp only [kstB] at F1
    ktr_unf
    exact hret _ _ _ _ _ f1 (by assumption) (by assumption) f4
end Mine
end

section
open PySem PySem.W PyProof.Rows PySem.Calls
set_option Elab.async false
set_option maxRecDepth 100000
namespace Mine
local macro_rules | `(tactic| omega) => `(tactic| lia)
section
variable {prog : Program} {w : World} {A : Around} {E : Value → Shared → Prop} {s : Shared} {h₀ : Heap} {L D : Addr} {m : Str → Option Value} {news tl : List (Addr × Obj)} {vs : List Value} {n : Nat}
theorem StrsAre.length' {vs : List Value} {ss : List Str} (h : StrsAre vs ss) : vs.length = ss.length := by
  induction h with
  | nil => rfl
  | cons _ _ _ ih => simp [ih]
theorem strs_get {vs : List Value} {ss : List Str} (h : StrsAre vs ss) : ∀ i (hi : i < vs.length), ∃ (hj : i < ss.length) (t : Tok), vs[i] = .str ss[i] t := by
  induction h with
  | nil => intro i hi; simp at hi
  | cons x t r ih =>
    intro i hi
    cases i with
    | zero => exact ⟨by simp, t, rfl⟩
    | succ i =>
      obtain ⟨hj, t', e⟩ := ih i (by simpa using hi)
      exact ⟨by simpa using hj, t', by simpa using e⟩
theorem strs_erase {vs : List Value} {ss : List Str} (h : StrsAre vs ss) : ∀ i, StrsAre (vs.eraseIdx i) (ss.eraseIdx i) := by
  induction h with
  | nil => intro i; exact .nil
  | cons x t r ih =>
    intro i
    cases i with
    | zero => exact r
    | succ i => exact .cons x t (ih i)
def strIs (x : Str) : Value → Bool
  | .str y _ => y == x
  | _ => false
theorem l_remove {x : Str} {t : Tok} {ss : List Str} {Q : Value → Shared → Prop} (hFr : Fr h₀ L s.heap m) (N : News h₀ L s.heap ((D, listOf vs.toArray n) :: tl)) (hoff : ∀ p ∈ tl, p.1 ≠ D) (hS : StrsAre vs ss) (hz : vs.length < 1000) (hh : A.handled = none)
    (hyes : x ∈ ss → ∀ h' vs', StrsAre vs' (ss.erase x) → Fr h₀ L h' m → News h₀ L h' ((D, listOf vs'.toArray (n + 1)) :: tl) → Q .none { s with heap := h' })
    (hno : x ∉ ss → ∀ h' tk e, Heap.NewExc s.heap h' e "ValueError" → E (.ref e) { s with heap := h', toks := tk }) :
    wpAny (model prog w) A (call (.builtin "list.remove") [.ref D, .str x t]) Q E s := by
  have z := N (D, listOf vs.toArray n) (.head _)
  have hT : s.TypeIs (.ref D) "list" := ⟨_, z.1, rfl⟩
  have hlen := StrsAre.length' hS
  have he : ∀ y, y ∈ vs.toArray → MeetsSeq.EqGives y (.str x t) (strIs x y) := by
    intro y hy
    rw [List.mem_toArray] at hy
    obtain ⟨i, hi, rfl⟩ := List.mem_iff_getElem.mp hy
    obtain ⟨hj, t', e⟩ := strs_get hS i hi
    rw [e]
    exact eqGives_str _ _ _ _
  by_cases hx : x ∈ ss
  · have hidx := List.idxOf_lt_length_iff.mpr hx
    have hmin : ∀ k (hk : k < ss.length), k < ss.idxOf x → ss[k] ≠ x := by
      intro k hk hkj e
      have := List.not_of_lt_findIdx (p := fun y => y == x) (xs := ss) (i := k) hkj
      rw [e] at this
      simp at this
    have herase : ss.erase x = ss.eraseIdx (ss.idxOf x) := List.erase_eq_eraseIdx_of_idxOf rfl
    have hj : ss.idxOf x < vs.toArray.size := by simp only [List.size_toArray]; omega
    have hit : strIs x vs.toArray[ss.idxOf x] = true := by
      obtain ⟨hj', t', e⟩ := strs_get hS (ss.idxOf x) (by simpa using hj)
      have e' : vs.toArray[ss.idxOf x] = .str ss[ss.idxOf x] t' := by simpa using e
      rw [e', List.getElem_idxOf hidx]
      simp [strIs]
    have hno' : ∀ k (hk : k < vs.toArray.size), k < ss.idxOf x → strIs x vs.toArray[k] = false := by
      intro k hk hkj
      obtain ⟨hj', t', e⟩ := strs_get hS k (by simpa using hk)
      have e' : vs.toArray[k] = .str ss[k] t' := by simpa using e
      rw [e']
      exact beq_eq_false_iff_ne.mpr (hmin k hj' hkj)
    refine call_meets F.slot_list_remove hT F.entry_list_remove (F.args_list_remove_2 _ _) (MeetsSeq.list_remove D vs.toArray n (.str x t) (strIs x) he (ss.idxOf x) hj hit hno' (by simp only [List.size_toArray]; rw [PySem.sizeLine_eq]; omega)) ⟨z.1, ?_⟩
    refine hyes hx _ (vs.eraseIdx (ss.idxOf x)) (by rw [herase]; exact strs_erase hS _) (hFr.change (Heap.SameBut.update ..) z.2.1 z.2.2) (ki_turn (pre := []) _ N (fun _ h => (nomatch h)) hoff ?_ ?_)
    · apply Array.toList_inj.mp
      simp
    · have h1 : ss.idxOf x < vs.length := by simpa using hj
      simp only [List.size_toArray, List.length_eraseIdx, h1, if_true]
      have : ¬ (vs.length - 1 = vs.length) := by omega
      simp [this]
  · have hr : ∀ k (hk : k < vs.toArray.size), strIs x vs.toArray[k] = false := by
      intro k hk
      have hk' : k < vs.length := by simpa using hk
      obtain ⟨hj, t', e⟩ := strs_get hS k hk'
      have e' : vs.toArray[k] = .str ss[k] t' := by simpa using e
      rw [e']
      exact beq_eq_false_iff_ne.mpr fun q => hx (q ▸ List.getElem_mem hj)
    exact call_meets F.slot_list_remove hT F.entry_list_remove (F.args_list_remove_2 _ _) (MeetsSeq.list_remove_none D vs.toArray n (.str x t) (strIs x) he hr) ⟨z.1, hh, fun h' tk e hx' => hno hx h' tk e hx'⟩
theorem l_append {v : Value} {Q : Value → Shared → Prop} (hFr : Fr h₀ L s.heap m) (N : News h₀ L s.heap ((D, listOf vs.toArray n) :: tl)) (hoff : ∀ p ∈ tl, p.1 ≠ D) (hz : vs.length < 1000)
    (h : ∀ h', Fr h₀ L h' m → News h₀ L h' ((D, listOf (vs ++ [v]).toArray (n + 1)) :: tl) → Q .none { s with heap := h' }) : wpAny (model prog w) A (call (.builtin "list.append") [.ref D, v]) Q E s := by
  refine append_K hFr N (.head hoff) (fun h' F' N' => h h' F' ?_) (by simp only [List.size_toArray]; rw [PySem.sizeLine_eq]; omega)
  rw [List.push_toArray] at N'
  exact N'
theorem enter_t {env : Env} {K : Frag} {p : Program} {loose : List Str} {mean : ExcName → Option Value} {mg mb : Str → Option Value}
    {R : Result → Shared → Prop} {name qual : Str} {params : Arguments} {body : List Stmt} {scope : Scope} {dV kV doc pm cdv ct oc : Value} {an od : Option Addr} {osl : Array (Option Value)} {f : Addr} {args : Args} {binds : List (Str × Value)}
    (hFr : Fr h₀ L s.heap m) (X₀ : K.In h₀) (N : News h₀ L s.heap news) (T : Top p loose mean mg mb h₀) (hA : A.frames = some [env]) (hf : env.frame = some L) (hke : env.scope.kind = .function)
    (ho : K.lookup f = some ⟨oc, od, .func (fnOf name qual params body scope dV kV doc pm an cdv ct), osl⟩) (hcd : codeIn K cdv qual = true) (hroom : A.depth < recursionLimit)
    (hbind : BindsTo s (fnOf name qual params body scope dV kV doc pm an cdv ct) args binds) (hloc : ∀ y ∈ binds, scope.names.lookup y.1 = some .local)
    (h : ∀ oL L' h₁, TI.Caller h₀ L m oL → TI.Frs [env] [(L, oL)] → (∀ p ∈ news, p.1 ≠ L) → L ≠ L' → Fr h₀ L' h₁ (fun y => binds.reverse.lookup y) → News h₀ L' h₁ (news ++ [(L, oL)]) →
      wpAny (model prog w) (A.deeper (envOf qual scope L' f cdv)) (execs body (envOf qual scope L' f cdv))
        (fun fl s' => R (.ok (.ret (match fl with | .ret v => v | _ => .none))) s')
        (fun e s' => wpAny (model prog w) (A.deeper (envOf qual scope L' f cdv)) (leaving (envOf qual scope L' f cdv) e) (fun _ s'' => R (.error e) s'') (fun e' s'' => R (.error e') s'') s')
        { s with heap := h₁, toks := s.toks + binds.length })
    (hco : scope.isCoroutine = false := by rfl) (hgen : scope.isGenerator = false := by rfl) (hk : scope.kind = .function := by rfl)
    (hcell : ∀ x ∈ scope.names, x.2 ≠ .cell := by decide) : codeAny (model prog w) A (.call (.ref f) args) R s := by
  have X := X₀.keeps hFr.keep
  obtain ⟨oL, es, ep, hL, hLd, hLk, hLf⟩ := hFr.ns
  have hLt := Heap.lt_size hL
  refine codeAny_call_def (fd := fnOf name qual params body scope dV kV doc pm an cdv ct) (body := body) (binds := binds) hroom (X _ _ ho) rfl (T.nolimit.keeps hFr.keep) (codeRec_of X hcd) rfl hbind hcell hloc (fun h₁ hns hk₁ => ?_) hco hgen hk
  refine wpAny_mono (h oL s.heap.objs.size h₁ ⟨fun h' sl e => ⟨_, es, ep, e, hLd, hLk, hLf⟩, ⟨es, ep, hLd⟩, hFr.above⟩ ⟨by rw [hke]; decide, hf, ⟨es, ep, hLd⟩, trivial⟩ (fun p hp => (N p hp).2.1) (Nat.ne_of_lt hLt)
    ⟨hns, fun b o e => hk₁ b o (hFr.keep b o e), Nat.le_trans hFr.above (Nat.le_of_lt hLt)⟩ (fun p hp => ?_)) (fun _ _ x => x) fun _ _ x => wpAny_mono x (fun _ _ y => y) fun _ _ y => y
  rcases List.mem_append.mp hp with hp | hp
  · obtain ⟨h1, h2, h3⟩ := N p hp
    exact ⟨hk₁ _ _ h1, Nat.ne_of_lt (Heap.lt_size h1), h3⟩
  · obtain rfl := List.mem_singleton.mp hp
    exact ⟨hk₁ _ _ hL, Nat.ne_of_lt hLt, Heap.get?_none_of_le hFr.above⟩
end
end Mine
end

section
open PySem PySem.W PyProof.Rows
set_option Elab.async false
set_option pp.deepTerms false
set_option pp.maxSteps 3000
set_option pp.proofs false
set_option linter.unusedVariables false
set_option maxRecDepth 100000
set_option maxHeartbeats 8000000
namespace Mine
local macro_rules | `(tactic| omega) => `(tactic| lia)
local macro_rules | `(tactic| ktr_unf) => `(tactic| repeat' ((fail_if_success (with_reducible show wpAny _ _ (exec (Stmt.While _ _ _ _) _) _ _ _)); (fail_if_success (with_reducible show wpAny _ _ (call (Value.ref _) _ _) _ _ _)); (fail_if_success (with_reducible show FEnd _ _ _ _ _ _ _ _ _ _ _ _)); (fail_if_success (with_reducible show wpAny _ _ (pyIter _) _ _ _)); (fail_if_success (with_reducible show KswEnd _ _ _ _ _ _ _ _ _ _ _ _)); (fail_if_success (with_reducible show wpAny _ _ (exec (Stmt.For _ _ _ _ _) _) _ _ _)); (first | (k_unfold; (try dsimp only)) | (with_reducible refine FPost.next ?_) | (with_reducible refine FPost.cont ?_) | (with_reducible refine FPost.brk ?_) | (with_reducible refine FPost.ret ?_) | walk1 | (dsimp only; walk1) | (leave1; (try dsimp only)))))

def uld : List Str → List Str → List Str → List Str × List Str
  | [], miss, act => (miss, act)
  | e :: es, miss, act => if e ∈ act then uld es miss (act.erase e) else uld es (miss ++ [e]) act
theorem strs_snoc_inv {us : List Value} {y : Value} {xs : List Str} (h : StrsAre (us ++ [y]) xs) : ∃ xs'' x, xs = xs'' ++ [x] ∧ StrsAre us xs'' ∧ ∃ t, y = .str x t := by
  induction us generalizing xs with
  | nil =>
    cases h with
    | cons x t r => cases r; exact ⟨[], x, rfl, .nil, t, rfl⟩
  | cons v us ih =>
    cases h with
    | cons x t r =>
      obtain ⟨xs'', z, rfl, h1, h2⟩ := ih r
      exact ⟨x :: xs'', z, rfl, .cons x t h1, h2⟩
theorem c_uld {w : World} {mean : ExcName → Option Value} {mg mb : Str → Option Value} {dp un : Nat} {gd : Option (List Code)} {cn : Str} {cs : Scope} {a : Addr} {ccd : Value} {cl : List (Str × Addr)} {outer : List Env} {A₀ : Around} {base h₀ : Heap} {L : Addr} {m : Str → Option Value} {s : Shared} {Q E : Value → Shared → Prop} {l1 l2 : Addr} {vs1 vs2 : List Value} {n1 n2 : Nat} {xs ys : List Str} {tl : List (Addr × Obj)} (ho : outer = []) (hB : Below A₀ base outer h₀) (hF : Fr h₀ L s.heap m) (hX : (Mine.hd.heap_39 w.params).In h₀) (hTop : Top vw (looseW vw []) mean mg mb h₀) (hck : cs.kind = .function)
    (hN : News h₀ L s.heap ((l1, listOf vs1.toArray n1) :: (l2, listOf vs2.toArray n2) :: tl)) (h12 : l1 ≠ l2) (ho1 : ∀ p ∈ tl, p.1 ≠ l1) (ho2 : ∀ p ∈ tl, p.1 ≠ l2) (hxs : StrsAre vs1 xs) (hys : StrsAre vs2 ys)
    (hlx : xs.length ≤ 5) (hly : ys.length ≤ 5) (hdp : dp + 1 < recursionLimit) (hun : un + 8 < cLine)
    (hret : ∀ lt lm l2 vm v2 nt nm n2 h' tk', StrsAre vm (uld xs.reverse [] ys).1 → StrsAre v2 (uld xs.reverse [] ys).2 → Fr h₀ L h' m → News h₀ L h' ((lt, tupObj #[.ref lm, .ref l2] nt) :: (lm, listOf vm.toArray nm) :: (l2, listOf v2.toArray n2) :: tl) → Q (.ref lt) { s with heap := h', toks := tk' }) :
    wpAny (model PySem.Challenge.rw_ny0144_01.row.prog w) (ktrTop dp un gd cn cs L a ccd cl outer) (call (.ref 21) [.ref l1, .ref l2]) Q E s := by
  subst ho
  revert hX; k_fill; intro hX
  refine wpAny_call ?_
  k_dflt (refine' enter_t hF hX hN hTop ?kA ?kF ?kK ?k6 ?k7 ?k8 ?k9 ?kB ?_ ?c2 ?c3 ?c4 ?c5; (case kA => exact rfl); (case kF => exact rfl); (case kK => exact hck); (case k6 => k_is); (case k7 => k_is); (case k8 => (show dp < recursionLimit; omega)); (case k9 => exact BindsTo.of_eq rfl); (case c5 => decide); (case kB => exact locs rfl); (case c2 => exact rfl); (case c3 => exact rfl); (case c4 => exact rfl); k_whole)
  intro oL L' h₁ hC hFs hnL hLL F1 N1
  (try dsimp only)
  (try k_fold)
  ktr_unf
  rename Fr _ _ _ _ => F2
  rename News _ _ _ _ => N2
  (rename (∀ p ∈ ((l1, listOf vs1.toArray n1) :: (l2, listOf vs2.toArray n2) :: tl) ++ [(L, oL)], p.1 < _) => hltm)
  rename_i lm hA9 hB9
  have hl1L : l1 ≠ L := hnL (l1, listOf vs1.toArray n1) (.head _)
  have hl2L : l2 ≠ L := hnL (l2, listOf vs2.toArray n2) (.tail _ (.head _))
  have hLm : L ≠ lm := Nat.ne_of_lt (hltm (L, oL) (List.mem_append_right _ (.head _)))
  have hl1m : l1 ≠ lm := Nat.ne_of_lt (hltm (l1, listOf vs1.toArray n1) (.head _))
  have hl2m : l2 ≠ lm := Nat.ne_of_lt (hltm (l2, listOf vs2.toArray n2) (.tail _ (.head _)))
  have htm : ∀ p ∈ tl, p.1 ≠ lm := fun p hp => Nat.ne_of_lt (hltm p (List.mem_append_left _ (.tail _ (.tail _ hp))))
  have hoffs1 : ∀ (ws : List Value) k2 (ms : List Value) k3 sl, ∀ p ∈ (l2, listOf ws.toArray k2) :: (lm, listOf ms.toArray k3) :: (tl ++ [(L, ({ oL with slots := sl } : Obj))]), p.1 ≠ l1 := by
    intro ws k2 ms k3 sl p hp
    simp only [List.mem_cons, List.mem_append, List.mem_nil_iff, or_false] at hp
    rcases hp with rfl | rfl | hp | rfl
    · exact h12.symm
    · exact hl1m.symm
    · exact ho1 p hp
    · exact hl1L.symm
  have hoffs2 : ∀ (ws : List Value) k2 (ms : List Value) k3 sl, ∀ p ∈ (l1, listOf ws.toArray k2) :: (lm, listOf ms.toArray k3) :: (tl ++ [(L, ({ oL with slots := sl } : Obj))]), p.1 ≠ l2 := by
    intro ws k2 ms k3 sl p hp
    simp only [List.mem_cons, List.mem_append, List.mem_nil_iff, or_false] at hp
    rcases hp with rfl | rfl | hp | rfl
    · exact h12
    · exact hl2m.symm
    · exact ho2 p hp
    · exact hl2L.symm
  have hoffsm : ∀ (ws : List Value) k2 (ms : List Value) k3 sl, ∀ p ∈ (l1, listOf ws.toArray k2) :: (l2, listOf ms.toArray k3) :: (tl ++ [(L, ({ oL with slots := sl } : Obj))]), p.1 ≠ lm := by
    intro ws k2 ms k3 sl p hp
    simp only [List.mem_cons, List.mem_append, List.mem_nil_iff, or_false] at hp
    rcases hp with rfl | rfl | hp | rfl
    · exact hl1m
    · exact hl2m
    · exact htm p hp
    · exact hLm
  refine ksw_while (σ := (List Value × Nat × List Str) × (List Value × Nat × List Str) × (List Value × Nat × List Str) × Array (Option Value)) (fun c => (l1, listOf c.1.1.toArray c.1.2.1) :: (l2, listOf c.2.1.1.toArray c.2.1.2.1) :: (lm, listOf c.2.2.1.1.toArray c.2.2.1.2.1) :: (tl ++ [(L, { oL with slots := c.2.2.2 })])) (fun c => [])
    (fun c => StrsAre c.1.1 c.1.2.2 ∧ StrsAre c.2.1.1 c.2.1.2.2 ∧ StrsAre c.2.2.1.1 c.2.2.1.2.2 ∧ c.1.1.length + c.2.2.1.1.length ≤ 5 ∧ c.2.1.1.length ≤ 5) [Str.ofString "item"]
    (fun c => uld c.1.2.2.reverse c.2.2.1.2.2 c.2.1.2.2 = uld xs.reverse [] ys) (fun c => c.1.1.length) ((vs1, n1, xs), (vs2, n2, ys), ([], 0, []), oL.slots) F2 ?_ ?_ (by kst_all) ?_ ?_ (by passes_own)
  · refine kst_newsOf N2 ?_
    intro p hp
    simp only [List.mem_cons, List.mem_append] at hp ⊢
    rcases hp with h | h | h | h | h
    · exact .inr (.inl (.inl h))
    · exact .inr (.inl (.inr (.inl h)))
    · exact .inl h
    · exact .inr (.inl (.inr (.inr h)))
    · exact .inr (.inr h)
  · exact ⟨hxs, hys, .nil, by have := StrsAre.length' hxs; simp only [List.length_nil]; omega, by have := StrsAre.length' hys; simp only; omega⟩
  · simp
  · clear F2 N2
    rintro ⟨⟨us, k1, xs'⟩, ⟨ws, k2, ys'⟩, ⟨ms, k3, ms'⟩, sl⟩ u h tk ⟨f1, f2, f3, f4, f5⟩ hP F1 N1
    dsimp only at N1 f1 f2 f3 f4 f5 hP
    dsimp only [kstB] at F1
    dsimp only
    ktr_unf
    · (rename (us.isEmpty = true) => he)
      have he' : us = [] := by simpa using he
      subst he'
      cases f1
      simp only [List.reverse_nil, uld] at hP
      rename News _ _ _ _ => N2
      rename Fr _ _ _ _ => F2
      (rename (l1 < _ ∧ l2 < _ ∧ lm < _ ∧ _) => hD)
      rename_i D9 h9
      have hLD : L ≠ D9 := by
        have := kst_ltOf hD.2.2.2 (L, _) (List.mem_append_right _ (.head _))
        exact Nat.ne_of_lt this
      have hFo : Fr h₀ L h9 m := ⟨hC.ns _ sl (N2 (L, _) (.tail _ (.tail _ (.tail _ (.tail _ (List.mem_append_right _ (.head _))))))).1, F2.keep, hC.above⟩
      have hNo : News h₀ L h9 ((D9, tupObj #[.ref lm, .ref l2] 0) :: (lm, listOf ms.toArray k3) :: (l2, listOf ws.toArray k2) :: tl) := by
        intro p hp
        rcases List.mem_cons.mp hp with rfl | hp
        · have z := N2 _ (.head _)
          exact ⟨z.1, fun q => hLD q.symm, z.2.2⟩
        · rcases List.mem_cons.mp hp with rfl | hp
          · have z := N2 (lm, listOf ms.toArray k3) (.tail _ (.tail _ (.tail _ (.head _))))
            exact ⟨z.1, hLm.symm, z.2.2⟩
          · rcases List.mem_cons.mp hp with rfl | hp
            · have z := N2 (l2, listOf ws.toArray k2) (.tail _ (.tail _ (.head _)))
              exact ⟨z.1, hl2L, z.2.2⟩
            · have z := N2 p (.tail _ (.tail _ (.tail _ (.tail _ (List.mem_append_left _ hp)))))
              exact ⟨z.1, hnL p (.tail _ (.tail _ hp)), z.2.2⟩
      refine hret D9 lm l2 ms ws 0 k3 k2 h9 _ ?_ ?_ hFo hNo
      · rw [← hP]; exact f3
      · rw [← hP]; exact f2
    · (rename (us.isEmpty = false) => he)
      have he' : us ≠ [] := by intro q; subst q; cases he
      obtain ⟨us', y, rfl⟩ : ∃ us' y, us = us' ++ [y] := ⟨us.dropLast, us.getLast he', (List.dropLast_concat_getLast he').symm⟩
      obtain ⟨xs'', x, rfl, g1, t0, rfl⟩ : ∃ xs'' x, xs' = xs'' ++ [x] ∧ StrsAre us' xs'' ∧ ∃ t, y = .str x t := strs_snoc_inv f1
      simp only [List.length_append, List.length_cons, List.length_nil] at f4
      refine l_pop (by assumption) N1 (hoffs1 ws k2 ms k3 sl) (by omega) ?_
      intro h2 F2 N2
      clear N1
      ktr_unf
      rename News _ _ _ _ => N3
      have N4 : News h₀ L' _ ((l2, listOf ws.toArray k2) :: (l1, listOf us'.toArray (k1 + 1)) :: (lm, listOf ms.toArray k3) :: (tl ++ [(L, { oL with slots := sl })])) := kst_newsOf N3 (fun p hp => by
        simp only [List.mem_cons] at hp ⊢
        rcases hp with h | h | h | h
        · exact .inr (.inl h)
        · exact .inl h
        · exact .inr (.inr (.inl h))
        · exact .inr (.inr (.inr h)))
      refine l_remove (by assumption) N4 (hoffs2 us' (k1 + 1) ms k3 sl) f2 (by omega) rfl ?_ ?_
      · intro hin h3 ws' g2 F3 N5
        clear N3 N4
        ktr_unf
        refine ksw_end ((us', k1 + 1, xs''), (ws', k2 + 1, ys'.erase x), (ms, k3, ms'), sl) (by assumption) (by assumption) ?_ ⟨g1, g2, f3, ?_, ?_⟩ (by kst_all) (by ksw_same) ?_ ?_
        · intro p hp
          simp only [List.mem_cons] at hp ⊢
          rcases hp with h | h | h | h
          · exact .inr (.inl h)
          · exact .inl h
          · exact .inr (.inr (.inl h))
          · exact .inr (.inr (.inr h))
        · dsimp only; omega
        · dsimp only
          have e1 := StrsAre.length' g2
          have e2 := StrsAre.length' f2
          have e3 := List.length_erase_of_mem hin
          omega
        · dsimp only
          rw [← hP, List.reverse_append, List.reverse_singleton, List.singleton_append, uld, if_pos hin]
        · dsimp only
          simp only [List.length_append, List.length_cons, List.length_nil]; omega
      · intro hin h3 tk3 e hx
        rename Fr _ _ _ _ => F3
        have hFs' : TI.Frs [envX cn cs L a ccd cl] [(L, ({ oL with slots := sl } : Obj))] := ⟨hFs.1, hFs.2.1, hFs.2.2.1, trivial⟩
        have hne : TLg.AllNe L ((l2, listOf ws.toArray k2) :: (l1, listOf us'.toArray (k1 + 1)) :: (lm, listOf ms.toArray k3) :: tl) := TLgL.allNe_of (by
          intro p hp
          simp only [List.mem_cons] at hp
          rcases hp with rfl | rfl | rfl | hp
          · exact hl2L
          · exact hl1L
          · exact hLm.symm
          · exact hnL p (.tail _ (.tail _ hp)))
        refine TLg.noted_new1 (new := (l2, listOf ws.toArray k2) :: (l1, listOf us'.toArray (k1 + 1)) :: (lm, listOf ms.toArray k3) :: tl) rfl hFs' hx F3 N4 hne ?_
        intro h4 sl' _ H
        refine TT.HeldNA.land H ?_
        intro h5 H2
        dsimp only
        (with_reducible show wpAny _ _ (handleBy _ _ (ExceptHandler.ExceptHandler (some (Expr.Name _ _)) none _ _ :: _)) _ _ _)
        with_unfolding_all refine TT.clause_hitTN H2 hTop (k := ?_) (hv := by boot_by_name)
        clear N3 N4 F3 H H2
        intro h6 F6 N6
        ktr_unf
        have N7 : News h₀ L' h6 ((lm, listOf ms.toArray k3) :: (l1, listOf us'.toArray (k1 + 1)) :: (l2, listOf ws.toArray k2) :: (tl ++ [(L, { oL with slots := sl' })])) := kst_newsOf N6 (fun p hp => by
          simp only [List.mem_cons, List.cons_append] at hp ⊢
          rcases hp with h | h | h | h
          · exact .inr (.inr (.inl h))
          · exact .inr (.inl h)
          · exact .inl h
          · exact .inr (.inr (.inr h)))
        refine l_append (by assumption) N7 (hoffsm us' (k1 + 1) ws k2 sl') (by omega) ?_
        intro h7 F7 N8
        clear N6 N7
        ktr_unf
        refine ksw_end ((us', k1 + 1, xs''), (ws, k2, ys'), (ms ++ [.str x t0], k3 + 1, ms' ++ [x]), sl') (by assumption) (by assumption) ?_ ⟨g1, f2, f3.append' (.cons _ _ .nil), ?_, ?_⟩ (by kst_all) (by ksw_same) ?_ ?_
        · intro p hp
          simp only [List.mem_cons] at hp ⊢
          rcases hp with h | h | h | h
          · exact .inr (.inl h)
          · exact .inr (.inr (.inl h))
          · exact .inl h
          · exact .inr (.inr (.inr h))
        · dsimp only; simp only [List.length_append, List.length_cons, List.length_nil]; omega
        · exact f5
        · dsimp only
          rw [← hP, List.reverse_append, List.reverse_singleton, List.singleton_append, uld, if_neg hin]
        · dsimp only
          simp only [List.length_append, List.length_cons, List.length_nil]; omega
end Mine
end

section
open PySem PySem.W PyProof.Rows PySem.Calls
set_option Elab.async false
set_option maxRecDepth 100000
namespace Mine
local macro_rules | `(tactic| omega) => `(tactic| lia)
/-- a state that is handed on: some letters c, the frame and the ledger say them -/
def WOut {σ : Type} (h₀ : Heap) (L : Addr) (s : Shared) (Led : σ → List (Addr × Obj)) (ps : σ → List (Str × Value)) (stored : List Str) (m₀ : Str → Option Value) (P : σ → Prop) (s₂ : Shared) : Prop :=
  ∃ (c' : σ) (h' : Heap) (tk : Nat) (m' : Str → Option Value) (news' : List (Addr × Obj)), s₂ = { s with heap := h', toks := tk } ∧ Fr h₀ L h' m' ∧ News h₀ L h' news' ∧ (∀ p ∈ Led c', p ∈ news') ∧ (∀ p ∈ ps c', m' p.1 = some p.2) ∧ (∀ z, (∀ p ∈ ps c', z ≠ p.1) → stored.contains z = false → m' z = m₀ z) ∧ P c'
section
variable {prog : Program} {w : World} {A : Around} {E : Value → Shared → Prop} {Q : Flow → Shared → Prop} {s : Shared} {env : Env} {h₀ : Heap} {L : Addr} {σ : Type}
theorem w_out {Led : σ → List (Addr × Obj)} {ps : σ → List (Str × Value)} {stored : List Str} {m₀ m' : Str → Option Value} {P : σ → Prop} {h' : Heap} {tk : Nat} {news' : List (Addr × Obj)} (c' : σ)
    (F : Fr h₀ L h' m') (N : News h₀ L h' news') (hn : ∀ p ∈ Led c', p ∈ news') (hk : ∀ p ∈ ps c', m' p.1 = some p.2) (hr : ∀ z, (∀ p ∈ ps c', z ≠ p.1) → stored.contains z = false → m' z = m₀ z) (hp : P c') :
    WOut h₀ L s Led ps stored m₀ P { s with heap := h', toks := tk } := ⟨c', h', tk, m', news', rfl, F, N, hn, hk, hr, hp⟩
theorem WOut.elim {Led : σ → List (Addr × Obj)} {ps : σ → List (Str × Value)} {stored : List Str} {m₀ : Str → Option Value} {P : σ → Prop} {s₂ : Shared} {R : Shared → Prop} (o : WOut h₀ L s Led ps stored m₀ P s₂)
    (k : ∀ (c : σ) (u : Str → Option Value) h tk, P c → Fr h₀ L h (kstB (fun z => if stored.contains z then u z else m₀ z) (ps c)) → News h₀ L h (Led c) → R { s with heap := h, toks := tk }) : R s₂ := by
  obtain ⟨c, h, tk, m', news', rfl, F, N, hn, hk, hr, hp⟩ := o
  exact k c m' h tk hp (ksw_fr hk hr F) (fun p hp => N p (hn p hp))
/-- a while whose ways out meet again -/
theorem wh_join {test : Expr} {body : List Stmt} {pos : Pos} {m₀ : Str → Option Value} (Led : σ → List (Addr × Obj)) (ps : σ → List (Str × Value)) (stored : List Str) (P : σ → Prop) (μ : σ → Nat) (c₀ : σ)
    (F : Fr h₀ L s.heap m₀) (N : News h₀ L s.heap (Led c₀)) (hk : ∀ p ∈ ps c₀, m₀ p.1 = some p.2) (hp : P c₀) (hE : PassesOwn (model prog w) A env E)
    (turn : ∀ (c : σ) (u : Str → Option Value) h tk, P c → Fr h₀ L h (kstB (fun z => if stored.contains z then u z else m₀ z) (ps c)) → News h₀ L h (Led c) →
      wpAny (model prog w) A (isTrue test env (eval test env)) (fun b s₂ =>
        if b = true then wpAny (model prog w) A (execs body env) (KswPost h₀ L s Led ps (fun _ => True) stored m₀ P μ (fun _ _ => False) c) E s₂ else WOut h₀ L s Led ps stored m₀ P s₂) E { s with heap := h, toks := tk })
    (out : ∀ (c : σ) (u : Str → Option Value) h tk, P c → Fr h₀ L h (kstB (fun z => if stored.contains z then u z else m₀ z) (ps c)) → News h₀ L h (Led c) → Q .next { s with heap := h, toks := tk }) :
    wpAny (model prog w) A (exec (.While test body [] pos) env) Q E s := by
  refine wpAny_mono (ksw_while (Q := fun f s₂ => f = .next ∧ WOut h₀ L s Led ps stored m₀ P s₂) Led ps (fun _ => True) stored P μ c₀ F N trivial hk hp (fun c u h tk _ hp' F' N' => ?_) hE) (fun f s₂ o => ?_) fun _ _ e => e
  · refine wpAny_mono (turn c u h tk hp' F' N') (fun b s₂ q => ?_) fun _ _ e => e
    cases b with
    | false => simpa using q
    | true =>
      simp only [if_true] at q ⊢
      refine wpAny_mono q (fun f s₃ r => ?_) fun _ _ e => e
      cases f with
      | ret v => exact r.elim
      | brk => exact r.elim
      | next => exact r
      | cont => exact r
  · obtain ⟨rfl, o⟩ := o
    exact o.elim out
/-- a statement whose ways meet again -/
theorem st_join {t : Sem Flow} {m₀ : Str → Option Value} (_F : Fr h₀ L s.heap m₀) (Led : σ → List (Addr × Obj)) (ps : σ → List (Str × Value)) (stored : List Str) (P : σ → Prop)
    (one : wpAny (model prog w) A t (fun f s₂ => f = .next ∧ WOut h₀ L s Led ps stored m₀ P s₂) E s)
    (out : ∀ (c : σ) (u : Str → Option Value) h tk, P c → Fr h₀ L h (kstB (fun z => if stored.contains z then u z else m₀ z) (ps c)) → News h₀ L h (Led c) → Q .next { s with heap := h, toks := tk }) :
    wpAny (model prog w) A t Q E s := by
  refine wpAny_mono one (fun f s₂ o => ?_) fun _ _ e => e
  obtain ⟨rfl, o⟩ := o
  exact o.elim out
end
end Mine
end

section
open PySem PySem.W PyProof PyProof.Rows
set_option Elab.async false
namespace Mine
local macro_rules | `(tactic| omega) => `(tactic| lia)
def sOf (l : List Nat) : Str := ⟨l.toArray⟩
theorem sOf_len (l : List Nat) : (sOf l).length = l.length := by simp [sOf, Str.length]
theorem sOf_cps (l : List Nat) : (sOf l).cps.toList = l := by simp [sOf]
theorem sOf_of (x : Str) : sOf x.cps.toList = x := by simp [sOf]
theorem sOf_inj {a b : List Nat} (h : sOf a = sOf b) : a = b := by
  have := congrArg (fun x => x.cps.toList) h
  simpa [sOf] using this
theorem sOf_app (a b : List Nat) : sOf a ++ sOf b = sOf (a ++ b) := by
  apply Str.ext'
  rw [Str.cps_append]
  simp [sOf]
theorem sOf_ch (c : Nat) : ch c = sOf [c] := rfl
theorem sOf_beq (a b : List Nat) : (sOf a == sOf b) = decide (a = b) := by
  by_cases h : a = b
  · subst h; simp
  · rw [decide_eq_false h]
    exact beq_eq_false_iff_ne.mpr fun e => h (sOf_inj e)
theorem slice_drop {l : List Nat} {k : Int} (h0 : 0 ≤ k) (h1 : k ≤ l.length) : Txt.slice (sOf l) (some k) none = sOf (l.drop k.toNat) := by
  rw [slice_from_eq (b := ((sOf l).length : Int)) h0 (by rw [sOf_len]; exact h1) rfl, sOf_cps, sOf_len]
  show (⟨_⟩ : Str) = ⟨_⟩
  congr 2
  apply List.take_of_length_le
  rw [List.length_drop]; omega
theorem slice_take {l : List Nat} {j : Int} (h0 : 0 ≤ j) (h1 : j ≤ l.length) : Txt.slice (sOf l) none (some j) = sOf (l.take j.toNat) := by
  have := slice_closes_toL (x := sOf l) (j := j) h0 (by rw [sOf_len]; exact h1)
  rw [beq_iff_eq] at this
  rw [this, sOf_cps]
  simp [sOf]
theorem slice_take_neg {l : List Nat} {j : Int} (h0 : j < 0) (h1 : 0 ≤ (l.length : Int) + j) : Txt.slice (sOf l) none (some j) = sOf (l.take ((l.length : Int) + j).toNat) := by
  have := slice_closes_to_neg (x := sOf l) (j := j) (k := (l.length : Int) + j) h0 (by rw [sOf_len]; omega) (by rw [sOf_len]; omega)
  rw [beq_iff_eq] at this
  rw [this, sOf_cps]
  simp [sOf]
theorem slice_all (x : Str) : Txt.slice x none none = x := by
  have e : Builtin.Str.strSliceIndices none none 1 x.length = List.range x.length := by
    unfold Builtin.Str.strSliceIndices sliceRange
    simp only [show (1 : Int) > 0 from by decide, if_true]
    have : (if (0 : Int) < (x.length : Int) then ((x.length : Int) - 0 + 1 - 1) / 1 else 0).toNat = x.length := by
      split <;> omega
    rw [this]
    conv => rhs; rw [← List.map_id (List.range x.length)]
    apply List.map_congr_left
    intro a _
    show (0 + 1 * (a : Int)).toNat = a
    omega
  unfold Txt.slice
  rw [e]
  simp
theorem item_at {l : List Nat} {k : Int} (h0 : 0 ≤ k) (h1 : k < l.length) : Txt.item (sOf l) k = ch (l.getD k.toNat 0) := by
  have hk : k.toNat < l.length := by omega
  refine item_meets h0 ?_
  simp [sOf, hk]
theorem item_back {l : List Nat} {k : Int} (h0 : k < 0) (h1 : 0 ≤ (l.length : Int) + k) : Txt.item (sOf l) k = ch (l.getD ((l.length : Int) + k).toNat 0) := by
  have := item_closes_neg (x := sOf l) (i := k) (j := k + (sOf l).length) h0 (by rw [sOf_len]; omega) rfl
  rw [beq_iff_eq] at this
  rw [this]
  show (⟨_⟩ : Str) = ⟨_⟩
  congr 2
  rw [sOf_len, Int.add_comm]
  simp [sOf]
end Mine
end

section
open PySem PySem.W PyProof PyProof.Rows
set_option Elab.async false
namespace Mine
local macro_rules | `(tactic| omega) => `(tactic| lia)
theorem sc_comm (c d : Nat) : sc c d = sc d c := by
  unfold sc
  simp only [eq_comm (a := c), eq_comm (a := low c)]
theorem sc_bounds (c d : Nat) : 0 ≤ sc c d ∧ sc c d ≤ 2 := by
  unfold sc; split
  · omega
  · split <;> omega
def ED : List Nat → List Nat → Int
  | [], b => 2 * b.length
  | x :: a, [] => 2 * (x :: a).length
  | x :: a, y :: b => min (ED a b + sc x y) (min (ED a (y :: b) + 2) (ED (x :: a) b + 2))
termination_by a b => a.length + b.length
theorem ED_nil_right (a : List Nat) : ED a [] = 2 * a.length := by
  cases a <;> simp [ED]
theorem ED_le : ∀ (n : Nat) (a b : List Nat), a.length + b.length = n → 0 ≤ ED a b ∧ ED a b ≤ 2 * (a.length + b.length) := by
  intro n
  induction n using Nat.strongRecOn with
  | ind n ih =>
    intro a b hn
    cases a with
    | nil => simp only [ED, List.length_nil]; omega
    | cons x a =>
      cases b with
      | nil => simp only [ED, List.length_nil, List.length_cons]; omega
      | cons y b =>
        have h1 := ih (a.length + b.length) (by simp only [List.length_cons] at hn; omega) a b rfl
        have h2 := ih (a.length + (y :: b).length) (by simp only [List.length_cons] at hn ⊢; omega) a (y :: b) rfl
        have h3 := ih ((x :: a).length + b.length) (by simp only [List.length_cons] at hn ⊢; omega) (x :: a) b rfl
        have hs := sc_bounds x y
        rw [ED]
        simp only [List.length_cons] at h2 h3 ⊢
        omega
/-- the table: the first j signs of a, the first i of b -/
def DT (a b : List Nat) (i j : Nat) : Int := ED (a.take j).reverse (b.take i).reverse
theorem DT_zero_left (a b : List Nat) (i : Nat) (hi : i ≤ b.length) : DT a b i 0 = 2 * i := by
  simp [DT, ED, Nat.min_eq_left hi]
theorem DT_zero_right (a b : List Nat) (j : Nat) (hj : j ≤ a.length) : DT a b 0 j = 2 * j := by
  simp [DT, ED_nil_right, Nat.min_eq_left hj]
theorem take_rev {a : List Nat} {j : Nat} (h : j < a.length) : (a.take (j + 1)).reverse = a.getD j 0 :: (a.take j).reverse := by
  rw [List.take_add_one]
  simp [List.getD, List.getElem?_eq_getElem h]
theorem DT_step {a b : List Nat} {i j : Nat} (hi : i < b.length) (hj : j < a.length) :
    DT a b (i + 1) (j + 1) = min (DT a b i j + sc (a.getD j 0) (b.getD i 0)) (min (DT a b (i + 1) j + 2) (DT a b i (j + 1) + 2)) := by
  unfold DT
  rw [take_rev hi, take_rev hj, ED]
theorem DT_bound (a b : List Nat) (i j : Nat) : 0 ≤ DT a b i j ∧ DT a b i j ≤ 2 * (a.length + b.length) := by
  have h := ED_le _ (a.take j).reverse (b.take i).reverse rfl
  unfold DT
  simp only [List.length_reverse, List.length_take] at h
  omega
theorem DT_full (a b : List Nat) : DT a b b.length a.length = ED a.reverse b.reverse := by simp [DT]
/-- the turn's value: what the loop reckons -/
theorem DT_turn {a b : List Nat} {i j : Nat} {r : Int} (hi : i < b.length) (hj : j < a.length) (hr : r = if j = 0 then 2 * (i : Int) else DT a b (i + 1) j) :
    min (min r (DT a b i (j + 1)) + 2) (DT a b i j + sc (b.getD i 0) (a.getD j 0)) = DT a b (i + 1) (j + 1) := by
  rw [DT_step hi hj, sc_comm]
  have hs := sc_bounds (a.getD j 0) (b.getD i 0)
  by_cases h : j = 0
  · rw [if_pos h] at hr
    subst h
    have h1 := DT_zero_left a b i (by omega)
    have h2 := DT_zero_left a b (i + 1) (by omega)
    omega
  · rw [if_neg h] at hr
    omega
def LevCut (xs ys xb yb : List Nat) : Prop := ∃ p q, xs = p ++ xb ++ q ∧ ys = p ++ yb ++ q
def LevOf (xs ys : List Nat) (r : Int) : Prop := ∃ a b, (LevCut xs ys a b ∨ LevCut ys xs a b) ∧ r = ED a.reverse b.reverse
end Mine
end

section
open PySem PySem.W PyProof.Rows PySem.Calls
set_option Elab.async false
set_option maxRecDepth 100000
namespace Mine
local macro_rules | `(tactic| omega) => `(tactic| lia)
theorem fits_long {k : Int} (h0 : -1000000 ≤ k) (h1 : k ≤ 1000000) : Builtin.Range.rangeFitsLong k = true := by
  unfold Builtin.Range.rangeFitsLong; simp; omega
theorem range_small {a b c : Int} {n : Nat} (hc : 0 < c) (hc2 : c < 1000) (ha : 0 ≤ a) (ha2 : a < 1000) (hb : 0 ≤ b) (hb2 : b < 10000) (hn : Builtin.Range.rangeSize a b c = (n : Int)) (hn2 : n < 10000) : Builtin.Range.small a b c = true := by
  unfold Builtin.Range.small
  rw [hn, fits_long (by omega) (by omega), fits_long (by omega) (by omega), fits_long (by omega) (by omega), fits_long (by omega) (by omega)]
  simp only [show c > 0 from hc, if_true]
  rw [fits_long (by omega) (by omega)]
  simp
section
variable {prog : Program} {w : World} {A : Around} {E : Value → Shared → Prop} {s : Shared} {h₀ : Heap} {L : Addr} {m : Str → Option Value} {Q : Value → Shared → Prop}
theorem l_listRange {r : Addr} {a b c : Int} {t u v : Tok} {n : Nat} {news : List (Addr × Obj)} (hh : A.handled = none) (hFr : Fr h₀ L s.heap m) (N : News h₀ L s.heap news)
    (hr : IsRange s.heap r a b c t u v) (hc : 0 < c) (hc2 : c < 1000) (ha : 0 ≤ a) (ha2 : a < 1000) (hb : 0 ≤ b) (hb2 : b < 10000) (hn : Builtin.Range.rangeSize a b c = (n : Int)) (hn2 : n < 1000)
    (hQ : ∀ D h' tk (ys : List Value) k, Fr h₀ L h' m → News h₀ L h' ((D, listOf ys.toArray k) :: news) → (∀ p ∈ news, p.1 < D) → IntsAre ys (rangeInts a c n) → Q (.ref D) { s with heap := h', toks := tk }) :
    wpAny (model prog w) A (call (.type "list") [.ref r]) Q E s := by
  refine list_rangeD hh hFr N hr (range_small hc hc2 ha ha2 hb hb2 hn (by omega)) hn (by omega) ?_
  intro h' tk ys F' N' _ hnew _ hp hcar
  obtain ⟨k, hk⟩ := hp.1
  have hlt : ∀ p ∈ news, p.1 < s.heap.objs.size := fun p hp => Heap.lt_size (N p hp).1
  refine hQ _ h' tk ys k F' ?_ hlt (IntsAre.ofCarried hcar)
  intro p hp
  rcases List.mem_cons.mp hp with rfl | hp
  · exact ⟨hk, fun e => absurd hFr.ns.lt (by rw [← e]; exact Nat.lt_irrefl _), hnew⟩
  · exact N' p hp
theorem ints_len {vs : List Value} {ns : List Int} (h : IntsAre vs ns) : vs.length = ns.length := h.length
end
end Mine
end

section
open PySem PySem.W PyProof.Rows
set_option Elab.async false
set_option pp.deepTerms false
set_option pp.maxSteps 3000
set_option pp.proofs false
set_option linter.unusedVariables false
set_option maxRecDepth 100000
set_option maxHeartbeats 8000000
namespace Mine
local macro_rules | `(tactic| omega) => `(tactic| lia)
local macro_rules | `(tactic| ktr_rel) => `(tactic| ((fail_if_success (with_reducible show wpAny _ _ (setItem _ _ _) _ _ _)); (fail_if_success (with_reducible show WOut _ _ _ _ _ _ _ _ _)); (fail_if_success (with_reducible show wpAny _ _ (exec (Stmt.While _ _ _ _) _) _ _ _)); (fail_if_success (with_reducible show wpAny _ _ (call (Value.ref _) _ _) _ _ _)); (fail_if_success (with_reducible show FEnd _ _ _ _ _ _ _ _ _ _ _ _)); (fail_if_success (with_reducible show wpAny _ _ (pyIter _) _ _ _)); (fail_if_success (with_reducible show KswEnd _ _ _ _ _ _ _ _ _ _ _ _)); (fail_if_success (with_reducible show wpAny _ _ (exec (Stmt.For _ _ _ _ _) _) _ _ _)); (first | (k_unfold; (try dsimp only)) | (with_reducible refine FPost.next ?_) | (with_reducible refine FPost.cont ?_) | (with_reducible refine FPost.brk ?_) | (with_reducible refine FPost.ret ?_) | walk1 | (dsimp only; walk1) | (leave1; (try dsimp only)))))
local macro_rules | `(tactic| ktr_unf) => `(tactic| repeat' ktr_rel)

theorem take_more {xs ys : List Nat} {k : Int} (h0 : 0 ≤ k) (h1 : k < xs.length) (h2 : k < ys.length) (h : xs.take k.toNat = ys.take k.toNat) (he : xs.getD k.toNat 0 = ys.getD k.toNat 0) : xs.take (k + 1).toNat = ys.take (k + 1).toNat := by
  have e : (k + 1).toNat = k.toNat + 1 := by omega
  have a1 : k.toNat < xs.length := by omega
  have a2 : k.toNat < ys.length := by omega
  rw [e, List.take_add_one, List.take_add_one, h]
  congr 1
  simp only [List.getD, List.getElem?_eq_getElem a1, List.getElem?_eq_getElem a2, Option.getD_some] at he ⊢
  rw [he]
local macro_rules | `(tactic| walk_at "subscriptTail Name Slice str ref") => `(tactic| ((with_reducible show wpAny _ _ (subscriptTail _ (Expr.Slice none (some (Expr.BoolOp _ _ _)) none _) _ _) _ _ _); (with_reducible rename Fr _ _ _ _ => F'); (with_reducible rename News _ _ _ _ => N'); (refine slice_strN_nn (hsz := ?hsz) (s := ⟨_, _, _, _, _⟩) F' N' ?_); (case hsz => size_fits); intro _ _ _ _ _))
theorem drop_more {xs ys : List Nat} {p : Int} (h0 : p ≤ 0) (h1 : 0 < (xs.length : Int) + p) (h2 : 0 < (ys.length : Int) + p) (h : xs.drop (xs.length - (-p).toNat) = ys.drop (ys.length - (-p).toNat))
    (he : xs.getD ((xs.length : Int) + (p - 1)).toNat 0 = ys.getD ((ys.length : Int) + (p - 1)).toNat 0) : xs.drop (xs.length - (-(p - 1)).toNat) = ys.drop (ys.length - (-(p - 1)).toNat) := by
  have a1 : xs.length - (-(p - 1)).toNat < xs.length := by omega
  have a2 : ys.length - (-(p - 1)).toNat < ys.length := by omega
  have e1 : ((xs.length : Int) + (p - 1)).toNat = xs.length - (-(p - 1)).toNat := by omega
  have e2 : ((ys.length : Int) + (p - 1)).toNat = ys.length - (-(p - 1)).toNat := by omega
  rw [e1, e2] at he
  rw [List.drop_eq_getElem_cons a1, List.drop_eq_getElem_cons a2]
  have e3 : xs.length - (-(p - 1)).toNat + 1 = xs.length - (-p).toNat := by omega
  have e4 : ys.length - (-(p - 1)).toNat + 1 = ys.length - (-p).toNat := by omega
  rw [e3, e4, h]
  congr 1
  simpa [List.getD, List.getElem?_eq_getElem a1, List.getElem?_eq_getElem a2] using he
theorem rows_set {n j : Nat} {f g : Nat → Int} (hj : j < n) : ((List.range n).map (fun j' => if j' < j then f j' else g j')).set j (f j) = (List.range n).map (fun j' => if j' < j + 1 then f j' else g j') := by
  apply List.ext_getElem?
  intro k
  rw [List.getElem?_set]
  by_cases hk : j = k
  · subst hk
    simp [hj]
  · rw [if_neg hk, List.getElem?_map, List.getElem?_map]
    by_cases hkn : k < n
    · rw [List.getElem?_range hkn]
      simp only [Option.map_some]
      by_cases h1 : k < j
      · rw [if_pos h1, if_pos (by omega)]
      · rw [if_neg h1, if_neg (by omega)]
    · rw [List.getElem?_eq_none (by simpa using hkn)]
      rfl
theorem c_lev {w : World} {mean : ExcName → Option Value} {mg mb : Str → Option Value} {dp un : Nat} {gd : Option (List Code)} {cn : Str} {cs : Scope} {a : Addr} {ccd : Value} {cl : List (Str × Addr)} {outer : List Env} {A₀ : Around} {base h₀ : Heap} {L : Addr} {m : Str → Option Value} {s : Shared} {Q E : Value → Shared → Prop} {news : List (Addr × Obj)} {xs ys : List Nat} {t1 t2 t3 : Tok} (hB : Below A₀ base outer h₀) (hF : Fr h₀ L s.heap m) (hX : (Mine.hd.heap_39 w.params).In h₀) (hTop : Top vw (looseW vw []) mean mg mb h₀) (hck : cs.kind = .function)
    (hN : News h₀ L s.heap news) (hx : xs.length ≤ 5) (hy : ys.length ≤ 5) (hxs : ∀ c ∈ xs, c ∈ signs) (hys : ∀ c ∈ ys, c ∈ signs) (hdp : dp + 2 < recursionLimit) (hun : un + 12 < cLine)
    (hret : ∀ r t h' tk', LevOf xs ys r → Fr h₀ L h' m → News h₀ L h' news → Q (.int r t) { s with heap := h', toks := tk' }) :
    wpAny (model PySem.Challenge.rw_ny0144_01.row.prog w) (ktrTop dp un gd cn cs L a ccd cl outer) (call (.ref 63) [.str (sOf xs) t1, .str (sOf ys) t2, .int 99 t3]) Q E s := by
  revert hX; k_fill; intro hX
  have lx := sOf_len xs
  have ly := sOf_len ys
  refine wpAny_call ?_
  k_dflt cell_enter
  ktr_unf
  · (rename ((sOf xs == sOf ys) = true) => he)
    rw [sOf_beq, decide_eq_true_eq] at he
    subst he
    refine hret _ _ _ _ ⟨[], [], .inl ⟨xs, [], by simp, by simp⟩, by simp [ED]⟩ (by assumption) (by assumption)
  rename Fr _ _ _ _ => F1
  rename News _ _ _ _ => N1
  refine wh_join (σ := Int × Tok) (fun c => news) (fun c => [(Str.ofString "pre", .int c.1 c.2)]) []
    (fun c => 0 ≤ c.1 ∧ c.1 ≤ xs.length ∧ c.1 ≤ ys.length ∧ xs.take c.1.toNat = ys.take c.1.toNat) (fun c => xs.length - c.1.toNat) (0, _) F1 N1 (by kst_all) ?_ (by passes_own) ?_ ?_
  · simp
  · clear F1 N1
    --[
    rintro ⟨pre, tp⟩ u h tk ⟨f0, f1, f2, hP⟩ F1 N1
    dsimp only at f0 f1 f2 hP N1
    dsimp only [kstB] at F1
    dsimp only
    ktr_unf
    · (rename ((Txt.item (sOf xs) pre == Txt.item (sOf ys) pre) = true) => he)
      (rename (((Txt.slice (sOf xs) (some pre) none).length : Int) ≠ 0) => hn1)
      (rename (((Txt.slice (sOf ys) (some pre) none).length : Int) ≠ 0) => hn2)
      rw [slice_drop f0 f1, sOf_len, List.length_drop] at hn1
      rw [slice_drop f0 f2, sOf_len, List.length_drop] at hn2
      rw [item_at f0 (by omega), item_at f0 (by omega), ch_beq, decide_eq_true_eq] at he
      refine ksw_end (pre + 1, _) (by assumption) (by assumption) (fun _ h => h) trivial (by kst_all) (by ksw_same) ⟨?_, ?_, ?_, ?_⟩ ?_
      · dsimp only; omega
      · dsimp only; omega
      · dsimp only; omega
      · dsimp only
        exact take_more f0 (by omega) (by omega) hP he
      · dsimp only; omega
    all_goals (refine w_out (pre, tp) (by assumption) (by assumption) (fun _ h => h) (by kst_all) (by ksw_same) ⟨f0, f1, f2, hP⟩)
    --]
  · clear F1 N1
    rintro ⟨pre, tp⟩ u h tk ⟨f0, f1, f2, hP⟩ F1 N1
    dsimp only at f0 f1 f2 hP N1
    dsimp only [kstB] at F1
    ktr_unf
    rename Fr _ _ _ _ => F2
    rename News _ _ _ _ => N2
    rw [slice_drop f0 f1, slice_drop f0 f2] at F2
    obtain ⟨xa, hxa⟩ : ∃ xa, xa = xs.drop pre.toNat := ⟨_, rfl⟩
    obtain ⟨ya, hya⟩ : ∃ ya, ya = ys.drop pre.toNat := ⟨_, rfl⟩
    have lxa : xa.length ≤ 5 := by rw [hxa, List.length_drop]; omega
    have lya : ya.length ≤ 5 := by rw [hya, List.length_drop]; omega
    rw [← hxa, ← hya] at F2
    have lx' := sOf_len xa
    have ly' := sOf_len ya
    skip
    refine wh_join (σ := Int × Tok) (fun c => news) (fun c => [(Str.ofString "post", .int c.1 c.2)]) []
      (fun c => c.1 ≤ 0 ∧ -(c.1) ≤ xa.length ∧ -(c.1) ≤ ya.length ∧ xa.drop (xa.length - (-c.1).toNat) = ya.drop (ya.length - (-c.1).toNat)) (fun c => xa.length - (-c.1).toNat) (0, _) F2 N2 (by kst_all) ?_ (by passes_own) ?_ ?_
    · simp
    · clear F2 N2
      --[
      rintro ⟨post, tp'⟩ u h tk ⟨g0, g1, g2, hP'⟩ F2 N2
      dsimp only at g0 g1 g2 hP' N2
      dsimp only [kstB] at F2
      dsimp only
      by_cases hp0 : post = 0
      · subst hp0
        have hsa : ((Txt.slice (sOf xa) none none).length : Int) = xa.length := by rw [slice_all, sOf_len]
        have hsb : ((Txt.slice (sOf ya) none none).length : Int) = ya.length := by rw [slice_all, sOf_len]
        ktr_unf
        · (rename ((Txt.item (sOf xa) (0 - 1) == Txt.item (sOf ya) (0 - 1)) = true) => he)
          (rename (((Txt.slice (sOf xa) none none).length : Int) ≠ 0) => hn1)
          (rename (((Txt.slice (sOf ya) none none).length : Int) ≠ 0) => hn2)
          rw [item_back (by omega) (by omega), item_back (by omega) (by omega), ch_beq, decide_eq_true_eq] at he
          refine ksw_end (0 - 1, _) (by assumption) (by assumption) (fun _ h => h) trivial (by kst_all) (by ksw_same) ⟨?_, ?_, ?_, ?_⟩ ?_
          · dsimp only; omega
          · dsimp only; omega
          · dsimp only; omega
          · dsimp only
            exact drop_more (p := 0) (by omega) (by omega) (by omega) hP' he
          · dsimp only; omega
        all_goals (refine w_out (0, tp') (by assumption) (by assumption) (fun _ h => h) (by kst_all) (by ksw_same) ⟨by omega, g1, g2, hP'⟩)
      · have hsa : ((Txt.slice (sOf xa) none (some post)).length : Int) = xa.length + post := by rw [slice_take_neg (by omega) (by omega), sOf_len, List.length_take]; omega
        have hsb : ((Txt.slice (sOf ya) none (some post)).length : Int) = ya.length + post := by rw [slice_take_neg (by omega) (by omega), sOf_len, List.length_take]; omega
        repeat' (first | (rename (post = 0) => hz9; exact absurd hz9 hp0) | ktr_rel)
        · (rename ((Txt.item (sOf xa) (post - 1) == Txt.item (sOf ya) (post - 1)) = true) => he)
          (rename (((Txt.slice (sOf xa) none (some post)).length : Int) ≠ 0) => hn1)
          (rename (((Txt.slice (sOf ya) none (some post)).length : Int) ≠ 0) => hn2)
          rw [item_back (by omega) (by omega), item_back (by omega) (by omega), ch_beq, decide_eq_true_eq] at he
          refine ksw_end (post - 1, _) (by assumption) (by assumption) (fun _ h => h) trivial (by kst_all) (by ksw_same) ⟨?_, ?_, ?_, ?_⟩ ?_
          · dsimp only; omega
          · dsimp only; omega
          · dsimp only; omega
          · dsimp only
            exact drop_more (p := post) (by omega) (by omega) (by omega) hP' he
          · dsimp only; omega
        all_goals (refine w_out (post, tp') (by assumption) (by assumption) (fun _ h => h) (by kst_all) (by ksw_same) ⟨by omega, g1, g2, hP'⟩)
      --]
    · clear F2 N2
      rintro ⟨post, tp'⟩ u h tk ⟨g0, g1, g2, hP'⟩ F2 N2
      dsimp only at g0 g1 g2 hP' N2
      dsimp only [kstB] at F2
      obtain ⟨xb, hxb⟩ : ∃ xb, xb = xa.take (xa.length - (-post).toNat) := ⟨_, rfl⟩
      obtain ⟨yb, hyb⟩ : ∃ yb, yb = ya.take (ya.length - (-post).toNat) := ⟨_, rfl⟩
      have lxb : xb.length ≤ 5 := by rw [hxb, List.length_take]; omega
      have lyb : yb.length ≤ 5 := by rw [hyb, List.length_take]; omega
      have lx2 := sOf_len xb
      have ly2 := sOf_len yb
      have hsa : ∀ d ∈ xb, d ∈ signs := fun d hd => hxs d (by rw [hxb] at hd; have := List.mem_of_mem_take hd; rw [hxa] at this; exact List.mem_of_mem_drop this)
      have hsb : ∀ d ∈ yb, d ∈ signs := fun d hd => hys d (by rw [hyb] at hd; have := List.mem_of_mem_take hd; rw [hya] at this; exact List.mem_of_mem_drop this)
      have hcut : LevCut xs ys xb yb := by
        refine ⟨xs.take pre.toNat, xa.drop (xa.length - (-post).toNat), ?_, ?_⟩
        · rw [hxb, List.append_assoc, List.take_append_drop, hxa, List.take_append_drop]
        · rw [hP, hP', hyb, List.append_assoc, List.take_append_drop, hya, List.take_append_drop]
      -- the two cuts, one path
      repeat' ((fail_if_success (with_reducible show wpAny _ _ (exec (Stmt.Assign _ (Expr.Subscript _ (Expr.Slice none (some (Expr.BoolOp _ _ _)) none _) _) _) _) _ _ _)); ktr_rel)
      rename Fr _ _ _ _ => F3
      rename News _ _ _ _ => N3
      refine st_join (σ := Tok) F3 (fun _ => news) (fun c => [(Str.ofString "a", .str (sOf xb) c)]) [] (fun _ => True) ?_ ?_
      · by_cases hp0 : post = 0
        · subst hp0
          have hsl : Txt.slice (sOf xa) none none = sOf xb := by rw [slice_all, hxb]; simp
          ktr_unf
          refine w_out _ (by assumption) (by assumption) (fun _ h => h) (by rw [hsl]; kst_all) (by ksw_same) trivial
        · have hsl : Txt.slice (sOf xa) none (some post) = sOf xb := by rw [slice_take_neg (by omega) (by omega), hxb]; congr 2; omega
          repeat' (first | (rename (post = 0) => hz9; exact absurd hz9 hp0) | ktr_rel)
          refine w_out _ (by assumption) (by assumption) (fun _ h => h) (by rw [hsl]; kst_all) (by ksw_same) trivial
      clear F3 N3
      rintro ta ua ha ka _ F3 N3
      try dsimp only at N3
      dsimp only [kstB] at F3
      repeat' ((fail_if_success (with_reducible show wpAny _ _ (exec (Stmt.Assign _ (Expr.Subscript _ (Expr.Slice none (some (Expr.BoolOp _ _ _)) none _) _) _) _) _ _ _)); ktr_rel)
      rename Fr _ _ _ _ => F3
      rename News _ _ _ _ => N3
      refine st_join (σ := Tok) F3 (fun _ => news) (fun c => [(Str.ofString "b", .str (sOf yb) c)]) [] (fun _ => True) ?_ ?_
      · by_cases hp0 : post = 0
        · subst hp0
          have hsl : Txt.slice (sOf ya) none none = sOf yb := by rw [slice_all, hyb]; simp
          ktr_unf
          refine w_out _ (by assumption) (by assumption) (fun _ h => h) (by rw [hsl]; kst_all) (by ksw_same) trivial
        · have hsl : Txt.slice (sOf ya) none (some post) = sOf yb := by rw [slice_take_neg (by omega) (by omega), hyb]; congr 2; omega
          repeat' (first | (rename (post = 0) => hz9; exact absurd hz9 hp0) | ktr_rel)
          refine w_out _ (by assumption) (by assumption) (fun _ h => h) (by rw [hsl]; kst_all) (by ksw_same) trivial
      clear F3 N3
      rintro tb ub hb kb _ F3 N3
      try dsimp only at N3
      dsimp only [kstB] at F3
      repeat' ((fail_if_success (with_reducible show wpAny _ _ (exec (Stmt.If (Expr.Compare (Expr.Call _ _ _ _) [CmpOp.Lt] _ _) _ _ _) _) _ _ _)); ktr_rel)
      · rename Fr _ _ _ _ => F4
        rename News _ _ _ _ => N4
        refine st_join (σ := (List Nat × Tok) × (List Nat × Tok)) F4 (fun _ => news) (fun c => [(Str.ofString "a", .str (sOf c.1.1) c.1.2), (Str.ofString "b", .str (sOf c.2.1) c.2.2)]) []
          (fun c => c.1.1.length ≤ c.2.1.length ∧ 0 < c.1.1.length ∧ c.2.1.length ≤ 5 ∧ (∀ d ∈ c.1.1, d ∈ signs) ∧ (∀ d ∈ c.2.1, d ∈ signs) ∧ (LevCut xs ys c.1.1 c.2.1 ∨ LevCut ys xs c.1.1 c.2.1)) ?_ ?_
        · --[
          (rename (((sOf xb).length : Int) ≠ 0) => hnx)
          (rename (((sOf yb).length : Int) ≠ 0) => hny)
          ktr_unf
          · (rename (((sOf yb).length : Int) < ((sOf xb).length : Int)) => hlt)
            rename News _ _ _ _ => N9
            refine w_out ((yb, _), (xb, _)) (by assumption) N9 (fun _ h => .tail _ h) (by kst_all) (by ksw_same) ⟨by dsimp only; omega, by dsimp only; omega, by dsimp only; omega, hsb, hsa, .inr ?_⟩
            obtain ⟨p, q, e1, e2⟩ := hcut
            exact ⟨p, q, e2, e1⟩
          · (rename (¬ ((sOf yb).length : Int) < ((sOf xb).length : Int)) => hlt)
            refine w_out ((xb, _), (yb, _)) (by assumption) (by assumption) (fun _ h => h) (by kst_all) (by ksw_same) ⟨by dsimp only; omega, by dsimp only; omega, by dsimp only; omega, hsa, hsb, .inl hcut⟩
          --]
        · clear F4 N4
          rintro ⟨⟨a1, ta1⟩, ⟨b1, tb1⟩⟩ u1 h1 k1 ⟨w1, w2, w3, w4, w5, w6⟩ F4 N4
          (try dsimp only at w1 w2 w3 w4 w5 w6 N4)
          dsimp only [kstB] at F4
          have la1 := sOf_len a1
          have lb1 := sOf_len b1
          ktr_unf
          rename Fr _ _ _ _ => F5
          rename News _ _ _ _ => N5
          rename IsRange _ _ _ _ _ _ _ _ => hR
          have hRs : Builtin.Range.rangeSize 2 (2 * (((sOf a1).length : Int) + 1)) 2 = (a1.length : Int) := by
            unfold Builtin.Range.rangeSize
            rw [la1]
            simp only [show (2 : Int) > 0 from by omega, if_true]
            split <;> omega
          refine l_listRange rfl F5 N5 hR (by omega) (by omega) (by omega) (by omega) (by omega) (by omega) hRs (by omega) ?_
          intro D h5 tk5 rv rk F6 N6 hltD hri
          clear F5 N5 hR
          ktr_unf
          rename Fr _ _ _ _ => F7
          refine for_inv F7 (by with_unfolding_all rfl) (by with_unfolding_all rfl) (by intro _; with_unfolding_all rfl) (by passes_own) ?_
          ktr_unf
          rename Fr _ _ _ _ => F8
          rename News _ _ _ _ => N8
          rename IsRange _ _ _ _ _ _ _ _ => hR2
          rw [lb1] at hR2
          refine range_loop (σ := List Value × Nat × List Int × Int × Tok) (fun c => (D, listOf c.1.toArray c.2.1) :: news) (fun c => [(Str.ofString "result", .int c.2.2.2.1 c.2.2.2.2)])
            (fun i c => IntsAre c.1 c.2.2.1 ∧ c.2.2.1 = (List.range a1.length).map (fun j => DT a1 b1 i (j + 1)) ∧ (0 < i → c.2.2.2.1 = DT a1 b1 i a1.length)) [Str.ofString "bchar", Str.ofString "distance", Str.ofString "minimum", Str.ofString "index", Str.ofString "substitute", Str.ofString "insert_delete"]
            (rv, rk, rangeInts 2 2 a1.length, 0, _) rfl hR2 (by omega) F8 N8 (fun _ h => h) ?_ (by kst_all) ?_ ?_
          · rename IntsAre _ _ => hri
            refine ⟨hri, ?_, fun h => absurd h (Nat.lt_irrefl _)⟩
            dsimp only [rangeInts]
            apply List.map_congr_left
            intro j hj
            rw [DT_zero_right _ _ _ (by have := List.mem_range.mp hj; omega)]
            push_cast; omega
          all_goals clear F8 N8 hR2
          · intro i tv c u h tk I own hi hltI hown hIo hoffI hinv F9 N9
            obtain ⟨vs, k, rows, res, tr⟩ := c
            obtain ⟨i1, i2, i3⟩ := hinv
            (try dsimp only at i1 i2 i3 N9)
            dsimp only [kstB] at F9
            ktr_unf
            rename Fr _ _ _ _ => F10
            have hDI : D ≠ I := hoffI (D, listOf vs.toArray k) (.head _)
            have hoffD : ∀ p ∈ news ++ own, p.1 ≠ D := by
              intro p hp
              rcases List.mem_append.mp hp with hp | hp
              · exact Nat.ne_of_lt (hltD p hp)
              · rw [hown p hp]; exact fun e => hDI e.symm
            rw [item_at (by omega) (by omega)] at F10
            have hbs : b1.getD (i : Int).toNat 0 ∈ signs := by
              rw [Int.toNat_natCast, getD_at hi]
              exact w5 _ (List.getElem_mem _)
            refine for_inv F10 (by with_unfolding_all rfl) (by with_unfolding_all rfl) (by intro _; with_unfolding_all rfl) (by passes_own) ?_
            ktr_unf
            rename Fr _ _ _ _ => F11
            rename News _ _ _ _ => N11
            rename IsRange _ _ _ _ _ _ _ _ => hR3
            rw [la1] at hR3
            refine range_loop (σ := (List Value × Nat × List Int) × (Int × Tok) × (Int × Tok) × (Int × Tok)) (fun c => (D, listOf c.1.1.toArray c.1.2.1) :: (news ++ own)) (fun c => [(Str.ofString "distance", .int c.2.1.1 c.2.1.2), (Str.ofString "result", .int c.2.2.1.1 c.2.2.1.2), (Str.ofString "minimum", .int c.2.2.2.1 c.2.2.2.2)])
              (fun j c => IntsAre c.1.1 c.1.2.2 ∧ c.1.2.2 = (List.range a1.length).map (fun j' => if j' < j then DT a1 b1 (i + 1) (j' + 1) else DT a1 b1 i (j' + 1)) ∧ c.2.1.1 = DT a1 b1 i j ∧ c.2.2.1.1 = (if j = 0 then 2 * (i : Int) else DT a1 b1 (i + 1) j) ∧ (0 < j → c.2.2.2.1 ≤ 20)) [Str.ofString "substitute", Str.ofString "insert_delete"]
              ((vs, k, rows), (_, _), (_, _), (_, _)) rfl hR3 (by omega) F11 N11 (fun _ h => h) ?_ (by kst_all) ?_ ?_
            · rename IntsAre _ _ => i1
              refine ⟨i1, ?_, ?_, ?_, fun h => absurd h (Nat.lt_irrefl _)⟩
              · dsimp only
                rw [i2]
                simp
              · dsimp only
                rw [DT_zero_left _ _ _ (by omega)]; omega
              · dsimp only
                rw [if_pos rfl]; omega
            all_goals clear F11 N11 hR3
            · intro j tvj c u h tk I2 own2 hj hltI2 hown2 hIo2 hoffI2 hinv F12 N12
              obtain ⟨⟨vs2, k2, rows2⟩, ⟨dist, tdi⟩, ⟨res2, tre⟩, ⟨mini, tmi⟩⟩ := c
              obtain ⟨j1, j2, j3, j4, j5⟩ := hinv
              (try dsimp only at j1 j2 j3 j4 j5 N12)
              dsimp only [kstB] at F12
              ktr_unf
              rename News _ _ _ _ => N13
              have has : a1.getD (j : Int).toNat 0 ∈ signs := by
                rw [Int.toNat_natCast, getD_at hj]
                exact w4 _ (List.getElem_mem _)
              rw [item_at (l := a1) (by omega) (by omega)]
              refine c_sub (by assumption) (by assumption) (by assumption) (by assumption) rfl N13 hbs has ?_ ?_ ?_
              · show dp + 1 + 1 < recursionLimit; omega
              · show un + 3 + 8 < cLine; omega
              intro ts h13 tk13 F14 N14
              clear N13
              have hrl : rows2.length = a1.length := by rw [j2]; simp
              have hrow : rows2.getD (j : Int).toNat 0 = DT a1 b1 i (j + 1) := by
                rw [j2, Int.toNat_natCast, List.getD_eq_getElem?_getD, List.getElem?_map, List.getElem?_range hj]
                simp
              have hval : (if dist + sc (b1.getD (i : Int).toNat 0) (a1.getD (j : Int).toNat 0) < (if rows2.getD (j : Int).toNat 0 < res2 then rows2.getD (j : Int).toNat 0 else res2) + 2 then dist + sc (b1.getD (i : Int).toNat 0) (a1.getD (j : Int).toNat 0) else (if rows2.getD (j : Int).toNat 0 < res2 then rows2.getD (j : Int).toNat 0 else res2) + 2) = DT a1 b1 (i + 1) (j + 1) := by
                have ht := DT_turn hi hj j4
                rw [hrow, j3, ← ht, Int.toNat_natCast, Int.toNat_natCast]
                (repeat' split) <;> omega
              ktr_unf
              rename Fr _ _ _ _ => F15
              rename News _ _ _ _ => N15
              rw [hval] at F15 ⊢
              have hoffD2 : ∀ p ∈ (news ++ own) ++ own2, p.1 ≠ D := by
                intro p hp
                rcases List.mem_append.mp hp with hp | hp
                · exact hoffD p hp
                · rw [hown2 p hp]; exact fun e => hoffI2 (D, listOf vs2.toArray k2) (.head _) e.symm
              have hvl := ints_len j1
              refine l_set F15 N15 hoffD2 (by omega) (by omega) (by omega) ?_
              intro h16 F16 N16
              clear N15
              ktr_unf
              · (rename (DT a1 b1 (i + 1) (j + 1) < mini) => hm9)
                refine f_end ((vs2.set (j : Int).toNat (.int (DT a1 b1 (i + 1) (j + 1)) ?tt), k2, rows2.set (j : Int).toNat (DT a1 b1 (i + 1) (j + 1))), (DT a1 b1 i (j + 1), _), (DT a1 b1 (i + 1) (j + 1), ?tt), (DT a1 b1 (i + 1) (j + 1), _)) (by assumption) (by assumption) ?_ ?_ ?_ (by rw [← hrow]; kst_all) (by kst_same) ⟨ints_set j1 _, ?_, ?_, ?_, ?_⟩
                · intro p hp
                  cases hp with
                  | head => exact .head _
                  | tail _ h => exact .tail _ (List.mem_append_left _ h)
                · intro p hp
                  exact .tail _ (List.mem_append_right _ hp)
                · intro p hp q
                  have q := List.mem_singleton.mp q
                  cases hp with
                  | head => exact hoffI2 (D, listOf vs2.toArray k2) (.head _) q
                  | tail _ h => exact hoffI2 p (.tail _ h) q
                · dsimp only
                  rw [j2, Int.toNat_natCast]
                  exact rows_set hj
                · rfl
                · dsimp only
                  rw [if_neg (by omega)]
                · intro _
                  dsimp only
                  have hb := DT_bound a1 b1 (i + 1) (j + 1)
                  omega
              · (rename (¬ DT a1 b1 (i + 1) (j + 1) < mini) => hm9)
                refine f_end ((vs2.set (j : Int).toNat (.int (DT a1 b1 (i + 1) (j + 1)) ?tt), k2, rows2.set (j : Int).toNat (DT a1 b1 (i + 1) (j + 1))), (DT a1 b1 i (j + 1), _), (DT a1 b1 (i + 1) (j + 1), ?tt), (mini, _)) (by assumption) (by assumption) ?_ ?_ ?_ (by rw [← hrow]; kst_all) (by kst_same) ⟨ints_set j1 _, ?_, ?_, ?_, ?_⟩
                · intro p hp
                  cases hp with
                  | head => exact .head _
                  | tail _ h => exact .tail _ (List.mem_append_left _ h)
                · intro p hp
                  exact .tail _ (List.mem_append_right _ hp)
                · intro p hp q
                  have q := List.mem_singleton.mp q
                  cases hp with
                  | head => exact hoffI2 (D, listOf vs2.toArray k2) (.head _) q
                  | tail _ h => exact hoffI2 p (.tail _ h) q
                · dsimp only
                  rw [j2, Int.toNat_natCast]
                  exact rows_set hj
                · rfl
                · dsimp only
                  rw [if_neg (by omega)]
                · intro _
                  dsimp only
                  have hb := DT_bound a1 b1 (i + 1) (j + 1)
                  omega
            · intro c u h tk hinv F12 N12
              obtain ⟨⟨vs2, k2, rows2⟩, ⟨dist, tdi⟩, ⟨res2, tre⟩, ⟨mini, tmi⟩⟩ := c
              obtain ⟨j1, j2, j3, j4, j5⟩ := hinv
              (try dsimp only at j1 j2 j3 j4 j5 N12)
              dsimp only [kstB] at F12
              ktr_unf
              · (rename (mini > 99) => hm9)
                have := j5 (by omega)
                omega
              · refine f_end (vs2, k2, rows2, res2, tre) (by assumption) N12 ?_ ?_ ?_ (by kst_all) (by kst_same) ⟨j1, ?_, ?_⟩
                · intro p hp
                  cases hp with
                  | head => exact .head _
                  | tail _ h => exact .tail _ (List.mem_append_left _ h)
                · intro p hp
                  exact .tail _ (List.mem_append_right _ hp)
                · intro p hp q
                  have q := List.mem_singleton.mp q
                  cases hp with
                  | head => exact hDI q
                  | tail _ h => exact hoffI p (.tail _ h) q
                · dsimp only
                  rw [j2]
                  apply List.map_congr_left
                  intro j hj
                  rw [if_pos (List.mem_range.mp hj)]
                · intro _
                  dsimp only
                  rw [j4, if_neg (by omega)]
          · intro c u h tk hinv F9 N9
            obtain ⟨vs, k, rows, res, tr⟩ := c
            obtain ⟨i1, i2, i3⟩ := hinv
            (try dsimp only at i1 i2 i3 N9)
            dsimp only [kstB] at F9
            ktr_unf
            refine hret _ _ _ _ ⟨a1, b1, w6, ?_⟩ (by assumption) (by rename News _ _ _ _ => N10; exact fun p hp => N10 p (.tail _ hp))
            rw [i3 (by omega), DT_full]
      · (rename (((sOf yb).length : Int) = 0) => h9)
        have h8 : yb = [] := List.eq_nil_of_length_eq_zero (by omega)
        subst h8
        refine hret _ _ _ _ ⟨xb, [], .inl hcut, ?_⟩ (by assumption) (by assumption)
        rw [List.reverse_nil, ED_nil_right, List.length_reverse, lx2]
        simp [sOf_len]
      · (rename (((sOf xb).length : Int) = 0) => h9)
        have h8 : xb = [] := List.eq_nil_of_length_eq_zero (by omega)
        subst h8
        refine hret _ _ _ _ ⟨[], yb, .inl hcut, ?_⟩ (by assumption) (by assumption)
        rw [List.reverse_nil, ED, List.length_reverse, ly2]
        simp [sOf_len]
end Mine
end

section
open PySem PySem.W PyProof.Rows PySem.Calls
set_option Elab.async false
set_option maxRecDepth 100000
namespace Mine
local macro_rules | `(tactic| omega) => `(tactic| lia)
theorem strs_ofCarried : ∀ {ys : List Value} {ss : List Str}, CarriedAll ys (ss.map PyData.str) → StrsAre ys ss
  | [], [], _ => .nil
  | [], _ :: _, h => by cases h
  | _ :: _, [], h => by cases h
  | v :: ys, x :: ss, h => by
    cases h with
    | cons h r =>
      cases h with
      | str x t => exact .cons x t (strs_ofCarried r)
theorem signs_sOf (l : List Nat) : PyProof.Rows.signs (sOf l) = l.map ch := by
  simp [PyProof.Rows.signs, sOf, ch]
theorem datAll_strs {news : List (Addr × Obj)} {vs : List Value} {ss : List Str} (h : StrsAre vs ss) : DatAll news vs (ss.map Dat.str) := by
  induction h with
  | nil => exact .nil
  | cons x t _ ih => exact .cons (.str x t) ih
theorem datAll_ints {news : List (Addr × Obj)} {vs : List Value} {ns : List Int} (h : IntsAre vs ns) : DatAll news vs (ns.map Dat.int) := by
  induction h with
  | nil => exact .nil
  | cons x t _ ih => exact .cons (.int x t) ih
section
variable {prog : Program} {w : World} {A : Around} {E : Value → Shared → Prop} {s : Shared} {h₀ : Heap} {L : Addr} {m : Str → Option Value} {Q : Value → Shared → Prop} {news : List (Addr × Obj)}
theorem l_listStr {l : List Nat} {t : Tok} (hh : A.handled = none) (hFr : Fr h₀ L s.heap m) (N : News h₀ L s.heap news) (hl : l.length < 1000)
    (hQ : ∀ D h' tk (ys : List Value) k, Fr h₀ L h' m → News h₀ L h' ((D, listOf ys.toArray k) :: news) → (∀ p ∈ news, p.1 < D) → StrsAre ys (l.map ch) → Q (.ref D) { s with heap := h', toks := tk }) :
    wpAny (model prog w) A (call (.type "list") [.str (sOf l) t]) Q E s := by
  refine list_strD hh hFr N ?_ (by rw [sOf_len, PySem.sizeLine_eq]; omega)
  intro h' tk ys F' N' _ hnew _ hp hcar
  obtain ⟨k, hk⟩ := hp.1
  have hlt : ∀ p ∈ news, p.1 < s.heap.objs.size := fun p hp => Heap.lt_size (N p hp).1
  rw [signs_sOf] at hcar
  refine hQ _ h' tk ys k F' ?_ hlt (strs_ofCarried hcar)
  intro p hp
  rcases List.mem_cons.mp hp with rfl | hp
  · exact ⟨hk, fun e => absurd hFr.ns.lt (by rw [← e]; exact Nat.lt_irrefl _), hnew⟩
  · exact N' p hp
theorem l_sortedStr {D : Addr} {vs : List Value} {k : Nat} {ss : List Str} (hFr : Fr h₀ L s.heap m) (N : News h₀ L s.heap news) (hm : (D, listOf vs.toArray k) ∈ news) (hS : StrsAre vs ss) (h64 : vs.length < 64)
    (h : ∀ D' h' vs' ss' e, Fr h₀ L h' m → News h₀ L h' ((D', listOf vs'.toArray e) :: news) → (∀ p ∈ news, p.1 < D') → StrsAre vs' ss' → ss'.Perm ss → sortedS ss' = true → Q (.ref D') { s with heap := h' }) :
    wpAny (model prog w) A (call (.builtin "sorted") [.ref D]) Q E s := by
  refine sorted_N_str hFr N ⟨_, (N _ hm).1, rfl, k, rfl⟩ hS h64 ?_
  intro h' vs' ss' e F' N' a1 a2 a3
  exact h _ h' vs' ss' e F' N' (fun p hp => Nat.lt_succ_of_lt (Heap.lt_size (N p hp).1)) a1 a2 a3
theorem l_neStrs {a b : Addr} {xs ys : List Value} {ss ts : List Str} {ka kb : Nat} (N : News h₀ L s.heap news) (ma : (a, listOf xs.toArray ka) ∈ news) (mb : (b, listOf ys.toArray kb) ∈ news) (hx : StrsAre xs ss) (hy : StrsAre ys ts)
    (ok : ∀ x ∈ ss, PyData.strOk x = true) (ok2 : ∀ x ∈ ts, PyData.strOk x = true) (hu : A.units + 64 < cLine) (h : Q (.bool (!decide (ss = ts))) s) :
    wpAny (model prog w) A (compareOp .NotEq (.ref a) (.ref b)) Q E s := by
  refine kqd_ne N ma rfl rfl (datAll_strs (news := []) hx) (fun _ h => (nomatch h)) mb rfl rfl (datAll_strs (news := []) hy) (fun _ h => (nomatch h)) ?_ ?_ hu ?_
  · intro d hd
    obtain ⟨x, hx', rfl⟩ := List.mem_map.mp hd
    simpa [kqdOk] using ok x hx'
  · intro d hd
    obtain ⟨x, hx', rfl⟩ := List.mem_map.mp hd
    simpa [kqdOk] using ok2 x hx'
  · have e : (ss.map Dat.str = ts.map Dat.str) ↔ ss = ts := by
      constructor
      · intro h
        exact (List.map_inj_right (f := Dat.str) (by intro x y h; injection h)).mp h
      · intro h; rw [h]
    simp only [e]
    exact h
end
theorem strOk_ch : ∀ c ∈ signs, PyData.strOk (ch c) = true := by decide +kernel
end Mine
end

section
open PySem PySem.W PyProof.Rows PySem.Calls PyProof
set_option Elab.async false
set_option maxRecDepth 100000
namespace Mine
local macro_rules | `(tactic| omega) => `(tactic| lia)
theorem lowerOf_sign : ∀ c ∈ signs, Unicode.lowerOf c = [low c] := by decide +kernel
theorem lower_sOf {l : List Nat} (h : ∀ c ∈ l, c ∈ signs) : Txt.lower (sOf l) = sOf (l.map low) := by
  have key : ∀ (i : Nat) (hi : i < l.length), Unicode.lowerAt (sOf l).cps i = [low l[i]] := by
    intro i hi
    unfold Unicode.lowerAt
    have e : (sOf l).cps[i]? = some l[i] := by simp [sOf, hi]
    rw [e]
    have hs := h _ (List.getElem_mem hi)
    have hne : (l[i] == 0x3A3) = false := by
      have : ∀ c ∈ signs, (c == 0x3A3) = false := by decide
      exact this _ hs
    simp only [hne, Bool.false_and, Bool.false_eq_true, if_false]
    exact lowerOf_sign _ hs
  show (⟨placed (sOf l) fun i _ => Unicode.lowerAt (sOf l).cps i⟩ : Str) = ⟨(l.map low).toArray⟩
  congr 1
  unfold placed
  have e2 : (sOf l).cps.mapIdx (fun i _ => (Unicode.lowerAt (sOf l).cps i).toArray) = ((l.map low).map fun c => #[c]).toArray := by
    apply Array.ext
    · simp [sOf]
    · intro i h1 h2
      have hi : i < l.length := by simpa [sOf] using h1
      simp only [Array.getElem_mapIdx]
      rw [key i hi]
      simp
  rw [e2]
  apply Array.toList_inj.mp
  simp
  clear e2 key h
  induction l with
  | nil => rfl
  | cons c l ih => simp [ih]
theorem news_swap {h₀ h : Heap} {L : Addr} {a b : Addr × Obj} {tl : List (Addr × Obj)} (N : News h₀ L h (a :: b :: tl)) : News h₀ L h (b :: a :: tl) := by
  intro p hp
  simp only [List.mem_cons] at hp
  rcases hp with h | h | h
  · exact N p (by simp [h])
  · exact N p (by simp [h])
  · exact N p (by simp [h])
end Mine
end

section
open PySem PySem.W PyProof.Rows PySem.Calls PyProof
set_option Elab.async false
set_option maxRecDepth 100000
namespace Mine
local macro_rules | `(tactic| omega) => `(tactic| lia)
/-- the values are the tuples of these keys -/
inductive TAll (tl : List (Addr × Obj)) : List Value → List Key → Prop
  | nil : TAll tl [] []
  | cons {v : Value} {k : Key} {vs : List Value} {ks : List Key} : TIn tl v k → TAll tl vs ks → TAll tl (v :: vs) (k :: ks)
theorem TAll.mono {tl tl' : List (Addr × Obj)} (hs : ∀ p ∈ tl, p ∈ tl') {vs : List Value} {ks : List Key} (h : TAll tl vs ks) : TAll tl' vs ks := by
  induction h with
  | nil => exact .nil
  | cons h _ ih => exact .cons (h.mono hs) ih
theorem TAll.length {tl : List (Addr × Obj)} {vs : List Value} {ks : List Key} (h : TAll tl vs ks) : vs.length = ks.length := by
  induction h with
  | nil => rfl
  | cons _ _ ih => simp [ih]
theorem TAll.append {tl : List (Addr × Obj)} {vs ws : List Value} {ks js : List Key} (h : TAll tl vs ks) (h2 : TAll tl ws js) : TAll tl (vs ++ ws) (ks ++ js) := by
  induction h with
  | nil => exact h2
  | cons h _ ih => exact .cons h ih
theorem TAll.mem {tl : List (Addr × Obj)} {vs : List Value} {ks : List Key} (h : TAll tl vs ks) : ∀ v ∈ vs, ∃ k ∈ ks, TIn tl v k := by
  induction h with
  | nil => intro v hv; cases hv
  | cons h _ ih =>
    intro v hv
    rcases List.mem_cons.mp hv with rfl | hv
    · exact ⟨_, .head _, h⟩
    · obtain ⟨k, hk, ht⟩ := ih v hv
      exact ⟨k, .tail _ hk, ht⟩
theorem TIn.uniq {h₀ h : Heap} {L : Addr} {tl : List (Addr × Obj)} (N : News h₀ L h tl) {v : Value} {k k' : Key} (a : TIn tl v k) (b : TIn tl v k') : k = k' := by
  obtain ⟨x, n, t1, t2, t3, rfl, m1⟩ := a
  obtain ⟨y, n', u1, u2, u3, e, m2⟩ := b
  injection e with e
  subst e
  have e1 := (N _ m1).1
  rw [(N _ m2).1] at e1
  have e2 := Option.some.inj e1
  obtain ⟨a1, a2, a3⟩ := k
  obtain ⟨b1, b2, b3⟩ := k'
  simp only [tupObj, Obj.mk.injEq, Data.seq.injEq, true_and] at e2
  have e3 := e2.1.1
  simp only [Array.mk.injEq, List.cons.injEq, Value.int.injEq, and_true] at e3
  obtain ⟨⟨h1, _⟩, ⟨h2, _⟩, ⟨h3, _⟩⟩ := e3
  simp [h1, h2, h3]
/-- the key of a value -/
noncomputable def kfOf (tl : List (Addr × Obj)) (v : Value) : Key := open Classical in if h : ∃ k, TIn tl v k then Classical.choose h else (0, 0, 0)
theorem kfOf_in {tl : List (Addr × Obj)} {v : Value} {k : Key} (h : TIn tl v k) : TIn tl v (kfOf tl v) := by
  have he : ∃ k, TIn tl v k := ⟨k, h⟩
  unfold kfOf
  rw [dif_pos he]
  exact Classical.choose_spec he
theorem TAll.kf {h₀ h : Heap} {L : Addr} {tl : List (Addr × Obj)} (N : News h₀ L h tl) {vs : List Value} {ks : List Key} (hA : TAll tl vs ks) : vs.map (kfOf tl) = ks := by
  induction hA with
  | nil => rfl
  | cons h _ ih => rw [List.map_cons, ih, TIn.uniq N (kfOf_in h) h]
theorem TAll.of_mem {tl : List (Addr × Obj)} : ∀ {vs : List Value}, (∀ v ∈ vs, TIn tl v (kfOf tl v)) → TAll tl vs (vs.map (kfOf tl))
  | [], _ => .nil
  | v :: vs, h => .cons (h v (.head _)) (TAll.of_mem fun u hu => h u (.tail _ hu))
theorem news_third {h₀ h : Heap} {L : Addr} {a b c : Addr × Obj} {tl : List (Addr × Obj)} (N : News h₀ L h (a :: b :: c :: tl)) : News h₀ L h (c :: a :: b :: tl) := by
  intro p hp
  simp only [List.mem_cons] at hp
  rcases hp with h | h | h | h <;> exact N p (by simp [h])
theorem news_fourth {h₀ h : Heap} {L : Addr} {a b c d : Addr × Obj} {tl : List (Addr × Obj)} (N : News h₀ L h (a :: b :: c :: d :: tl)) : News h₀ L h (d :: a :: b :: c :: tl) := by
  intro p hp
  simp only [List.mem_cons] at hp
  rcases hp with h | h | h | h | h <;> exact N p (by simp [h])
theorem range_one (n : Nat) : Builtin.Range.rangeSize 0 (n : Int) 1 = (n : Int) := by
  unfold Builtin.Range.rangeSize
  simp only [show (1 : Int) > 0 from by omega, if_true]
  split <;> omega
theorem rangeInts_one (n : Nat) : rangeInts 0 1 n = (List.range n).map (fun (i : Nat) => (i : Int)) := by
  unfold rangeInts
  apply List.map_congr_left
  intro i _
  omega
/-- all pairs' keys, row by row -/
def rowKeys (xs ys : List Nat) (i j : Nat) : List Key := (List.range j).map fun b => (sc (xs.getD i 0) (ys.getD b 0), (i : Int), (b : Int))
def pairKeys (xs ys : List Nat) (i : Nat) : List Key := (List.range i).flatMap fun a => rowKeys xs ys a ys.length
theorem rowKeys_succ (xs ys : List Nat) (i j : Nat) : rowKeys xs ys i (j + 1) = rowKeys xs ys i j ++ [(sc (xs.getD i 0) (ys.getD j 0), (i : Int), (j : Int))] := by
  simp [rowKeys, List.range_succ]
theorem pairKeys_succ (xs ys : List Nat) (i : Nat) : pairKeys xs ys (i + 1) = pairKeys xs ys i ++ rowKeys xs ys i ys.length := by
  simp [pairKeys, List.range_succ]
theorem rowKeys_len (xs ys : List Nat) (i j : Nat) : (rowKeys xs ys i j).length = j := by simp [rowKeys]
theorem pairKeys_len (xs ys : List Nat) (i : Nat) : (pairKeys xs ys i).length = i * ys.length := by
  induction i with
  | zero => simp [pairKeys]
  | succ i ih => rw [pairKeys_succ, List.length_append, ih, rowKeys_len, Nat.succ_mul]
end Mine
end

section
open PySem PySem.W PyProof.Rows PySem.Calls PyProof
set_option Elab.async false
set_option maxRecDepth 100000
set_option linter.unusedVariables false
namespace Mine
local macro_rules | `(tactic| omega) => `(tactic| lia)
def keyDat (k : Key) : Dat := .tuple [.int k.1, .int k.2.1, .int k.2.2]
theorem keyDat_inj {k k' : Key} (h : keyDat k = keyDat k') : k = k' := by
  obtain ⟨a, b, c⟩ := k
  obtain ⟨a', b', c'⟩ := k'
  simp only [keyDat, Dat.tuple.injEq, List.cons.injEq, Dat.int.injEq, and_true] at h
  simp [h.1, h.2.1, h.2.2]
theorem TIn.dat {tl : List (Addr × Obj)} {v : Value} {k : Key} (h : TIn tl v k) : DatIn tl v (keyDat k) := by
  obtain ⟨a, n, t1, t2, t3, rfl, hm⟩ := h
  exact .tuple (vs := [.int k.1 t1, .int k.2.1 t2, .int k.2.2 t3]) hm (.cons (.int _ _) (.cons (.int _ _) (.cons (.int _ _) .nil)))
theorem datAll_keys {tl : List (Addr × Obj)} {kf : Value → Key} : ∀ {vs : List Value}, (∀ v ∈ vs, TIn tl v (kf v)) → DatAll tl vs ((vs.map kf).map keyDat)
  | [], _ => .nil
  | v :: vs, h => .cons (h v (.head _)).dat (datAll_keys fun u hu => h u (.tail _ hu))
theorem keyDat_ok (ks : List Key) : ∀ d ∈ ks.map keyDat, kqdOk 8 d = true := by
  intro d hd
  obtain ⟨k, _, rfl⟩ := List.mem_map.mp hd
  simp [keyDat, kqdOk]
/-- pairs of ints, as the mates are -/
def PIn (tl : List (Addr × Obj)) (v : Value) (k : Int × Int) : Prop := ∃ a n t1 t2, v = .ref a ∧ (a, tupObj #[.int k.1 t1, .int k.2 t2] n) ∈ tl
inductive PAll (tl : List (Addr × Obj)) : List Value → List (Int × Int) → Prop
  | nil : PAll tl [] []
  | cons {v : Value} {k : Int × Int} {vs : List Value} {ks : List (Int × Int)} : PIn tl v k → PAll tl vs ks → PAll tl (v :: vs) (k :: ks)
theorem PIn.mono {tl tl' : List (Addr × Obj)} {v : Value} {k : Int × Int} (H : PIn tl v k) (hs : ∀ p ∈ tl, p ∈ tl') : PIn tl' v k := by
  obtain ⟨a, n, t1, t2, rfl, hm⟩ := H
  exact ⟨a, n, t1, t2, rfl, hs _ hm⟩
theorem PAll.mono {tl tl' : List (Addr × Obj)} (hs : ∀ p ∈ tl, p ∈ tl') {vs : List Value} {ks : List (Int × Int)} (h : PAll tl vs ks) : PAll tl' vs ks := by
  induction h with
  | nil => exact .nil
  | cons h _ ih => exact .cons (h.mono hs) ih
theorem PAll.append {tl : List (Addr × Obj)} {vs ws : List Value} {ks js : List (Int × Int)} (h : PAll tl vs ks) (h2 : PAll tl ws js) : PAll tl (vs ++ ws) (ks ++ js) := by
  induction h with
  | nil => exact h2
  | cons h _ ih => exact .cons h ih
theorem PAll.length {tl : List (Addr × Obj)} {vs : List Value} {ks : List (Int × Int)} (h : PAll tl vs ks) : vs.length = ks.length := by
  induction h with
  | nil => rfl
  | cons _ _ ih => simp [ih]
theorem ints_get {vs : List Value} {ss : List Int} (h : IntsAre vs ss) : ∀ i (hi : i < vs.length), ∃ (hj : i < ss.length) (t : Tok), vs[i] = .int ss[i] t := by
  induction h with
  | nil => intro i hi; simp at hi
  | cons x t r ih =>
    intro i hi
    cases i with
    | zero => exact ⟨by simp, t, rfl⟩
    | succ i =>
      obtain ⟨hj, t', e⟩ := ih i (by simpa using hi)
      exact ⟨by simpa using hj, t', by simpa using e⟩
theorem ints_erase {vs : List Value} {ss : List Int} (h : IntsAre vs ss) : ∀ i, IntsAre (vs.eraseIdx i) (ss.eraseIdx i) := by
  induction h with
  | nil => intro i; exact .nil
  | cons x t r ih =>
    intro i
    cases i with
    | zero => exact r
    | succ i => exact .cons x t (ih i)
def intIs (x : Int) : Value → Bool
  | .int y _ => y == x
  | _ => false
section
variable {prog : Program} {w : World} {A : Around} {E : Value → Shared → Prop} {s : Shared} {h₀ : Heap} {L D : Addr} {m : Str → Option Value} {news tl : List (Addr × Obj)} {vs : List Value} {n : Nat}
theorem l_removeInt {x : Int} {t : Tok} {ss : List Int} {Q : Value → Shared → Prop} (hFr : Fr h₀ L s.heap m) (N : News h₀ L s.heap ((D, listOf vs.toArray n) :: tl)) (hoff : ∀ p ∈ tl, p.1 ≠ D) (hS : IntsAre vs ss) (hz : vs.length < 1000) (hx : x ∈ ss)
    (hyes : ∀ h' vs', IntsAre vs' (ss.erase x) → Fr h₀ L h' m → News h₀ L h' ((D, listOf vs'.toArray (n + 1)) :: tl) → Q .none { s with heap := h' }) :
    wpAny (model prog w) A (call (.builtin "list.remove") [.ref D, .int x t]) Q E s := by
  have z := N (D, listOf vs.toArray n) (.head _)
  have hT : s.TypeIs (.ref D) "list" := ⟨_, z.1, rfl⟩
  have hlen := hS.length
  have he : ∀ y, y ∈ vs.toArray → MeetsSeq.EqGives y (.int x t) (intIs x y) := by
    intro y hy
    rw [List.mem_toArray] at hy
    obtain ⟨i, hi, rfl⟩ := List.mem_iff_getElem.mp hy
    obtain ⟨hj, t', e⟩ := ints_get hS i hi
    rw [e]
    exact MeetsSeq.EqGives.int _ _ _ _
  have hidx := List.idxOf_lt_length_iff.mpr hx
  have hmin : ∀ k (hk : k < ss.length), k < ss.idxOf x → ss[k] ≠ x := by
    intro k hk hkj e
    have := List.not_of_lt_findIdx (p := fun y => y == x) (xs := ss) (i := k) hkj
    rw [e] at this
    simp at this
  have herase : ss.erase x = ss.eraseIdx (ss.idxOf x) := List.erase_eq_eraseIdx_of_idxOf rfl
  have hj : ss.idxOf x < vs.toArray.size := by simp only [List.size_toArray]; omega
  have hit : intIs x vs.toArray[ss.idxOf x] = true := by
    obtain ⟨hj', t', e⟩ := ints_get hS (ss.idxOf x) (by simpa using hj)
    have e' : vs.toArray[ss.idxOf x] = .int ss[ss.idxOf x] t' := by simpa using e
    rw [e', List.getElem_idxOf hidx]
    simp [intIs]
  have hno' : ∀ k (hk : k < vs.toArray.size), k < ss.idxOf x → intIs x vs.toArray[k] = false := by
    intro k hk hkj
    obtain ⟨hj', t', e⟩ := ints_get hS k (by simpa using hk)
    have e' : vs.toArray[k] = .int ss[k] t' := by simpa using e
    rw [e']
    exact beq_eq_false_iff_ne.mpr (hmin k hj' hkj)
  refine call_meets F.slot_list_remove hT F.entry_list_remove (F.args_list_remove_2 _ _) (MeetsSeq.list_remove D vs.toArray n (.int x t) (intIs x) he (ss.idxOf x) hj hit hno' (by simp only [List.size_toArray]; rw [PySem.sizeLine_eq]; omega)) ⟨z.1, ?_⟩
  refine hyes _ (vs.eraseIdx (ss.idxOf x)) (by rw [herase]; exact ints_erase hS _) (hFr.change (Heap.SameBut.update ..) z.2.1 z.2.2) (ki_turn (pre := []) _ N (fun _ h => (nomatch h)) hoff ?_ ?_)
  · apply Array.toList_inj.mp
    simp
  · have h1 : ss.idxOf x < vs.length := by simpa using hj
    simp only [List.size_toArray, List.length_eraseIdx, h1, if_true]
    have : ¬ (vs.length - 1 = vs.length) := by omega
    simp [this]
theorem l_inInts {x : Int} {t : Tok} {k : Nat} {ss : List Int} {Q : Value → Shared → Prop} (N : News h₀ L s.heap news) (hm : (D, listOf vs.toArray k) ∈ news) (hS : IntsAre vs ss) (hu : A.units + 64 < cLine) (h : Q (.bool (decide (x ∈ ss))) s) :
    wpAny (model prog w) A (compareOp .In (.int x t) (.ref D)) Q E s := by
  refine kqd_isIn N hm rfl rfl (datAll_ints (news := []) hS) (fun _ h => (nomatch h)) (n₂ := []) (.int x t) (fun _ h => (nomatch h)) ?_ rfl hu ?_
  · intro d hd
    obtain ⟨y, _, rfl⟩ := List.mem_map.mp hd
    rfl
  · have e : (Dat.int x ∈ ss.map Dat.int) ↔ x ∈ ss := by
      constructor
      · intro h
        obtain ⟨y, hy, e⟩ := List.mem_map.mp h
        injection e with e
        exact e ▸ hy
      · intro h; exact List.mem_map.mpr ⟨x, h, rfl⟩
    simp only [e]
    exact h
theorem l_neKeys {a b : Addr} {xs ys : List Value} {ka kb : Nat} {kf : Value → Key} {n₁ n₂ : List (Addr × Obj)} {Q : Value → Shared → Prop} (N : News h₀ L s.heap news) (ma : (a, listOf xs.toArray ka) ∈ news) (mb : (b, listOf ys.toArray kb) ∈ news) (hx : ∀ v ∈ xs, TIn n₁ v (kf v)) (hy : ∀ v ∈ ys, TIn n₂ v (kf v))
    (s1 : ∀ p ∈ n₁, p ∈ news) (s2 : ∀ p ∈ n₂, p ∈ news) (hu : A.units + 64 < cLine) (h : Q (.bool (!decide (xs.map kf = ys.map kf))) s) :
    wpAny (model prog w) A (compareOp .NotEq (.ref a) (.ref b)) Q E s := by
  refine kqd_ne N ma rfl rfl (datAll_keys hx) s1 mb rfl rfl (datAll_keys hy) s2 (keyDat_ok _) (keyDat_ok _) hu ?_
  have e : ((xs.map kf).map keyDat = (ys.map kf).map keyDat) ↔ xs.map kf = ys.map kf := by
    constructor
    · intro h
      exact (List.map_inj_right (f := keyDat) (fun x y h => keyDat_inj h)).mp h
    · intro h; rw [h]
  simp only [e]
  exact h
end
end Mine
end

section
open PySem PySem.W PyProof.Rows PySem.Calls PyProof
set_option Elab.async false
namespace Mine
local macro_rules | `(tactic| omega) => `(tactic| lia)
/-- the order of the law's objects: the cells, due, heap, the pairs, off, mates, alone, others, the mates' pairs -/
structure Ord (ld lh lo lm la lb : Nat) (cells tl tm : List (Addr × Obj)) : Prop where
  a1 : ld < lh
  a2 : lh < lo
  a3 : lo < lm
  a4 : lm < la
  a5 : la < lb
  c : ∀ p ∈ cells, @LT.lt Nat _ p.1 ld
  t : ∀ p ∈ tl, @LT.lt Nat _ lh p.1 ∧ @LT.lt Nat _ p.1 lo
  m : ∀ p ∈ tm, @LT.lt Nat _ lb p.1
theorem Ord.tail {ld lh lo lm la lb : Nat} {cells tl tm : List (Addr × Obj)} (O : Ord ld lh lo lm la lb cells tl tm) : ∀ p ∈ cells ++ (tl ++ tm), @Ne Nat p.1 ld ∧ @Ne Nat p.1 lh ∧ @Ne Nat p.1 lo ∧ @Ne Nat p.1 lm ∧ @Ne Nat p.1 la ∧ @Ne Nat p.1 lb := by
  obtain ⟨h1, h2, h3, h4, h5, hc, ht, hm⟩ := O
  intro p hp
  rcases List.mem_append.mp hp with hp | hp
  · have := hc p hp
    generalize (p.1 : Nat) = q at *
    omega
  · rcases List.mem_append.mp hp with hp | hp
    · have := ht p hp
      generalize (p.1 : Nat) = q at *
      omega
    · have := hm p hp
      generalize (p.1 : Nat) = q at *
      omega
section
variable {ld lh lo lm la lb : Nat} {cells tl tm : List (Addr × Obj)} {o1 o2 o3 o4 o5 : Obj}
theorem Ord.off_lh (O : Ord ld lh lo lm la lb cells tl tm) : ∀ p ∈ (lo, o1) :: (la, o2) :: (lb, o3) :: (lm, o4) :: (ld, o5) :: (cells ++ (tl ++ tm)), p.1 ≠ lh := by
  have h := O.tail
  obtain ⟨h1, h2, h3, h4, h5, _, _, _⟩ := O
  intro p hp
  simp only [List.mem_cons] at hp
  rcases hp with rfl | rfl | rfl | rfl | rfl | hp
  · show lo ≠ lh; omega
  · show la ≠ lh; omega
  · show lb ≠ lh; omega
  · show lm ≠ lh; omega
  · show ld ≠ lh; omega
  · exact (h p hp).2.1
theorem Ord.off_lo (O : Ord ld lh lo lm la lb cells tl tm) : ∀ p ∈ (lh, o1) :: (la, o2) :: (lb, o3) :: (lm, o4) :: (ld, o5) :: (cells ++ (tl ++ tm)), p.1 ≠ lo := by
  have h := O.tail
  obtain ⟨h1, h2, h3, h4, h5, _, _, _⟩ := O
  intro p hp
  simp only [List.mem_cons] at hp
  rcases hp with rfl | rfl | rfl | rfl | rfl | hp
  · show lh ≠ lo; omega
  · show la ≠ lo; omega
  · show lb ≠ lo; omega
  · show lm ≠ lo; omega
  · show ld ≠ lo; omega
  · exact (h p hp).2.2.1
theorem Ord.off_la (O : Ord ld lh lo lm la lb cells tl tm) : ∀ p ∈ (lo, o1) :: (lh, o2) :: (lb, o3) :: (lm, o4) :: (ld, o5) :: (cells ++ (tl ++ tm)), p.1 ≠ la := by
  have h := O.tail
  obtain ⟨h1, h2, h3, h4, h5, _, _, _⟩ := O
  intro p hp
  simp only [List.mem_cons] at hp
  rcases hp with rfl | rfl | rfl | rfl | rfl | hp
  · show lo ≠ la; omega
  · show lh ≠ la; omega
  · show lb ≠ la; omega
  · show lm ≠ la; omega
  · show ld ≠ la; omega
  · exact (h p hp).2.2.2.2.1
theorem Ord.off_lb (O : Ord ld lh lo lm la lb cells tl tm) : ∀ p ∈ (la, o1) :: (lo, o2) :: (lh, o3) :: (lm, o4) :: (ld, o5) :: (cells ++ (tl ++ tm)), p.1 ≠ lb := by
  have h := O.tail
  obtain ⟨h1, h2, h3, h4, h5, _, _, _⟩ := O
  intro p hp
  simp only [List.mem_cons] at hp
  rcases hp with rfl | rfl | rfl | rfl | rfl | hp
  · show la ≠ lb; omega
  · show lo ≠ lb; omega
  · show lh ≠ lb; omega
  · show lm ≠ lb; omega
  · show ld ≠ lb; omega
  · exact (h p hp).2.2.2.2.2
theorem Ord.off_lm (O : Ord ld lh lo lm la lb cells tl tm) : ∀ p ∈ (lb, o1) :: (la, o2) :: (lo, o3) :: (lh, o4) :: (ld, o5) :: (cells ++ (tl ++ tm)), p.1 ≠ lm := by
  have h := O.tail
  obtain ⟨h1, h2, h3, h4, h5, _, _, _⟩ := O
  intro p hp
  simp only [List.mem_cons] at hp
  rcases hp with rfl | rfl | rfl | rfl | rfl | hp
  · show lb ≠ lm; omega
  · show la ≠ lm; omega
  · show lo ≠ lm; omega
  · show lh ≠ lm; omega
  · show ld ≠ lm; omega
  · exact (h p hp).2.2.2.1
end
section
variable {h₀ h : Heap} {L : Addr} {a b c d e f : Addr × Obj} {tl : List (Addr × Obj)}
theorem news_5 (N : News h₀ L h (a :: b :: c :: d :: e :: tl)) : News h₀ L h (e :: d :: c :: b :: a :: tl) := by
  intro p hp
  simp only [List.mem_cons] at hp
  rcases hp with h | h | h | h | h | h <;> exact N p (by simp [h])
theorem news_4 (N : News h₀ L h (a :: b :: c :: d :: tl)) : News h₀ L h (d :: c :: b :: a :: tl) := by
  intro p hp
  simp only [List.mem_cons] at hp
  rcases hp with h | h | h | h | h <;> exact N p (by simp [h])
theorem news_3 (N : News h₀ L h (a :: b :: c :: tl)) : News h₀ L h (c :: b :: a :: tl) := by
  intro p hp
  simp only [List.mem_cons] at hp
  rcases hp with h | h | h | h <;> exact N p (by simp [h])
theorem news_in (N : News h₀ L h tl) (hm : a ∈ tl) : News h₀ L h (a :: tl) := by
  intro p hp
  rcases List.mem_cons.mp hp with rfl | hp
  · exact N _ hm
  · exact N p hp
theorem news_drop (N : News h₀ L h (a :: tl)) : News h₀ L h tl := fun p hp => N p (.tail _ hp)
end
end Mine
end

section
namespace Mine
local macro_rules | `(tactic| omega) => `(tactic| lia)
section
variable {α : Type} {lt : α → α → Bool} {d : α}
theorem hpop_perm (ys : List α) (y : α) : ((hpop lt d ys y).1 :: (hpop lt d ys y).2).Perm (ys ++ [y]) := by
  unfold hpop
  by_cases h : ys = []
  · rw [if_pos h, h]; exact List.Perm.refl _
  · rw [if_neg h]
    have hp : 0 < ys.length := List.length_pos_iff.mpr h
    have h1 : (siftup lt d 0 (ys.set 0 y)).Perm (ys.set 0 y) := siftup_perm (by simpa using hp)
    refine (List.Perm.cons _ h1).trans ?_
    cases ys with
    | nil => exact absurd rfl h
    | cons z zs =>
      show (z :: y :: zs).Perm (z :: zs ++ [y])
      exact List.Perm.cons z (by simpa using (List.perm_append_comm (l₁ := [y]) (l₂ := zs)))
theorem hpop_length (ys : List α) (y : α) : (hpop lt d ys y).2.length = ys.length := by
  have := (hpop_perm (lt := lt) (d := d) ys y).length_eq
  simp at this
  exact this
/-- what comes off, to the last -/
def popSeq (lt : α → α → Bool) (d : α) (xs : List α) : List α :=
  if h : xs = [] then [] else (hpop lt d xs.dropLast (xs.getLast h)).1 :: popSeq lt d (hpop lt d xs.dropLast (xs.getLast h)).2
termination_by xs.length
decreasing_by
  rw [hpop_length, List.length_dropLast]
  have : 0 < xs.length := List.length_pos_iff.mpr h
  omega
theorem popSeq_nil : popSeq lt d [] = [] := by rw [popSeq.eq_1]; simp
theorem popSeq_snoc (ys : List α) (y : α) : popSeq lt d (ys ++ [y]) = (hpop lt d ys y).1 :: popSeq lt d (hpop lt d ys y).2 := by
  rw [popSeq.eq_1, dif_neg (by simp)]
  simp
theorem popSeq_perm : ∀ (n : Nat) (xs : List α), xs.length = n → (popSeq lt d xs).Perm xs := by
  intro n
  induction n with
  | zero =>
    intro xs h
    have : xs = [] := List.eq_nil_of_length_eq_zero h
    subst this
    rw [popSeq_nil]
  | succ n ih =>
    intro xs h
    have hne : xs ≠ [] := by intro e; subst e; simp at h
    obtain ⟨ys, y, rfl⟩ : ∃ ys y, xs = ys ++ [y] := ⟨xs.dropLast, xs.getLast hne, (List.dropLast_concat_getLast hne).symm⟩
    rw [popSeq_snoc]
    have hl : (hpop lt d ys y).2.length = n := by rw [hpop_length]; simpa using h
    exact (List.Perm.cons _ (ih _ hl)).trans (hpop_perm ys y)
end
/-- the mates, taken greedily: who is alone, who of the others, the mates (there, here), the price -/
abbrev GS := List Int × List Int × List (Int × Int) × Int
def gStep (st : GS) (k : Int × Int × Int) : GS := if k.2.1 ∈ st.1 ∧ k.2.2 ∈ st.2.1 then (st.1.erase k.2.1, st.2.1.erase k.2.2, st.2.2.1 ++ [(k.2.2, k.2.1)], st.2.2.2 + k.1) else st
end Mine
end

section
set_option autoImplicit false
namespace Mine
local macro_rules | `(tactic| omega) => `(tactic| lia)
open PySem PySem.W PyProof.Rows

section
variable {O : KeyOrd} {key : Nat → O.α} {n : Nat} {s : Shared} {cmp : Nat → Nat → (Bool → Shared → Prop) → Shared → Prop}
def KP (key : Nat → O.α) (p : Array Nat) (i : Nat) : O.α := key (p.getD i 0)
def SortedP (key : Nat → O.α) (p : Array Nat) (k : Nat) : Prop := ∀ i j, i ≤ j → j < k → O.kle (KP key p i) (KP key p j)
def NonIncP (key : Nat → O.α) (p : Array Nat) (k : Nat) : Prop := ∀ i j, i ≤ j → j < k → O.kle (KP key p j) (KP key p i)
def PB (n : Nat) (p : Array Nat) : Prop := p.Perm (List.toArray (List.range n))
def CmpOk (key : Nat → O.α) (n : Nat) (s : Shared) (cmp : Nat → Nat → (Bool → Shared → Prop) → Shared → Prop) : Prop :=
  ∀ i j C, i < n → j < n → C (O.blt (key i) (key j)) s → cmp i j C s
theorem PB.size {p : Array Nat} (h : PB n p) : p.size = n := by rw [h.size_eq]; simp
theorem PB.lt {p : Array Nat} (h : PB n p) {i : Nat} (hi : i < n) : p.getD i 0 < n := by
  have hi' : i < p.size := by rw [h.size]; exact hi
  have e : p.getD i 0 = p[i] := by simp [Array.getD, hi']
  rw [e]
  have hm : p[i] ∈ (List.toArray (List.range n)).toList := (Array.perm_iff_toList_perm.mp h).mem_iff.mp (by simp)
  exact List.mem_range.mp hm
theorem PB.rev {p : Array Nat} (h : PB n p) {i j : Nat} : PB n (kas_rev p i j) := (mirror_perm _ _ _ _).trans h
theorem PB.bub {p : Array Nat} (h : PB n p) {i j : Nat} : PB n (bubble p i j) := (bubble_perm _ _ _).trans h
theorem getD_get? (p : Array Nat) (i : Nat) : p.getD i 0 = (p[i]?).getD 0 := by
  by_cases h : i < p.size <;> simp [Array.getD, h]
theorem KP_congr {p q : Array Nat} {i j : Nat} (h : p[i]? = q[j]?) : KP key p i = KP key q j := by unfold KP; rw [getD_get?, getD_get?, h]
theorem KP_bubble {xs : Array Nat} {src d : Nat} (hs : src < xs.size) (hd : d ≤ src) (k : Nat) :
    KP key (bubble xs src d) k = if k = src - d then KP key xs src else if src - d < k ∧ k ≤ src then KP key xs (k - 1) else KP key xs k := by
  have e := getElem?_bubble hs d hd k
  by_cases h1 : k = src - d
  · rw [if_pos h1] at e ⊢; exact KP_congr e
  · rw [if_neg h1] at e ⊢
    by_cases h2 : src - d < k ∧ k ≤ src
    · rw [if_pos h2] at e ⊢; exact KP_congr e
    · rw [if_neg h2] at e ⊢; exact KP_congr e
theorem KP_mirror {xs : Array Nat} {i j : Nat} (hj : j ≤ xs.size) (k : Nat) :
    KP key (kas_rev xs i j) k = if i ≤ k ∧ k < j then KP key xs (i + j - 1 - k) else KP key xs k := by
  have e := getElem?_mirror_all (i := i) hj k
  by_cases h1 : i ≤ k ∧ k < j
  · rw [if_pos h1] at e ⊢; exact KP_congr e
  · rw [if_neg h1] at e ⊢; exact KP_congr e
theorem KP_mirror_equal {xs : Array Nat} {i j : Nat} (hj : j ≤ xs.size) (heq : ∀ k, i ≤ k → k < j → KP key xs k = KP key xs (j - 1)) (k : Nat) :
    KP key (kas_rev xs i j) k = KP key xs k := by
  rw [KP_mirror hj]
  split
  · rw [heq _ (by omega) (by omega), heq k (by omega) (by omega)]
  · rfl

theorem pk_ask {α : Type} {i j : Nat} {k : Bool → KasT α} {Q : α → Shared → Prop} {p : Array Nat} (hc : CmpOk key n s cmp) (hp : PB n p) (hi : i < n) (hj : j < n)
    (h : (k (O.blt (KP key p i) (KP key p j))).kasWp cmp Q s) : (KasT.ask (p.getD i 0) (p.getD j 0) k).kasWp cmp Q s :=
  hc _ _ _ (hp.lt hi) (hp.lt hj) h

theorem pk_asc {p : Array Nat} {nrem : Nat} {Q : Nat → Shared → Prop} (hc : CmpOk key n s cmp) (hp : PB n p) (hn : nrem ≤ n) : ∀ (f a : Nat), 1 ≤ a → a + f = nrem → SortedP key p a →
    (∀ m, a ≤ m → m ≤ nrem → SortedP key p m → (m = nrem ∨ O.klt (KP key p m) (KP key p (m - 1))) → Q m s) → (kas_asc p f a).kasWp cmp Q s
  | 0, a, _, e, hs, h => h a (Nat.le_refl _) (by omega) hs (.inl (by omega))
  | f + 1, a, h1, e, hs, h => by
    refine pk_ask hc hp (by omega) (by omega) ?_
    cases hless : O.blt (KP key p a) (KP key p (a - 1))
    case true => exact h a (Nat.le_refl _) (by omega) hs (.inr hless)
    case false =>
      refine pk_asc hc hp hn f (a + 1) (by omega) (by omega) ?_ (fun m hm => h m (by omega))
      intro i j hij hj
      by_cases hjx : j < a
      · exact hs i j hij hjx
      · have hj' : j = a := by omega
        subst hj'
        by_cases hi' : i = j
        · subst hi'; exact KeyOrd.kle_refl _
        · exact KeyOrd.kle_trans (hs i (j - 1) (by omega) (by omega)) hless

theorem pk_tail3 {p : Array Nat} {m nrem : Nat} {Q : Nat × Array Nat → Shared → Prop} (hc : CmpOk key n s cmp) (hp : PB n p) (hn : nrem ≤ n) (h1 : 1 ≤ m) (hmn : m ≤ nrem) (hs : NonIncP key p m)
    (h : ∀ k q, PB n q → 1 ≤ k → k ≤ nrem → SortedP key q k → Q (k, q) s) : (kas_tail3 m nrem p).kasWp cmp Q s := by
  unfold kas_tail3
  rw [KasT.kasWp_bind]
  refine pk_asc hc hp.rev hn _ _ h1 (by omega) ?_ fun k hk1 hk2 hsk _ => h k _ hp.rev (by omega) hk2 hsk
  have hsz : m ≤ p.size := by rw [hp.size]; omega
  intro i j hij hj
  rw [KP_mirror hsz, KP_mirror hsz, if_pos (by omega), if_pos (by omega)]
  exact hs _ _ (by omega) (by omega)

theorem pk_desc {nrem : Nat} {Q : Array Nat × Nat × Nat → Shared → Prop} (hc : CmpOk key n s cmp) (hn : nrem ≤ n) : ∀ (f : Nat) (p : Array Nat) (a neq : Nat), PB n p → 1 ≤ a → a + f = nrem → NonIncP key p a → neq + 1 ≤ a →
    (∀ i, a - (neq + 1) ≤ i → i < a → KP key p i = KP key p (a - 1)) →
    (∀ m q p', PB n p' → a ≤ m → m ≤ nrem → NonIncP key p' m → q + 1 ≤ m → (∀ i, m - (q + 1) ≤ i → i < m → KP key p' i = KP key p' (m - 1)) → Q (p', m, q) s) → (kas_desc f p a neq).kasWp cmp Q s
  | 0, p, a, neq, hp, _, e, hs, hq, he, h => h a neq p hp (Nat.le_refl _) (by omega) hs hq he
  | f + 1, p, x, neq, hp, h1, e, hs', hq, he, h => by
    have hsz : x ≤ p.size := by rw [hp.size]; omega
    refine pk_ask hc hp (by omega) (by omega) ?_
    cases hless : O.blt (KP key p x) (KP key p (x - 1))
    case true =>
      have step1 : ∀ xs : Array Nat, (∀ k, KP key xs k = KP key p k) → NonIncP key xs (x + 1) := by
        intro xs hk i j hij hj
        rw [hk, hk]
        by_cases hjx : j < x
        · exact hs' i j hij hjx
        · have hj' : j = x := by omega
          subst hj'
          by_cases hi' : i = j
          · subst hi'; exact KeyOrd.kle_refl _
          · exact KeyOrd.kle_trans (KeyOrd.kle_of_klt hless) (hs' i (j - 1) (by omega) (by omega))
      rw [if_pos rfl]
      by_cases hneq : neq > 0
      · rw [if_pos hneq]
        exact pk_desc hc hn f _ (x + 1) 0 hp.rev (by omega) (by omega) (step1 _ (KP_mirror_equal hsz he)) (by omega) (fun i h1 h2 => by congr 1; omega) fun m q p' a1 a2 => h m q p' a1 (by omega)
      · rw [if_neg hneq]
        exact pk_desc hc hn f _ (x + 1) 0 hp (by omega) (by omega) (step1 _ (fun _ => rfl)) (by omega) (fun i h1 h2 => by congr 1; omega) fun m q p' a1 a2 => h m q p' a1 (by omega)
    case false =>
      rw [if_neg (by simp)]
      refine pk_ask hc hp (by omega) (by omega) ?_
      cases hlarger : O.blt (KP key p (x - 1)) (KP key p x)
      case true => exact h x neq p hp (Nat.le_refl _) (by omega) hs' hq he
      case false =>
        rw [if_neg (by simp)]
        have heqx : KP key p x = KP key p (x - 1) := KeyOrd.kle_antisymm hlarger hless
        refine pk_desc hc hn f _ (x + 1) (neq + 1) hp (by omega) (by omega) (fun i j hij hj => ?_) (by omega) (fun i h1 h2 => ?_) fun m q p' a1 a2 => h m q p' a1 (by omega)
        · by_cases hjx : j < x
          · exact hs' i j hij hjx
          · have hj' : j = x := by omega
            subst hj'
            by_cases hi' : i = j
            · subst hi'; exact KeyOrd.kle_refl _
            · rw [heqx]; exact hs' i (j - 1) (by omega) (by omega)
        · rw [show x + 1 - 1 = x by omega]
          by_cases hix : i = x
          · subst hix; rfl
          · rw [heqx]; exact he i (by omega) (by omega)

theorem pk_descPart {p : Array Nat} {m nrem : Nat} {Q : Nat × Array Nat → Shared → Prop} (hc : CmpOk key n s cmp) (hp : PB n p) (hn : nrem ≤ n) (hmn : m + 1 ≤ nrem) (hs : NonIncP key p (m + 1))
    (h : ∀ k q, PB n q → 1 ≤ k → k ≤ nrem → SortedP key q k → Q (k, q) s) : (kas_descPart m nrem p).kasWp cmp Q s := by
  unfold kas_descPart
  rw [KasT.kasWp_bind]
  refine pk_desc hc hn _ p (m + 1) 0 hp (by omega) (by omega) hs (by omega) (fun i h1 h2 => by congr 1; omega) fun k neq p' hp' hm1 hm2 hs' hq he => ?_
  have hsz : k ≤ p'.size := by rw [hp'.size]; omega
  dsimp only
  by_cases hneq : neq > 0
  · rw [if_pos hneq]
    refine pk_tail3 hc hp'.rev hn (by omega) hm2 ?_ h
    intro i j hij hj
    rw [KP_mirror_equal hsz he, KP_mirror_equal hsz he]
    exact hs' i j hij hj
  · rw [if_neg hneq]
    exact pk_tail3 hc hp' hn (by omega) hm2 hs' h

theorem pk_count {p : Array Nat} {nrem : Nat} {Q : Nat × Array Nat → Shared → Prop} (hc : CmpOk key n s cmp) (hp : PB n p) (hn : nrem ≤ n) (h1 : 1 ≤ nrem)
    (h : ∀ k q, PB n q → 1 ≤ k → k ≤ nrem → SortedP key q k → Q (k, q) s) : (kas_count nrem p).kasWp cmp Q s := by
  unfold kas_count
  rw [KasT.kasWp_bind]
  refine pk_asc hc hp hn _ _ (Nat.le_refl 1) (by omega) (fun i j hij hj => by have : i = j := (by omega); subst this; exact KeyOrd.kle_refl _) fun m hn1 hn2 hsn hor => ?_
  by_cases hnn : m = nrem
  · rw [if_pos (by simpa using hnn)]
    exact h m p hp hn1 hn2 hsn
  · rw [if_neg (by simpa using hnn)]
    have hlt : O.klt (KP key p m) (KP key p (m - 1)) := hor.resolve_left hnn
    by_cases hgt : m > 1
    · rw [if_pos hgt]
      refine pk_ask hc hp (by omega) (by omega) ?_
      cases hrose : O.blt (KP key p 0) (KP key p (m - 1))
      case true => exact h m p hp hn1 hn2 hsn
      case false =>
        rw [if_neg (by simp)]
        have hsz : m ≤ p.size := by rw [hp.size]; omega
        have hall : ∀ k, 0 ≤ k → k < m → KP key p k = KP key p (m - 1) := by
          intro k _ hk
          have a1 := hsn 0 k (by omega) hk
          have a2 := hsn k (m - 1) (by omega) (by omega)
          exact KeyOrd.kle_antisymm a2 (KeyOrd.kle_trans hrose a1)
        refine pk_descPart hc hp.rev hn (by omega) ?_ h
        intro i j hij hj
        rw [KP_mirror_equal hsz hall, KP_mirror_equal hsz hall]
        by_cases hjn : j < m
        · rw [hall i (by omega) (by omega), hall j (by omega) hjn]; exact KeyOrd.kle_refl _
        · have hj' : j = m := by omega
          subst hj'
          by_cases hi' : i = j
          · subst hi'; exact KeyOrd.kle_refl _
          · rw [hall i (by omega) (by omega)]; exact KeyOrd.kle_of_klt hlt
    · rw [if_neg hgt]
      have hn1' : m = 1 := by omega
      subst hn1'
      refine pk_descPart hc hp hn (by omega) ?_ h
      intro i j hij hj
      by_cases hi' : i = j
      · subst hi'; exact KeyOrd.kle_refl _
      · have hi0 : i = 0 := by omega
        have hj1 : j = 1 := by omega
        subst hi0; subst hj1
        exact KeyOrd.kle_of_klt hlt

theorem pk_place {p : Array Nat} {k : Nat} {Q : Nat → Shared → Prop} (hc : CmpOk key n s cmp) (hp : PB n p) (hk : k < n) (hs' : SortedP key p k) : ∀ (f l r : Nat), l ≤ r → r ≤ k → r - l ≤ f →
    (∀ i, i < l → O.kle (KP key p i) (KP key p k)) → (∀ i, r ≤ i → i < k → O.klt (KP key p k) (KP key p i)) →
    (∀ l, l ≤ k → (∀ i, i < l → O.kle (KP key p i) (KP key p k)) → (∀ i, l ≤ i → i < k → O.klt (KP key p k) (KP key p i)) → Q l s) → (kas_place p k f l r).kasWp cmp Q s
  | 0, l, r, hlr, hrk, hf, hlo, hhi, h => by
    have : l = r := by omega
    subst this
    exact h l hrk hlo hhi
  | f + 1, l, r, hlr, hrk, hf, hlo, hhi, h => by
    unfold kas_place
    by_cases hge : l ≥ r
    · rw [if_pos hge]
      have : l = r := by omega
      subst this
      exact h l hrk hlo hhi
    · rw [if_neg hge]
      refine pk_ask hc hp (by omega) (by omega) ?_
      cases hless : O.blt (KP key p k) (KP key p ((l + r) / 2))
      case true =>
        rw [if_pos rfl]
        exact pk_place hc hp hk hs' f _ _ (by omega) (by omega) (by omega) hlo (fun i h1 h2 => KeyOrd.klt_of_klt_of_kle hless (hs' _ _ h1 h2)) h
      case false =>
        rw [if_neg (by simp)]
        exact pk_place hc hp hk hs' f _ _ (by omega) (by omega) (by omega) (fun i h1 => KeyOrd.kle_trans (hs' i ((l + r) / 2) (by omega) (by omega)) (show O.kle _ _ from hless)) hhi h

theorem pk_bin {Q : Array Nat → Shared → Prop} (hc : CmpOk key n s cmp) : ∀ (f : Nat) (p : Array Nat) (k : Nat), PB n p → k + f = n → SortedP key p k →
    (∀ q, PB n q → SortedP key q n → Q q s) → (kas_bin f p k).kasWp cmp Q s
  | 0, p, k, hp, e, hs, h => h p hp (by have : k = n := by omega
                                        rw [← this]; exact hs)
  | f + 1, p, k, hp, e, hs', h => by
    unfold kas_bin
    rw [KasT.kasWp_bind]
    refine pk_place hc hp (by omega) hs' k 0 k (by omega) (by omega) (by omega) (fun i hi => by omega) (fun i h1 h2 => by omega) fun l hlk hlo hhi => ?_
    refine pk_bin hc f _ (k + 1) hp.bub (by omega) ?_ h
    have hks : k < p.size := by rw [hp.size]; omega
    intro i j hij hj
    rw [KP_bubble hks (by omega), KP_bubble hks (by omega), show k - (k - l) = l by omega]
    repeat' split
    all_goals first
      | (exfalso; omega)
      | exact KeyOrd.kle_refl _
      | exact hlo _ (by omega)
      | exact KeyOrd.kle_of_klt (hhi _ (by omega) (by omega))
      | exact hs' _ _ (by omega) (by omega)

theorem pk_sort {Q : Array Nat → Shared → Prop} (hc : CmpOk key n s cmp) (h1 : 1 ≤ n) (h : ∀ q, PB n q → SortedP key q n → Q q s) : (kas_sort n).kasWp cmp Q s := by
  unfold kas_sort
  rw [KasT.kasWp_bind]
  refine pk_count hc (Array.Perm.refl _) (Nat.le_refl _) h1 fun k q hq hk1 hk2 hs => ?_
  dsimp only
  by_cases hlt : k < n
  · rw [if_pos hlt]
    have hmx : max k 1 = k := by omega
    rw [hmx]
    exact pk_bin hc _ _ _ hq (by omega) hs h
  · rw [if_neg hlt]
    have : k = n := by omega
    rw [this] at hs
    exact h q hq hs
end
end Mine
end

section
open PySem PySem.W PyProof.Rows PySem.Calls PyProof
set_option Elab.async false
set_option maxRecDepth 100000
set_option linter.unusedVariables false
namespace Mine
local macro_rules | `(tactic| omega) => `(tactic| lia)
/-- the order of tuples of ints -/
def llt : List Int → List Int → Bool
  | _, [] => false
  | [], _ :: _ => true
  | a :: r, b :: t => if a = b then llt r t else decide (a < b)
theorem llt_irrefl : ∀ a, llt a a = false
  | [] => rfl
  | a :: r => by simp [llt, llt_irrefl r]
theorem llt_total : ∀ a b, llt a b = false → llt b a = false → a = b
  | [], [], _, _ => rfl
  | [], _ :: _, h, _ => by simp [llt] at h
  | _ :: _, [], _, h => by simp [llt] at h
  | a :: r, b :: t, h, h' => by
    unfold llt at h h'
    by_cases e : a = b
    · rw [if_pos e] at h; rw [if_pos e.symm] at h'
      rw [e, llt_total r t h h']
    · rw [if_neg e] at h; rw [if_neg (fun q => e q.symm)] at h'
      simp only [decide_eq_false_iff_not] at h h'
      omega
theorem llt_neg : ∀ a b c, llt a c = true → llt a b = true ∨ llt b c = true
  | [], [], c, h => .inr h
  | [], _ :: _, c, _ => .inl rfl
  | a :: r, b, [], h => by simp [llt] at h
  | a :: r, [], c :: u, _ => .inr rfl
  | a :: r, b :: t, c :: u, h => by
    unfold llt at h ⊢
    by_cases e1 : a = b
    · subst e1
      rw [if_pos rfl]
      by_cases e2 : a = c
      · rw [if_pos e2] at h ⊢; exact llt_neg r t u h
      · rw [if_neg e2] at h ⊢; exact .inr h
    · rw [if_neg e1]
      by_cases e2 : b = c
      · subst e2
        rw [if_neg e1] at h; exact .inl h
      · rw [if_neg e2]
        simp only [decide_eq_true_eq] at h ⊢
        by_cases e3 : a = c
        · subst e3
          omega
        · rw [if_neg e3] at h
          simp only [decide_eq_true_eq] at h
          omega
theorem llt_asymm : ∀ a b, llt a b = true → llt b a = false
  | [], [], h => by simp [llt] at h
  | [], _ :: _, _ => rfl
  | _ :: _, [], h => by simp [llt] at h
  | a :: r, b :: t, h => by
    unfold llt at h ⊢
    by_cases e : a = b
    · rw [if_pos e] at h; rw [if_pos e.symm]; exact llt_asymm r t h
    · rw [if_neg e] at h; rw [if_neg (fun q => e q.symm)]
      simp only [decide_eq_true_eq, decide_eq_false_iff_not] at h ⊢
      omega
theorem llt_trans (a b c : List Int) (h1 : llt a b = true) (h2 : llt b c = true) : llt a c = true := by
  rcases llt_neg a c b h1 with h | h
  · exact h
  · rw [llt_asymm b c h2] at h; cases h
def LO : KeyOrd := ⟨List Int, llt, llt_irrefl, llt_trans, llt_neg, llt_total⟩
/-- v is a tuple of ints, not empty, in the ledger -/
def TL (tl : List (Addr × Obj)) (v : Value) (k : List Int) : Prop := ∃ a n vs, v = .ref a ∧ (a, tupObj (List.toArray vs) n) ∈ tl ∧ IntsAre vs k ∧ k ≠ []
theorem TIn.tl {tl : List (Addr × Obj)} {v : Value} {k : Key} (h : TIn tl v k) : TL tl v [k.1, k.2.1, k.2.2] := by
  obtain ⟨a, n, t1, t2, t3, rfl, h⟩ := h
  exact ⟨a, n, [.int k.1 t1, .int k.2.1 t2, .int k.2.2 t3], rfl, h, .cons _ _ (.cons _ _ (.cons _ _ .nil)), by simp⟩
theorem PIn.tl {tl : List (Addr × Obj)} {v : Value} {k : Int × Int} (h : PIn tl v k) : TL tl v [k.1, k.2] := by
  obtain ⟨a, n, t1, t2, rfl, h⟩ := h
  exact ⟨a, n, [.int k.1 t1, .int k.2 t2], rfl, h, .cons _ _ (.cons _ _ .nil), by simp⟩
section
variable {prog : Program} {w : World} {A : Around} {E : Value → Shared → Prop} {s : Shared} {h₀ h : Heap} {L D : Addr} {m : Str → Option Value} {news tl : List (Addr × Obj)}
theorem lex_ints {b fin : Bool} {Q : Bool → Shared → Prop} : ∀ {vs us : List Value} {xs ys : List Int} (i : Nat), IntsAre vs xs → IntsAre us ys → (fin = decide (xs.length < ys.length)) → Q (llt xs ys) s → KatLex prog w A b fin Q (vs.zip us) i s
  | _, _, _, _, i, .nil, .nil, hf, h => by
    subst hf; exact kat_nil h
  | _, _, _, _, i, .nil, .cons _ _ _, hf, h => by
    subst hf; exact kat_nil (by simpa [llt] using h)
  | _, _, _, _, i, .cons _ _ _, .nil, hf, h => by
    subst hf; exact kat_nil (by simpa [llt] using h)
  | _, _, _, _, i, .cons x t hx, .cons y u hy, hf, h => by
    refine kat_cons (wpAny_eqBool_int ?_)
    unfold llt at h
    by_cases e : x = y
    · rw [if_pos e] at h
      rw [show (x == y) = true by simp [e]]
      exact kat_yes (lex_ints (i + 1) hx hy (by rw [hf]; simp) h)
    · rw [if_neg e] at h
      rw [show (x == y) = false by simp [e]]
      refine kat_no ?_
      cases hb : (b && i == 0)
      · exact kat_one _ _ (cmp_ofLt (PyProof.Rows.lt_int h))
      · exact oneLt_int h
theorem sort_short {a : Addr} {vs : List Value} {n : Nat} {P : PySem.Fin → Shared → Prop} (ho : s.heap.get? a = some (seqObj "list" vs.toArray n)) (h2 : vs.length < 2)
    (h : P (.done (.ret .none)) { s with heap := sortedHeap s.heap a vs vs.toArray }) :
    wpAny (model prog w) A (Builtin.«list.sort» ⟨[.ref a], []⟩) P E s := by
  rw [list_sort_plain]
  have ha : a < s.heap.objs.size := Heap.lt_size ho
  refine wpAny_bind (listItems_at ho rfl ?_)
  refine wpAny_bind (listUpdate_at ho rfl ?_)
  obtain ⟨e1, ho1⟩ : ∃ e1, (s.heap.update a (Obj.mapSeq fun _ => #[])).get? a = some (seqObj "list" #[] e1) := ⟨_, get?_update_seq ho (fun _ => #[])⟩
  refine wpAny_bind (seqEpoch_at ho1 rfl ?_)
  refine wpAny_bind (wpAny_newTuple ?_)
  refine wpAny_bind (wpAny_newList ?_)
  refine wpAny_holding ?_
  have ho6 : (((s.heap.update a (Obj.mapSeq fun _ => #[])).push (seqObj "tuple" vs.toArray 0)).push (seqObj "list" #[] 0)).get? a = some (seqObj "list" #[] e1) := by
    rw [Heap.get?_push_ne _ _ _ (by rw [size_push', Heap.size_update]; exact Nat.ne_of_lt (Nat.lt_succ_of_lt ha)), Heap.get?_push_ne _ _ _ (by rw [Heap.size_update]; exact Nat.ne_of_lt ha)]
    exact ho1
  show wpAny (model prog w) A _ P E { s with heap := ((s.heap.update a (Obj.mapSeq fun _ => #[])).push (seqObj "tuple" vs.toArray 0)).push (seqObj "list" #[] 0) }
  dsimp only
  have hsz : vs.toArray.size = vs.length := by simp
  have h2 : vs.toArray.size < 2 := by rw [hsz]; exact h2
  rw [if_pos h2, if_pos h2]
  refine wpAny_bind (wpAny_pure ?_)
  rw [StateT.run_pure]
  refine wpAny_bind (wpAny_pure ?_)
  dsimp only
  refine wpAny_bind (seqEpoch_at ho6 rfl ?_)
  refine wpAny_bind (listUpdate_at ho6 rfl ?_ (hsz2 := by rw [Array.size_map]; show (pairsOf vs).size ≤ _; rw [pairsOf_size, sizeLine_eq]; omega))
  simp only [bne_self_eq_false, Bool.false_eq_true, if_false]
  refine wpAny_pure ?_
  have e : (pairsOf vs).map (·.2) = vs.toArray := by
    apply Array.toList_inj.mp
    rw [Array.toList_map, pairsOf_toList, List.map_snd_zip (Nat.le_refl _)]
  show P _ { s with heap := sortedHeap s.heap a vs ((pairsOf vs).map (·.2)) }
  rw [e]
  exact h
theorem sorted_short {l : Addr} {vs : List Value} {Q : Value → Shared → Prop} (hl : s.heap.IsList l vs.toArray) (h2 : vs.length < 2)
    (h : Q (.ref (s.heap.objs.size + 1)) { s with heap := sortedAll s.heap vs vs.toArray }) :
    wpAny (model prog w) A (call (.builtin "sorted") [.ref l]) Q E s := by
  refine Calls.call_function_entry kind_sorted plain_sorted entry_sorted (args_sorted1 _) ?_
  unfold Builtin.«sorted»
  refine wpAny_bind (m := checkCount "sorted" 1 1 _) (wpAny_pure ?_)
  refine wpAny_bind (collect_list hl ?_ (by rw [sizeLine_eq]; omega))
  refine wpAny_bind (wpAny_newList ?_ (by rw [sizeLine_eq]; omega))
  have hsz : ((s.heap.push (seqObj "list" #[] 0)).update s.heap.objs.size (Obj.mapSeq (· ++ vs.toArray))).objs.size = s.heap.objs.size + 1 := by
    rw [Heap.size_update, size_push']
  have hoL : (((s.heap.push (seqObj "list" #[] 0)).update s.heap.objs.size (Obj.mapSeq (· ++ vs.toArray))).push (seqObj "list" vs.toArray 0)).get? (s.heap.objs.size + 1) = some (seqObj "list" vs.toArray 0) := by
    rw [← hsz]; exact Heap.get?_push_size _ rfl
  show wpAny _ _ _ _ _ { s with heap := ((s.heap.push (seqObj "list" #[] 0)).update s.heap.objs.size (Obj.mapSeq (· ++ vs.toArray))).push (seqObj "list" vs.toArray 0) }
  rw [hsz]
  refine wpAny_bind (wpAny_holding (wpAny_call_entry slot_list_sort ⟨_, hoL, rfl⟩ entry_list_sort (sort_short hoL h2 ⟨_, rfl, ?_⟩) (args_list_sort _)))
  exact wpAny_pure ⟨_, rfl, h⟩
theorem tl_tups {kf : Value → List Int} (N : News h₀ L h news) (hs : ∀ p ∈ tl, p ∈ news) : ∀ (vs : List Value), (∀ v ∈ vs, TL tl v (kf v)) → ∃ fs, KatTups h vs fs ∧ fs.length = vs.length ∧ ∀ f ∈ fs, ∃ n t, f = Value.int n t
  | [], _ => ⟨[], .nil, rfl, fun _ h => (nomatch h)⟩
  | v :: vs, hT => by
    obtain ⟨fs, h1, h2, h3⟩ := tl_tups N hs vs fun u hu => hT u (.tail _ hu)
    obtain ⟨a, n, us, rfl, hm, hI, hne⟩ := hT v (.head _)
    generalize kf (Value.ref a) = ks at hI hne
    cases hI with
    | nil => exact absurd rfl hne
    | cons x t r =>
      refine ⟨.int x t :: fs, .cons (N _ (hs _ hm)).1 rfl rfl (by simp) h1, by simp [h2], ?_⟩
      intro f hf
      rcases List.mem_cons.mp hf with rfl | hf
      · exact ⟨x, t, rfl⟩
      · exact h3 f hf
theorem pw_short {α : Type} {R : α → α → Prop} : ∀ {l : List α}, l.length < 2 → l.Pairwise R
  | [], _ => .nil
  | [_], _ => .cons (fun _ h => (nomatch h)) .nil
  | _ :: _ :: r, h => absurd h (by simp only [List.length_cons]; omega)
theorem range_getD (vs : List Value) : (List.range vs.length).map (fun i => vs.getD i Value.none) = vs := by
  apply List.ext_getElem
  · simp
  · intro i h1 h2
    simp [List.getD, h2]
theorem pick_perm {vs : List Value} {q : Array Nat} (hq : PB vs.length q) : (q.toList.map fun i => vs.getD i Value.none).Perm vs := by
  have h1 : q.toList.Perm (List.range vs.length) := Array.perm_iff_toList_perm.mp hq
  have h2 := h1.map (fun i => vs.getD i Value.none)
  rwa [range_getD] at h2
theorem pick_pw {vs : List Value} {kf : Value → List Int} {q : Array Nat} (hq : PB vs.length q) (hs : SortedP (O := LO) (fun i => kf (vs.getD i Value.none)) q vs.length) :
    (q.toList.map fun i => vs.getD i Value.none).Pairwise (fun u v => llt (kf v) (kf u) = false) := by
  rw [List.pairwise_iff_getElem]
  intro i j hi hj hij
  simp only [List.length_map, Array.length_toList] at hi hj
  have h1 := hs i j (Nat.le_of_lt hij) (by rw [← hq.size]; exact hj)
  have e1 : q.getD i 0 = q[i] := by simp [Array.getD, hi]
  have e2 : q.getD j 0 = q[j] := by simp [Array.getD, hj]
  unfold KP at h1
  rw [e1, e2] at h1
  simp only [List.getElem_map, Array.getElem_toList]
  exact h1
theorem l_sortedT {vs : List Value} {k : Nat} {kf : Value → List Int} {Q : Value → Shared → Prop} (F : Fr h₀ L s.heap m) (N : News h₀ L s.heap news) (hm : (D, listOf vs.toArray k) ∈ news) (hT : ∀ v ∈ vs, TL tl v (kf v)) (hs : ∀ p ∈ tl, p ∈ news) (h64 : vs.length < 64)
    (h : ∀ D' h' vs' e, Fr h₀ L h' m → News h₀ L h' ((D', listOf (List.toArray vs') e) :: news) → (∀ p ∈ news, p.1 < D') → vs'.Perm vs → vs'.Pairwise (fun u v => llt (kf v) (kf u) = false) → Q (.ref D') { s with heap := h' }) :
    wpAny (model prog w) A (call (.builtin "sorted") [.ref D]) Q E s := by
  have hl : s.heap.IsList D vs.toArray := ⟨_, (N _ hm).1, rfl, k, rfl⟩
  by_cases h2 : vs.length < 2
  · refine sorted_short hl h2 ?_
    obtain ⟨e, he⟩ := sortedAll_at s.heap vs vs.toArray
    refine h _ _ vs e (F.kept fun _ _ => sortedAll_old) (N.kept_cons F (fun _ _ => sortedAll_old) (Nat.le_succ _) he) (fun p hp => Nat.lt_succ_of_lt (Heap.lt_size (N p hp).1)) (List.Perm.refl _) ?_
    exact pw_short h2
  · have h2 : 2 ≤ vs.length := by omega
    refine kat_sorted F N hl h2 h64 ?_
    intro D' e1 h' F' N' hlt
    have N'' : News h₀ L h' news := fun p hp => N' p (.tail _ hp)
    obtain ⟨fs, t1, t2, t3⟩ := tl_tups N'' hs vs hT
    refine kat_kind (T := Value.type "int") t1 (by omega) ?_ rfl ?_
    · intro v hv
      obtain ⟨n, t, rfl⟩ := t3 v hv
      exact Looks.of_pure rfl
    refine pk_sort (O := LO) (key := fun i => kf (vs.getD i Value.none)) ?_ (by omega) ?_
    · intro i j C hi hj hC
      have mi : vs.getD i Value.none ∈ vs := by simp [List.getD, hi]
      have mj : vs.getD j Value.none ∈ vs := by simp [List.getD, hj]
      unfold kas_ask
      obtain ⟨a, n, us, ea, hm1, hI, _⟩ := hT _ mi
      obtain ⟨b, n2, us2, eb, hm2, hI2, _⟩ := hT _ mj
      rw [ea] at hI ⊢
      rw [eb] at hI2 ⊢
      refine kat_lt (N'' _ (hs _ hm1)).1 rfl (N'' _ (hs _ hm2)).1 rfl ?_
      refine lex_ints 0 hI hI2 (by simp only [List.size_toArray]; rw [hI.length, hI2.length]) ?_
      have hC' := hC
      simp only [ea, eb] at hC'
      exact hC'
    · intro q hq hsq
      refine KasFin.intro F' N' (g := fun o => (D', o) :: news) ?_ ?_
      · exact .head (fun p hp => Nat.ne_of_lt (hlt p hp))
      · intro h'' c F'' N3
        exact h D' h'' _ c F'' N3 hlt (pick_perm hq) (pick_pw hq hsq)
end
end Mine
end

section
open PySem PySem.W PyProof.Rows PySem.Calls PyProof
set_option Elab.async false
set_option maxRecDepth 100000
set_option linter.unusedVariables false
namespace Mine
local macro_rules | `(tactic| omega) => `(tactic| lia)
/-- two lists that go together, item by item -/
inductive All2 {α β : Type} (R : α → β → Prop) : List α → List β → Prop
  | nil : All2 R [] []
  | cons {a b as bs} : R a b → All2 R as bs → All2 R (a :: as) (b :: bs)
theorem All2.snoc {α β : Type} {R : α → β → Prop} {as : List α} {bs : List β} {a : α} {b : β} (h : All2 R as bs) (r : R a b) : All2 R (as ++ [a]) (bs ++ [b]) := by
  induction h with
  | nil => exact .cons r .nil
  | cons q _ ih => exact .cons q ih
theorem All2.length {α β : Type} {R : α → β → Prop} {as : List α} {bs : List β} (h : All2 R as bs) : as.length = bs.length := by
  induction h with
  | nil => rfl
  | cons _ _ ih => simp [ih]
section
variable {prog : Program} {w : World} {A : Around} {h₀ : Heap} {L : Addr} {m : Str → Option Value} {env : Env} {elt : PySem.Expr} {x : Str} {scope : Scope} {cl : List (Str × Addr)} {s : Shared} {S : List (Addr × Obj) → Prop} {Fin : List Value → List (Addr × Obj) → Prop} {news : List (Addr × Obj)}
/-- a comprehension over a list, whose element leaves the ledger as it was -/
theorem lc_rest {vs : List Value} (El : Value → Value → Prop)
    (turn : ∀ v ∈ vs, ∀ I oI C oC D m₂ ys h tk (E' : Value → Shared → Prop), LCg.NsObj oC m₂ → m₂ x = some v → Fr h₀ L h m → News h₀ L h ((I, oI) :: (C, oC) :: (D, LCg.lst ys) :: news) → LCg.Off3 I C D news → ((@Ne Nat I C) ∧ (@Ne Nat I D) ∧ (@Ne Nat C D)) →
      wpAny (model prog w) A (eval elt (compEnvC scope cl C env)) (LCg.CompEnd h₀ L m { s with heap := h, toks := tk } I oI C oC D (LCg.lst ys) S (fun y news' => news' = news ∧ El v y)) E' { s with heap := h, toks := tk })
    (fin : ∀ ys, All2 El vs ys → Fin ys news) : LCg.CompRest prog w A h₀ L m env elt x scope cl s S (fun i v => vs.toArray[i]? = some v) Fin vs.toArray.size 0 [] news := by
  have key : ∀ (j i : Nat) (ys : List Value), i + j = vs.length → All2 El (vs.take i) ys → LCg.CompRest prog w A h₀ L m env elt x scope cl s S (fun i v => vs.toArray[i]? = some v) Fin j i ys news := by
    intro j
    induction j with
    | zero =>
      intro i ys hi hy
      have e : i = vs.length := by omega
      subst e
      rw [List.take_length] at hy
      exact LCg.CompRest.zero (fin ys hy)
    | succ j ih =>
      intro i ys hi hy
      refine LCg.CompRest.succ ?_
      intro v I oI C oC D m₂ h tk E' hv hC hx F N off ne
      have hv' : vs[i]? = some v := by simpa using hv
      refine wpAny_mono (turn v (List.mem_of_getElem? hv') I oI C oC D m₂ ys h tk E' hC hx F N off ne) (fun y s₂ hq => ?_) fun _ _ e => e
      obtain ⟨h', tk', nw, e, F', N', off', hS, hn, hy'⟩ := hq
      subst hn
      refine ⟨h', tk', _, e, F', N', off', hS, ?_⟩
      refine ih (i + 1) _ (by omega) ?_
      rw [List.take_add_one, hv']
      exact hy.snoc hy'
  have := key vs.length 0 [] (by omega) (by simp only [List.take_zero]; exact .nil)
  simpa using this
end
end Mine
end

section
open PySem PySem.W PyProof.Rows PySem.Calls PyProof
set_option Elab.async false
set_option maxRecDepth 100000
set_option linter.unusedVariables false
namespace Mine
local macro_rules | `(tactic| omega) => `(tactic| lia)
theorem PIn.uniq {h₀ h : Heap} {L : Addr} {tl : List (Addr × Obj)} (N : News h₀ L h tl) {v : Value} {k k' : Int × Int} (a : PIn tl v k) (b : PIn tl v k') : k = k' := by
  obtain ⟨x, n, t1, t2, rfl, m1⟩ := a
  obtain ⟨y, n', u1, u2, e, m2⟩ := b
  injection e with e
  subst e
  have e1 := (N _ m1).1
  rw [(N _ m2).1] at e1
  have e2 := Option.some.inj e1
  obtain ⟨a1, a2⟩ := k
  obtain ⟨b1, b2⟩ := k'
  simp only [tupObj, Obj.mk.injEq, Data.seq.injEq, true_and] at e2
  have e3 := e2.1.1
  simp only [Array.mk.injEq, List.cons.injEq, Value.int.injEq, and_true] at e3
  obtain ⟨⟨h1, _⟩, ⟨h2, _⟩⟩ := e3
  simp [h1, h2]
/-- the pair of a value -/
noncomputable def pfOf (tl : List (Addr × Obj)) (v : Value) : Int × Int := open Classical in if h : ∃ k, PIn tl v k then Classical.choose h else (0, 0)
theorem pfOf_in {tl : List (Addr × Obj)} {v : Value} {k : Int × Int} (h : PIn tl v k) : PIn tl v (pfOf tl v) := by
  have hx : ∃ k, PIn tl v k := ⟨k, h⟩
  unfold pfOf
  rw [dif_pos hx]
  exact Classical.choose_spec hx
theorem PAll.mem {tl : List (Addr × Obj)} {vs : List Value} {ks : List (Int × Int)} (h : PAll tl vs ks) : ∀ v ∈ vs, ∃ k ∈ ks, PIn tl v k := by
  induction h with
  | nil => intro v hv; cases hv
  | cons h _ ih =>
    intro v hv
    rcases List.mem_cons.mp hv with rfl | hv
    · exact ⟨_, .head _, h⟩
    · obtain ⟨k, hk, ht⟩ := ih v hv
      exact ⟨k, .tail _ hk, ht⟩
theorem PAll.pf {h₀ h : Heap} {L : Addr} {tl : List (Addr × Obj)} (N : News h₀ L h tl) {vs : List Value} {ks : List (Int × Int)} (hA : PAll tl vs ks) : vs.map (pfOf tl) = ks := by
  induction hA with
  | nil => rfl
  | cons h _ ih => rw [List.map_cons, ih, PIn.uniq N (pfOf_in h) h]
theorem PAll.of_mem {tl : List (Addr × Obj)} : ∀ {vs : List Value}, (∀ v ∈ vs, PIn tl v (pfOf tl v)) → PAll tl vs (vs.map (pfOf tl))
  | [], _ => .nil
  | v :: vs, h => .cons (h v (.head _)) (PAll.of_mem fun u hu => h u (.tail _ hu))
section
variable {prog : Program} {w : World} {A : Around} {E : Value → Shared → Prop} {s : Shared} {h₀ h : Heap} {L D : Addr} {m : Str → Option Value} {news tl : List (Addr × Obj)}
theorem l_sortedP {vs : List Value} {ks : List (Int × Int)} {k : Nat} {Q : Value → Shared → Prop} (F : Fr h₀ L s.heap m) (N : News h₀ L s.heap news) (hm : (D, listOf vs.toArray k) ∈ news) (hP : PAll tl vs ks) (hs : ∀ p ∈ tl, p ∈ news) (h64 : vs.length < 64)
    (h : ∀ D' h' vs' ks' e, Fr h₀ L h' m → News h₀ L h' ((D', listOf (List.toArray vs') e) :: news) → (∀ p ∈ news, p.1 < D') → PAll tl vs' ks' → ks'.Perm ks → ks'.Pairwise (fun u v => llt [v.1, v.2] [u.1, u.2] = false) → Q (.ref D') { s with heap := h' }) :
    wpAny (model prog w) A (call (.builtin "sorted") [.ref D]) Q E s := by
  have hT : ∀ v ∈ vs, PIn tl v (pfOf tl v) := fun v hv => by
    obtain ⟨k, _, hk⟩ := hP.mem v hv
    exact pfOf_in hk
  have Ntl : News h₀ L s.heap tl := fun p hp => N p (hs p hp)
  refine l_sortedT (tl := tl) (kf := fun v => [(pfOf tl v).1, (pfOf tl v).2]) F N hm (fun v hv => (hT v hv).tl) hs h64 ?_
  intro D' h' vs' e F' N' hlt hp hsrt
  refine h D' h' vs' (vs'.map (pfOf tl)) e F' N' hlt (PAll.of_mem fun v hv => hT v (hp.mem_iff.mp hv)) ?_ ?_
  · rw [← hP.pf Ntl]; exact hp.map _
  · rw [List.pairwise_map]; exact hsrt
end
end Mine
end

section
open PySem PySem.W PyProof.Rows PySem.Calls PyProof
set_option Elab.async false
set_option maxRecDepth 100000
set_option linter.unusedVariables false
namespace Mine
local macro_rules | `(tactic| omega) => `(tactic| lia)
/-- a list comprehension of two clauses -/
abbrev lc2 (elt iter iter2 : PySem.Expr) (x k : Str) (px pk : Pos) (scope : Scope) (pos : Pos) : PySem.Expr := .ListComp elt [⟨.Name x px, iter, [], 0⟩, ⟨.Name k pk, iter2, [], 0⟩] scope pos
theorem turn_two0 (elt iter iter2 : PySem.Expr) (x k : Str) (px pk : Pos) (scope : Scope) (pos : Pos) (it acc : Value) (env : Env) :
    compTurn (lc2 elt iter iter2 x k px pk scope pos) 0 it acc env = (do
      standAt iter.pos
      match ← pyNext it with
      | none => pure (.done .next)
      | some v =>
        letOwnedTupleGo (.Name x px) it v
        assign (.Name x px) env v
        let y ← eval iter2 env
        standAt iter2.pos
        let y ← foldedSetIterable iter2 env y
        let _ ← runOwn (.compStart (lc2 elt iter iter2 x k px pk scope pos) 1 (← holding [y] (pyIter y)) acc env) env
        again (.compLoop (lc2 elt iter iter2 x k px pk scope pos) 0 it acc env)) := by rfl
theorem turn_two1 (elt iter iter2 : PySem.Expr) (x k : Str) (px pk : Pos) (scope : Scope) (pos : Pos) (it acc : Value) (env : Env) :
    compTurn (lc2 elt iter iter2 x k px pk scope pos) 1 it acc env = (do
      standAt iter2.pos
      match ← pyNext it with
      | none => pure (.done .next)
      | some v =>
        letOwnedTupleGo (.Name k pk) it v
        assign (.Name k pk) env v
        (do let _ ← call (.builtin "list.append") [acc, ← eval elt env])
        again (.compLoop (lc2 elt iter iter2 x k px pk scope pos) 1 it acc env)) := by rfl
section
variable {prog : Program} {w : World} {A : Around} {E : Value → Shared → Prop} {R : Result → Shared → Prop} {s : Shared} {h₀ : Heap} {L : Addr} {m : Str → Option Value} {env : Env}
  {elt iter iter2 : PySem.Expr} {x k : Str} {px pk : Pos} {scope : Scope} {cl : List (Str × Addr)} {pos : Pos}
theorem start_two1 {it acc : Value}
    (h0 : codeAny (model prog w) A (.compLoop (lc2 elt iter iter2 x k px pk scope pos) 1 it acc env) R s)
    (h : wpAny (model prog w) A (pyIter it) (fun it' s' => codeAny (model prog w) A (.compLoop (lc2 elt iter iter2 x k px pk scope pos) 1 it' acc env) R s')
      (notedBy (model prog w) A env fun x s' => R (.error x) s') s) :
    codeAny (model prog w) A (.compStart (lc2 elt iter iter2 x k px pk scope pos) 1 it acc env) R s := by
  refine codeAny_of_tree ?_
  show wpAny _ _ ((compStart (lc2 elt iter iter2 x k px pk scope pos) 1 it acc env).onRaise (fun x => do noteFrame x env; standAt theWindowsPlace)) _ _ s
  refine wpAny_notedAt ?_
  unfold compStart
  show wpAny _ _ (ask >>= _) _ _ s
  refine wpAny_bind (wpAny_askSetting (wpAny_ite ?_))
  split
  · first
      | exact wpAny_bind (wpAny_pure (wpAny_pure (And.intro rfl h0)))
      | exact wpAny_pure (And.intro rfl h0)
  · first
      | exact wpAny_bind (wpAny_rule (wpAny_bind (wpAny_standAt (wpAny_bind (wpAny_mono h (fun it' s' h' => wpAny_pure (And.intro rfl h')) fun _ _ x => x)))))
      | (refine wpAny_bind (wpAny_rule ?_); show wpAny _ _ (standAt iter2.pos >>= _) _ _ s; exact wpAny_bind (wpAny_standAt (wpAny_bind (wpAny_mono h (fun it' s' h' => wpAny_pure (And.intro rfl h')) fun _ _ x => x))))
/-- what the inner clause's turns append -/
def Row (G : Nat → Value → Prop) (n : Nat) (zs : List Value) : Prop := zs.length = n ∧ ∀ j z, zs[j]? = some z → G j z
theorem Row.snoc {G : Nat → Value → Prop} {n : Nat} {zs : List Value} {z : Value} (h : Row G n zs) (hz : G n z) : Row G (n + 1) (zs ++ [z]) := by
  obtain ⟨h1, h2⟩ := h
  refine ⟨by simp [h1], fun j y hj => ?_⟩
  rw [List.getElem?_append] at hj
  split at hj
  · exact h2 j y hj
  · rename_i hn
    have : j - zs.length = 0 := by
      have := (List.getElem?_eq_some_iff.mp hj).1
      simp at this; omega
    rw [this] at hj
    have e : j = n := by omega
    subst e
    simp at hj
    exact hj ▸ hz
theorem inner_two {I2 C D : Addr} {v : Value} {n : Nat} {ys : List Value} {rest : List (Addr × Obj)} {oC : Obj} {m₂ : Str → Option Value} (G : Nat → Value → Prop)
    (hh : A.handled = none) (hkind : scope.kind = .function) (hk : scope.names.lookup k = some .local) (hkx : x ≠ k) (hsz : ys.length + n ≤ sizeLine)
    (hit : IsRangeIter s.heap I2 0 (n : Int) 1) (F : Fr h₀ L s.heap m) (N : News h₀ L s.heap ((C, oC) :: (D, LCg.lst ys) :: rest)) (hC : LCg.NsObj oC m₂) (hx : m₂ x = some v)
    (hI₀ : h₀.get? I2 = none) (hIL : L ≠ I2) (hIC : C ≠ I2) (hID : D ≠ I2) (hCD : C ≠ D) (off : ∀ p ∈ rest, p.1 ≠ I2 ∧ p.1 ≠ C ∧ p.1 ≠ D)
    (helt : ∀ j tj oI oC' m' zs h tk (E' : Value → Shared → Prop), j < n → LCg.NsObj oC' m' → m' x = some v → m' k = some (.int (j : Int) tj) → Fr h₀ L h m → News h₀ L h ((I2, oI) :: (C, oC') :: (D, LCg.lst zs) :: rest) →
      wpAny (model prog w) A (eval elt (compEnvC scope cl C env)) (fun y s₂ => ∃ h' tk', s₂ = { s with heap := h', toks := tk' } ∧ Fr h₀ L h' m ∧ News h₀ L h' ((I2, oI) :: (C, oC') :: (D, LCg.lst zs) :: rest) ∧ G j y) E' { s with heap := h, toks := tk })
    (hR : ∀ h' tk oC' m' zs, Fr h₀ L h' m → News h₀ L h' ((C, oC') :: (D, LCg.lst (ys ++ zs)) :: rest) → LCg.NsObj oC' m' → Row G n zs → R (.ok .next) { s with heap := h', toks := tk }) :
    codeAny (model prog w) A (.compLoop (lc2 elt iter iter2 x k px pk scope pos) 1 (.ref I2) (.ref D) (compEnvC scope cl C env)) R s := by
  have W := Walks.range (prog := prog) (w := w) hh I2 0 1 n
  have zC := N _ (.head _)
  have zD := N _ (.tail _ (.head _))
  refine codeAny_loop rfl (fun kk s' => ∃ h' tk i zs oC' m', s' = { s with heap := h', toks := tk } ∧ i ≤ n ∧ kk = n + 1 - i ∧ IsRangeIter h' I2 (0 + (i : Nat) * 1) ((n : Int) - (i : Nat)) 1 ∧ Fr h₀ L h' m ∧ News h₀ L h' ((C, oC') :: (D, LCg.lst (ys ++ zs)) :: rest) ∧
    LCg.NsObj oC' m' ∧ m' x = some v ∧ Row G i zs) ?_ (n + 1) ⟨s.heap, s.toks, 0, [], oC, m₂, rfl, Nat.zero_le _, rfl, by simpa using hit, F, by simpa using N, hC, hx, rfl, fun j z h => by simp at h⟩
  rintro kk s' ⟨h', tk, i, zs, oC', m', rfl, hi, rfl, hst', F', N', hC', hx', hrow⟩
  show wpAny _ A ((compTurn (lc2 elt iter iter2 x k px pk scope pos) 1 (.ref I2) (.ref D) (compEnvC scope cl C env)).onRaise (fun x => do noteFrame x (compEnvC scope cl C env); theTreesLotGoes x)) _ _ _
  refine wpAny_noted ?_
  rw [turn_two1]
  refine wpAny_bind (wpAny_standAt (wpAny_bind ?_))
  have offI : ∀ p ∈ (C, oC') :: (D, LCg.lst (ys ++ zs)) :: rest, p.1 ≠ I2 := by
    intro p hp
    rcases List.mem_cons.mp hp with rfl | hp
    · exact hIC
    · rcases List.mem_cons.mp hp with rfl | hp
      · exact hID
      · exact (off p hp).1
  by_cases hlt : i < n
  · refine W.item i _ _ _ hlt hst' fun u h₁ tk₁ hP hst₁ hk₁ => ?_
    obtain ⟨tj, rfl⟩ := hP
    have e0 : (0 : Int) + (i : Nat) * 1 = (i : Int) := by omega
    rw [e0]
    refine wpAny_bind (wpAny_of_eq rfl ?_)
    have F₁ : Fr h₀ L h₁ m := LCg.fr_but F' hk₁ hIL hI₀
    have N₁ := LCg.news_but N' hk₁ offI
    refine wpAny_bind (wpAny_assign_Name (wpAny_storeName_local (lookup_relabel_local hk) (hC'.ns (N₁ _ (.head _)).1) (fun h₂ hn₂ hs₂ => ?_) (by simp [compEnvC, relabel, hkind])))
    obtain ⟨oC₂, heC, hoC⟩ := LCg.ns_obj hn₂
    have F₂ : Fr h₀ L h₂ m := F₁.change hs₂ zC.2.1 zC.2.2
    have eI : h₂.get? I2 = some _ := hs₂.extBut I2 _ (Ne.symm hIC) hst₁
    have N₂ : News h₀ L h₂ ((I2, _) :: (C, oC₂) :: (D, LCg.lst (ys ++ zs)) :: rest) := fun p hp => by
      rcases List.mem_cons.mp hp with rfl | hp
      · exact ⟨eI, Ne.symm hIL, hI₀⟩
      · rcases List.mem_cons.mp hp with rfl | hp
        · exact ⟨heC, zC.2⟩
        · have z := N₁ p (.tail _ hp)
          refine ⟨hs₂.extBut _ _ ?_ z.1, z.2⟩
          rcases List.mem_cons.mp hp with rfl | hp
          · exact Ne.symm hCD
          · exact (off p hp).2.1
    refine wpAny_bind (wpAny_bind (wpAny_mono (helt i tj _ oC₂ _ _ h₂ _ _ hlt hoC (by show (if x = k then _ else _) = _; rw [if_neg hkx]; exact hx') (by show (if k = k then _ else _) = _; rw [if_pos rfl]) F₂ N₂) (fun y s₄ h₄ => ?_) fun _ _ e => e))
    obtain ⟨h₃, tk₃, rfl, F₃, N₃, hG⟩ := h₄
    have yD := (N₃ _ (.tail _ (.tail _ (.head _)))).1
    have hszD : (ys ++ zs).toArray.size ≤ sizeLine := by rw [List.size_toArray, List.length_append, hrow.1]; omega
    refine wpAny_bind (append_at (hsz := hszD) yD fun h₄ hs₄ hD₄ => ?_)
    refine wpAny_pure (wpAny_pure ⟨rfl, n + 1 - (i + 1), by omega, h₄, tk₃, i + 1, zs ++ [y], oC₂, _, rfl, hlt, rfl, ?_, F₃.change hs₄ zD.2.1 zD.2.2, ?_, hoC, by show (if x = k then _ else _) = _; rw [if_neg hkx]; exact hx', hrow.snoc hG⟩)
    · exact hs₄.extBut I2 _ (Ne.symm hID) (N₃ _ (.head _)).1
    · intro p hp
      rcases List.mem_cons.mp hp with rfl | hp
      · have z := N₃ (C, oC₂) (.tail _ (.head _))
        exact ⟨hs₄.extBut _ _ hCD z.1, z.2⟩
      · rcases List.mem_cons.mp hp with rfl | hp
        · exact ⟨hD₄.trans (congrArg some ((LCg.lst_snoc (ys ++ zs) y).trans (by rw [List.append_assoc]))), zD.2⟩
        · have z := N₃ p (.tail _ (.tail _ (.tail _ hp)))
          exact ⟨hs₄.extBut _ _ (off p hp).2.2 z.1, z.2⟩
  · obtain rfl : i = n := by omega
    refine W.done _ _ _ hst' fun h₁ tk₁ hk₁ => ?_
    exact wpAny_pure (hR h₁ tk₁ oC' m' zs (LCg.fr_but F' hk₁ hIL hI₀) (LCg.news_but N' hk₁ offI) hC' hrow)
theorem outer_two {I C D ax : Addr} {vs : List Value} {ka : Nat} {news : List (Addr × Obj)} {oC : Obj} {m₂ : Str → Option Value} (cnt : Value → Nat) (G : Value → Nat → Value → Prop)
    (hh : A.handled = none) (hkind : scope.kind = .function) (hxl : scope.names.lookup x = some .local) (hk : scope.names.lookup k = some .local) (hkx : x ≠ k) (hs2 : ∀ C y, foldedSetIterable iter2 (compEnvC scope cl C env) y = pure y)
    (hax : ax ≠ I) (hit : s.heap.IsListIter I ax 0) (hm : (ax, listOf vs.toArray ka) ∈ news) (hcnt : ∀ v ∈ vs, cnt v < 1000) (hvl : vs.length ≤ 1000)
    (F : Fr h₀ L s.heap m) (N : News h₀ L s.heap ((C, oC) :: (D, LCg.lst []) :: news)) (hC : LCg.NsObj oC m₂)
    (hI₀ : h₀.get? I = none) (hIL : L ≠ I) (hIC : C ≠ I) (hID : D ≠ I) (hCD : C ≠ D) (off : ∀ p ∈ news, p.1 ≠ I ∧ p.1 ≠ C ∧ p.1 ≠ D)
    (hsrc : ∀ v ∈ vs, ∀ I oI C oC D m₂ zs h tk (E' : Value → Shared → Prop), LCg.NsObj oC m₂ → m₂ x = some v → Fr h₀ L h m → News h₀ L h ((I, oI) :: (C, oC) :: (D, LCg.lst zs) :: news) →
      wpAny (model prog w) A (eval iter2 (compEnvC scope cl C env)) (fun r s₂ => ∃ ra h' tk' t u v', r = .ref ra ∧ s₂ = { s with heap := h', toks := tk' } ∧ Fr h₀ L h' m ∧ News h₀ L h' ((I, oI) :: (C, oC) :: (D, LCg.lst zs) :: news) ∧ IsRange h' ra 0 (cnt v : Int) 1 t u v') E' { s with heap := h, toks := tk })
    (helt : ∀ v ∈ vs, ∀ j tj I2 oI2 I oI C oC' D m' zs h tk (E' : Value → Shared → Prop), j < cnt v → LCg.NsObj oC' m' → m' x = some v → m' k = some (.int (j : Int) tj) → Fr h₀ L h m → News h₀ L h ((I2, oI2) :: (C, oC') :: (D, LCg.lst zs) :: (I, oI) :: news) →
      wpAny (model prog w) A (eval elt (compEnvC scope cl C env)) (fun y s₂ => ∃ h' tk', s₂ = { s with heap := h', toks := tk' } ∧ Fr h₀ L h' m ∧ News h₀ L h' ((I2, oI2) :: (C, oC') :: (D, LCg.lst zs) :: (I, oI) :: news) ∧ G v j y) E' { s with heap := h, toks := tk })
    (hR : ∀ h' tk oC' m' zss, Fr h₀ L h' m → News h₀ L h' ((C, oC') :: (D, LCg.lst (List.flatten zss)) :: news) → LCg.NsObj oC' m' → All2 (fun v zs => Row (G v) (cnt v) zs) vs zss → R (.ok .next) { s with heap := h', toks := tk }) :
    codeAny (model prog w) A (.compLoop (lc2 elt iter iter2 x k px pk scope pos) 0 (.ref I) (.ref D) (compEnvC scope cl C env)) R s := by
  have W := Walks.list (prog := prog) (w := w) hh I ax hax vs.toArray
  have zC := N _ (.head _)
  have zD := N _ (.tail _ (.head _))
  have flen : ∀ (us : List Value) (zss : List (List Value)), (∀ u ∈ us, cnt u < 1000) → All2 (fun v zs => Row (G v) (cnt v) zs) us zss → zss.flatten.length ≤ 1000 * us.length := by
    intro us zss hu hA
    induction hA with
    | nil => simp
    | cons r _ ih =>
      have := ih fun u h => hu u (.tail _ h)
      have := hu _ (.head _)
      have := r.1
      simp only [List.flatten_cons, List.length_append, List.length_cons]
      omega
  refine codeAny_loop rfl (fun kk s' => ∃ h' tk i zss oC' m', s' = { s with heap := h', toks := tk } ∧ i ≤ vs.length ∧ kk = vs.length + 1 - i ∧ h'.IsListIter I ax i ∧ Fr h₀ L h' m ∧ News h₀ L h' ((C, oC') :: (D, LCg.lst (List.flatten zss)) :: news) ∧
    LCg.NsObj oC' m' ∧ All2 (fun v zs => Row (G v) (cnt v) zs) (vs.take i) zss) ?_ (vs.length + 1) ⟨s.heap, s.toks, 0, [], oC, m₂, rfl, Nat.zero_le _, rfl, hit, F, N, hC, by simpa using All2.nil⟩
  rintro kk s' ⟨h', tk, i, zss, oC', m', rfl, hi, rfl, hst', F', N', hC', hrow⟩
  show wpAny _ A ((compTurn (lc2 elt iter iter2 x k px pk scope pos) 0 (.ref I) (.ref D) (compEnvC scope cl C env)).onRaise (fun x => do noteFrame x (compEnvC scope cl C env); theTreesLotGoes x)) _ _ _
  refine wpAny_noted ?_
  rw [turn_two0]
  refine wpAny_bind (wpAny_standAt (wpAny_bind ?_))
  have offI : ∀ p ∈ (C, oC') :: (D, LCg.lst (List.flatten zss)) :: news, p.1 ≠ I := by
    intro p hp
    rcases List.mem_cons.mp hp with rfl | hp
    · exact hIC
    · rcases List.mem_cons.mp hp with rfl | hp
      · exact hID
      · exact (off p hp).1
  have hls : h'.IsList ax vs.toArray := N'.isList (.tail _ (.tail _ hm))
  by_cases hlt : i < vs.length
  · refine W.item i _ _ _ (by simpa using hlt) ⟨hst', hls⟩ fun u h₁ tk₁ hP hst₁ hk₁ => ?_
    have hu : vs[i]? = some u := by simpa using hP
    have hmem := List.mem_of_getElem? hu
    refine wpAny_bind (wpAny_of_eq rfl ?_)
    have F₁ : Fr h₀ L h₁ m := LCg.fr_but F' hk₁ hIL hI₀
    have N₁ := LCg.news_but N' hk₁ offI
    refine wpAny_bind (wpAny_assign_Name (wpAny_storeName_local (lookup_relabel_local hxl) (hC'.ns (N₁ _ (.head _)).1) (fun h₂ hn₂ hs₂ => ?_) (by simp [compEnvC, relabel, hkind])))
    obtain ⟨oC₂, heC, hoC⟩ := LCg.ns_obj hn₂
    have F₂ : Fr h₀ L h₂ m := F₁.change hs₂ zC.2.1 zC.2.2
    obtain ⟨oI, eI₁, rI⟩ := hst₁.1
    have eI : h₂.get? I = some oI := hs₂.extBut I _ (Ne.symm hIC) eI₁
    have N₂ : News h₀ L h₂ ((I, oI) :: (C, oC₂) :: (D, LCg.lst (List.flatten zss)) :: news) := fun p hp => by
      rcases List.mem_cons.mp hp with rfl | hp
      · exact ⟨eI, Ne.symm hIL, hI₀⟩
      · rcases List.mem_cons.mp hp with rfl | hp
        · exact ⟨heC, zC.2⟩
        · have z := N₁ p (.tail _ hp)
          refine ⟨hs₂.extBut _ _ ?_ z.1, z.2⟩
          rcases List.mem_cons.mp hp with rfl | hp
          · exact Ne.symm hCD
          · exact (off p hp).2.1
    refine wpAny_bind (wpAny_mono (hsrc u hmem I oI C oC₂ D _ _ h₂ _ _ hoC (by show (if x = x then _ else _) = _; rw [if_pos rfl]) F₂ N₂) (fun r s₃ h₃ => ?_) fun _ _ e => e)
    obtain ⟨ra, h₃, tk₃, t, u', v', rfl, rfl, F₃, N₃, hr⟩ := h₃
    have hc := hcnt u hmem
    have hrs : Builtin.Range.rangeSize 0 (cnt u : Int) 1 = (cnt u : Int) := range_one _
    have hsm : Builtin.Range.small 0 (cnt u : Int) 1 = true := range_small (by omega) (by omega) (by omega) (by omega) (by omega) (by omega) hrs (by omega)
    refine wpAny_bind (wpAny_standAt (wpAny_bind (wpAny_of_eq (hs2 C _) (wpAny_bind (wpAny_holding (wpAny_pyIter_range hr hsm ?_))))))
    rw [hrs]
    refine wpAny_bind (wpAny_runOwn ?_)
    have up : ∀ b o, h₃.get? b = some o → (h₃.push { cls := .type "range_iterator", data := .fields #[rawInt 0, rawInt (cnt u : Int), rawInt 1] }).get? b = some o := fun b o e => Heap.get?_push_of_some _ e
    have hI2 : IsRangeIter (h₃.push { cls := .type "range_iterator", data := .fields #[rawInt 0, rawInt (cnt u : Int), rawInt 1] }) h₃.objs.size 0 (cnt u : Int) 1 := Heap.get?_push_size _ rfl
    have fresh : ∀ p ∈ (I, oI) :: (C, oC₂) :: (D, LCg.lst (List.flatten zss)) :: news, p.1 ≠ h₃.objs.size := fun p hp => Nat.ne_of_lt (Heap.lt_size (N₃ p hp).1)
    have inner : codeAny (model prog w) (A.mark none) (.compLoop (lc2 elt iter iter2 x k px pk scope pos) 1 (.ref h₃.objs.size) (.ref D) (compEnvC scope cl C env)) (fun r s' => match r with
        | .ok f => wpAny (model prog w) A (again (.compLoop (lc2 elt iter iter2 x k px pk scope pos) 0 (.ref I) (.ref D) (compEnvC scope cl C env))) (fun fin s' => match fin with
          | .done f => R (.ok f) s'
          | .again c' => c' = .compLoop (lc2 elt iter iter2 x k px pk scope pos) 0 (.ref I) (.ref D) (compEnvC scope cl C env) ∧ ∃ mm, mm < vs.length + 1 - i ∧ ∃ h' tk i zss oC' m', s' = { s with heap := h', toks := tk } ∧ i ≤ vs.length ∧ mm = vs.length + 1 - i ∧ h'.IsListIter I ax i ∧ Fr h₀ L h' m ∧ News h₀ L h' ((C, oC') :: (D, LCg.lst (List.flatten zss)) :: news) ∧
    LCg.NsObj oC' m' ∧ All2 (fun v zs => Row (G v) (cnt v) zs) (vs.take i) zss) (notedBy (model prog w) A (compEnvC scope cl C env) fun e s' => R (.error e) s') s'
        | .error e => cameBackBy (model prog w) A (compEnvC scope cl C env) (notedBy (model prog w) A (compEnvC scope cl C env) fun e s' => R (.error e) s') e s') { s with heap := h₃.push { cls := .type "range_iterator", data := .fields #[rawInt 0, rawInt (cnt u : Int), rawInt 1] }, toks := tk₃ } := by
      refine inner_two (ys := List.flatten zss) (n := cnt u) (rest := (I, oI) :: news) (G u) hh hkind hk hkx ?_ hI2 (F₃.push _) ?_ hoC (by show (if x = x then _ else _) = _; rw [if_pos rfl]) (next_is_new F₃) (Nat.ne_of_lt F₃.ns.lt) (fresh (C, oC₂) (.tail _ (.head _))) (fresh (D, _) (.tail _ (.tail _ (.head _)))) hCD ?_ ?_ ?_
      · have h1 := flen _ _ (fun u hu => hcnt u (List.mem_of_mem_take hu)) hrow
        rw [List.length_take] at h1
        rw [sizeLine_eq]
        have : min i vs.length ≤ 1000 := by omega
        have : 1000 * min i vs.length ≤ 1000 * 1000 := Nat.mul_le_mul_left _ this
        omega
      · intro p hp
        have hp' : p ∈ (I, oI) :: (C, oC₂) :: (D, LCg.lst (List.flatten zss)) :: news := by
          simp only [List.mem_cons] at hp ⊢
          rcases hp with h | h | h | h <;> simp [h]
        exact ⟨up _ _ (N₃ p hp').1, (N₃ p hp').2⟩
      · intro p hp
        rcases List.mem_cons.mp hp with rfl | hp
        · exact ⟨fresh (I, oI) (.head _), Ne.symm hIC, Ne.symm hID⟩
        · exact ⟨fresh p (.tail _ (.tail _ (.tail _ hp))), (off p hp).2⟩
      · intro j tj oI2 oC3 m3 zs h tk E' hj hC3 hx3 hk3 F4 N4
        exact helt u hmem j tj _ oI2 I oI C oC3 D m3 zs h tk E' hj hC3 hx3 hk3 F4 N4
      · intro h4 tk4 oC4 m4 zs F4 N4 hC4 hrw
        refine wpAny_pure ⟨rfl, vs.length + 1 - (i + 1), by omega, h4, tk4, i + 1, zss ++ [zs], oC4, m4, rfl, hlt, rfl, ⟨oI, (N4 (I, oI) (.tail _ (.tail _ (.head _)))).1, rI⟩, F4, ?_, hC4, ?_⟩
        · rw [List.flatten_append, List.flatten_singleton]
          intro p hp
          refine N4 p ?_
          simp only [List.mem_cons] at hp ⊢
          rcases hp with h | h | h <;> simp [h]
        · rw [List.take_add_one, hu]
          exact hrow.snoc hrw
    exact start_two1 inner (wpAny_pyIter_rangeiter hI2 inner)
  · obtain rfl : i = vs.length := by omega
    rw [List.take_length] at hrow
    refine W.done _ _ _ ⟨by simpa using hst', hls⟩ fun h₁ tk₁ hk₁ => ?_
    exact wpAny_pure (hR h₁ tk₁ oC' m' zss (LCg.fr_but F' hk₁ hIL hI₀) (LCg.news_but N' hk₁ offI) hC' hrow)
theorem Assign_two {y : Str} {py spos : Pos} {Q : Flow → Shared → Prop} {ax : Addr} {vs : List Value} {ka : Nat} {news : List (Addr × Obj)} (cnt : Value → Nat) (G : Value → Nat → Value → Prop)
    (hh : A.handled = none) (hLe : env.locals = L)
    (hsw : swapsWith (lc2 elt iter iter2 x k px pk scope pos) (some (.Name y py)) spos.line env = pure true)
    (hclos : closureFor scope env = pure cl) (hcell : ∀ z ∈ scope.names, z.2 ≠ .cell) (hkind : scope.kind = .function)
    (hnames : ∀ z ∈ scope.names, z.2 = .local → scope.names.lookup z.1 = some .local) (hxl : scope.names.lookup x = some .local) (hk : scope.names.lookup k = some .local) (hkx : x ≠ k)
    (hy : env.kindOf y = some .local) (hp : (env.scope.kind == .class || (env.scope.kind == .module && env.locals != env.globals)) = false)
    (hs : ∀ x, foldedSetIterable iter env x = pure x) (hs2 : ∀ C y, foldedSetIterable iter2 (compEnvC scope cl C env) y = pure y)
    (hm : (ax, listOf vs.toArray ka) ∈ news) (hcnt : ∀ v ∈ vs, cnt v < 1000) (hvl : vs.length ≤ 1000) (F : Fr h₀ L s.heap m) (N : News h₀ L s.heap news)
    (hiter : ∀ Q' E', Q' (.ref ax) s → wpAny (model prog w) A (eval iter env) Q' E' s)
    (hsrc : ∀ v ∈ vs, ∀ I oI C oC D m₂ zs h tk (E' : Value → Shared → Prop), LCg.NsObj oC m₂ → m₂ x = some v → Fr h₀ L h m → News h₀ L h ((I, oI) :: (C, oC) :: (D, LCg.lst zs) :: news) →
      wpAny (model prog w) A (eval iter2 (compEnvC scope cl C env)) (fun r s₂ => ∃ ra h' tk' t u v', r = .ref ra ∧ s₂ = { s with heap := h', toks := tk' } ∧ Fr h₀ L h' m ∧ News h₀ L h' ((I, oI) :: (C, oC) :: (D, LCg.lst zs) :: news) ∧ IsRange h' ra 0 (cnt v : Int) 1 t u v') E' { s with heap := h, toks := tk })
    (helt : ∀ v ∈ vs, ∀ j tj I2 oI2 I oI C oC' D m' zs h tk (E' : Value → Shared → Prop), j < cnt v → LCg.NsObj oC' m' → m' x = some v → m' k = some (.int (j : Int) tj) → Fr h₀ L h m → News h₀ L h ((I2, oI2) :: (C, oC') :: (D, LCg.lst zs) :: (I, oI) :: news) →
      wpAny (model prog w) A (eval elt (compEnvC scope cl C env)) (fun y s₂ => ∃ h' tk', s₂ = { s with heap := h', toks := tk' } ∧ Fr h₀ L h' m ∧ News h₀ L h' ((I2, oI2) :: (C, oC') :: (D, LCg.lst zs) :: (I, oI) :: news) ∧ G v j y) E' { s with heap := h, toks := tk })
    (hR : ∀ D h' tk zss, Fr h₀ L h' (fun z => if z = y then some (.ref D) else m z) → News h₀ L h' ((D, LCg.lst (List.flatten zss)) :: news) → (∀ p ∈ news, p.1 < D) → All2 (fun v zs => Row (G v) (cnt v) zs) vs zss → Q .next { s with heap := h', toks := tk }) :
    wpAny (model prog w) A (exec (.Assign [.Name y py] (lc2 elt iter iter2 x k px pk scope pos) spos) env) Q E s := by
  subst hLe
  rw [exec_Assign_Name_used _ _ _ _ hsw]
  refine wpAny_bind (wpAny_standAt (wpAny_bind ?_))
  show wpAny _ A (do let _ ← comprehension (lc2 elt iter iter2 x k px pk scope pos) scope env _ (newList []) false (eval iter env) (some (assign (.Name y py) env))) _ _ s
  refine wpAny_bind (wpAny_mono (wpAny_comprehension_free (use := some (assign (.Name y py) env)) (Q := fun _ s' => Q .next s') rfl hs hclos hkind hnames
    (hiter _ _ ?_)) (fun _ s' hq => wpAny_pure (wpAny_pure hq)) fun _ _ e => e)
  have hl : s.heap.IsList ax vs.toArray := N.isList hm
  have hlt : ax < s.heap.objs.size := by obtain ⟨_, e, _⟩ := hl; exact Heap.lt_size e
  refine wpAny_pyIter_list hl ?_
  generalize hH1 : s.heap.push { cls := .type "list_iterator", data := .fields #[.ref ax, .int 0 0] } = H1
  have s1 : H1.objs.size = s.heap.objs.size + 1 := by rw [← hH1, Heap.size_push]
  have up1 : ∀ b o, s.heap.get? b = some o → H1.get? b = some o := fun b o e => by rw [← hH1]; exact Heap.get?_push_of_some _ e
  have hI1 : H1.IsListIter s.heap.objs.size ax 0 := by rw [← hH1]; exact ⟨_, Heap.get?_push_size _ rfl, rfl, rfl⟩
  have F1 : Fr h₀ env.locals H1 m := F.keeps up1
  have N1 : News h₀ env.locals H1 news := N.grown up1
  refine wpAny_newObj_type (wpAny_newFunctionEnv hcell (by intro y hy; simp at hy) (fun h₁ hns₁ hsb₁ => ?_) hkind)
  dsimp only at hns₁ hsb₁ ⊢
  generalize hH2 : H1.push { cls := .type "list", dict := none, data := .seq ([] : List Value).toArray } = H2 at hns₁ hsb₁ ⊢
  have s2 : H2.objs.size = H1.objs.size + 1 := by rw [← hH2, Heap.size_push]
  have up2 : ∀ b o, H1.get? b = some o → H2.get? b = some o := fun b o e => by rw [← hH2]; exact Heap.get?_push_of_some _ e
  have hD2 : H2.get? H1.objs.size = some (LCg.lst []) := by rw [← hH2]; exact Heap.get?_push_size _ rfl
  have F2 : Fr h₀ env.locals H2 m := F1.keeps up2
  have up3 : ∀ b o, H2.get? b = some o → h₁.get? b = some o := fun b o e => hsb₁.extBut b o (Nat.ne_of_lt (Heap.lt_size e)) (Heap.get?_push_of_some _ e)
  have F3 : Fr h₀ env.locals h₁ m := F2.keeps up3
  obtain ⟨oC, heC, hoC⟩ := LCg.ns_obj hns₁
  have hDL : H1.objs.size ≠ env.locals := Ne.symm (Nat.ne_of_lt F1.ns.lt)
  have hCL : H2.objs.size ≠ env.locals := Ne.symm (Nat.ne_of_lt F2.ns.lt)
  have hD₀ : h₀.get? H1.objs.size = none := next_is_new F1
  have hC₀ : h₀.get? H2.objs.size = none := next_is_new F2
  have nlt : ∀ p ∈ news, p.1 < s.heap.objs.size := fun p hp => Heap.lt_size (N p hp).1
  have hI3 : h₁.IsListIter s.heap.objs.size ax 0 := by
    obtain ⟨o, e, r⟩ := hI1
    exact ⟨o, up3 _ _ (up2 _ _ e), r⟩
  have N3 : News h₀ env.locals h₁ ((H2.objs.size, oC) :: (H1.objs.size, LCg.lst []) :: news) := fun p hp => by
    rcases List.mem_cons.mp hp with rfl | hp
    · exact ⟨heC, hCL, hC₀⟩
    · rcases List.mem_cons.mp hp with rfl | hp
      · exact ⟨up3 _ _ hD2, hDL, hD₀⟩
      · exact ⟨up3 _ _ (up2 _ _ (up1 _ _ (N p hp).1)), (N p hp).2⟩
  have loop : ∀ s₃ : Shared, s₃ = { s with heap := h₁, toks := s.toks + ([] : List (Str × Value)).length } →
      codeAny (model prog w) A (.compLoop (lc2 elt iter iter2 x k px pk scope pos) 0 (.ref s.heap.objs.size) (.ref H1.objs.size) (compEnvC scope cl H2.objs.size env))
        (compPost (model prog w) A E (some (assign (.Name y py) env)) (fun _ s' => Q .next s') (.ref H1.objs.size) H2.objs.size) s₃ := by
    rintro s₃ rfl
    refine outer_two cnt G hh hkind hxl hk hkx hs2 (Nat.ne_of_lt hlt) hI3 hm hcnt hvl F3 N3 hoC (next_is_new F) (Nat.ne_of_lt F.ns.lt) ?_ ?_ ?_ ?_ hsrc helt ?_
    · show H2.objs.size ≠ s.heap.objs.size; rw [s2, s1]; exact Nat.ne_of_gt (Nat.lt_succ_of_lt (Nat.lt_succ_self _))
    · show H1.objs.size ≠ s.heap.objs.size; rw [s1]; exact Nat.ne_of_gt (Nat.lt_succ_self _)
    · show H2.objs.size ≠ H1.objs.size; rw [s2]; exact Nat.ne_of_gt (Nat.lt_succ_self _)
    · intro p hp
      have h1 := nlt p hp
      refine ⟨Nat.ne_of_lt h1, ?_, ?_⟩
      · show p.1 ≠ H2.objs.size; rw [s2, s1]; exact Nat.ne_of_lt (Nat.lt_succ_of_lt (Nat.lt_succ_of_lt h1))
      · show p.1 ≠ H1.objs.size; rw [s1]; exact Nat.ne_of_lt (Nat.lt_succ_of_lt h1)
    · intro h' tk oC' m' zss F' N' hC' hrow
      show wpAny _ A (assign (.Name y py) env (.ref H1.objs.size)) _ _ _
      refine wpAny_assign_Name (wpAny_storeName_local hy F'.ns (fun h₂ hn₂ hs₂ => ?_) hp)
      have hL₀ : h₀.get? env.locals = none := Heap.get?_none_of_le F'.above
      have F₂ : Fr h₀ env.locals h₂ (fun z => if z = y then some (.ref H1.objs.size) else m z) := ⟨hn₂, fun b o e => hs₂.extBut b o (fun q => by rw [q, hL₀] at e; cases e) (F'.keep b o e), F'.above⟩
      have hnC : h'.Ns H2.objs.size m' := hC'.ns (N' _ (.head _)).1
      refine ⟨m', hnC.sameBut hs₂ hCL, fun h'' hs'' => hR H1.objs.size h'' _ zss (F₂.change hs'' hCL hC₀) (fun p hp => ?_) (fun p hp => by show p.1 < H1.objs.size; rw [s1]; exact Nat.lt_succ_of_lt (nlt p hp)) hrow⟩
      have z0 := N' p (.tail _ hp)
      have z : h₂.get? p.1 = some p.2 := hs₂.extBut _ _ z0.2.1 z0.1
      refine ⟨hs''.extBut _ _ ?_ z, z0.2⟩
      rcases List.mem_cons.mp hp with rfl | hp
      · show H1.objs.size ≠ H2.objs.size; rw [s2]; exact Nat.ne_of_lt (Nat.lt_succ_self _)
      · have h1 := nlt p hp
        show p.1 ≠ H2.objs.size; rw [s2, s1]; exact Nat.ne_of_lt (Nat.lt_succ_of_lt (Nat.lt_succ_of_lt h1))
  exact codeAny_compStart_list (loop _ rfl) (wpAny_pyIter_listiter hI3 (loop _ rfl))
end
end Mine
end

section
open PySem PySem.W PyProof.Rows PySem.Calls PyProof
set_option Elab.async false
set_option maxRecDepth 100000
set_option linter.unusedVariables false
namespace Mine
local macro_rules | `(tactic| omega) => `(tactic| lia)
section
variable {prog : Program} {w : World} {A : Around} {E : Value → Shared → Prop} {Q : Flow → Shared → Prop} {s : Shared} {h₀ : Heap} {env : Env}
/-- a for over a text whose own name is a cell, and whose turn makes one list anew -/
theorem for_cell {x y : Str} {px pos : Pos} {iter : PySem.Expr} {body : List Stmt} {xt : Str} {tx : Tok} {cS D₀ : Addr} {oS : Obj} {v₀ : Option Value} {vs₀ : List Value} {k₀ : Nat} {news : List (Addr × Obj)} {m₀ : Str → Option Value} (Inv : Nat → List Value → Prop)
    (hh : A.handled = none) (hkf : env.scope.kind = .function) (hx : env.kindOf x = some .cell) (hc : env.cells.lookup x = some cS)
    (hs : ∀ x, foldedSetIterable iter env x = pure x) (hE : PassesOwn (model prog w) A env E)
    (F : Fr h₀ env.locals s.heap (fun z => if z = y then some (.ref D₀) else m₀ z)) (N : News h₀ env.locals s.heap ((D₀, listOf vs₀.toArray k₀) :: (cS, oS) :: news)) (hd : oS.data = .cell v₀)
    (hDc : D₀ ≠ cS) (hoffc : ∀ p ∈ news, p.1 ≠ cS) (hI : Inv 0 vs₀)
    (heval : ∀ Q' E', Q' (.str xt tx) s → wpAny (model prog w) A (eval iter env) Q' E' s)
    (turn : ∀ i d tv D vs kk oS' I oI h tk, xt.cps[i]? = some d → Inv i vs → oS'.data = .cell (some (.str ⟨#[d]⟩ tv)) → Fr h₀ env.locals h (fun z => if z = y then some (.ref D) else m₀ z) → News h₀ env.locals h ((D, listOf (List.toArray vs) kk) :: (cS, oS') :: (I, oI) :: news) →
      wpAny (model prog w) A (execs body env) (fun f s₂ => f = .next ∧ ∃ D' vs' kk' h' tk' m', s₂ = { s with heap := h', toks := tk' } ∧ Fr h₀ env.locals h' m' ∧ m' y = some (.ref D') ∧ (∀ z, z ≠ y → m' z = m₀ z) ∧ News h₀ env.locals h' ((D', listOf (List.toArray vs') kk') :: (cS, oS') :: (I, oI) :: news) ∧ D' ≠ cS ∧ D' ≠ I ∧ Inv (i + 1) vs') E { s with heap := h, toks := tk })
    (done : ∀ D vs kk oS' h tk, Inv xt.cps.size vs → Fr h₀ env.locals h (fun z => if z = y then some (.ref D) else m₀ z) → News h₀ env.locals h ((D, listOf (List.toArray vs) kk) :: (cS, oS') :: news) → Q .next { s with heap := h, toks := tk }) :
    wpAny (model prog w) A (exec (.For (.Name x px) iter body [] pos) env) Q E s := by
  refine wpAny_For (heval _ _ ?_) hs
  have hLI : env.locals ≠ s.heap.objs.size := Nat.ne_of_lt F.ns.lt
  have hI₀ : h₀.get? s.heap.objs.size = none := next_is_new F
  have nlt : ∀ p ∈ (D₀, listOf vs₀.toArray k₀) :: (cS, oS) :: news, p.1 < s.heap.objs.size := fun p hp => Heap.lt_size (N p hp).1
  have hcI : cS ≠ s.heap.objs.size := Nat.ne_of_lt (nlt (cS, oS) (.tail _ (.head _)))
  have hnI : ∀ p ∈ news, p.1 ≠ s.heap.objs.size := fun p hp => Nat.ne_of_lt (nlt p (.tail _ (.tail _ hp)))
  have zc := N (cS, oS) (.tail _ (.head _))
  have fin : ∀ (o : Obj) (St : Nat → Heap → Prop), (∀ i h, St i h → ∃ o, h.get? s.heap.objs.size = some o) → Walks prog w A s.heap.objs.size [s.heap.objs.size] [s.heap.objs.size] xt.cps.size (SignAt xt) St → St 0 (s.heap.push o) →
      codeAny (model prog w) A (.forLoop (.Name x px) (.ref s.heap.objs.size) body [] env) (fun r s' => match r with | .ok f => Q f s' | .error e => cameBackBy (model prog w) A env E e s') { s with heap := s.heap.push o } := by
    intro o St hob W hst
    refine codeAny_forLoop (fun k s' => ∃ h' tk D vs kk oS' vv i, s' = { s with heap := h', toks := tk } ∧ St i h' ∧ Fr h₀ env.locals h' (fun z => if z = y then some (.ref D) else m₀ z) ∧ News h₀ env.locals h' ((D, listOf (List.toArray vs) kk) :: (cS, oS') :: news) ∧ oS'.data = .cell vv ∧ D ≠ cS ∧ D ≠ s.heap.objs.size ∧ Inv i vs ∧ i ≤ xt.cps.size ∧ k = xt.cps.size + 1 - i) ?_ (xt.cps.size + 1)
      ⟨_, _, D₀, vs₀, k₀, oS, v₀, 0, rfl, hst, F.push _, fun p hp => ⟨Heap.get?_push_of_some _ (N p hp).1, (N p hp).2⟩, hd, hDc, Nat.ne_of_lt (nlt (D₀, listOf vs₀.toArray k₀) (.head _)), hI, Nat.zero_le _, rfl⟩
    rintro k s' ⟨h', tk, D, vs, kk, oS', vv, i, rfl, hst', F', N', hd', hDc', hDI', hI', hi, rfl⟩
    have offI : ∀ p ∈ (D, listOf (List.toArray vs) kk) :: (cS, oS') :: news, p.1 ≠ s.heap.objs.size := by
      intro p hp
      rcases List.mem_cons.mp hp with rfl | hp
      · exact hDI'
      · rcases List.mem_cons.mp hp with rfl | hp
        · exact hcI
        · exact hnI p hp
    by_cases hlt : i < xt.cps.size
    · refine W.item i _ _ _ hlt hst' fun v h₁ tk₁ hP hst₁ hk₁ => ?_
      obtain ⟨d, tv, hdd, rfl⟩ := hP
      have F₁ := LCg.fr_but F' hk₁ hLI hI₀
      have N₁ := LCg.news_but N' hk₁ offI
      have zc1 := N₁ (cS, oS') (.tail _ (.head _))
      refine wpAny_assign_Name (wpAny_storeName_cell hkf hx hc ⟨oS', zc1.1, hd'⟩ fun h₂ hv hs₂ => ?_)
      obtain ⟨oS₂, ho₂, hd₂⟩ := hv
      have F₂ : Fr h₀ env.locals h₂ _ := F₁.change hs₂ zc.2.1 zc.2.2
      obtain ⟨oI, eI⟩ := hob _ _ hst₁
      have eI₂ : h₂.get? s.heap.objs.size = some oI := hs₂.extBut _ _ (Ne.symm hcI) eI
      have N₂ : News h₀ env.locals h₂ ((D, listOf (List.toArray vs) kk) :: (cS, oS₂) :: (s.heap.objs.size, oI) :: news) := by
        intro p hp
        simp only [List.mem_cons] at hp
        rcases hp with rfl | rfl | rfl | hp
        · have z := N₁ (D, listOf (List.toArray vs) kk) (.head _)
          exact ⟨hs₂.extBut _ _ hDc' z.1, z.2⟩
        · exact ⟨ho₂, zc.2⟩
        · exact ⟨eI₂, Ne.symm hLI, hI₀⟩
        · have z := N₁ p (.tail _ (.tail _ hp))
          exact ⟨hs₂.extBut _ _ (hoffc p hp) z.1, z.2⟩
      refine wpAny_passesOwn hE (wpAny_mono (turn i d tv D vs kk oS₂ _ oI h₂ tk₁ hdd hI' hd₂ F₂ N₂) (fun f s₃ h₃ => ?_) fun _ _ e => e)
      obtain ⟨rfl, D', vs', kk', h₃, tk₃, m', rfl, F₃, hy, hz, N₃, hDc₃, hDI₃, hI₃⟩ := h₃
      have em : m' = fun z => if z = y then some (.ref D') else m₀ z := by
        funext z
        by_cases hzy : z = y
        · rw [if_pos hzy, hzy, hy]
        · rw [if_neg hzy, hz z hzy]
      subst em
      refine ⟨xt.cps.size + 1 - (i + 1), by omega, h₃, tk₃, D', vs', kk', oS₂, _, i + 1, rfl, ?_, F₃, ?_, hd₂, hDc₃, hDI₃, hI₃, hlt, rfl⟩
      · refine W.frame _ _ _ hst₁ fun b hb o e => ?_
        rw [List.mem_singleton.mp hb] at e ⊢
        rw [eI] at e
        rw [← Option.some.inj e]
        exact (N₃ (_, oI) (.tail _ (.tail _ (.head _)))).1
      · intro p hp
        refine N₃ p ?_
        simp only [List.mem_cons] at hp ⊢
        rcases hp with h | h | h <;> simp [h]
    · obtain rfl : i = xt.cps.size := by omega
      refine W.done _ _ _ hst' fun h₁ tk₁ hk₁ => wpAny_execs_nil ?_
      exact done D vs kk oS' h₁ tk₁ hI' (LCg.fr_but F' hk₁ hLI hI₀) (LCg.news_but N' hk₁ offI)
  cases ha : xt.cps.all (· < 128)
  · exact wpAny_pyIter_wide ha (fin _ _ (fun i h st => ⟨_, st.choose_spec.1⟩) (Walks.strWide hh _ xt tx) ⟨_, Heap.get?_push_size _ rfl, rfl, rfl⟩)
  · exact wpAny_pyIter_ascii ha (fin _ _ (fun i h st => ⟨_, st.choose_spec.1⟩) (Walks.strAscii hh _ xt tx) ⟨_, Heap.get?_push_size _ rfl, rfl, rfl⟩)
end
end Mine
end

section
open PySem PySem.W PyProof.Rows PySem.Calls PyProof
set_option Elab.async false
set_option maxRecDepth 100000
set_option linter.unusedVariables false
namespace Mine
local macro_rules | `(tactic| omega) => `(tactic| lia)
def insAll (c : Nat) (t : List Nat) : List (List Nat) := (List.range (t.length + 1)).map fun k => t.take k ++ [c] ++ t.drop k
def ordersP (xs : List Nat) : List (List Nat) := xs.foldl (fun ts c => ts.flatMap (insAll c)) [[]]
def lenOf : Value → Nat
  | .str x _ => x.length + 1
  | _ => 0
def insG (c : Nat) (v : Value) (j : Nat) (z : Value) : Prop := ∀ t tk, v = .str (sOf t) tk → ∃ t', z = .str (sOf (t.take j ++ [c] ++ t.drop j)) t'
theorem ordersP_snoc (l : List Nat) (c : Nat) : ordersP (l ++ [c]) = (ordersP l).flatMap (insAll c) := by
  unfold ordersP
  rw [List.foldl_append]
  rfl
theorem insAll_mem {c : Nat} {t u : List Nat} (h : u ∈ insAll c t) : u.Perm (t ++ [c]) := by
  obtain ⟨k, _, rfl⟩ := List.mem_map.mp h
  have h1 : (t.take k ++ [c] ++ t.drop k).Perm (t.take k ++ t.drop k ++ [c]) := by
    rw [List.append_assoc, List.append_assoc]
    exact List.Perm.append_left _ List.perm_append_comm
  rwa [List.take_append_drop] at h1
theorem snoc_ind {α : Type} {P : List α → Prop} (h0 : P []) (hs : ∀ l c, P l → P (l ++ [c])) (l : List α) : P l := by
  have : ∀ n (l : List α), l.length = n → P l := by
    intro n
    induction n with
    | zero => intro l h; rw [List.eq_nil_of_length_eq_zero h]; exact h0
    | succ n ih =>
      intro l h
      have hne : l ≠ [] := by intro e; subst e; simp at h
      rw [← List.dropLast_concat_getLast hne]
      exact hs _ _ (ih _ (by rw [List.length_dropLast]; omega))
  exact this _ l rfl
theorem ordersP_mem (l : List Nat) : ∀ t ∈ ordersP l, t.Perm l := by
  induction l using snoc_ind with
  | h0 => intro t ht; simp [ordersP] at ht; rw [ht]
  | hs l c ih =>
    intro t ht
    rw [ordersP_snoc] at ht
    obtain ⟨u, hu, htu⟩ := List.mem_flatMap.mp ht
    exact (insAll_mem htu).trans ((ih u hu).append_right _)
theorem ordersP_all (l : List Nat) : ∀ t, t.Perm l → t ∈ ordersP l := by
  induction l using snoc_ind with
  | h0 => intro t ht; rw [ht.eq_nil]; simp [ordersP]
  | hs l c ih =>
    intro t ht
    have hc : c ∈ t := ht.mem_iff.mpr (by simp)
    obtain ⟨u, v, rfl⟩ := List.append_of_mem hc
    have h1 : (u ++ v).Perm l := by
      have h2 : (c :: (u ++ v)).Perm (c :: l) := by
        refine (List.perm_middle (l₁ := u) (l₂ := v)).symm.trans (ht.trans ?_)
        exact List.perm_append_comm (l₁ := l) (l₂ := [c])
      exact (List.perm_cons c).mp h2
    rw [ordersP_snoc]
    refine List.mem_flatMap.mpr ⟨u ++ v, ih _ h1, List.mem_map.mpr ⟨u.length, ?_, ?_⟩⟩
    · rw [List.mem_range, List.length_append]; omega
    · simp
theorem ordersP_len (l : List Nat) : (ordersP l).length ≤ 4 ^ l.length ∨ 3 < l.length := by
  induction l using snoc_ind with
  | h0 => left; simp [ordersP]
  | hs l c ih =>
    rcases ih with ih | ih
    · by_cases h : 3 ≤ l.length
      · right; simp; omega
      · left
        have : ∀ ts : List (List Nat), (∀ t ∈ ts, t.length ≤ 2) → (ts.flatMap (insAll c)).length ≤ 4 * ts.length := by
          intro ts
          induction ts with
          | nil => intro _; simp
          | cons t ts ih2 =>
            intro h2
            have h3 := ih2 fun u hu => h2 u (.tail _ hu)
            have h4 := h2 t (.head _)
            have h5 : (insAll c t).length = t.length + 1 := by simp [insAll]
            rw [List.flatMap_cons, List.length_append, List.length_cons, h5]
            omega
        have h6 := this (ordersP l) (fun t ht => by rw [(ordersP_mem l t ht).length_eq]; omega)
        rw [ordersP_snoc, List.length_append, List.length_singleton, Nat.pow_succ]
        omega
    · right; simp; omega
theorem ordersP_small {l : List Nat} (h : l.length ≤ 3) : (ordersP l).length ≤ 64 := by
  rcases ordersP_len l with h1 | h1
  · have : 4 ^ l.length ≤ 4 ^ 3 := Nat.pow_le_pow_right (by omega) h
    omega
  · omega
theorem strs_mem {vs : List Value} {ts : List (List Nat)} (h : StrsAre vs (ts.map sOf)) : ∀ v ∈ vs, ∃ t ∈ ts, ∃ tk, v = Value.str (sOf t) tk := by
  induction ts generalizing vs with
  | nil => cases h; intro v hv; cases hv
  | cons t ts ih =>
    cases h with
    | cons x tk r =>
      intro v hv
      rcases List.mem_cons.mp hv with rfl | hv
      · exact ⟨t, .head _, tk, rfl⟩
      · obtain ⟨u, hu, e⟩ := ih r v hv
        exact ⟨u, .tail _ hu, e⟩
theorem strs_mk : ∀ {zs : List Value} {f : Nat → Str}, (∀ j z, zs[j]? = some z → ∃ t, z = Value.str (f j) t) → StrsAre zs ((List.range zs.length).map f)
  | [], _, _ => .nil
  | z :: zs, f, h => by
    obtain ⟨t, rfl⟩ := h 0 z rfl
    have := strs_mk (zs := zs) (f := fun j => f (j + 1)) fun j z' hj => h (j + 1) z' (by simpa using hj)
    rw [List.length_cons, List.range_succ_eq_map, List.map_cons, List.map_map]
    exact .cons _ _ this
theorem StrsAre.app {vs ws : List Value} {ss ts : List Str} (h : StrsAre vs ss) (h2 : StrsAre ws ts) : StrsAre (vs ++ ws) (ss ++ ts) := by
  induction h with
  | nil => exact h2
  | cons x t _ ih => exact .cons x t ih
theorem ins_strs {c : Nat} {vs : List Value} {ts : List (List Nat)} {zss : List (List Value)} (h : StrsAre vs (ts.map sOf)) (hA : All2 (fun v zs => Row (insG c v) (lenOf v) zs) vs zss) :
    StrsAre zss.flatten ((ts.flatMap (insAll c)).map sOf) := by
  induction ts generalizing vs zss with
  | nil => cases h; cases hA; exact .nil
  | cons t ts ih =>
    cases h with
    | cons x tk r =>
      cases hA with
      | cons hr rest =>
        rw [List.flatten_cons, List.flatMap_cons, List.map_append]
        refine StrsAre.app ?_ (ih r rest)
        obtain ⟨h1, h2⟩ := hr
        have h3 := strs_mk fun j z hj => h2 j z hj t tk rfl
        rw [h1] at h3
        have e : lenOf (Value.str (sOf t) tk) = t.length + 1 := by show (sOf t).length + 1 = _; rw [sOf_len]
        rw [e] at h3
        unfold insAll
        rw [List.map_map]
        exact h3
end Mine
end

section
open PySem PySem.W PyProof PyProof.Rows
set_option Elab.async false
set_option linter.unusedSimpArgs false
set_option maxHeartbeats 2000000
namespace Mine
local macro_rules | `(tactic| omega) => `(tactic| lia)
/-! the plain law of the distance -/
/-- an alignment of a and b, and what it costs -/
inductive Al : List Nat → List Nat → Int → Prop
  | nil : Al [] [] 0
  | sub {a b n} (x y : Nat) : Al a b n → Al (x :: a) (y :: b) (n + sc x y)
  | del {a b n} (x : Nat) : Al a b n → Al (x :: a) b (n + 2)
  | ins {a b n} (y : Nat) : Al a b n → Al a (y :: b) (n + 2)
theorem ED_le_of_Al {a b : List Nat} {n : Int} (h : Al a b n) : ED a b ≤ n := by
  induction h with
  | nil => simp [ED]
  | sub x y _ ih => rw [ED]; omega
  | @del a b n x _ ih =>
    cases b with
    | nil => rw [ED_nil_right] at ih ⊢; simp only [List.length_cons]; omega
    | cons y b => rw [ED]; omega
  | @ins a b n y _ ih =>
    cases a with
    | nil => simp only [ED, List.length_cons] at ih ⊢; omega
    | cons x a => rw [ED]; omega
theorem Al.app {a b c d : List Nat} {n k : Int} (h : Al a b n) (h2 : Al c d k) : Al (a ++ c) (b ++ d) (n + k) := by
  induction h with
  | nil => simpa using h2
  | sub x y _ ih => have := Al.sub x y ih; rwa [show ∀ a b c : Int, a + b + c = a + c + b from by omega] at this
  | del x _ ih => have := Al.del x ih; rwa [show ∀ a b c : Int, a + b + c = a + c + b from by omega] at this
  | ins y _ ih => have := Al.ins y ih; rwa [show ∀ a b c : Int, a + b + c = a + c + b from by omega] at this
theorem Al.rev {a b : List Nat} {n : Int} (h : Al a b n) : Al a.reverse b.reverse n := by
  induction h with
  | nil => exact .nil
  | sub x y _ ih =>
    rw [List.reverse_cons, List.reverse_cons]
    have := ih.app (Al.sub x y .nil)
    rwa [Int.zero_add] at this
  | del x _ ih =>
    rw [List.reverse_cons]
    have := ih.app (Al.del x .nil)
    rwa [Int.zero_add, List.append_nil] at this
  | ins y _ ih =>
    rw [List.reverse_cons]
    have := ih.app (Al.ins y .nil)
    rwa [Int.zero_add, List.append_nil] at this
theorem Al.symm {a b : List Nat} {n : Int} (h : Al a b n) : Al b a n := by
  induction h with
  | nil => exact .nil
  | sub x y _ ih => rw [sc_comm]; exact .sub y x ih
  | del x _ ih => exact .ins x ih
  | ins y _ ih => exact .del y ih
theorem Al.drop_r {a b : List Nat} {n : Int} (h : Al a b n) : ∀ (y : Nat) (b' : List Nat), b = y :: b' → ∃ k, k ≤ n + 2 ∧ Al a b' k := by
  induction h with
  | nil => intro y b' e; cases e
  | @sub a b n x z h _ =>
    intro y b' e
    injection e with e1 e2
    subst e2
    have := sc_bounds x z
    exact ⟨n + 2, by omega, .del x h⟩
  | @del a b n x h ih =>
    intro y b' e
    obtain ⟨k, hk, ha⟩ := ih y b' e
    exact ⟨k + 2, by omega, .del x ha⟩
  | @ins a b n z h _ =>
    intro y b' e
    injection e with e1 e2
    subst e2
    exact ⟨n, by omega, h⟩
theorem Al.cut1 {x : Nat} {a b : List Nat} {n : Int} (h : Al (x :: a) (x :: b) n) : ∃ k, k ≤ n ∧ Al a b k := by
  cases h with
  | sub _ _ h => exact ⟨_, by have := sc_bounds x x; omega, h⟩
  | del _ h =>
    obtain ⟨k, hk, ha⟩ := h.drop_r x b rfl
    exact ⟨k, by omega, ha⟩
  | ins _ h =>
    obtain ⟨k, hk, ha⟩ := h.symm.drop_r x a rfl
    exact ⟨k, by omega, ha.symm⟩
theorem Al.cutp {p a b : List Nat} {n : Int} (h : Al (p ++ a) (p ++ b) n) : ∃ k, k ≤ n ∧ Al a b k := by
  induction p generalizing n with
  | nil => exact ⟨n, Int.le_refl _, h⟩
  | cons x p ih =>
    obtain ⟨k, hk, h⟩ := Al.cut1 (by simpa using h)
    obtain ⟨j, hj, h⟩ := ih h
    exact ⟨j, by omega, h⟩
theorem Al.cut {p a b q : List Nat} {n : Int} (h : Al (p ++ a ++ q) (p ++ b ++ q) n) : ∃ k, k ≤ n ∧ Al a b k := by
  rw [List.append_assoc, List.append_assoc] at h
  obtain ⟨k, hk, h⟩ := h.cutp
  have h := h.rev
  rw [List.reverse_append, List.reverse_append] at h
  obtain ⟨j, hj, h⟩ := h.cutp
  have h := h.rev
  rw [List.reverse_reverse, List.reverse_reverse] at h
  exact ⟨j, by omega, h⟩
/-- what the program tells is at most what any alignment costs -/
theorem LevOf.le {xs ys : List Nat} {r n : Int} (h : LevOf xs ys r) (ha : Al xs ys n) : r ≤ n := by
  obtain ⟨a, b, hc, rfl⟩ := h
  rcases hc with ⟨p, q, rfl, rfl⟩ | ⟨p, q, rfl, rfl⟩
  · obtain ⟨k, hk, h⟩ := ha.cut
    have := ED_le_of_Al h.rev
    omega
  · obtain ⟨k, hk, h⟩ := ha.symm.cut
    have := ED_le_of_Al h.rev
    omega
/-! the bags -/
def cm (a b : List Nat) : Nat := min (a.count 97) (b.count 97) + min (a.count 65) (b.count 65) + min (a.count 98) (b.count 98) + min (a.count 66) (b.count 66) + min (a.count 91) (b.count 91) + min (a.count 123) (b.count 123)
def Bg (a b : List Nat) : Int := (max a.length b.length : Nat) - cm a b + ((max a.length b.length : Nat) - cm (a.map low) (b.map low))
def Sg (a : List Nat) : Prop := ∀ c ∈ a, c ∈ signs
theorem Sg.tail {x : Nat} {a : List Nat} (h : Sg (x :: a)) : Sg a := fun c hc => h c (.tail _ hc)
theorem Sg.head {x : Nat} {a : List Nat} (h : Sg (x :: a)) : x ∈ signs := h x (.head _)
theorem Sg.low {a : List Nat} (h : Sg a) : Sg (a.map low) := by
  intro c hc
  obtain ⟨d, hd, rfl⟩ := List.mem_map.mp hc
  exact low_sign (h d hd)
theorem cm_comm (a b : List Nat) : cm a b = cm b a := by
  unfold cm
  simp only [Nat.min_comm (a.count _)]
theorem Bg_comm (a b : List Nat) : Bg a b = Bg b a := by unfold Bg; rw [cm_comm a b, cm_comm (a.map low)]; omega
theorem cm_perm {a a' b b' : List Nat} (h : a.Perm a') (h2 : b.Perm b') : cm a b = cm a' b' := by
  unfold cm
  simp only [h.count_eq, h2.count_eq]
theorem Bg_perm {a a' b b' : List Nat} (h : a.Perm a') (h2 : b.Perm b') : Bg a b = Bg a' b' := by
  unfold Bg
  rw [cm_perm h h2, cm_perm (h.map _) (h2.map _), h.length_eq, h2.length_eq]
theorem sign_cases {c : Nat} (h : c ∈ signs) : c = 97 ∨ c = 65 ∨ c = 98 ∨ c = 66 ∨ c = 91 ∨ c = 123 := by
  simpa [signs] using h
theorem cm_same {x : Nat} (hx : x ∈ signs) (a b : List Nat) : cm (x :: a) (x :: b) = cm a b + 1 := by
  rcases sign_cases hx with rfl | rfl | rfl | rfl | rfl | rfl <;> simp [cm, List.count_cons] <;> omega
theorem cm_left {x : Nat} (hx : x ∈ signs) (a b : List Nat) : cm a b ≤ cm (x :: a) b ∧ cm (x :: a) b ≤ cm a b + 1 := by
  rcases sign_cases hx with rfl | rfl | rfl | rfl | rfl | rfl <;> simp [cm, List.count_cons] <;> omega
theorem cm_right {x : Nat} (hx : x ∈ signs) (a b : List Nat) : cm a b ≤ cm a (x :: b) ∧ cm a (x :: b) ≤ cm a b + 1 := by
  rw [cm_comm a b, cm_comm a (x :: b)]; exact cm_left hx b a
theorem Bg_same {x : Nat} (hx : x ∈ signs) (a b : List Nat) : Bg (x :: a) (x :: b) = Bg a b := by
  unfold Bg
  rw [cm_same hx, List.map_cons, List.map_cons, cm_same (low_sign hx)]
  simp only [List.length_cons]; omega
theorem Bg_sub {x y : Nat} (hx : x ∈ signs) (hy : y ∈ signs) (a b : List Nat) : Bg (x :: a) (y :: b) ≤ Bg a b + sc x y := by
  by_cases h : x = y
  · subst h; rw [Bg_same hx]; have := sc_bounds x x; omega
  · unfold sc
    rw [if_neg h]
    have h1 := cm_left hx a (y :: b)
    have h2 := cm_right hy a b
    by_cases h3 : low x = low y
    · rw [if_pos h3]
      unfold Bg
      rw [List.map_cons, List.map_cons, ← h3, cm_same (low_sign hx)]
      simp only [List.length_cons]; omega
    · rw [if_neg h3]
      have h4 := cm_left (low_sign hx) (a.map low) (low y :: b.map low)
      have h5 := cm_right (low_sign hy) (a.map low) (b.map low)
      unfold Bg
      rw [List.map_cons, List.map_cons]
      simp only [List.length_cons]; omega
theorem Bg_del {x : Nat} (hx : x ∈ signs) (a b : List Nat) : Bg (x :: a) b ≤ Bg a b + 2 := by
  have h1 := cm_left hx a b
  have h2 := cm_left (low_sign hx) (a.map low) (b.map low)
  unfold Bg
  rw [List.map_cons]
  simp only [List.length_cons]; omega
theorem Bg_ins {y : Nat} (hy : y ∈ signs) (a b : List Nat) : Bg a (y :: b) ≤ Bg a b + 2 := by
  rw [Bg_comm a, Bg_comm a]; exact Bg_del hy b a
theorem Bg_nil (b : List Nat) : Bg [] b = 2 * b.length := by
  simp [Bg, cm]; omega
theorem Bg_ED : ∀ (n : Nat) (a b : List Nat), a.length + b.length = n → Sg a → Sg b → Bg a b ≤ ED a b := by
  intro n
  induction n using Nat.strongRecOn with
  | ind n ih =>
    intro a b hn ha hb
    cases a with
    | nil => rw [Bg_nil, ED]; exact Int.le_refl _
    | cons x a =>
      cases b with
      | nil => rw [Bg_comm, Bg_nil, ED]; exact Int.le_refl _
      | cons y b =>
        have h1 := ih (a.length + b.length) (by simp only [List.length_cons] at hn; omega) a b rfl ha.tail hb.tail
        have h2 := ih (a.length + (y :: b).length) (by simp only [List.length_cons] at hn ⊢; omega) a (y :: b) rfl ha.tail hb
        have h3 := ih ((x :: a).length + b.length) (by simp only [List.length_cons] at hn ⊢; omega) (x :: a) b rfl ha hb.tail
        have g1 := Bg_sub ha.head hb.head a b
        have g2 := Bg_del ha.head a (y :: b)
        have g3 := Bg_ins hb.head (x :: a) b
        rw [ED]
        omega
theorem Bg_pre {p a b : List Nat} (hp : Sg p) : Bg (p ++ a) (p ++ b) = Bg a b := by
  induction p with
  | nil => rfl
  | cons x p ih => rw [List.cons_append, List.cons_append, Bg_same hp.head, ih hp.tail]
theorem LevOf.ge {xs ys : List Nat} {r : Int} (h : LevOf xs ys r) (hx : Sg xs) (hy : Sg ys) : Bg xs ys ≤ r := by
  have key : ∀ {xs ys a b : List Nat}, LevCut xs ys a b → Sg xs → Sg ys → Bg xs ys ≤ ED a.reverse b.reverse := by
    rintro xs ys a b ⟨p, q, rfl, rfl⟩ hx hy
    have e : Bg (p ++ a ++ q) (p ++ b ++ q) = Bg a.reverse b.reverse := by
      rw [Bg_perm (List.perm_append_comm (l₁ := p ++ a) (l₂ := q)) (List.perm_append_comm (l₁ := p ++ b) (l₂ := q)), Bg_pre (fun c hc => hx c (by simp [hc])), Bg_pre (fun c hc => hx c (by simp [hc]))]
      exact Bg_perm (List.reverse_perm a).symm (List.reverse_perm b).symm
    rw [e]
    exact Bg_ED _ _ _ rfl (fun c hc => hx c (by simp at hc; simp [hc])) (fun c hc => hy c (by simp at hc; simp [hc]))
  obtain ⟨a, b, hc, rfl⟩ := h
  rcases hc with hc | hc
  · exact key hc hx hy
  · rw [Bg_comm]; exact key hc hy hx
end Mine
end

section
set_option linter.unusedVariables false
namespace Mine
local macro_rules | `(tactic| omega) => `(tactic| lia)
/-! what comes off a heap comes off in order -/
section
variable {α : Type} {lt : α → α → Bool} {d : α}
/-- a strict weak order -/
structure Weak (lt : α → α → Bool) : Prop where
  asym : ∀ a b, lt a b = true → lt b a = false
  trans : ∀ a b c, lt b a = false → lt c b = false → lt c a = false
abbrev Ch (j i : Nat) : Prop := j = 2 * i + 1 ∨ j = 2 * i + 2
/-- each place from s on is not greater than its children -/
def HeapFrom (lt : α → α → Bool) (d : α) (s : Nat) (xs : List α) : Prop := ∀ i j, s ≤ i → j < xs.length → Ch j i → lt (xs.getD j d) (xs.getD i d) = false
theorem getD_set_eq {xs : List α} {i : Nat} {x : α} (h : i < xs.length) : (xs.set i x).getD i d = x := by
  simp [List.getD, h]
theorem getD_set_ne {xs : List α} {i j : Nat} {x : α} (h : i ≠ j) : (xs.set i x).getD j d = xs.getD j d := by
  simp [List.getD, List.getElem?_set_ne h]
/-- a heap but for the place p -/
def Hole (lt : α → α → Bool) (d : α) (s p : Nat) (xs : List α) : Prop :=
  (∀ i j, s ≤ i → j < xs.length → Ch j i → i ≠ p → j ≠ p → lt (xs.getD j d) (xs.getD i d) = false) ∧
  (∀ i j, s ≤ i → j < xs.length → Ch p i → Ch j p → lt (xs.getD j d) (xs.getD i d) = false)
inductive Desc (s : Nat) : Nat → Prop
  | refl : Desc s s
  | child {i j} : Desc s i → Ch j i → Desc s j
theorem Desc.le {s p : Nat} (h : Desc s p) : s ≤ p := by
  induction h with
  | refl => exact Nat.le_refl _
  | child _ hc ih => rcases hc with h | h <;> omega
theorem Desc.up {s p : Nat} (h : Desc s p) (hp : s < p) : Desc s ((p - 1) / 2) ∧ Ch p ((p - 1) / 2) := by
  cases h with
  | refl => omega
  | child h hc =>
    rename_i i
    have e : (p - 1) / 2 = i := by rcases hc with h | h <;> omega
    rw [e]
    exact ⟨h, hc⟩
theorem suLoop_hole (W : Weak lt) {s endpos : Nat} : ∀ (k p : Nat) (xs : List α), endpos - p = k → endpos = xs.length → p < xs.length → Desc s p → Hole lt d s p xs →
    (suLoop lt d endpos p xs).2 < xs.length ∧ (suLoop lt d endpos p xs).1.length = xs.length ∧ Desc s (suLoop lt d endpos p xs).2 ∧ xs.length ≤ 2 * (suLoop lt d endpos p xs).2 + 1 ∧ Hole lt d s (suLoop lt d endpos p xs).2 (suLoop lt d endpos p xs).1 := by
  intro k
  induction k using Nat.strongRecOn with
  | ind k ih =>
    intro p xs hk he hp hD hH
    have step : ∀ c, Ch c p → c < xs.length → (∀ j, Ch j p → j < xs.length → j ≠ c → lt (xs.getD j d) (xs.getD c d) = false) → Hole lt d s c (xs.set p (xs.getD c d)) := by
      intro c hc hcl hj
      have hcp : p ≠ c := by rcases hc with h | h <;> omega
      have hs := hD.le
      refine ⟨fun i j hi hjl hji hic hjc => ?_, fun i j hi hjl hci hjc => ?_⟩
      · rw [List.length_set] at hjl
        by_cases h1 : i = p
        · subst h1
          have : i ≠ j := by rcases hji with h | h <;> omega
          rw [getD_set_ne this, getD_set_eq hp]
          exact hj j hji hjl hjc
        · by_cases h2 : j = p
          · subst h2
            rw [getD_set_eq hp, getD_set_ne (Ne.symm h1)]
            exact hH.2 i c hi hcl hji hc
          · rw [getD_set_ne (Ne.symm h1), getD_set_ne (Ne.symm h2)]
            exact hH.1 i j hi hjl hji h1 h2
      · rw [List.length_set] at hjl
        have e : i = p := by rcases hc with h | h <;> rcases hci with h' | h' <;> omega
        subst e
        have h1 : i ≠ j := by rcases hjc with h | h <;> omega
        rw [getD_set_eq hp, getD_set_ne h1]
        exact hH.1 c j (by omega) hjl hjc (Ne.symm hcp) (Ne.symm h1)
    rw [suLoop.eq_1]
    split
    · rename_i hlt
      split
      · rename_i hcond
        have := ih (endpos - (2 * p + 2)) (by omega) (2 * p + 2) (xs.set p (xs.getD (2 * p + 2) d)) rfl (by simp only [List.length_set]; omega) (by simp only [List.length_set]; omega) (.child hD (.inr rfl)) (step _ (.inr rfl) (by omega) (by
          intro j hj _ hne
          rcases hj with rfl | rfl
          · exact hcond.2
          · exact absurd rfl hne))
        simpa only [List.length_set] using this
      · rename_i hcond
        have := ih (endpos - (2 * p + 1)) (by omega) (2 * p + 1) (xs.set p (xs.getD (2 * p + 1) d)) rfl (by simp only [List.length_set]; omega) (by simp only [List.length_set]; omega) (.child hD (.inl rfl)) (step _ (.inl rfl) (by omega) (by
          intro j hj hjl hne
          rcases hj with rfl | rfl
          · exact absurd rfl hne
          · cases hb : lt (xs.getD (2 * p + 1) d) (xs.getD (2 * p + 2) d) with
            | true => exact W.asym _ _ hb
            | false => exact absurd ⟨by omega, hb⟩ hcond))
        simpa only [List.length_set] using this
    · exact ⟨hp, rfl, hD, by omega, hH⟩
theorem sdLoop_heap (W : Weak lt) {x : α} {s : Nat} : ∀ (p : Nat) (xs : List α), p < xs.length → Desc s p → Hole lt d s p xs → (∀ j, j < xs.length → Ch j p → lt (xs.getD j d) x = false) → HeapFrom lt d s (sdLoop lt d x s p xs) := by
  intro p
  induction p using Nat.strongRecOn with
  | ind p ih =>
    intro xs hp hD hH hx
    have hs := hD.le
    have fin : (s < p → lt x (xs.getD ((p - 1) / 2) d) = false) → HeapFrom lt d s (xs.set p x) := by
      intro hpar i j hi hjl hji
      rw [List.length_set] at hjl
      have hij : i ≠ j := by rcases hji with h | h <;> omega
      by_cases h1 : i = p
      · subst h1
        rw [getD_set_eq hp, getD_set_ne hij]
        exact hx j hjl hji
      · by_cases h2 : j = p
        · subst h2
          have e : (j - 1) / 2 = i := by rcases hji with h | h <;> omega
          rw [getD_set_eq hp, getD_set_ne (Ne.symm h1)]
          rw [← e]
          exact hpar (by rcases hji with h | h <;> omega)
        · rw [getD_set_ne (Ne.symm h1), getD_set_ne (Ne.symm h2)]
          exact hH.1 i j hi hjl hji h1 h2
    rw [sdLoop.eq_1]
    split
    · rename_i hlt
      obtain ⟨hDq, hCq⟩ := hD.up hlt
      split
      · rename_i hless
        have hq : (p - 1) / 2 < p := by omega
        have hsq := hDq.le
        generalize hqe : (p - 1) / 2 = q at *
        refine ih q hq _ (by simp only [List.length_set]; omega) hDq ⟨fun i j hi hjl hji hiq hjq => ?_, fun i j hi hjl hqi hjq => ?_⟩ fun j hjl hjq => ?_
        · rw [List.length_set] at hjl
          have hij : i ≠ j := by rcases hji with h | h <;> omega
          by_cases h1 : i = p
          · subst h1
            rw [getD_set_eq hp, getD_set_ne hij]
            exact hH.2 q j hsq hjl hCq hji
          · have h2 : j ≠ p := by
              intro h2
              subst h2
              apply hiq
              rcases hji with h | h <;> rcases hCq with h' | h' <;> omega
            rw [getD_set_ne (Ne.symm h1), getD_set_ne (Ne.symm h2)]
            exact hH.1 i j hi hjl hji h1 h2
        · rw [List.length_set] at hjl
          have hiq : i < q := by rcases hqi with h | h <;> omega
          have e1 : lt (xs.getD q d) (xs.getD i d) = false := hH.1 i q hi (by omega) hqi (by omega) (by omega)
          by_cases h2 : j = p
          · subst h2
            rw [getD_set_eq hp, getD_set_ne (by omega)]
            exact e1
          · rw [getD_set_ne (Ne.symm h2), getD_set_ne (by omega)]
            exact W.trans _ _ _ e1 (hH.1 q j hsq hjl hjq (by omega) h2)
        · rw [List.length_set] at hjl
          have e1 := W.asym _ _ hless
          by_cases h2 : j = p
          · subst h2
            rw [getD_set_eq hp]
            exact e1
          · rw [getD_set_ne (Ne.symm h2)]
            exact W.trans _ _ _ e1 (hH.1 q j hsq hjl hjq (by omega) h2)
      · rename_i hless
        exact fin fun _ => by simpa using hless
    · rename_i hlt
      exact fin fun h => absurd h hlt
theorem siftup_heap (W : Weak lt) {s : Nat} {xs : List α} (hs : s < xs.length) (hH : HeapFrom lt d (s + 1) xs) : HeapFrom lt d s (siftup lt d s xs) := by
  unfold siftup
  have h0 : Hole lt d s s xs := by
    refine ⟨fun i j hi hjl hji h1 _ => hH i j (by omega) hjl hji, fun i j hi _ hc _ => ?_⟩
    rcases hc with h | h <;> omega
  obtain ⟨h1, h2, h3, h4, h5⟩ := suLoop_hole W _ s xs rfl rfl hs .refl h0
  dsimp only
  have hset : Hole lt d s (suLoop lt d xs.length s xs).2 ((suLoop lt d xs.length s xs).1.set (suLoop lt d xs.length s xs).2 (xs.getD s d)) := by
    generalize (suLoop lt d xs.length s xs).2 = p at *
    generalize (suLoop lt d xs.length s xs).1 = zs at *
    refine ⟨fun i j hi hjl hji hip hjp => ?_, fun i j hi hjl hpi hjp => ?_⟩
    · rw [List.length_set] at hjl
      rw [getD_set_ne (Ne.symm hip), getD_set_ne (Ne.symm hjp)]
      exact h5.1 i j hi hjl hji hip hjp
    · rw [List.length_set] at hjl
      rcases hjp with h | h <;> omega
  refine sdLoop_heap W _ _ (by rw [List.length_set]; omega) h3 hset ?_
  intro j hj hc
  rw [List.length_set] at hj
  rcases hc with h | h <;> omega
theorem heapify_heap (W : Weak lt) (xs : List α) : HeapFrom lt d 0 (heapifyP lt d xs) := by
  have key : ∀ (k : Nat) (ys : List α), k ≤ ys.length → HeapFrom lt d k ys → HeapFrom lt d 0 ((List.range k).reverse.foldl (fun xs i => siftup lt d i xs) ys) := by
    intro k
    induction k with
    | zero => intro ys _ h; exact h
    | succ k ih =>
      intro ys hk h
      rw [List.range_succ, List.reverse_append, List.reverse_singleton, List.singleton_append, List.foldl_cons]
      refine ih _ ?_ (siftup_heap W (by omega) h)
      rw [siftup_length (by omega)]; omega
  refine key _ _ (by omega) ?_
  intro i j hi hj hc
  rcases hc with h | h <;> omega
theorem root_min (W : Weak lt) (hr : ∀ a, lt a a = false) {xs : List α} (h : HeapFrom lt d 0 xs) : ∀ j, j < xs.length → lt (xs.getD j d) (xs.getD 0 d) = false := by
  intro j
  induction j using Nat.strongRecOn with
  | ind j ih =>
    intro hj
    by_cases h0 : j = 0
    · subst h0; exact hr _
    · have h1 := ih ((j - 1) / 2) (by omega) (by omega)
      have hc : Ch j ((j - 1) / 2) := by unfold Ch; omega
      exact W.trans _ _ _ h1 (h _ _ (Nat.zero_le _) hj hc)
theorem popSeq_sorted (W : Weak lt) (hr : ∀ a, lt a a = false) : ∀ (n : Nat) (xs : List α), xs.length = n → HeapFrom lt d 0 xs → (popSeq lt d xs).Pairwise (fun u v => lt v u = false) := by
  intro n
  induction n with
  | zero =>
    intro xs h _
    rw [List.eq_nil_of_length_eq_zero h, popSeq_nil]
    exact .nil
  | succ n ih =>
    intro xs h hH
    have hne : xs ≠ [] := by intro e; subst e; simp at h
    obtain ⟨ys, y, rfl⟩ : ∃ ys y, xs = ys ++ [y] := ⟨xs.dropLast, xs.getLast hne, (List.dropLast_concat_getLast hne).symm⟩
    rw [popSeq_snoc]
    have hl : (hpop lt d ys y).2.length = n := by rw [hpop_length]; simpa using h
    have hp := hpop_perm (lt := lt) (d := d) ys y
    have hx : (hpop lt d ys y).1 = (ys ++ [y]).getD 0 d := by
      unfold hpop
      by_cases he : ys = []
      · subst he; simp
      · rw [if_neg he]
        have := List.length_pos_iff.mpr he
        unfold List.getD
        rw [List.getElem?_append_left this]
    have hh : HeapFrom lt d 0 (hpop lt d ys y).2 := by
      unfold hpop
      by_cases he : ys = []
      · rw [if_pos he]; intro i j _ hj; simp at hj
      · rw [if_neg he]
        have hpos := List.length_pos_iff.mpr he
        refine siftup_heap W (by rw [List.length_set]; exact hpos) ?_
        intro i j hi hj hc
        rw [List.length_set] at hj
        have hil : i < ys.length := by rcases hc with h | h <;> omega
        rw [getD_set_ne (by omega), getD_set_ne (by rcases hc with h | h <;> omega)]
        have := hH i j (Nat.zero_le _) (by rw [List.length_append]; omega) hc
        simpa [List.getD, List.getElem?_append_left hj, List.getElem?_append_left hil] using this
    refine List.pairwise_cons.mpr ⟨?_, ih _ hl hh⟩
    intro v hv
    have hv' : v ∈ ys ++ [y] := hp.mem_iff.mp (.tail _ ((popSeq_perm _ _ rfl).mem_iff.mp hv))
    obtain ⟨j, hj, e⟩ := List.mem_iff_getElem.mp hv'
    have := root_min W hr hH j hj
    rw [getD_at hj, e] at this
    rw [hx]
    exact this
theorem sorted_unique {R : α → α → Prop} (anti : ∀ a b, R a b → R b a → a = b) : ∀ {l l' : List α}, l.Perm l' → l.Pairwise R → l'.Pairwise R → l = l' := by
  intro l
  induction l with
  | nil => intro l' h _ _; exact h.symm.eq_nil.symm
  | cons a l ih =>
    intro l' h h1 h2
    cases l' with
    | nil => exact absurd h.eq_nil (by simp)
    | cons b l' =>
      have e : a = b := by
        have ha : a ∈ b :: l' := h.mem_iff.mp (.head _)
        have hb : b ∈ a :: l := h.mem_iff.mpr (.head _)
        rcases List.mem_cons.mp ha with e | ha
        · exact e
        · rcases List.mem_cons.mp hb with e | hb
          · exact e.symm
          · exact anti a b ((List.pairwise_cons.mp h1).1 b hb) ((List.pairwise_cons.mp h2).1 a ha)
      subst e
      rw [ih ((List.perm_cons a).mp h) (List.pairwise_cons.mp h1).2 (List.pairwise_cons.mp h2).2]
end
end Mine
end

section
open PySem PySem.W PyProof.Rows PySem.Calls PyProof
set_option Elab.async false
set_option linter.unusedVariables false
set_option linter.unusedSimpArgs false
set_option maxHeartbeats 2000000
namespace Mine
local macro_rules | `(tactic| omega) => `(tactic| lia)
/-! the heap's keys come off in order -/
theorem klt_llt (x y : Key) : klt x y = llt [x.1, x.2.1, x.2.2] [y.1, y.2.1, y.2.2] := by
  unfold klt
  simp only [llt]
  by_cases h1 : x.1 = y.1
  · rw [if_pos h1, if_pos h1]
    by_cases h2 : x.2.1 = y.2.1
    · rw [if_pos h2, if_pos h2]
      by_cases h3 : x.2.2 = y.2.2
      · rw [if_pos h3, h3]; simp
      · rw [if_neg h3]
    · rw [if_neg h2, if_neg h2]
  · rw [if_neg h1, if_neg h1]
theorem klt_weak (kf : Value → Key) : Weak (kltV kf) := by
  refine ⟨fun a b h => ?_, fun a b c h1 h2 => ?_⟩
  · unfold kltV at h ⊢
    rw [klt_llt] at h ⊢
    exact llt_asymm _ _ h
  · unfold kltV at h1 h2 ⊢
    rw [klt_llt] at h1 h2 ⊢
    cases h : llt [(kf c).1, (kf c).2.1, (kf c).2.2] [(kf a).1, (kf a).2.1, (kf a).2.2] with
    | false => rfl
    | true =>
      rcases llt_neg _ [(kf b).1, (kf b).2.1, (kf b).2.2] _ h with h' | h'
      · rw [h2] at h'; cases h'
      · rw [h1] at h'; cases h'
theorem pop_keys {kf : Value → Key} {hv : List Value} : ((popSeq (kltV kf) .none (heapifyP (kltV kf) .none hv)).map kf).Pairwise (fun u v => klt v u = false) := by
  rw [List.pairwise_map]
  exact popSeq_sorted (klt_weak kf) (fun a => by unfold kltV; rw [klt_llt]; exact llt_irrefl _) _ _ rfl (heapify_heap (klt_weak kf) hv)
theorem heapify_perm {α : Type} {lt : α → α → Bool} {d : α} (xs : List α) : (heapifyP lt d xs).Perm xs := by
  have key : ∀ (l : List Nat) (ys : List α), (∀ i ∈ l, i < ys.length) → (l.foldl (fun xs i => siftup lt d i xs) ys).Perm ys := by
    intro l
    induction l with
    | nil => intro ys _; exact List.Perm.refl _
    | cons i l ih =>
      intro ys h
      have h1 := siftup_perm (lt := lt) (d := d) (h i (.head _))
      rw [List.foldl_cons]
      refine (ih _ ?_).trans h1
      intro j hj
      rw [h1.length_eq]
      exact h j (.tail _ hj)
  refine key _ _ ?_
  intro i hi
  have := List.mem_range.mp (List.mem_reverse.mp hi)
  omega
theorem keys_eq {kf : Value → Key} {hv dv sv : List Value} {ks : List Key} (h1 : hv.map kf = ks) (h2 : dv.map kf = ks) (hp : sv.Perm dv)
    (hs : sv.Pairwise fun u v => llt [(kf v).1, (kf v).2.1, (kf v).2.2] [(kf u).1, (kf u).2.1, (kf u).2.2] = false) :
    (popSeq (kltV kf) .none (heapifyP (kltV kf) .none hv)).map kf = sv.map kf := by
  refine sorted_unique (R := fun u v => klt v u = false) ?_ ?_ pop_keys ?_
  · intro a b hab hba
    rw [klt_llt] at hab hba
    have := llt_total _ _ hba hab
    simp only [List.cons.injEq, and_true] at this
    obtain ⟨e1, e2, e3⟩ := this
    obtain ⟨a1, a2, a3⟩ := a
    obtain ⟨b1, b2, b3⟩ := b
    simp_all
  · have p1 : ((popSeq (kltV kf) .none (heapifyP (kltV kf) .none hv)).map kf).Perm (hv.map kf) := ((popSeq_perm _ _ rfl).trans (heapify_perm hv)).map kf
    rw [h1, ← h2] at p1
    exact p1.trans (hp.map kf).symm
  · rw [List.pairwise_map]
    refine hs.imp ?_
    intro a b h
    rw [klt_llt]; exact h
theorem ks_perm {kf : Value → Key} {hv : List Value} {ks : List Key} (h1 : hv.map kf = ks) : ((popSeq (kltV kf) .none (heapifyP (kltV kf) .none hv)).map kf).Perm ks := by
  rw [← h1]
  exact ((popSeq_perm _ _ rfl).trans (heapify_perm hv)).map kf
theorem klt_cost {ks : List Key} (h : ks.Pairwise (fun u v => klt v u = false)) : ks.Pairwise (fun u v => u.1 ≤ v.1) := by
  refine h.imp ?_
  intro a b h
  unfold klt at h
  by_cases e : b.1 = a.1
  · omega
  · rw [if_neg e] at h
    simp only [decide_eq_false_iff_not] at h
    omega
/-! the mates -/
theorem g_perm' {ks : List Key} : ∀ {A B : List Int} {st : GS}, (st.2.2.1.map Prod.snd ++ st.1).Perm A → (st.2.2.1.map Prod.fst ++ st.2.1).Perm B →
    (((ks.foldl gStep st).2.2.1.map Prod.snd ++ (ks.foldl gStep st).1).Perm A ∧ ((ks.foldl gStep st).2.2.1.map Prod.fst ++ (ks.foldl gStep st).2.1).Perm B) := by
  induction ks with
  | nil => intro A B st h1 h2; exact ⟨h1, h2⟩
  | cons k ks ih =>
    intro A B st h1 h2
    rw [List.foldl_cons]
    refine ih ?_ ?_
    · unfold gStep
      split
      · rename_i h
        rw [List.map_append, List.append_assoc]
        exact (List.Perm.append_left _ (List.perm_cons_erase h.1).symm).trans h1
      · exact h1
    · unfold gStep
      split
      · rename_i h
        rw [List.map_append, List.append_assoc]
        exact (List.Perm.append_left _ (List.perm_cons_erase h.2).symm).trans h2
      · exact h2
theorem g_perm {ks : List Key} {A B a b : List Int} {ms : List (Int × Int)} {p : Int} (h : (a, b, ms, p) = ks.foldl gStep (A, B, [], 0)) : (ms.map Prod.snd ++ a).Perm A ∧ (ms.map Prod.fst ++ b).Perm B := by
  have := g_perm' (ks := ks) (A := A) (B := B) (st := (A, B, [], 0)) (by simp) (by simp)
  rw [← h] at this
  exact this
abbrev fX (xs : List Nat) (i : Int) : Nat := xs.getD i.toNat 0
theorem g_price {xs ys : List Nat} {ks : List Key} : ∀ {st : GS}, (∀ k ∈ ks, k.1 = sc (fX xs k.2.1) (fX ys k.2.2)) → st.2.2.2 = (st.2.2.1.map fun q => sc (fX xs q.2) (fX ys q.1)).sum →
    (ks.foldl gStep st).2.2.2 = ((ks.foldl gStep st).2.2.1.map fun q => sc (fX xs q.2) (fX ys q.1)).sum := by
  induction ks with
  | nil => intro st _ h; exact h
  | cons k ks ih =>
    intro st hk h
    rw [List.foldl_cons]
    refine ih (fun q hq => hk q (.tail _ hq)) ?_
    unfold gStep
    split
    · rw [List.map_append, List.sum_append, h, hk k (.head _)]
      simp
    · exact h
/-- the row's alignment -/
theorem al_row {xs ys : List Nat} : ∀ (r : Nat) (o : Nat) (ms : List (Int × Int)), ys.length - o = r → o ≤ ys.length → ms.Pairwise (fun u v => u.1 < v.1) → (∀ q ∈ ms, (o : Int) ≤ q.1 ∧ q.1 < ys.length) →
    Al (ms.map fun q => fX xs q.2) (ys.drop o) ((ms.map fun q => sc (fX xs q.2) (fX ys q.1)).sum + 2 * (((ys.length - o : Nat) : Int) - ms.length)) := by
  intro r
  induction r with
  | zero =>
    intro o ms hr ho hs hq
    have e : o = ys.length := by omega
    cases ms with
    | nil => rw [e, List.drop_length]; simp; exact .nil
    | cons q ms => have := hq q (.head _); omega
  | succ r ih =>
    intro o ms hr ho hs hq
    have ho' : o < ys.length := by omega
    rw [List.drop_eq_getElem_cons ho']
    cases ms with
    | nil =>
      have := ih (o + 1) [] (by omega) (by omega) .nil (fun _ h => nomatch h)
      have := Al.ins ys[o] this
      simp only [List.map_nil, List.sum_nil, List.length_nil] at this ⊢
      rwa [show (0 : Int) + 2 * (((ys.length - (o + 1) : Nat) : Int) - ((0 : Nat) : Int)) + 2 = 0 + 2 * (((ys.length - o : Nat) : Int) - ((0 : Nat) : Int)) from by omega] at this
    | cons q ms =>
      have hq0 := hq q (.head _)
      have hs' := List.pairwise_cons.mp hs
      by_cases e : q.1 = (o : Int)
      · have h1 := ih (o + 1) ms (by omega) (by omega) hs'.2 (fun u hu => by have := hs'.1 u hu; have := hq u (.tail _ hu); omega)
        have h2 := Al.sub (fX xs q.2) ys[o] h1
        have e2 : fX ys q.1 = ys[o] := by
          unfold fX
          rw [e, Int.toNat_natCast, getD_at ho']
        rw [List.map_cons, List.map_cons, List.sum_cons, e2, List.length_cons]
        rwa [show ∀ a b : Int, a + 2 * (((ys.length - (o + 1) : Nat) : Int) - (ms.length : Int)) + b = b + a + 2 * (((ys.length - o : Nat) : Int) - ((ms.length + 1 : Nat) : Int)) from by intro a b; omega] at h2
      · have h1 := ih (o + 1) (q :: ms) (by omega) (by omega) hs (fun u hu => by
          rcases List.mem_cons.mp hu with rfl | hu
          · omega
          · have := hs'.1 u hu; have := hq u (.tail _ hu); omega)
        have h2 := Al.ins ys[o] h1
        rwa [show ∀ a b : Int, a + 2 * (((ys.length - (o + 1) : Nat) : Int) - b) + 2 = a + 2 * (((ys.length - o : Nat) : Int) - b) from by intro a b; omega] at h2
theorem al_dels : ∀ (c : List Nat), Al c [] (2 * (c.length : Int))
  | [] => .nil
  | x :: c => by
    have := Al.del x (al_dels c)
    rwa [show 2 * (c.length : Int) + 2 = 2 * (((x :: c).length : Nat) : Int) from by simp only [List.length_cons]; omega] at this
/-! the greedy price is the bags -/
theorem cm_zero {A B : List Nat} (h : ∀ u ∈ A, ∀ v ∈ B, u ≠ v) : cm A B = 0 := by
  have key : ∀ c, min (A.count c) (B.count c) = 0 := by
    intro c
    by_cases hc : c ∈ A
    · have : c ∉ B := fun hb => h c hc c hb rfl
      rw [List.count_eq_zero.mpr this]; omega
    · rw [List.count_eq_zero.mpr hc]; omega
  unfold cm
  simp only [key]
theorem Bg_match {x y : Nat} {A B RA RB : List Nat} (hx : x ∈ signs) (hy : y ∈ signs) (ha : RA.Perm (x :: A)) (hb : RB.Perm (y :: B)) (hle : ∀ u ∈ RA, ∀ v ∈ RB, sc x y ≤ sc u v) : Bg A B + sc x y ≤ Bg RA RB := by
  rw [Bg_perm ha hb]
  have hle' : ∀ u ∈ x :: A, ∀ v ∈ y :: B, sc x y ≤ sc u v := fun u hu v hv => hle u (ha.mem_iff.mpr hu) v (hb.mem_iff.mpr hv)
  by_cases h : x = y
  · subst h
    rw [Bg_same hx]
    have : sc x x = 0 := by simp [sc]
    omega
  · have hne : ∀ u ∈ x :: A, ∀ v ∈ y :: B, u ≠ v := by
      intro u hu v hv e
      have := hle' u hu v hv
      have h1 : 1 ≤ sc x y := by unfold sc; rw [if_neg h]; split <;> omega
      subst e
      have : sc u u = 0 := by simp [sc]
      omega
    have z1 := cm_zero hne
    have z2 := cm_zero (fun u hu v hv => hne u (.tail _ hu) v (.tail _ hv))
    by_cases h3 : low x = low y
    · have e : sc x y = 1 := by unfold sc; rw [if_neg h, if_pos h3]
      rw [e]
      unfold Bg
      rw [z1, z2, List.map_cons, List.map_cons, ← h3, cm_same (low_sign hx)]
      simp only [List.length_cons]; omega
    · have e : sc x y = 2 := by unfold sc; rw [if_neg h, if_neg h3]
      have hnl : ∀ u ∈ x :: A, ∀ v ∈ y :: B, low u ≠ low v := by
        intro u hu v hv e'
        have := hle' u hu v hv
        rw [e] at this
        unfold sc at this
        rw [if_neg (hne u hu v hv), if_pos e'] at this
        omega
      have z3 : cm ((x :: A).map low) ((y :: B).map low) = 0 := cm_zero (by
        intro u hu v hv
        obtain ⟨u', hu', rfl⟩ := List.mem_map.mp hu
        obtain ⟨v', hv', rfl⟩ := List.mem_map.mp hv
        exact hnl u' hu' v' hv')
      have z4 : cm (A.map low) (B.map low) = 0 := cm_zero (by
        intro u hu v hv
        obtain ⟨u', hu', rfl⟩ := List.mem_map.mp hu
        obtain ⟨v', hv', rfl⟩ := List.mem_map.mp hv
        exact hnl u' (.tail _ hu') v' (.tail _ hv'))
      rw [e]
      unfold Bg
      rw [z1, z2, z3, z4]
      simp only [List.length_cons]; omega
theorem g_best {xs ys : List Nat} {ks : List Key} : ∀ {st : GS}, ks.Pairwise (fun u v => u.1 ≤ v.1) → (∀ k ∈ ks, k.1 = sc (fX xs k.2.1) (fX ys k.2.2)) → st.1.Nodup → st.2.1.Nodup → (∀ i ∈ st.1, fX xs i ∈ signs) → (∀ j ∈ st.2.1, fX ys j ∈ signs) →
    (∀ i ∈ st.1, ∀ j ∈ st.2.1, (sc (fX xs i) (fX ys j), i, j) ∈ ks) →
    (ks.foldl gStep st).2.2.2 + 2 * ((ks.foldl gStep st).1.length : Int) + 2 * ((ks.foldl gStep st).2.1.length : Int) ≤ st.2.2.2 + Bg (st.1.map (fX xs)) (st.2.1.map (fX ys)) := by
  induction ks with
  | nil =>
    intro st _ _ _ _ _ _ hall
    rw [List.foldl_nil]
    obtain ⟨a, b, ms, p⟩ := st
    dsimp only at hall ⊢
    cases a with
    | nil => rw [List.map_nil, Bg_nil, List.length_map, List.length_nil]; omega
    | cons i a =>
      cases b with
      | nil => rw [List.map_nil, Bg_comm, Bg_nil, List.length_map, List.length_nil]; omega
      | cons j b => exact absurd (hall i (.head _) j (.head _)) (by simp)
  | cons k ks ih =>
    intro st hs hk n1 n2 s1 s2 hall
    obtain ⟨a, b, ms, p⟩ := st
    dsimp only at n1 n2 s1 s2 hall ⊢
    rw [List.foldl_cons]
    have hs' := List.pairwise_cons.mp hs
    by_cases h : k.2.1 ∈ a ∧ k.2.2 ∈ b
    · have e : gStep (a, b, ms, p) k = (a.erase k.2.1, b.erase k.2.2, ms ++ [(k.2.2, k.2.1)], p + k.1) := by unfold gStep; rw [if_pos h]
      rw [e]
      have pa : a.Perm (k.2.1 :: a.erase k.2.1) := List.perm_cons_erase h.1
      have pb : b.Perm (k.2.2 :: b.erase k.2.2) := List.perm_cons_erase h.2
      have g := ih (st := (a.erase k.2.1, b.erase k.2.2, ms ++ [(k.2.2, k.2.1)], p + k.1)) hs'.2 (fun q hq => hk q (.tail _ hq)) (n1.erase _) (n2.erase _) (fun i hi => s1 i (List.mem_of_mem_erase hi)) (fun j hj => s2 j (List.mem_of_mem_erase hj)) (by
        intro i hi j hj
        have hi' : i ∈ a.erase k.2.1 := hi
        have hne : i ≠ k.2.1 := fun e => by
          subst e
          exact absurd hi' (List.Nodup.not_mem_erase n1)
        rcases List.mem_cons.mp (hall i (List.mem_of_mem_erase hi) j (List.mem_of_mem_erase hj)) with e | h'
        · exact absurd (by rw [← e]) hne
        · exact h')
      have m := Bg_match (x := fX xs k.2.1) (y := fX ys k.2.2) (s1 _ h.1) (s2 _ h.2) (pa.map (fX xs)) (pb.map (fX ys)) (by
        intro u hu v hv
        obtain ⟨i, hi, rfl⟩ := List.mem_map.mp hu
        obtain ⟨j, hj, rfl⟩ := List.mem_map.mp hv
        rw [← hk k (.head _)]
        rcases List.mem_cons.mp (hall i hi j hj) with e | h'
        · rw [← e]; exact Int.le_refl _
        · exact hs'.1 _ h')
      rw [← hk k (.head _)] at m
      dsimp only at g
      omega
    · have e : gStep (a, b, ms, p) k = (a, b, ms, p) := by unfold gStep; rw [if_neg h]
      rw [e]
      refine ih (st := (a, b, ms, p)) hs'.2 (fun q hq => hk q (.tail _ hq)) n1 n2 s1 s2 ?_
      intro i hi j hj
      rcases List.mem_cons.mp (hall i hi j hj) with e | h'
      · exact absurd (by rw [← e]; exact ⟨hi, hj⟩) h
      · exact h'
end Mine
end

section
open PySem PySem.W PyProof.Rows PySem.Calls PyProof
set_option Elab.async false
set_option linter.unusedVariables false
set_option linter.unusedSimpArgs false
set_option maxHeartbeats 2000000
namespace Mine
local macro_rules | `(tactic| omega) => `(tactic| lia)
def bagOf (xs ys : List Nat) : Nat := max (uld (xs.map ch).reverse [] (ys.map ch)).1.length (uld (xs.map ch).reverse [] (ys.map ch)).2.length
theorem uld_len (es miss act : List Str) : (uld es miss act).1.length ≤ miss.length + es.length ∧ (uld es miss act).2.length ≤ act.length := by
  induction es generalizing miss act with
  | nil => exact ⟨by simp [uld], by simp [uld]⟩
  | cons e es ih =>
    unfold uld
    split
    · rename_i h
      have := ih miss (act.erase e)
      rw [List.length_erase_of_mem h] at this
      simp only [List.length_cons]; omega
    · have := ih (miss ++ [e]) act
      simp only [List.length_append, List.length_cons, List.length_nil] at this ⊢; omega
theorem uld_count (s : Str) (es miss act : List Str) : (uld es miss act).1.count s = miss.count s + (es.count s - act.count s) ∧ (uld es miss act).2.count s = act.count s - es.count s := by
  induction es generalizing miss act with
  | nil => simp [uld]
  | cons e es ih =>
    unfold uld
    split
    · rename_i h
      have g := ih miss (act.erase e)
      rw [List.count_erase] at g
      rw [g.1, g.2, List.count_cons]
      by_cases hs : e = s
      · subst hs
        have := List.count_pos_iff.mpr h
        simp only [beq_self_eq_true, if_true]
        omega
      · have h1 : (e == s) = false := beq_eq_false_iff_ne.mpr hs
        have h2 : (s == e) = false := beq_eq_false_iff_ne.mpr (Ne.symm hs)
        simp only [h1, h2]
        simp
    · rename_i h
      have g := ih (miss ++ [e]) act
      rw [g.1, g.2, List.count_append]
      simp only [List.count_cons, List.count_nil]
      by_cases hs : e = s
      · subst hs
        rw [List.count_eq_zero.mpr h]
        simp only [beq_self_eq_true, if_true]
        omega
      · have h1 : (e == s) = false := beq_eq_false_iff_ne.mpr hs
        have h2 : (s == e) = false := beq_eq_false_iff_ne.mpr (Ne.symm hs)
        simp only [h1, h2]
        simp
theorem uld_mem (es miss act : List Str) : (∀ s ∈ (uld es miss act).1, s ∈ miss ∨ s ∈ es) ∧ (∀ s ∈ (uld es miss act).2, s ∈ act) := by
  induction es generalizing miss act with
  | nil => exact ⟨fun s h => .inl h, fun s h => h⟩
  | cons e es ih =>
    unfold uld
    split
    · have g := ih miss (act.erase e)
      exact ⟨fun s h => (g.1 s h).elim .inl fun h => .inr (.tail _ h), fun s h => List.mem_of_mem_erase (g.2 s h)⟩
    · have g := ih (miss ++ [e]) act
      refine ⟨fun s h => ?_, g.2⟩
      rcases g.1 s h with h | h
      · rcases List.mem_append.mp h with h | h
        · exact .inl h
        · rw [List.mem_singleton.mp h]; exact .inr (.head _)
      · exact .inr (.tail _ h)
theorem count_ch (xs : List Nat) (c : Nat) : (xs.map ch).count (ch c) = xs.count c := by
  induction xs with
  | nil => rfl
  | cons x xs ih =>
    rw [List.map_cons, List.count_cons, List.count_cons, ih, ch_beq]
    by_cases h : x = c
    · subst h; simp
    · simp [h]
def un (s : Str) : Nat := s.cps.getD 0 0
theorem un_ch (c : Nat) : un (ch c) = c := rfl
theorem un_map {ss : List Str} (h : ∀ s ∈ ss, ∃ c ∈ signs, s = ch c) : ss = (ss.map un).map ch := by
  induction ss with
  | nil => rfl
  | cons s ss ih =>
    obtain ⟨c, _, rfl⟩ := h s (.head _)
    rw [List.map_cons, List.map_cons, un_ch, ← ih fun s hs => h s (.tail _ hs)]
theorem un_sg {ss : List Str} (h : ∀ s ∈ ss, ∃ c ∈ signs, s = ch c) : Sg (ss.map un) := by
  intro c hc
  obtain ⟨s, hs, rfl⟩ := List.mem_map.mp hc
  obtain ⟨c', hc', rfl⟩ := h s hs
  exact hc'
theorem un_count {ss : List Str} (h : ∀ s ∈ ss, ∃ c ∈ signs, s = ch c) (c : Nat) : (ss.map un).count c = ss.count (ch c) := by
  rw [← count_ch, ← un_map h]
theorem sg_ch {xs : List Nat} (h : Sg xs) : ∀ s ∈ xs.map ch, ∃ c ∈ signs, s = ch c := by
  intro s hs
  obtain ⟨c, hc, rfl⟩ := List.mem_map.mp hs
  exact ⟨c, h c hc, rfl⟩
theorem uld1_ch {xs ys : List Nat} (hx : Sg xs) : ∀ s ∈ (uld (xs.map ch).reverse [] (ys.map ch)).1, ∃ c ∈ signs, s = ch c := by
  intro s hs
  rcases (uld_mem _ _ _).1 s hs with h | h
  · cases h
  · exact sg_ch hx s (List.mem_reverse.mp h)
theorem uld2_ch {xs ys : List Nat} (hy : Sg ys) : ∀ s ∈ (uld (xs.map ch).reverse [] (ys.map ch)).2, ∃ c ∈ signs, s = ch c := by
  intro s hs
  exact sg_ch hy s ((uld_mem _ _ _).2 s hs)
theorem uld1_count {xs ys : List Nat} (c : Nat) : (uld (xs.map ch).reverse [] (ys.map ch)).1.count (ch c) = xs.count c - ys.count c := by
  rw [(uld_count _ _ _ _).1, List.count_reverse, count_ch, count_ch]
  simp
theorem uld2_count {xs ys : List Nat} (c : Nat) : (uld (xs.map ch).reverse [] (ys.map ch)).2.count (ch c) = ys.count c - xs.count c := by
  rw [(uld_count _ _ _ _).2, List.count_reverse, count_ch, count_ch]
theorem txt_count (l : List Nat) (c : Nat) : Txt.count (sOf l) (ch c) = (l.count c : Int) := by
  rw [show ch c = ⟨#[c]⟩ from rfl, count_cnt, sOf_cps]
  induction l with
  | nil => rfl
  | cons x l ih =>
    rw [cnt_cons, ih, List.count_cons]
    by_cases h : x = c
    · subst h; simp; omega
    · simp [h]
theorem count_bd {l : List Nat} (h : l.length ≤ 5) : ∀ c, 0 ≤ Txt.count (sOf l) (ch c) ∧ Txt.count (sOf l) (ch c) ≤ 5 := by
  intro c
  rw [txt_count]
  have := List.count_le_length (a := c) (l := l)
  omega
theorem beyond_ok {x y : Str} : ∀ z ∈ beyondTo x y [65, 66, 91, 97, 98, 123], PyData.strOk z = true := by
  intro z hz
  obtain ⟨c, hc, hz⟩ := List.mem_flatMap.mp hz
  rw [(List.mem_replicate.mp hz).2]
  refine strOk_ch c ?_
  simp only [List.mem_cons, List.not_mem_nil, or_false] at hc
  simp only [signs, List.mem_cons, List.not_mem_nil, or_false]
  omega
theorem rep_pw (f : Nat → Nat) : ∀ {cs : List Nat}, cs.Pairwise (· < ·) → (cs.flatMap fun c => List.replicate (f c) c).Pairwise (· ≤ ·) := by
  intro cs
  induction cs with
  | nil => intro _; exact .nil
  | cons c cs ih =>
    intro h
    have h' := List.pairwise_cons.mp h
    rw [List.flatMap_cons, List.pairwise_append]
    refine ⟨?_, ih h'.2, ?_⟩
    · rw [List.pairwise_replicate]; exact .inr (Nat.le_refl _)
    · intro a ha b hb
      rw [(List.mem_replicate.mp ha).2]
      obtain ⟨c', hc', hb⟩ := List.mem_flatMap.mp hb
      rw [(List.mem_replicate.mp hb).2]
      exact Nat.le_of_lt (h'.1 c' hc')
theorem rep_count (f : Nat → Nat) (a : Nat) : ∀ {cs : List Nat}, cs.Pairwise (· < ·) → (cs.flatMap fun c => List.replicate (f c) c).count a = if a ∈ cs then f a else 0 := by
  intro cs
  induction cs with
  | nil => intro _; simp
  | cons c cs ih =>
    intro h
    have h' := List.pairwise_cons.mp h
    rw [List.flatMap_cons, List.count_append, ih h'.2, List.count_replicate]
    by_cases e : c = a
    · subst e
      have : c ∉ cs := fun hc => Nat.lt_irrefl _ (h'.1 c hc)
      simp [this]
    · have h1 : (c == a) = false := beq_eq_false_iff_ne.mpr e
      simp [h1, Ne.symm e]
theorem rising_pw : ∀ (r : List Nat) (p : Nat), risingS (ch p) (r.map ch) = true → (p :: r).Pairwise (· ≤ ·) := by
  intro r
  induction r with
  | nil => intro p _; simp
  | cons x r ih =>
    intro p h
    rw [List.map_cons, risingS, Bool.and_eq_true] at h
    have h1 := ih x h.2
    have hpx : p ≤ x := by
      have h2 := h.1
      have e : Spec.ltCps (ch x).cps.toList (ch p).cps.toList = decide (x < p) := by
        show Spec.ltCps [x] [p] = _
        simp only [Spec.ltCps]
        by_cases hxp : x < p
        · simp [hxp]
        · simp [hxp]
      rw [e] at h2
      simp at h2
      exact h2
    refine List.pairwise_cons.mpr ⟨?_, h1⟩
    intro y hy
    rcases List.mem_cons.mp hy with rfl | hy
    · exact hpx
    · exact Nat.le_trans hpx ((List.pairwise_cons.mp h1).1 y hy)
theorem sortedS_pw {ns : List Nat} (h : sortedS (ns.map ch) = true) : ns.Pairwise (· ≤ ·) := by
  cases ns with
  | nil => exact .nil
  | cons x r => exact rising_pw r x h
theorem beyond_core {xs ys : List Nat} (hx : Sg xs) {us ss : List Str} (hu : ∀ s ∈ us, ∃ c ∈ signs, s = ch c) (hc : ∀ c, us.count (ch c) = xs.count c - ys.count c) (hp : ss.Perm us) (hs : sortedS ss = true) : ss = beyondTo (sOf xs) (sOf ys) [65, 66, 91, 97, 98, 123] := by
  have hss : ∀ s ∈ ss, ∃ c ∈ signs, s = ch c := fun s h => hu s (hp.mem_iff.mp h)
  have e1 := un_map hss
  have e2 : beyondTo (sOf xs) (sOf ys) [65, 66, 91, 97, 98, 123] = ([65, 66, 91, 97, 98, 123].flatMap fun c => List.replicate (xs.count c - ys.count c) c).map ch := by
    unfold beyondTo
    rw [List.map_flatMap]
    congr 1
    funext c
    rw [List.map_replicate, txt_count, txt_count]
    congr 1
    omega
  rw [e1] at hs
  rw [e2, e1]
  congr 1
  refine sorted_unique (R := (· ≤ ·)) (fun a b h1 h2 => Nat.le_antisymm h1 h2) ?_ (sortedS_pw hs) (rep_pw _ (by decide))
  rw [List.perm_iff_count]
  intro a
  rw [un_count hss, hp.count_eq, hc, rep_count _ _ (by decide)]
  split
  · rfl
  · rename_i ha
    have : a ∉ xs := by
      intro h
      apply ha
      have := sign_cases (hx a h)
      simp only [List.mem_cons, List.not_mem_nil, or_false]
      omega
    rw [List.count_eq_zero.mpr this]; omega
theorem beyond_eq {xs ys : List Nat} (hx : ∀ c ∈ xs, c ∈ signs) (hy : ∀ c ∈ ys, c ∈ signs) {ss : List Str} (hp : ss.Perm (uld (xs.map ch).reverse [] (ys.map ch)).1) (hs : sortedS ss = true) : ss = beyondTo (sOf xs) (sOf ys) [65, 66, 91, 97, 98, 123] :=
  beyond_core hx (uld1_ch hx) uld1_count hp hs
theorem beyond_eq2 {xs ys : List Nat} (hx : ∀ c ∈ xs, c ∈ signs) (hy : ∀ c ∈ ys, c ∈ signs) {ss : List Str} (hp : ss.Perm (uld (xs.map ch).reverse [] (ys.map ch)).2) (hs : sortedS ss = true) : ss = beyondTo (sOf ys) (sOf xs) [65, 66, 91, 97, 98, 123] :=
  beyond_core hy (uld2_ch hy) uld2_count hp hs
theorem len_sum {l : List Nat} (h : Sg l) : l.length = l.count 97 + l.count 65 + l.count 98 + l.count 66 + l.count 91 + l.count 123 := by
  induction l with
  | nil => rfl
  | cons x l ih =>
    have := ih h.tail
    rcases sign_cases h.head with rfl | rfl | rfl | rfl | rfl | rfl <;> simp [List.count_cons] <;> omega
theorem bag_is {xs ys : List Nat} (hx : Sg xs) (hy : Sg ys) : (bagOf xs ys : Int) = (max xs.length ys.length : Nat) - cm xs ys := by
  have h1 := len_sum (un_sg (uld1_ch (ys := ys) hx))
  have h2 := len_sum (un_sg (uld2_ch (xs := xs) hy))
  simp only [un_count (uld1_ch (ys := ys) hx), uld1_count, List.length_map] at h1
  simp only [un_count (uld2_ch (xs := xs) hy), uld2_count, List.length_map] at h2
  have h3 := len_sum hx
  have h4 := len_sum hy
  have key : ∀ a b : Nat, a - b + min a b = a ∧ b - a + min a b = b := by intro a b; omega
  have k1 := key (xs.count 97) (ys.count 97)
  have k2 := key (xs.count 65) (ys.count 65)
  have k3 := key (xs.count 98) (ys.count 98)
  have k4 := key (xs.count 66) (ys.count 66)
  have k5 := key (xs.count 91) (ys.count 91)
  have k6 := key (xs.count 123) (ys.count 123)
  have e1 : (uld (xs.map ch).reverse [] (ys.map ch)).1.length + cm xs ys = xs.length := by
    rw [h1, h3]; unfold cm
    generalize xs.count 97 - ys.count 97 = d1 at *
    generalize xs.count 65 - ys.count 65 = d2 at *
    generalize xs.count 98 - ys.count 98 = d3 at *
    generalize xs.count 66 - ys.count 66 = d4 at *
    generalize xs.count 91 - ys.count 91 = d5 at *
    generalize xs.count 123 - ys.count 123 = d6 at *
    generalize min (xs.count 97) (ys.count 97) = m1 at *
    generalize min (xs.count 65) (ys.count 65) = m2 at *
    generalize min (xs.count 98) (ys.count 98) = m3 at *
    generalize min (xs.count 66) (ys.count 66) = m4 at *
    generalize min (xs.count 91) (ys.count 91) = m5 at *
    generalize min (xs.count 123) (ys.count 123) = m6 at *
    rw [← k1.1, ← k2.1, ← k3.1, ← k4.1, ← k5.1, ← k6.1]
    clear k1 k2 k3 k4 k5 k6 h1 h2 h3 h4
    omega
  have e2 : (uld (xs.map ch).reverse [] (ys.map ch)).2.length + cm xs ys = ys.length := by
    rw [h2, h4]; unfold cm
    generalize ys.count 97 - xs.count 97 = d1 at *
    generalize ys.count 65 - xs.count 65 = d2 at *
    generalize ys.count 98 - xs.count 98 = d3 at *
    generalize ys.count 66 - xs.count 66 = d4 at *
    generalize ys.count 91 - xs.count 91 = d5 at *
    generalize ys.count 123 - xs.count 123 = d6 at *
    generalize min (xs.count 97) (ys.count 97) = m1 at *
    generalize min (xs.count 65) (ys.count 65) = m2 at *
    generalize min (xs.count 98) (ys.count 98) = m3 at *
    generalize min (xs.count 66) (ys.count 66) = m4 at *
    generalize min (xs.count 91) (ys.count 91) = m5 at *
    generalize min (xs.count 123) (ys.count 123) = m6 at *
    rw [← k1.2, ← k2.2, ← k3.2, ← k4.2, ← k5.2, ← k6.2]
    clear k1 k2 k3 k4 k5 k6 h1 h2 h3 h4
    omega
  unfold bagOf
  generalize (uld (xs.map ch).reverse [] (ys.map ch)).1.length = u1 at *
  generalize (uld (xs.map ch).reverse [] (ys.map ch)).2.length = u2 at *
  clear k1 k2 k3 k4 k5 k6 h1 h2 h3 h4
  omega
theorem bags_are {xs ys : List Nat} (hx : Sg xs) (hy : Sg ys) : (bagOf xs ys : Int) + (bagOf (xs.map low) (ys.map low) : Int) = Bg xs ys := by
  rw [bag_is hx hy, bag_is hx.low hy.low, List.length_map, List.length_map]
  rfl
theorem join_ch (l : List Nat) : Txt.join (Str.ofString "") (l.map ch) = sOf l := by
  unfold Txt.join
  rw [StrLaws.glued_eq_join]
  induction l with
  | nil => rfl
  | cons c l ih =>
    cases l with
    | nil => rfl
    | cons d l =>
      show ch c ++ Str.ofString "" ++ Str.join (Str.ofString "") ((d :: l).map ch) = _
      rw [ih, sOf_ch, show Str.ofString "" = sOf [] from rfl, sOf_app, sOf_app]
      rfl
/-! the row -/
theorem mem_pairKeys {xs ys : List Nat} {k : Key} : k ∈ pairKeys xs ys xs.length ↔ ∃ i j : Nat, i < xs.length ∧ j < ys.length ∧ k = (sc (fX xs i) (fX ys j), (i : Int), (j : Int)) := by
  unfold pairKeys rowKeys
  simp only [List.mem_flatMap, List.mem_range, List.mem_map]
  constructor
  · rintro ⟨i, hi, j, hj, rfl⟩
    exact ⟨i, j, hi, hj, rfl⟩
  · rintro ⟨i, j, hi, hj, rfl⟩
    exact ⟨i, hi, j, hj, rfl⟩
abbrev rng (n : Nat) : List Int := (List.range n).map (fun (i : Nat) => (i : Int))
theorem rng_map (xs : List Nat) : (rng xs.length).map (fX xs) = xs := by
  rw [List.map_map]
  apply List.ext_getElem
  · simp
  · intro i h1 h2
    simp [fX, List.getD, h2]
theorem rng_nodup (n : Nat) : (rng n).Nodup := by
  unfold rng
  rw [List.Nodup, List.pairwise_map]
  refine (List.nodup_range (n := n)).imp ?_
  intro a b h e
  exact h (by omega)
theorem rng_sg {xs : List Nat} (hx : Sg xs) : ∀ i ∈ rng xs.length, fX xs i ∈ signs := by
  intro i hi
  obtain ⟨j, hj, rfl⟩ := List.mem_map.mp hi
  have hj := List.mem_range.mp hj
  show xs.getD (j : Int).toNat 0 ∈ signs
  rw [Int.toNat_natCast, getD_at hj]
  exact hx _ (List.getElem_mem _)
theorem row_total {xs ys : List Nat} {ks : List Key} {als bls : List Int} {ms ms2 : List (Int × Int)} {pr : Int} (hx : Sg xs) (hy : Sg ys) (hks : ks.Perm (pairKeys xs ys xs.length)) (hso : ks.Pairwise (fun u v => klt v u = false))
    (q2 : (als, bls, ms, pr) = ks.foldl gStep (rng xs.length, rng ys.length, [], 0)) (hpm : ms2.Perm ms) (hsM : ms2.Pairwise (fun u v => llt [v.1, v.2] [u.1, u.2] = false)) :
    Al ((ms2.map Prod.snd ++ als).map (fX xs)) ys (pr + 2 * (als.length : Int) + 2 * (bls.length : Int)) ∧ pr + 2 * (als.length : Int) + 2 * (bls.length : Int) ≤ Bg xs ys ∧ ((ms2.map Prod.snd ++ als).map (fX xs)).Perm xs := by
  have hgp := g_perm q2
  have hk : ∀ k ∈ ks, k.1 = sc (fX xs k.2.1) (fX ys k.2.2) := by
    intro k hk
    obtain ⟨i, j, _, _, rfl⟩ := mem_pairKeys.mp (hks.mem_iff.mp hk)
    rfl
  have hpr := g_price (xs := xs) (ys := ys) (ks := ks) (st := (rng xs.length, rng ys.length, [], 0)) hk (by simp)
  have hbest := g_best (xs := xs) (ys := ys) (ks := ks) (st := (rng xs.length, rng ys.length, [], 0)) (klt_cost hso) hk (rng_nodup _) (rng_nodup _) (rng_sg hx) (rng_sg hy) (by
    intro i hi j hj
    obtain ⟨i', hi', rfl⟩ := List.mem_map.mp hi
    obtain ⟨j', hj', rfl⟩ := List.mem_map.mp hj
    exact hks.mem_iff.mpr (mem_pairKeys.mpr ⟨i', j', List.mem_range.mp hi', List.mem_range.mp hj', rfl⟩))
  rw [← q2] at hpr hbest
  dsimp only at hpr hbest
  rw [rng_map, rng_map] at hbest
  refine ⟨?_, by omega, ?_⟩
  · have hnd : (ms2.map Prod.fst).Nodup := by
      have h1 : (ms.map Prod.fst ++ bls).Nodup := hgp.2.nodup_iff.mpr (rng_nodup _)
      have h2 : (ms.map Prod.fst).Nodup := (List.nodup_append.mp h1).1
      exact (hpm.map Prod.fst).nodup_iff.mpr h2
    have hst : ms2.Pairwise (fun u v => u.1 < v.1) := by
      rw [List.Nodup, List.pairwise_map] at hnd
      refine (List.pairwise_and_iff.mpr ⟨hsM, hnd⟩).imp ?_
      rintro u v ⟨h1, h2⟩
      simp only [llt] at h1
      rw [if_neg (Ne.symm h2)] at h1
      simp only [decide_eq_false_iff_not] at h1
      omega
    have hin : ∀ q ∈ ms2, ((0 : Nat) : Int) ≤ q.1 ∧ q.1 < ys.length := by
      intro q hq
      have h1 : q.1 ∈ ms.map Prod.fst ++ bls := List.mem_append_left _ (List.mem_map.mpr ⟨q, hpm.mem_iff.mp hq, rfl⟩)
      obtain ⟨j, hj, e⟩ := List.mem_map.mp (hgp.2.mem_iff.mp h1)
      have := List.mem_range.mp hj
      omega
    have h1 := al_row (xs := xs) (ys := ys) ys.length 0 ms2 (by omega) (by omega) hst hin
    have h2 := h1.app (al_dels (als.map (fX xs)))
    have hl : ms2.length + bls.length = ys.length := by
      have := hgp.2.length_eq
      simp only [List.length_append, List.length_map, List.length_range] at this
      rw [hpm.length_eq]; exact this
    have hsum : (ms2.map fun q => sc (fX xs q.2) (fX ys q.1)).sum = pr := by
      rw [hpr]
      have hp' := hpm.map (fun q => sc (fX xs q.2) (fX ys q.1))
      generalize ms2.map (fun q => sc (fX xs q.2) (fX ys q.1)) = l1 at hp' ⊢
      generalize ms.map (fun q => sc (fX xs q.2) (fX ys q.1)) = l2 at hp' ⊢
      induction hp' with
      | nil => rfl
      | cons x _ ih => rw [List.sum_cons, List.sum_cons, ih]
      | swap x y l => simp only [List.sum_cons]; omega
      | trans _ _ ih1 ih2 => rw [ih1, ih2]
    rw [hsum] at h2
    rw [List.map_append, List.map_map]
    simp only [List.drop_zero, List.append_nil, List.length_map, Nat.sub_zero] at h2
    rwa [show pr + 2 * ((ys.length : Int) - (ms2.length : Int)) + 2 * (als.length : Int) = pr + 2 * (als.length : Int) + 2 * (bls.length : Int) from by omega] at h2
  · have h1 := (((hpm.map Prod.snd).append_right als).trans hgp.1).map (fX xs)
    rwa [rng_map] at h1
theorem all2_mem {α β : Type} {R : α → β → Prop} {as : List α} {bs : List β} (h : All2 R as bs) : (∀ a ∈ as, ∃ b ∈ bs, R a b) ∧ (∀ b ∈ bs, ∃ a ∈ as, R a b) := by
  induction h with
  | nil => exact ⟨fun _ h => (nomatch h), fun _ h => (nomatch h)⟩
  | cons r _ ih =>
    refine ⟨fun a ha => ?_, fun b hb => ?_⟩
    · rcases List.mem_cons.mp ha with rfl | ha
      · exact ⟨_, .head _, r⟩
      · obtain ⟨b, hb, hr⟩ := ih.1 a ha
        exact ⟨b, .tail _ hb, hr⟩
    · rcases List.mem_cons.mp hb with rfl | hb
      · exact ⟨_, .head _, r⟩
      · obtain ⟨a, ha, hr⟩ := ih.2 b hb
        exact ⟨a, .tail _ ha, hr⟩
theorem min_bags {xs ys rt : List Nat} {rs : List Int} {M n : Int} (hx : Sg xs) (hy : Sg ys) (hA : All2 (fun t r => LevOf t ys r) (ordersP xs) rs) (h1 : M ∈ rs) (h2 : ∀ a, a ∈ rs → M ≤ a) (hal : Al rt ys n) (hle : n ≤ Bg xs ys) (hp : rt.Perm xs) :
    M = (bagOf xs ys : Int) + (bagOf (xs.map low) (ys.map low) : Int) := by
  rw [bags_are hx hy]
  obtain ⟨t, ht, hl⟩ := (all2_mem hA).2 M h1
  have htp := ordersP_mem _ t ht
  have g1 := hl.ge (fun c hc => hx c (htp.mem_iff.mp hc)) hy
  rw [Bg_perm htp (List.Perm.refl ys)] at g1
  obtain ⟨r, hr, hl'⟩ := (all2_mem hA).1 rt (ordersP_all _ rt hp)
  have g2 := hl'.le hal
  have g3 := h2 r hr
  omega
theorem lev_total {xs ys rt : List Nat} {n r : Int} (hx : Sg xs) (hy : Sg ys) (h : LevOf rt ys r) (hal : Al rt ys n) (hle : n ≤ Bg xs ys) (hp : rt.Perm xs) : r = n := by
  have g1 := h.ge (fun c hc => hx c (hp.mem_iff.mp hc)) hy
  rw [Bg_perm hp (List.Perm.refl ys)] at g1
  have g2 := h.le hal
  omega
end Mine
end

section
open PySem PySem.W PyProof.Rows
set_option Elab.async false
set_option pp.deepTerms false
set_option pp.maxSteps 3000
set_option pp.proofs false
set_option linter.unusedVariables false
set_option linter.unusedSimpArgs false
set_option maxRecDepth 100000
set_option maxHeartbeats 8000000
namespace Mine
local macro_rules | `(tactic| omega) => `(tactic| lia)
local macro_rules | `(tactic| ktr_rel) => `(tactic| ((fail_if_success (with_reducible show wpAny _ _ (setItem _ _ _) _ _ _)); (fail_if_success (with_reducible show wpAny _ _ (call (Value.type "range") [_] _) _ _ _)); (fail_if_success (with_reducible show wpAny _ _ (call (Value.builtin "len") [Value.ref _] _) _ _ _)); (fail_if_success (with_reducible show wpAny _ _ (call (Value.type "list") _ _) _ _ _)); (fail_if_success (with_reducible show wpAny _ _ (call (Value.builtin "sorted") _ _) _ _ _)); (fail_if_success (with_reducible show wpAny _ _ (compareOp CmpOp.NotEq (Value.ref _) (Value.ref _)) _ _ _)); (fail_if_success (with_reducible show wpAny _ _ (compareOp CmpOp.In _ (Value.ref _)) _ _ _)); (fail_if_success (with_reducible show wpAny _ _ (call (Value.builtin "list.append") _ _) _ _ _)); (fail_if_success (with_reducible show wpAny _ _ (call (Value.builtin "list.remove") _ _) _ _ _)); (fail_if_success (with_reducible show WOut _ _ _ _ _ _ _ _ _)); (fail_if_success (with_reducible show wpAny _ _ (exec (Stmt.While _ _ _ _) _) _ _ _)); (fail_if_success (with_reducible show wpAny _ _ (call (Value.ref _) _ _) _ _ _)); (fail_if_success (with_reducible show FEnd _ _ _ _ _ _ _ _ _ _ _ _)); (fail_if_success (with_reducible show wpAny _ _ (pyIter _) _ _ _)); (fail_if_success (with_reducible show wpAny _ _ (eval (PySem.Expr.ListComp _ _ _ _) _) _ _ _)); (fail_if_success (with_reducible show wpAny _ _ (exec (Stmt.Assign _ (PySem.Expr.ListComp _ _ _ _) _) _) _ _ _)); (fail_if_success (with_reducible show LCg.CompEnd _ _ _ _ _ _ _ _ _ _ _ _ _ _)); (fail_if_success (with_reducible show LCg.CompSrc _ _ _ _ _ _ _ _ _ _ _ _ _ _)); (fail_if_success (with_reducible show KswEnd _ _ _ _ _ _ _ _ _ _ _ _)); (fail_if_success (with_reducible show wpAny _ _ (exec (Stmt.For _ _ _ _ _) _) _ _ _)); (first | (k_unfold; (try dsimp only)) | (with_reducible refine FPost.next ?_) | (with_reducible refine FPost.cont ?_) | (with_reducible refine FPost.brk ?_) | (with_reducible refine FPost.ret ?_) | walk1 | (dsimp only; walk1) | (leave1; (try dsimp only)))))
local macro_rules | `(tactic| ktr_unf) => `(tactic| repeat' ktr_rel)

theorem sub_nil {α : Type} {B : List α} : ∀ p ∈ ([] : List α), p ∈ B := fun _ h => (nomatch h)
theorem sub_cons {α : Type} {a : α} {A B : List α} (h : a ∈ B) (hs : ∀ p ∈ A, p ∈ B) : ∀ p ∈ a :: A, p ∈ B := fun p hp => (List.mem_cons.mp hp).elim (fun e => e ▸ h) (hs p)
theorem sub_app {α : Type} {A A' B : List α} (h : ∀ p ∈ A, p ∈ B) (h' : ∀ p ∈ A', p ∈ B) : ∀ p ∈ A ++ A', p ∈ B := fun p hp => (List.mem_append.mp hp).elim (h p) (h' p)
theorem sub_self {α : Type} {A : List α} : ∀ p ∈ A, p ∈ A := fun _ h => h
theorem sub_tail {α : Type} {b : α} {A B : List α} (h : ∀ p ∈ A, p ∈ B) : ∀ p ∈ A, p ∈ b :: B := fun p hp => .tail _ (h p hp)
theorem sub_appl {α : Type} {A B B' : List α} (h : ∀ p ∈ A, p ∈ B) : ∀ p ∈ A, p ∈ B ++ B' := fun p hp => List.mem_append_left _ (h p hp)
theorem sub_appr {α : Type} {A B B' : List α} (h : ∀ p ∈ A, p ∈ B') : ∀ p ∈ A, p ∈ B ++ B' := fun p hp => List.mem_append_right _ (h p hp)
local macro_rules | `(tactic| tb_start) => `(tactic| (first | with_reducible exact List.mem_cons_self | (with_reducible refine List.mem_append_left _ ?_; tb_start) | (with_reducible refine List.mem_append_right _ ?_; tb_start) | (with_reducible refine List.mem_cons_of_mem _ ?_; tb_start) | exact List.mem_cons_self))
local macro_rules | `(tactic| tb_rel) => `(tactic| (first | with_reducible exact sub_nil | (with_reducible refine sub_cons ?_ ?_; (· tb_start); (· tb_rel)) | (with_reducible refine sub_app ?_ ?_; (· tb_rel); (· tb_rel)) | with_reducible exact sub_self | (with_reducible refine sub_appl ?_; tb_rel) | (with_reducible refine sub_appr ?_; tb_rel) | (with_reducible refine sub_tail ?_; tb_rel)))
theorem row_ints {h₀ h : Heap} {L : Addr} {tm : List (Addr × Obj)} (N : News h₀ L h tm) {vs ys : List Value} {ks : List (Int × Int)} (hP : PAll tm vs ks) (hA : All2 (fun v y => ∃ k t, PIn tm v k ∧ y = Value.int k.2 t) vs ys) : IntsAre ys (ks.map Prod.snd) := by
  induction hP generalizing ys with
  | nil => cases hA; exact .nil
  | cons hk _ ih =>
    cases hA with
    | cons r rest =>
      obtain ⟨k', t, hk', rfl⟩ := r
      rw [PIn.uniq N hk' hk]
      exact .cons _ _ (ih rest)
theorem row_strs {vs ys : List Value} {ks : List Int} {f : Int → Nat} (hI : IntsAre vs ks) (hA : All2 (fun v y => ∃ k t t', v = Value.int k t ∧ y = Value.str (ch (f k)) t') vs ys) : StrsAre ys ((ks.map f).map ch) := by
  induction hI generalizing ys with
  | nil => cases hA; exact .nil
  | cons _ _ _ ih =>
    cases hA with
    | cons r rest =>
      obtain ⟨k', t, t', e, rfl⟩ := r
      injection e with e1 e2
      subst e1
      exact .cons _ _ (ih rest)
theorem join_small {l : List Nat} (h : l.length ≤ 1000) : ((l.map ch).map (·.length)).sum + (l.map ch).length ≤ 1048576 := by
  have : ((l.map ch).map (·.length)).sum = l.length := by
    clear h
    induction l with
    | nil => rfl
    | cons c l ih => simp only [List.map_cons, List.sum_cons, List.length_cons, ch_len, ih]; omega
  rw [this, List.length_map]; omega
theorem lev_ints {ys : List Nat} {vs zs : List Value} {ts : List (List Nat)} (h : StrsAre vs (ts.map sOf)) (hA : All2 (fun v y => ∃ t tk r tr, v = Value.str (sOf t) tk ∧ y = Value.int r tr ∧ LevOf t ys r) vs zs) :
    ∃ rs, IntsAre zs rs ∧ All2 (fun t r => LevOf t ys r) ts rs := by
  induction ts generalizing vs zs with
  | nil => cases h; cases hA; exact ⟨[], .nil, .nil⟩
  | cons t ts ih =>
    cases h with
    | cons x tk r =>
      cases hA with
      | cons hr rest =>
        obtain ⟨t', tk', q, tr, e, rfl, hl⟩ := hr
        injection e with e1 _
        have e2 := sOf_inj e1
        subst e2
        obtain ⟨rs, h1, h2⟩ := ih r rest
        exact ⟨q :: rs, .cons _ _ h1, .cons hl h2⟩
theorem lawholds : PySem.Challenge.rw_ny0144_01.Holds := Mine.hd (by
  k_go0
  rename_i w s₀ s₁ mg mb G Y fa o pm doc ho hg KX XX VV GL TT BB TE TW bm bo MM cd9 d9 hcd ns hs9 hlay9 hL9 hr9 hl9 as9 bs9 sl svs cs9 hLs ra9 w19 r09 hI hr8 hc1 hc2 K0 hD9 h₁ tk₁ F0 oS oT oO dS dT dO N0 X0
  clear hcd hD9 X0
  replace dS : oS.data = .cell none := dS
  replace dT : oT.data = .cell none := dT
  replace dO : oO.data = .cell none := dO
  replace F0 : Fr s₁.heap s₁.heap.objs.size h₁ (fun y => if y = Str.ofString "script" then some (.ref sl) else none) := F0
  dsimp only
  ktr_unf
  rename Fr _ _ _ _ => F1
  rename News _ _ _ _ => N1
  refine LSm.sum_ints F1 N1 rfl (vs := (slicePick _ (some 0) none (some 2)).toList) ⟨_, (N1 _ (.head _)).1, rfl, 0, by simp⟩ (hI.pick _ _ _) ?_
  clear F1 N1
  intro h1 tk1 t1 F1 N1
  ktr_unf
  rename News _ _ _ _ => N2
  refine c_word (lim := 3) (by assumption) (by assumption) (by assumption) (by assumption) rfl N2 (by decide) (by decide) (by decide) (by decide +kernel) (by decide +kernel) ?_
  clear N2
  intro x1 tx1 h2 tk2 hx1 F2 N2
  obtain ⟨xs, rfl⟩ : ∃ xs, x1 = sOf xs := ⟨_, (sOf_of x1).symm⟩
  ktr_unf
  rename Fr _ _ _ _ => F3
  rename News _ _ _ _ => N3
  refine LSm.sum_ints F3 N3 rfl (vs := (slicePick _ (some 1) none (some 2)).toList) ⟨_, (N3 _ (.head _)).1, rfl, 0, by simp⟩ (hI.pick _ _ _) ?_
  clear F3 N3
  intro h3 tk3 t3 F3 N3
  ktr_unf
  rename News _ _ _ _ => N4
  refine c_word (lim := 5) (by assumption) (by assumption) (by assumption) (by assumption) rfl N4 (by decide) (by decide) (by decide) (by decide +kernel) (by decide +kernel) ?_
  clear N4
  intro y1 ty1 h4 tk4 hy1 F4 N4
  obtain ⟨ys, rfl⟩ : ∃ ys, y1 = sOf ys := ⟨_, (sOf_of y1).symm⟩
  obtain ⟨hx1, hxs⟩ := hx1
  obtain ⟨hy1, hys⟩ := hy1
  rw [sOf_cps] at hxs hys
  rw [sOf_len] at hx1 hy1
  have lx := sOf_len xs
  have ly := sOf_len ys
  ktr_unf
  rename Fr _ _ _ _ => F5
  rename News _ _ _ _ => N5
  obtain ⟨L, hL⟩ : ∃ L, L = s₁.heap.objs.size := ⟨_, rfl⟩
  rw [← hL] at F5 N5 ⊢
  obtain ⟨oO', oT', N6, dO', dT'⟩ : ∃ oO' oT', News s₁.heap L _ [(L + 1 + 1 + 1, oS), (L + 1 + 1, oT'), (L + 1, oO')] ∧ oO'.data = .cell (some (.str (sOf xs) tx1)) ∧ oT'.data = .cell (some (.str (sOf ys) ty1)) := by
    refine ⟨_, _, kst_newsOf N5 ?_, by assumption, by assumption⟩
    intro p hp
    simp only [List.mem_cons, List.mem_nil_iff, or_false] at hp
    simp only [List.mem_cons, List.mem_append, List.mem_nil_iff, or_false]
    rcases hp with rfl | rfl | rfl <;> simp [hL]
  clear N5
  -- the two bags
  have hxl : ∀ c ∈ xs.map low, c ∈ signs := by intro c hc; obtain ⟨d, hd, rfl⟩ := List.mem_map.mp hc; exact low_sign (hxs d hd)
  have hyl : ∀ c ∈ ys.map low, c ∈ signs := by intro c hc; obtain ⟨d, hd, rfl⟩ := List.mem_map.mp hc; exact low_sign (hys d hd)
  refine st_join (σ := Tok) F5 (fun _ => [(L + 1 + 1 + 1, oS), (L + 1 + 1, oT'), (L + 1, oO')]) (fun c => [(Str.ofString "bags", .int ((bagOf xs ys : Int) + (bagOf (xs.map low) (ys.map low) : Int)) c)]) [Str.ofString "mine", Str.ofString "yours", Str.ofString "missing", Str.ofString "over"] (fun _ => True) ?_ ?_
  · --[
    walk1
    ktr_unf
    walk1
    ktr_unf
    rename Fr _ _ _ _ => F6
    rename News _ _ _ _ => N7
    refine l_listStr rfl F6 N7 (by omega) ?_
    intro D1 h6 tk6 v1 k1 F7 N8 hlt1 hs1
    clear F6 N7
    ktr_unf
    rename Fr _ _ _ _ => F8
    refine l_listStr rfl F8 N8 (by omega) ?_
    clear F8
    intro D2 h7 tk7 v2 k2 F8 N9 hlt2 hs2
    ktr_unf
    have h21 := hlt2 _ (.head _)
    have N10 := news_swap N9
    refine c_uld rfl (by assumption) (by assumption) (by assumption) (by assumption) rfl N10 (Nat.ne_of_lt h21) (fun p hp => Nat.ne_of_lt (hlt1 p hp)) (fun p hp => Nat.ne_of_lt (hlt2 p (.tail _ hp))) hs1 hs2 (by simp only [List.length_map]; omega) (by simp only [List.length_map]; omega) (by decide +kernel) (by decide +kernel) ?_
    clear N9 N10 hlt1 hlt2 h21
    intro lt lm l2 vm vo nt nm no h8 tk8 hsm hso F9 N11
    ktr_unf
    rename Fr _ _ _ _ => F10
    rename News _ _ _ _ => N12
    refine l_sortedStr F10 N12 (.tail _ (.head _)) hsm (by have := StrsAre.length' hsm; have := uld_len (xs.map ch).reverse [] (ys.map ch); simp only [List.length_map, List.length_reverse, List.length_nil] at *; omega) ?_
    clear F10 N12
    intro D3 h9 v3 ss3 k3 F10 N12 hlt3 hs3 hp3 hst3
    have e3 := beyond_eq hxs hys hp3 hst3
    subst e3
    ktr_unf
    rename News _ _ _ _ => N13
    refine c_beyond (by assumption) (by assumption) (by assumption) (by assumption) rfl N13 (by rw [sOf_len]; (try simp only [List.length_map]); omega) (by rw [sOf_len]; (try simp only [List.length_map]); omega) (by decide +kernel) (by decide +kernel) (count_bd (by (try simp only [List.length_map]); omega)) (count_bd (by (try simp only [List.length_map]); omega)) ?_
    clear N13
    intro D4 v4 k4 h10 tk10 hs4 F11 N13 hlt4
    ktr_unf
    rename News _ _ _ _ => N14
    refine l_neStrs N14 (.tail _ (.head _)) (.head _) hs3 hs4 beyond_ok beyond_ok (by show callerA.units + 3 + 64 < cLine; decide +kernel) ?_
    rw [decide_eq_true rfl]
    dsimp only [Bool.not_true]
    ktr_unf
    rename Fr _ _ _ _ => F12
    refine l_sortedStr F12 N14 (.tail _ (.tail _ (.tail _ (.tail _ (.head _))))) hso (by have := StrsAre.length' hso; have := uld_len (xs.map ch).reverse [] (ys.map ch); simp only [List.length_map, List.length_reverse, List.length_nil] at *; omega) ?_
    clear F12 N14
    intro D5 h11 v5 ss5 k5 F12 N14 hlt5 hs5 hp5 hst5
    have e5 := beyond_eq2 hxs hys hp5 hst5
    subst e5
    ktr_unf
    rename News _ _ _ _ => N15
    refine c_beyond (by assumption) (by assumption) (by assumption) (by assumption) rfl N15 (by rw [sOf_len]; (try simp only [List.length_map]); omega) (by rw [sOf_len]; (try simp only [List.length_map]); omega) (by decide +kernel) (by decide +kernel) (count_bd (by (try simp only [List.length_map]); omega)) (count_bd (by (try simp only [List.length_map]); omega)) ?_
    clear N15
    intro D6 v6 k6 h12 tk12 hs6 F13 N15 hlt6
    ktr_unf
    rename News _ _ _ _ => N16
    refine l_neStrs N16 (.tail _ (.head _)) (.head _) hs5 hs6 beyond_ok beyond_ok (by show callerA.units + 3 + 64 < cLine; decide +kernel) ?_
    rw [decide_eq_true rfl]
    dsimp only [Bool.not_true]
    ktr_unf
    refine l_len N16 (.tail _ (.tail _ (.tail _ (.tail _ (.tail _ (.head _)))))) (by have := StrsAre.length' hsm; have := uld_len (xs.map ch).reverse [] (ys.map ch); simp only [List.length_map, List.length_reverse, List.length_nil] at *; omega) ?_
    intro tl1 tkl1
    ktr_unf
    refine l_len N16 (.tail _ (.tail _ (.tail _ (.tail _ (.tail _ (.tail _ (.head _))))))) (by have := StrsAre.length' hso; have := uld_len (xs.map ch).reverse [] (ys.map ch); simp only [List.length_map, List.length_reverse, List.length_nil] at *; omega) ?_
    intro tl2 tkl2
    rw [StrsAre.length' hsm, StrsAre.length' hso]
    ktr_unf
    clear hs1 hs2 hsm hso hs3 hs4 hs5 hs6 hp3 hp5 hst3 hst5 hlt3 hlt4 hlt5 hlt6
    rename Fr _ _ _ _ => F6
    rename News _ _ _ _ => N7
    rw [lower_sOf hxs, lower_sOf hys] at F6 N7
    rw [lower_sOf hxs]
    refine l_listStr rfl F6 N7 (by simp only [List.length_map]; omega) ?_
    intro D1 h6 tk6 v1 k1 F7 N8 hlt1 hs1
    clear F6 N7
    ktr_unf
    rename Fr _ _ _ _ => F8
    refine l_listStr rfl F8 N8 (by simp only [List.length_map]; omega) ?_
    clear F8
    intro D2 h7 tk7 v2 k2 F8 N9 hlt2 hs2
    ktr_unf
    have h21 := hlt2 _ (.head _)
    have N10 := news_swap N9
    refine c_uld rfl (by assumption) (by assumption) (by assumption) (by assumption) rfl N10 (Nat.ne_of_lt h21) (fun p hp => Nat.ne_of_lt (hlt1 p hp)) (fun p hp => Nat.ne_of_lt (hlt2 p (.tail _ hp))) hs1 hs2 (by simp only [List.length_map]; omega) (by simp only [List.length_map]; omega) (by decide +kernel) (by decide +kernel) ?_
    clear N9 N10 hlt1 hlt2 h21
    intro lt lm l2 vm vo nt nm no h8 tk8 hsm hso F9 N11
    ktr_unf
    rename Fr _ _ _ _ => F10
    rename News _ _ _ _ => N12
    refine l_sortedStr F10 N12 (.tail _ (.head _)) hsm (by have := StrsAre.length' hsm; have := uld_len ((xs.map low).map ch).reverse [] ((ys.map low).map ch); simp only [List.length_map, List.length_reverse, List.length_nil] at *; omega) ?_
    clear F10 N12
    intro D3 h9 v3 ss3 k3 F10 N12 hlt3 hs3 hp3 hst3
    have e3 := beyond_eq hxl hyl hp3 hst3
    subst e3
    ktr_unf
    rename News _ _ _ _ => N13
    refine c_beyond (by assumption) (by assumption) (by assumption) (by assumption) rfl N13 (by rw [sOf_len]; (try simp only [List.length_map]); omega) (by rw [sOf_len]; (try simp only [List.length_map]); omega) (by decide +kernel) (by decide +kernel) (count_bd (by (try simp only [List.length_map]); omega)) (count_bd (by (try simp only [List.length_map]); omega)) ?_
    clear N13
    intro D4 v4 k4 h10 tk10 hs4 F11 N13 hlt4
    ktr_unf
    rename News _ _ _ _ => N14
    refine l_neStrs N14 (.tail _ (.head _)) (.head _) hs3 hs4 beyond_ok beyond_ok (by show callerA.units + 3 + 64 < cLine; decide +kernel) ?_
    rw [decide_eq_true rfl]
    dsimp only [Bool.not_true]
    ktr_unf
    rename Fr _ _ _ _ => F12
    refine l_sortedStr F12 N14 (.tail _ (.tail _ (.tail _ (.tail _ (.head _))))) hso (by have := StrsAre.length' hso; have := uld_len ((xs.map low).map ch).reverse [] ((ys.map low).map ch); simp only [List.length_map, List.length_reverse, List.length_nil] at *; omega) ?_
    clear F12 N14
    intro D5 h11 v5 ss5 k5 F12 N14 hlt5 hs5 hp5 hst5
    have e5 := beyond_eq2 hxl hyl hp5 hst5
    subst e5
    ktr_unf
    rename News _ _ _ _ => N15
    refine c_beyond (by assumption) (by assumption) (by assumption) (by assumption) rfl N15 (by rw [sOf_len]; (try simp only [List.length_map]); omega) (by rw [sOf_len]; (try simp only [List.length_map]); omega) (by decide +kernel) (by decide +kernel) (count_bd (by (try simp only [List.length_map]); omega)) (count_bd (by (try simp only [List.length_map]); omega)) ?_
    clear N15
    intro D6 v6 k6 h12 tk12 hs6 F13 N15 hlt6
    ktr_unf
    rename News _ _ _ _ => N16
    refine l_neStrs N16 (.tail _ (.head _)) (.head _) hs5 hs6 beyond_ok beyond_ok (by show callerA.units + 3 + 64 < cLine; decide +kernel) ?_
    rw [decide_eq_true rfl]
    dsimp only [Bool.not_true]
    ktr_unf
    refine l_len N16 (.tail _ (.tail _ (.tail _ (.tail _ (.tail _ (.head _)))))) (by have := StrsAre.length' hsm; have := uld_len ((xs.map low).map ch).reverse [] ((ys.map low).map ch); simp only [List.length_map, List.length_reverse, List.length_nil] at *; omega) ?_
    intro tl1 tkl1
    ktr_unf
    refine l_len N16 (.tail _ (.tail _ (.tail _ (.tail _ (.tail _ (.tail _ (.head _))))))) (by have := StrsAre.length' hso; have := uld_len ((xs.map low).map ch).reverse [] ((ys.map low).map ch); simp only [List.length_map, List.length_reverse, List.length_nil] at *; omega) ?_
    intro tl2 tkl2
    rw [StrsAre.length' hsm, StrsAre.length' hso]
    ktr_unf
    rename Fr _ _ _ _ => F14
    have hbag : (0 + (if ((uld (xs.map ch).reverse [] (ys.map ch)).2.length : Int) > ((uld (xs.map ch).reverse [] (ys.map ch)).1.length : Int) then ((uld (xs.map ch).reverse [] (ys.map ch)).2.length : Int) else ((uld (xs.map ch).reverse [] (ys.map ch)).1.length : Int))) + (if ((uld ((xs.map low).map ch).reverse [] ((ys.map low).map ch)).2.length : Int) > ((uld ((xs.map low).map ch).reverse [] ((ys.map low).map ch)).1.length : Int) then ((uld ((xs.map low).map ch).reverse [] ((ys.map low).map ch)).2.length : Int) else ((uld ((xs.map low).map ch).reverse [] ((ys.map low).map ch)).1.length : Int)) = (bagOf xs ys : Int) + (bagOf (xs.map low) (ys.map low) : Int) := by
      unfold bagOf
      (repeat' split) <;> omega
    rw [hbag] at F14
    refine w_out _ F14 (by assumption) (by kst_in) (by kst_all) (by ksw_same) trivial
    --]
  clear F5 N6
  rintro tb u2 h2 tk2 _ F5 N6
  dsimp only [kstB] at F5
  ktr_unf
  rename Fr _ _ _ _ => F6
  rename News _ _ _ _ => N7
  rename_i ld hA9 hld hB9 tkA lh hC9 hlh hD9
  have hlds : ld < lh := hlh.1
  have hcl : ∀ p ∈ [(L + 1 + 1 + 1, oS), (L + 1 + 1, oT'), (L + 1, oO')], p.1 < ld := by
    intro p hp
    simp only [List.mem_cons, List.mem_nil_iff, or_false] at hp
    rcases hp with rfl | rfl | rfl
    · exact hld.1
    · exact hld.2.1
    · exact hld.2.2
  -- the pairs
  refine st_join (σ := List (Addr × Obj) × (List Value × Nat) × (List Value × Nat)) F6 (fun c => (ld, listOf c.2.1.1.toArray c.2.1.2) :: (lh, listOf c.2.2.1.toArray c.2.2.2) :: ([(L + 1 + 1 + 1, oS), (L + 1 + 1, oT'), (L + 1, oO')] ++ c.1)) (fun _ => []) [Str.ofString "i", Str.ofString "j"]
    (fun c => TAll c.1 c.2.1.1 (pairKeys xs ys xs.length) ∧ TAll c.1 c.2.2.1 (pairKeys xs ys xs.length) ∧ (∀ p ∈ c.1, lh < p.1)) ?_ ?_
  · --[
    refine for_inv F6 (by with_unfolding_all rfl) (by with_unfolding_all rfl) (by intro _; with_unfolding_all rfl) (by passes_own) ?_
    ktr_unf
    refine range1_rows (by assumption) N7 ?_
    intro hr tkr _ _ _ hR F7 N8 _
    rw [lx] at hR
    ktr_unf
    refine range_loop (σ := List (Addr × Obj) × (List Value × Nat) × (List Value × Nat)) (fun c => (ld, listOf c.2.1.1.toArray c.2.1.2) :: (lh, listOf c.2.2.1.toArray c.2.2.2) :: ([(L + 1 + 1 + 1, oS), (L + 1 + 1, oT'), (L + 1, oO')] ++ c.1)) (fun _ => [])
      (fun i c => TAll c.1 c.2.1.1 (pairKeys xs ys i) ∧ TAll c.1 c.2.2.1 (pairKeys xs ys i) ∧ (∀ p ∈ c.1, lh < p.1)) [Str.ofString "j"] ([], ([], 0), ([], 0)) rfl hR (by omega) F7 N8 (by kst_in) ⟨.nil, .nil, fun _ h => (nomatch h)⟩ (by kst_all) ?_ ?_
    all_goals clear F7 N8 hR
    · intro i tv c u h tk I own hi hltI hown hIo hoffI hinv F7 N8
      obtain ⟨tl, ⟨dv, dk⟩, ⟨hv, hk⟩⟩ := c
      obtain ⟨i1, i2, i3⟩ := hinv
      (try dsimp only at i1 i2 i3 N8)
      dsimp only [kstB] at F7
      ktr_unf
      rename Fr _ _ _ _ => F7
      refine for_inv F7 (by with_unfolding_all rfl) (by with_unfolding_all rfl) (by intro _; with_unfolding_all rfl) (by passes_own) ?_
      ktr_unf
      refine range1_rows (by assumption) N8 ?_
      intro hr tkr _ _ _ hR F8 N9 _
      rw [ly] at hR
      ktr_unf
      refine range_loop (σ := List (Addr × Obj) × (List Value × Nat) × (List Value × Nat)) (fun c => (ld, listOf c.2.1.1.toArray c.2.1.2) :: (lh, listOf c.2.2.1.toArray c.2.2.2) :: ([(L + 1 + 1 + 1, oS), (L + 1 + 1, oT'), (L + 1, oO')] ++ (own ++ c.1))) (fun _ => [])
        (fun j c => TAll c.1 c.2.1.1 (pairKeys xs ys i ++ rowKeys xs ys i j) ∧ TAll c.1 c.2.2.1 (pairKeys xs ys i ++ rowKeys xs ys i j) ∧ (∀ p ∈ c.1, lh < p.1 ∧ p.1 ≠ I)) [] (tl, (dv, dk), (hv, hk)) rfl hR (by omega) F8 N9 ?_ ⟨by simpa [rowKeys] using i1, by simpa [rowKeys] using i2, ?_⟩ (by kst_all) ?_ ?_
      · ((try dsimp only); tb_rel)
      · intro p hp
        exact ⟨i3 p hp, hoffI p (.tail _ (.tail _ (List.mem_append_right _ hp)))⟩
      all_goals clear F8 N9 hR
      · intro j tvj c u' h' tk' I2 own2 hj hltI2 hown2 hIo2 hoffI2 hinv F8 N9
        obtain ⟨tl2, ⟨dv2, dk2⟩, ⟨hv2, hk2⟩⟩ := c
        obtain ⟨j1, j2, j3⟩ := hinv
        (try dsimp only at j1 j2 j3 N9)
        dsimp only [kstB] at F8
        have hxc : xs.getD (i : Int).toNat 0 ∈ signs := by rw [Int.toNat_natCast, getD_at hi]; exact hxs _ (List.getElem_mem _)
        have hyc : ys.getD (j : Int).toNat 0 ∈ signs := by rw [Int.toNat_natCast, getD_at hj]; exact hys _ (List.getElem_mem _)
        ktr_unf
        rename News _ _ _ _ => N10
        rw [item_at (l := xs) (by omega) (by omega), item_at (l := ys) (by omega) (by omega)]
        refine c_cost (by assumption) (by assumption) (by assumption) (by assumption) rfl N10 hxc hyc (by decide +kernel) (by decide +kernel) ?_
        clear N10
        intro tc hc tkc F9 N10
        have hR1 : ∀ p ∈ ([(L + 1 + 1 + 1, oS), (L + 1 + 1, oT'), (L + 1, oO')] ++ (own ++ tl2)) ++ own2, p.1 ≠ ld ∧ p.1 ≠ lh := by
          intro p hp
          rcases List.mem_append.mp hp with hp | hp
          · rcases List.mem_append.mp hp with hp | hp
            · have := hcl p hp
              exact ⟨Nat.ne_of_lt this, Nat.ne_of_lt (Nat.lt_trans this hlds)⟩
            · rcases List.mem_append.mp hp with hp | hp
              · rw [hown p hp]
                exact ⟨fun e => hoffI (ld, listOf dv.toArray dk) (.head _) e.symm, fun e => hoffI (lh, listOf hv.toArray hk) (.tail _ (.head _)) e.symm⟩
              · have := (j3 p hp).1
                exact ⟨Nat.ne_of_gt (Nat.lt_trans hlds this), Nat.ne_of_gt this⟩
          · rw [hown2 p hp]
            exact ⟨fun e => hoffI2 (ld, listOf dv2.toArray dk2) (.head _) e.symm, fun e => hoffI2 (lh, listOf hv2.toArray hk2) (.tail _ (.head _)) e.symm⟩
        ktr_unf
        rename News _ _ _ _ => N11
        rename_i D1 hh1 FF1 hlt1
        have hD1 : ld < D1 ∧ lh < D1 := ⟨hlt1 _ (.head _), hlt1 _ (.tail _ (.head _))⟩
        have hDI : D1 ≠ I ∧ D1 ≠ I2 := by
          obtain ⟨oI, hoI⟩ := hIo
          obtain ⟨oI2, hoI2⟩ := hIo2
          exact ⟨Nat.ne_of_gt (hlt1 (I, oI) (by simp [hoI])), Nat.ne_of_gt (hlt1 (I2, oI2) (by simp [hoI2]))⟩
        have hdl : dv2.length < 1000 ∧ hv2.length < 1000 := by
          have e1 := j1.length
          have e2 := j2.length
          rw [List.length_append, pairKeys_len, rowKeys_len] at e1 e2
          have : i * ys.length ≤ 3 * 5 := Nat.mul_le_mul (by omega) hy1
          omega
        refine l_append (by assumption) (news_swap N11) ?_ hdl.1 ?_
        · intro p hp
          rcases List.mem_cons.mp hp with rfl | hp
          · exact Nat.ne_of_gt hD1.1
          · rcases List.mem_cons.mp hp with rfl | hp
            · exact Nat.ne_of_gt hlds
            · exact (hR1 p hp).1
        clear N11 FF1
        intro hh2 F10 N11
        ktr_unf
        rename News _ _ _ _ => N12
        rw [item_at (l := xs) (by omega) (by omega), item_at (l := ys) (by omega) (by omega)]
        refine c_sub (by assumption) (by assumption) (by assumption) (by assumption) rfl N12 hxc hyc (by decide +kernel) (by decide +kernel) ?_
        clear N12
        intro ts hs tks F11 N12
        ktr_unf
        rename News _ _ _ _ => N13
        rename_i D2 hh3 FF2 hlt2
        have hD2 : ld < D2 ∧ lh < D2 ∧ D1 < D2 := ⟨hlt2.1, kst_ltOf hlt2.2.2 _ (.head _), hlt2.2.1⟩
        have hD2I : D2 ≠ I ∧ D2 ≠ I2 := by
          obtain ⟨oI, hoI⟩ := hIo
          obtain ⟨oI2, hoI2⟩ := hIo2
          exact ⟨Nat.ne_of_gt (kst_ltOf hlt2.2.2 (I, oI) (by simp [hoI])), Nat.ne_of_gt (kst_ltOf hlt2.2.2 (I2, oI2) (by simp [hoI2]))⟩
        refine l_append (by assumption) (news_fourth N13) ?_ hdl.2 ?_
        · intro p hp
          rcases List.mem_cons.mp hp with rfl | hp
          · exact Nat.ne_of_gt hD2.2.1
          · rcases List.mem_cons.mp hp with rfl | hp
            · exact Nat.ne_of_lt hlds
            · rcases List.mem_cons.mp hp with rfl | hp
              · exact Nat.ne_of_gt hD1.2
              · exact (hR1 p hp).2
        clear N13 FF2
        intro hh4 F12 N13
        ktr_unf
        rename News _ _ _ _ => N14
        rename Fr _ _ _ _ => F13
        refine f_end ((D2, tupObj #[.int (sc (xs.getD (i : Int).toNat 0) (ys.getD (j : Int).toNat 0)) ts, .int (i : Int) tv, .int (j : Int) tvj] 0) :: (D1, tupObj #[.int (sc (xs.getD (i : Int).toNat 0) (ys.getD (j : Int).toNat 0)) tc, .int (i : Int) tv, .int (j : Int) tvj] 0) :: tl2, (dv2 ++ [.ref D1], dk2 + 1), (hv2 ++ [.ref D2], hk2 + 1)) F13 N14 ?_ ?_ ?_ (by kst_all) (by kst_same) ⟨?_, ?_, ?_⟩
        · ((try dsimp only); (try simp only [List.append_eq]); tb_rel)
        · intro p hp
          simp [hp]
        · intro p hp q
          have q := List.mem_singleton.mp q
          simp only [List.mem_cons, List.mem_append, List.cons_append, List.nil_append, List.not_mem_nil, or_false, false_or, or_assoc] at hp
          rcases hp with rfl | rfl | rfl | rfl | rfl | hp | rfl | rfl | hp
          · exact hoffI2 (ld, listOf dv2.toArray dk2) (.head _) q
          · exact hoffI2 (lh, listOf hv2.toArray hk2) (.tail _ (.head _)) q
          · exact hoffI2 (L + 1 + 1 + 1, oS) (by simp) q
          · exact hoffI2 (L + 1 + 1, oT') (by simp) q
          · exact hoffI2 (L + 1, oO') (by simp) q
          · exact hoffI2 p (by simp [hp]) q
          · exact hD2I.2 q
          · exact hDI.2 q
          · exact hoffI2 p (by simp [hp]) q
        · dsimp only
          rw [rowKeys_succ, ← List.append_assoc]
          refine (j1.mono (by intro p hp; simp [hp])).append (.cons ⟨D1, 0, tc, tv, tvj, rfl, ?_⟩ .nil)
          simp
        · dsimp only
          rw [rowKeys_succ, ← List.append_assoc]
          refine (j2.mono (by intro p hp; simp [hp])).append (.cons ⟨D2, 0, ts, tv, tvj, rfl, ?_⟩ .nil)
          simp
        · intro p hp
          dsimp only at hp
          rcases List.mem_cons.mp hp with rfl | hp
          · exact ⟨hD2.2.1, hD2I.1⟩
          · rcases List.mem_cons.mp hp with rfl | hp
            · exact ⟨hD1.2, hDI.1⟩
            · exact j3 p hp
      · intro c u' h' tk' hinv F8 N9
        obtain ⟨tl2, ⟨dv2, dk2⟩, ⟨hv2, hk2⟩⟩ := c
        obtain ⟨j1, j2, j3⟩ := hinv
        (try dsimp only at j1 j2 j3 N9)
        dsimp only [kstB] at F8
        ktr_unf
        refine f_end (tl2, (dv2, dk2), (hv2, hk2)) F8 N9 ?_ ?_ ?_ (by kst_all) (by kst_same) ⟨?_, ?_, fun p hp => (j3 p hp).1⟩
        · ((try dsimp only); tb_rel)
        · intro p hp
          simp [hp]
        · intro p hp q
          have q := List.mem_singleton.mp q
          simp only [List.mem_cons, List.mem_append, List.cons_append, List.nil_append, List.not_mem_nil, or_false, false_or, or_assoc] at hp
          rcases hp with rfl | rfl | rfl | rfl | rfl | hp
          · exact hoffI (ld, listOf dv.toArray dk) (.head _) q
          · exact hoffI (lh, listOf hv.toArray hk) (.tail _ (.head _)) q
          · exact hoffI (L + 1 + 1 + 1, oS) (by simp) q
          · exact hoffI (L + 1 + 1, oT') (by simp) q
          · exact hoffI (L + 1, oO') (by simp) q
          · exact (j3 p hp).2 q
        · rw [pairKeys_succ]; exact j1
        · rw [pairKeys_succ]; exact j2
    · intro c u h tk hinv F7 N8
      obtain ⟨tl, ⟨dv, dk⟩, ⟨hv, hk⟩⟩ := c
      (try dsimp only at hinv N8)
      dsimp only [kstB] at F7
      ktr_unf
      refine w_out (tl, (dv, dk), (hv, hk)) (by assumption) N8 (fun _ h => h) (by kst_all) (by ksw_same) hinv
    --]
  clear F6 N7
  rintro ⟨tl, ⟨dv, dk⟩, ⟨hv, hk⟩⟩ u3 h3 tk3 ⟨i1, i2, i3⟩ F6 N7
  (try dsimp only at i1 i2 i3 N7)
  dsimp only [kstB] at F6
  have hlen : (pairKeys xs ys xs.length).length ≤ 15 := by
    rw [pairKeys_len]
    exact Nat.mul_le_mul hx1 hy1
  have hdl : dv.length ≤ 15 := by rw [i1.length]; exact hlen
  have hhl : hv.length ≤ 15 := by rw [i2.length]; exact hlen
  have hT : ∀ v ∈ hv, TIn tl v (kfOf tl v) := fun v hv' => by
    obtain ⟨k, _, ht⟩ := i2.mem v hv'
    exact kfOf_in ht
  have hTd : ∀ v ∈ dv, TIn tl v (kfOf tl v) := fun v hv' => by
    obtain ⟨k, _, ht⟩ := i1.mem v hv'
    exact kfOf_in ht
  have Ntl : News s₁.heap L h3 tl := fun p hp => N7 p (by simp [hp])
  have hkh : hv.map (kfOf tl) = pairKeys xs ys xs.length := i2.kf Ntl
  have hkd : dv.map (kfOf tl) = pairKeys xs ys xs.length := i1.kf Ntl
  clear Ntl
  have hcells : ∀ p ∈ [(L + 1 + 1 + 1, oS), (L + 1 + 1, oT'), (L + 1, oO')] ++ tl, p.1 ≠ ld ∧ p.1 ≠ lh := by
    intro p hp
    rcases List.mem_append.mp hp with hp | hp
    · have := hcl p hp
      exact ⟨Nat.ne_of_lt this, Nat.ne_of_lt (Nat.lt_trans this hlds)⟩
    · have := i3 p hp
      exact ⟨Nat.ne_of_gt (Nat.lt_trans hlds this), Nat.ne_of_gt this⟩
  ktr_unf
  refine c_heapify (by assumption) (by assumption) (by assumption) (by assumption) rfl (news_swap N7) ?_ (kf := kfOf tl) ?_ (by omega) (by decide +kernel) (by decide +kernel) ?_
  · intro p hp
    rcases List.mem_cons.mp hp with rfl | hp
    · exact Nat.ne_of_lt hlds
    · exact (hcells p hp).2
  · intro v hv'
    exact (hT v hv').mono (by intro p hp; simp [hp])
  clear N7
  intro h4 tk4 F7 N7
  ktr_unf
  rename Fr _ _ _ _ => F8
  rename News _ _ _ _ => N8
  rename_i lo9 hA4 hlo hB4 tkC lm9 hC4 hlm hD4
  refine range1_rows F8 N8 ?_
  intro hr tkr _ _ _ hR F10 N10 _
  rw [lx] at hR
  ktr_unf
  refine l_listRange rfl F10 N10 hR (by omega) (by omega) (by omega) (by omega) (by omega) (by omega) (range_one _) (by omega) ?_
  clear F10 N10 hR F8 N8
  intro la h5 tk5 av ak F8 N8 hlta hai
  rw [rangeInts_one] at hai
  ktr_unf
  rename Fr _ _ _ _ => F10
  rename News _ _ _ _ => N10
  refine range1_rows F10 N10 ?_
  clear F10 N10
  intro hr tkr _ _ _ hR F10 N10 _
  rw [ly] at hR
  ktr_unf
  refine l_listRange rfl F10 N10 hR (by omega) (by omega) (by omega) (by omega) (by omega) (by omega) (range_one _) (by omega) ?_
  clear F10 N10 hR
  intro lb h6 tk6 bv bk F10 N10 hltb hbi
  rw [rangeInts_one] at hbi
  ktr_unf
  rename Fr _ _ _ _ => F11
  rename News _ _ _ _ => N11
  have hOrd : ∀ tm : List (Addr × Obj), (∀ p ∈ tm, lb < p.1) → Ord ld lh lo9 lm9 la lb [(L + 1 + 1 + 1, oS), (L + 1 + 1, oT'), (L + 1, oO')] tl tm := by
    intro tm htm
    exact ⟨hlds, hlo.1, hlm.1, hlta _ (.head _), hltb _ (.head _), hcl, fun p hp => ⟨i3 p hp, kst_ltOf hlo.2.2 p (List.mem_append_right _ hp)⟩, htm⟩
  obtain ⟨hv0, hhv0⟩ : ∃ hv0, hv0 = heapifyP (kltV (kfOf tl)) Value.none hv := ⟨_, rfl⟩
  rw [← hhv0] at N11 hlta hltb
  have hp0 : hv0.Perm hv := by rw [hhv0]; exact heapify_perm _
  have hT0 : ∀ v ∈ hv0, TIn tl v (kfOf tl v) := fun v hv' => hT v (hp0.mem_iff.mp hv')
  have hl0 : hv0.length ≤ 15 := by rw [hp0.length_eq]; exact hhl
  refine ksw_while (σ := (List Value × Nat) × (List Value × Nat) × (List Value × Nat) × (List Value × Nat) × (List Value × Nat) × List (Addr × Obj) × GS × Tok)
    (fun c => (lh, listOf c.1.1.toArray c.1.2) :: (lo9, listOf c.2.1.1.toArray c.2.1.2) :: (la, listOf c.2.2.1.1.toArray c.2.2.1.2) :: (lb, listOf c.2.2.2.1.1.toArray c.2.2.2.1.2) :: (lm9, listOf c.2.2.2.2.1.1.toArray c.2.2.2.2.1.2) :: (ld, listOf dv.toArray dk) :: ([(L + 1 + 1 + 1, oS), (L + 1 + 1, oT'), (L + 1, oO')] ++ (tl ++ c.2.2.2.2.2.1)))
    (fun c => [(Str.ofString "price", .int c.2.2.2.2.2.2.1.2.2.2 c.2.2.2.2.2.2.2)])
    (fun c => (∀ v ∈ c.1.1, TIn tl v (kfOf tl v)) ∧ (∀ v ∈ c.2.1.1, TIn tl v (kfOf tl v)) ∧ c.1.1.length + c.2.1.1.length ≤ 15 ∧ IntsAre c.2.2.1.1 c.2.2.2.2.2.2.1.1 ∧ IntsAre c.2.2.2.1.1 c.2.2.2.2.2.2.1.2.1 ∧ PAll c.2.2.2.2.2.1 c.2.2.2.2.1.1 c.2.2.2.2.2.2.1.2.2.1 ∧ (∀ p ∈ c.2.2.2.2.2.1, lb < p.1) ∧ c.2.2.1.1.length ≤ 3 ∧ c.2.2.2.1.1.length ≤ 5 ∧ c.2.2.2.2.1.1.length + c.1.1.length ≤ 15)
    [Str.ofString "pair", Str.ofString "cost", Str.ofString "here", Str.ofString "there"]
    (fun c => c.2.1.1 ++ popSeq (kltV (kfOf tl)) .none c.1.1 = popSeq (kltV (kfOf tl)) .none hv0 ∧ c.2.2.2.2.2.2.1 = (c.2.1.1.map (kfOf tl)).foldl gStep ((List.range xs.length).map (fun (i : Nat) => (i : Int)), (List.range ys.length).map (fun (i : Nat) => (i : Int)), [], 0))
    (fun c => c.1.1.length)
    ((hv0, hk), ([], 0), (av, ak), (bv, bk), ([], 0), [], ((List.range xs.length).map (fun (i : Nat) => (i : Int)), (List.range ys.length).map (fun (i : Nat) => (i : Int)), [], 0), _) F11 ?_ ?_ (by kst_all) ?_ ?_ (by passes_own)
  · refine kst_newsOf N11 ?_
    ((try dsimp only); tb_rel)
  · refine ⟨hT0, fun _ h => (nomatch h), by simpa using hl0, hai, hbi, .nil, fun _ h => (nomatch h), ?_, ?_, by simpa using hl0⟩
    · show av.length ≤ 3; have := hai.length; simp only [List.length_map, List.length_range] at this; omega
    · show bv.length ≤ 5; have := hbi.length; simp only [List.length_map, List.length_range] at this; omega
  · exact ⟨by simp, by simp⟩
  · --{
    clear F11 N11
    rintro ⟨⟨gv, gk⟩, ⟨ov, ok⟩, ⟨av2, ak2⟩, ⟨bv2, bk2⟩, ⟨mv, mk⟩, tm, ⟨als, bls, ms, pr⟩, tp⟩ u5 h7 tk7 ⟨f1, f2, f3, f4, f5, f6, f7, f8, f9, f10⟩ ⟨q1, q2⟩ F11 N11
    dsimp only at f1 f2 f3 f4 f5 f6 f7 f8 f9 f10 q1 q2 N11
    dsimp only [kstB] at F11
    dsimp only
    have hu : callerA.units + 3 + 64 < cLine := by decide +kernel
    ktr_unf
    rename News _ _ _ _ => N12
    refine l_neKeys (kf := kfOf tl) (xs := gv) (ys := []) (n₁ := tl) (n₂ := []) N12 (.tail _ (.head _)) (.head _) f1 (fun _ h => (nomatch h)) (by intro p hp; simp [hp]) (fun _ h => (nomatch h)) hu ?_
    have hN13 := kst_newsOf N12 (fun p hp => List.mem_cons_of_mem _ hp)
    clear N12
    have eg : (!decide (gv.map (kfOf tl) = [].map (kfOf tl))) = decide (gv ≠ []) := by cases gv <;> simp
    rw [eg]
    ktr_unf
    · --[
      (rename (gv ≠ []) => hgne)
      obtain ⟨gs, g, rfl⟩ : ∃ gs g, gv = gs ++ [g] := ⟨gv.dropLast, gv.getLast hgne, (List.dropLast_concat_getLast hgne).symm⟩
      have O := hOrd tm f7
      simp only [List.length_append, List.length_cons, List.length_nil] at f3 f10
      refine c_heappop (by assumption) (by assumption) (by assumption) (by assumption) rfl hN13 O.off_lh (kf := kfOf tl) ?_ (by omega) (by decide +kernel) (by decide +kernel) ?_
      · intro v hv'
        exact (f1 v hv').mono (by intro p hp; simp [hp])
      clear hN13
      intro h8 tk8 gk2 F12 N12
      have hgp := hpop_perm (lt := kltV (kfOf tl)) (d := Value.none) gs g
      obtain ⟨x0, hx0⟩ : ∃ x0, x0 = (hpop (kltV (kfOf tl)) Value.none gs g).1 := ⟨_, rfl⟩
      obtain ⟨g2, hg2⟩ : ∃ g2, g2 = (hpop (kltV (kfOf tl)) Value.none gs g).2 := ⟨_, rfl⟩
      have hps : popSeq (kltV (kfOf tl)) .none (gs ++ [g]) = x0 :: popSeq (kltV (kfOf tl)) .none g2 := by rw [popSeq_snoc, hx0, hg2]
      have hg2l : g2.length = gs.length := by rw [hg2]; exact hpop_length _ _
      rw [← hx0]
      rw [← hg2] at N12
      rw [← hx0, ← hg2] at hgp
      have hx0T : TIn tl x0 (kfOf tl x0) := f1 x0 (hgp.mem_iff.mp (.head _))
      have hg2T : ∀ v ∈ g2, TIn tl v (kfOf tl v) := fun v hv' => f1 v (hgp.mem_iff.mp (.tail _ hv'))
      clear hgp hx0 hg2
      obtain ⟨x9, n9, t91, t92, t93, ex9, hm9⟩ := id hx0T
      subst ex9
      obtain ⟨⟨kc, ki, kj⟩, hkey⟩ : ∃ k, k = kfOf tl (.ref x9) := ⟨_, rfl⟩
      rw [← hkey] at hm9
      ktr_unf
      rename News _ _ _ _ => N13
      refine l_append (by assumption) (news_swap N13) O.off_lo (by omega) ?_
      clear N13
      intro h9 F13 N13
      have N14 := news_in N13 (a := (x9, tupObj #[.int kc t91, .int ki t92, .int kj t93] n9)) (by simp [hm9])
      clear N13
      have hovT : ∀ v ∈ ov ++ [Value.ref x9], TIn tl v (kfOf tl v) := by
        intro v hv'
        rcases List.mem_append.mp hv' with h | h
        · exact f2 v h
        · rw [List.mem_singleton.mp h]; exact hx0T
      ktr_unf
      rename News _ _ _ _ => N15
      refine l_inInts N15 (.tail _ (.tail _ (.tail _ (.head _)))) f4 hu ?_
      ktr_unf
      · (rename (ki ∈ als) => hin1)
        refine l_inInts N15 (.tail _ (.tail _ (.tail _ (.tail _ (.head _))))) f5 hu ?_
        ktr_unf
        · (rename (kj ∈ bls) => hin2)
          have lal := f4.length
          have lbl := f5.length
          refine l_removeInt (by assumption) (news_third (news_drop N15)) O.off_la f4 (by omega) hin1 ?_
          clear N15
          intro h10 av3 g4 F14 N15
          ktr_unf
          rename News _ _ _ _ => N16
          refine l_removeInt (by assumption) (news_fourth N16) O.off_lb f5 (by omega) hin2 ?_
          clear N16
          intro h11 bv3 g5 F15 N16
          ktr_unf
          rename News _ _ _ _ => N17
          rename_i D9 hh9 FF9 hlt9
          have hD9 : lb < D9 := hlt9.1
          have f7' : ∀ p ∈ (D9, tupObj #[.int kj t93, .int ki t92] 0) :: tm, lb < p.1 := by
            intro p hp
            rcases List.mem_cons.mp hp with rfl | hp
            · exact hD9
            · exact f7 p hp
          have O' := hOrd _ f7'
          have N18 : News s₁.heap L _ ((lm9, listOf mv.toArray mk) :: (lb, listOf bv3.toArray (bk2 + 1)) :: (la, listOf av3.toArray (ak2 + 1)) :: (lo9, listOf (ov ++ [Value.ref x9]).toArray (ok + 1)) :: (lh, listOf g2.toArray gk2) :: (ld, listOf dv.toArray dk) :: ([(L + 1 + 1 + 1, oS), (L + 1 + 1, oT'), (L + 1, oO')] ++ (tl ++ ((D9, tupObj #[.int kj t93, .int ki t92] 0) :: tm)))) := kst_newsOf N17 (by ((try dsimp only); tb_rel))
          clear N17
          refine l_append (by assumption) N18 O'.off_lm (by omega) ?_
          clear N18
          intro h12 F16 N18
          ktr_unf
          have e4 := g4.length
          have e5 := g5.length
          have e6 := List.length_erase_of_mem hin1
          have e7 := List.length_erase_of_mem hin2
          rename News _ _ _ _ => N19
          refine ksw_end ((g2, gk2), (ov ++ [.ref x9], ok + 1), (av3, ak2 + 1), (bv3, bk2 + 1), (mv ++ [.ref D9], mk + 1), (D9, tupObj #[.int kj t93, .int ki t92] 0) :: tm, (als.erase ki, bls.erase kj, ms ++ [(kj, ki)], pr + kc), _) (by assumption) N19 ?_ ⟨hg2T, hovT, ?_, g4, g5, ?_, f7', ?_, ?_, ?_⟩ (by kst_all) (by ksw_same) ⟨?_, ?_⟩ ?_
          · ((try dsimp only); tb_rel)
          · dsimp only; simp only [List.length_append, List.length_cons, List.length_nil]; omega
          · dsimp only
            refine (f6.mono (by intro p hp; simp [hp])).append (.cons ⟨D9, 0, t93, t92, rfl, ?_⟩ .nil)
            simp
          · dsimp only; omega
          · dsimp only; omega
          · dsimp only; simp only [List.length_append, List.length_cons, List.length_nil]; omega
          · dsimp only
            rw [List.append_assoc, ← q1, hps]; rfl
          · dsimp only
            rw [List.map_append, List.foldl_append, ← q2]
            show _ = gStep (als, bls, ms, pr) (kfOf tl (.ref x9))
            rw [← hkey, gStep, if_pos ⟨hin1, hin2⟩]
          · dsimp only
            simp only [List.length_append, List.length_cons, List.length_nil]; omega
        · (rename (¬ kj ∈ bls) => hin2)
          refine ksw_end ((g2, gk2), (ov ++ [.ref x9], ok + 1), (av2, ak2), (bv2, bk2), (mv, mk), tm, (als, bls, ms, pr), tp) (by assumption) N15 ?_ ⟨hg2T, hovT, ?_, f4, f5, f6, f7, f8, f9, ?_⟩ (by kst_all) (by ksw_same) ⟨?_, ?_⟩ ?_
          · ((try dsimp only); tb_rel)
          · dsimp only; simp only [List.length_append, List.length_cons, List.length_nil]; omega
          · dsimp only; omega
          · dsimp only
            rw [List.append_assoc, ← q1, hps]; rfl
          · dsimp only
            rw [List.map_append, List.foldl_append, ← q2]
            show (als, bls, ms, pr) = gStep (als, bls, ms, pr) (kfOf tl (.ref x9))
            rw [← hkey, gStep, if_neg (by intro hq; exact hin2 hq.2)]
          · dsimp only
            simp only [List.length_append, List.length_cons, List.length_nil]; omega
      · (rename (¬ ki ∈ als) => hin1)
        refine ksw_end ((g2, gk2), (ov ++ [.ref x9], ok + 1), (av2, ak2), (bv2, bk2), (mv, mk), tm, (als, bls, ms, pr), tp) (by assumption) N15 ?_ ⟨hg2T, hovT, ?_, f4, f5, f6, f7, f8, f9, ?_⟩ (by kst_all) (by ksw_same) ⟨?_, ?_⟩ ?_
        · ((try dsimp only); tb_rel)
        · dsimp only; simp only [List.length_append, List.length_cons, List.length_nil]; omega
        · dsimp only; omega
        · dsimp only
          rw [List.append_assoc, ← q1, hps]; rfl
        · dsimp only
          rw [List.map_append, List.foldl_append, ← q2]
          show (als, bls, ms, pr) = gStep (als, bls, ms, pr) (kfOf tl (.ref x9))
          rw [← hkey, gStep, if_neg (by intro hq; exact hin1 hq.1)]
        · dsimp only
          simp only [List.length_append, List.length_cons, List.length_nil]; omega
      --]
    · (rename (¬ gv ≠ []) => hgv)
      have hgv := Classical.not_not.mp hgv
      subst hgv
      rw [popSeq_nil, List.append_nil] at q1
      rename Fr _ _ _ _ => F12
      refine l_sortedT (tl := tl) (kf := fun v => [(kfOf tl v).1, (kfOf tl v).2.1, (kfOf tl v).2.2]) F12 hN13 (.tail _ (.tail _ (.tail _ (.tail _ (.tail _ (.head _)))))) (fun v hv' => (hTd v hv').tl) (by intro p hp; simp [hp]) (by omega) ?_
      clear F12 hN13
      intro lS h8 sv se F12 N12 hltS hpS hsS
      ktr_unf
      rename News _ _ _ _ => N13
      rw [hhv0] at q1
      have hkeys : ov.map (kfOf tl) = sv.map (kfOf tl) := by
        rw [q1]; exact keys_eq hkh hkd hpS hsS
      have hokp : (ov.map (kfOf tl)).Perm (pairKeys xs ys xs.length) := by
        rw [q1]; exact ks_perm hkh
      have hoks : (ov.map (kfOf tl)).Pairwise (fun u v => klt v u = false) := by
        rw [q1]; exact pop_keys
      refine l_neKeys (kf := kfOf tl) (xs := ov) (ys := sv) (n₁ := tl) (n₂ := tl) N13 (.tail _ (.tail _ (.head _))) (.head _) f2 (fun v hv' => hTd v (hpS.mem_iff.mp hv')) (by intro p hp; simp [hp]) (by intro p hp; simp [hp]) hu ?_
      rw [decide_eq_true hkeys]
      dsimp only [Bool.not_true]
      ktr_unf
      refine l_len N13 (.tail _ (.tail _ (.tail _ (.head _)))) (by omega) ?_
      intro tl1 tkl1
      ktr_unf
      refine l_len N13 (.tail _ (.tail _ (.tail _ (.tail _ (.head _))))) (by omega) ?_
      intro tl2 tkl2
      rw [f4.length, f5.length]
      ktr_unf
      rename Fr _ _ _ _ => F13
      rename News _ _ _ _ => N13
      refine LCg.ListComp_U F13 (by with_unfolding_all rfl) (by decide) (by rfl) (by decide) (by rfl) ?_
      ktr_unf
      refine l_sortedP (tl := tm) F13 N13 (.tail _ (.tail _ (.tail _ (.tail _ (.tail _ (.head _)))))) f6 (by intro p hp; simp [hp]) (by omega) ?_
      clear N13
      intro lM h9 mv2 ms2 me F14 N14 hltM hpM hpm2 hsM
      refine LCg.CompSrc.ledger rfl F14 N14 (.head _) (by rw [sizeLine_eq]; have := hpM.length; have := hpm2.length_eq; have := f6.length; simp only [List.size_toArray]; omega) ?_
      intro g9
      refine lc_rest (fun v y => ∃ k t, PIn tm v k ∧ y = Value.int k.2 t) ?_ ?_
      · intro v hv I oI C oC D m₂ ys2 h tk E' hC hx F N off ne
        obtain ⟨k9, _, x9, n9, t91, t92, rfl, hm9⟩ := hpM.mem v hv
        have N9 := news_in N (a := (x9, tupObj #[.int k9.1 t91, .int k9.2 t92] n9)) (by simp [hm9])
        clear N
        clear F13 F14 N14
        ktr_unf
        rename News _ _ _ _ => N9
        rename Fr _ _ _ _ => F9
        refine LCg.CompEnd.intro F9 N9 _ (fun p hp => List.mem_cons_of_mem _ hp) off (Or.inr ⟨_, .head _, rfl, _, rfl⟩) ⟨rfl, k9, t92, ⟨x9, n9, t91, t92, rfl, hm9⟩, rfl⟩
      · intro rv hrv D h tk F15 N15 offD
        clear F13 F14 N14
        have hrvI : IntsAre rv (ms2.map Prod.snd) := row_ints (fun p hp => N15 p (by simp [hp])) hpM hrv
        have hgp := g_perm q2
        have hms2 : ms2.length ≤ 15 := by have := hpm2.length_eq; have := f6.length; omega
        have halen := f4.length
        ktr_unf
        rename Fr _ _ _ _ => F15
        rename News _ _ _ _ => N15
        rename IntsAre _ (_ ++ _) => hrow
        have hrp : (ms2.map Prod.snd ++ als).Perm ((List.range xs.length).map fun (i : Nat) => (i : Int)) := ((hpm2.map _).append_right _).trans hgp.1
        have hrl : (ms2.map Prod.snd ++ als).length = xs.length := by rw [hrp.length_eq]; simp
        have hrlv := hrow.length
        rename_i lR rwv _ _ _
        have hidx : ∀ v ∈ rwv, ∃ k t, v = Value.int k t ∧ 0 ≤ k ∧ k < xs.length := by
          intro v hv
          obtain ⟨i, hi⟩ := List.mem_iff_getElem?.mp hv
          obtain ⟨n, t, e, hn⟩ := hrow.at i v hi
          have := hrp.mem_iff.mp (List.mem_of_getElem? hn)
          obtain ⟨j, hj, rfl⟩ := List.mem_map.mp this
          have := List.mem_range.mp hj
          exact ⟨_, t, e, by omega, by omega⟩
        refine LCg.ListComp_U F15 (by with_unfolding_all rfl) (by decide) (by rfl) (by decide) (by rfl) ?_
        ktr_unf
        refine LCg.CompSrc.ledger rfl F15 N15 (.head _) (by rw [sizeLine_eq]; simp only [List.size_toArray]; omega) ?_
        intro g10
        refine lc_rest (fun v y => ∃ k t t', v = Value.int k t ∧ y = Value.str (ch (xs.getD k.toNat 0)) t') ?_ ?_
        · intro v hv I oI C oC D m₂ ys2 h tk E' hC hx F N off ne
          clear F15 N15
          obtain ⟨k9, t9, rfl, hk0, hk1⟩ := hidx v hv
          ktr_unf
          rw [item_at hk0 hk1]
          rename News _ _ _ _ => N9
          rename Fr _ _ _ _ => F9
          refine LCg.CompEnd.intro F9 N9 _ (fun p hp => hp) off (Or.inr ⟨_, .head _, rfl, _, rfl⟩) ⟨rfl, k9, t9, _, rfl, rfl⟩
        · intro tv htv D h tk F16 N16 offD
          clear F15 N15
          have hts : StrsAre tv (((ms2.map Prod.snd ++ als).map fun k => xs.getD k.toNat 0).map ch) := row_strs hrow htv
          have htl := StrsAre.length' hts
          obtain ⟨rt, hrt⟩ : ∃ rt, rt = (ms2.map Prod.snd ++ als).map fun k => xs.getD k.toNat 0 := ⟨_, rfl⟩
          rw [← hrt] at hts htl
          have hrtl : rt.length = xs.length := by rw [hrt, List.length_map]; exact hrl
          have hrts : ∀ c ∈ rt, c ∈ signs := by
            intro c hc
            rw [hrt] at hc
            obtain ⟨k, hk, rfl⟩ := List.mem_map.mp hc
            obtain ⟨j, hj, rfl⟩ := List.mem_map.mp (hrp.mem_iff.mp hk)
            have hj := List.mem_range.mp hj
            rw [Int.toNat_natCast, getD_at hj]
            exact hxs _ (List.getElem_mem _)
          ktr_unf
          refine join_listW (N16.isList (.head _)) hts (by decide) (join_small (by omega)) ?_
          intro tj tkj
          rw [join_ch]
          ktr_unf
          refine c_lev (by assumption) (by assumption) (by assumption) (by assumption) rfl N16 (by omega) hy1 hrts hys (by decide +kernel) (by decide +kernel) ?_
          clear F16 N16
          intro r9 tr9 h11 tk11 hlev F16 N16
          have hrtot := row_total hxs hys hokp hoks q2 hpm2 hsM
          rw [show (ms2.map Prod.snd ++ als).map (fX xs) = rt from hrt.symm] at hrtot
          have hr9 : r9 = pr + 2 * (als.length : Int) + 2 * (bls.length : Int) := lev_total hxs hys hlev hrtot.1 hrtot.2.1 hrtot.2.2
          subst hr9
          ktr_unf
          all_goals (try ((rename (¬ (_ = _)) => hne9); exact absurd rfl hne9))
          rename News _ _ _ _ => N17
          rename Fr _ _ _ _ => F17
          rename_i lO _ hlO _
          have N18 : News s₁.heap L _ ((lO, listOf [Value.str (Str.ofString "") tk11].toArray 0) :: (L + 1 + 1 + 1, oS) :: [(L + 1 + 1, oT'), (L + 1, oO')]) := kst_newsOf N17 (by ((try dsimp only); tb_rel))
          have hlO3 : L + 1 + 1 + 1 < lO := kst_ltOf hlO.2.2.2.2.2.2.2.2.2.2.2 (L + 1 + 1 + 1, oS) (by simp)
          clear N17
          (try clear N16)
          (try clear F16)
          refine for_cell (x := Str.ofString "sign") (y := Str.ofString "orders") (xt := sOf xs) (tx := tx1) (news := [(L + 1 + 1, oT'), (L + 1, oO')]) (fun i vs => StrsAre vs ((ordersP (xs.take i)).map sOf)) rfl rfl (by rfl) (by rfl) (by intro _; with_unfolding_all rfl) (by passes_own) F17 N18 dS (Nat.ne_of_gt hlO3) ?_ ?_ ?_ ?_ ?_
          · intro p hp
            simp only [List.mem_cons, List.not_mem_nil, or_false] at hp
            rcases hp with rfl | rfl
            · exact Nat.ne_of_lt (Nat.lt_succ_self _)
            · exact Nat.ne_of_lt (Nat.lt_succ_of_lt (Nat.lt_succ_self _))
          · exact .cons _ _ .nil
          · intro Q' E' hQ'
            ktr_unf
          · intro i d tv D vs kk oS' I oI h tk hdd hIv hoS F N
            clear F17 N18
            have hi : i < xs.length := by
              have := (Array.getElem?_eq_some_iff.mp hdd).1
              simpa [sOf] using this
            have hds : d ∈ signs := by
              have : xs[i]? = some d := by simpa [sOf] using hdd
              exact hxs d (List.mem_of_getElem? this)
            ktr_unf
            rename News _ _ _ _ => N17
            rename Fr _ _ _ _ => F17
            refine Assign_two (L := L) (vs := vs) (ka := kk) (m := _) lenOf (insG d) rfl rfl (by with_unfolding_all rfl) (by with_unfolding_all rfl) (by decide) (by rfl) (by decide) (by rfl) (by rfl) (by decide) (by rfl) (by rfl) (by intro _; with_unfolding_all rfl) (by intro _ _; with_unfolding_all rfl) (.head _) ?_ ?_ F17 N17 ?_ ?_ ?_ ?_
            · intro v hv
              obtain ⟨t, ht, tk, rfl⟩ := strs_mem hIv v hv
              have := (ordersP_mem _ t ht).length_eq
              show (sOf t).length + 1 < 1000
              rw [sOf_len, this, List.length_take]; omega
            · have h1 := StrsAre.length' hIv
              have h2 := ordersP_small (l := xs.take i) (by rw [List.length_take]; omega)
              rw [List.length_map] at h1
              omega
            · intro Q' E' hQ'
              ktr_unf
            · intro v hv I oI C oC D m₂ zs h tk E' hC hx F N
              clear F17 N17
              obtain ⟨t, ht, tkt, rfl⟩ := strs_mem hIv v hv
              have htl := (ordersP_mem _ t ht).length_eq
              rw [List.length_take] at htl
              have hts := sOf_len t
              ktr_unf
              refine range1_rows (by assumption) (by assumption) ?_
              intro hr tkr _ _ _ hR F10 N10 _
              refine ⟨_, _, _, _, _, _, rfl, rfl, F10, N10, hR⟩
            · intro v hv j tj I2 oI2 I oI C oC D m₂ zs h tk E' hj hC hx hk F N
              clear F17 N17
              obtain ⟨t, ht, tkt, rfl⟩ := strs_mem hIv v hv
              have htl := (ordersP_mem _ t ht).length_eq
              rw [List.length_take] at htl
              have hts := sOf_len t
              have hjl : j < t.length + 1 := by have : j < (sOf t).length + 1 := hj; omega
              ktr_unf
              intro t2 tk2 e
              injection e with e1 e2
              have e3 := sOf_inj e1
              subst e3
              rw [slice_take (by omega) (by omega), slice_drop (by omega) (by omega), show (⟨#[d]⟩ : Str) = sOf [d] from rfl, sOf_app, sOf_app, Int.toNat_natCast]
              exact ⟨_, rfl⟩
            · intro D' h' tk' zss F' N' hlt hA
              dsimp only
              refine wpAny_execs_nil ?_
              refine ⟨rfl, D', zss.flatten, zss.flatten.length, h', tk', _, rfl, F', ?_, ?_, kst_newsOf N' ?_, ?_, ?_, ?_⟩
              · simp
              · intro z hz
                simp [hz]
              · exact sub_cons (List.Mem.head _) (by tb_rel)
              · exact Nat.ne_of_gt (hlt (L + 1 + 1 + 1, oS') (by simp))
              · exact Nat.ne_of_gt (hlt (I, oI) (by simp))
              · have hxi : xs[i]? = some d := by simpa [sOf] using hdd
                have e : xs.take (i + 1) = xs.take i ++ [d] := by rw [List.take_add_one, hxi]; rfl
                rw [e, ordersP_snoc]
                exact ins_strs hIv hA
          · intro D vs kk oS' h tk hIv F N
            clear F17 N18
            have hxz : (sOf xs).cps.size = xs.length := by simp [sOf]
            rw [hxz, List.take_length] at hIv
            have hvl := StrsAre.length' hIv
            have hol := ordersP_small hx1
            rw [List.length_map] at hvl
            ktr_unf
            rename News _ _ _ _ => N17
            rename Fr _ _ _ _ => F17
            refine LCg.ListComp_U F17 (by with_unfolding_all rfl) (by decide) (by rfl) (by decide) (by rfl) ?_
            ktr_unf
            refine LCg.CompSrc.ledger rfl F17 N17 (.head _) (by rw [sizeLine_eq]; simp only [List.size_toArray]; omega) ?_
            intro g11
            refine lc_rest (fun v y => ∃ t tk r tr, v = Value.str (sOf t) tk ∧ y = Value.int r tr ∧ LevOf t ys r) ?_ ?_
            · intro v hv I oI C oC D m₂ ys2 h tk E' hC hx F N off ne
              clear F17 N17
              obtain ⟨t, ht, tkt, rfl⟩ := strs_mem hIv v hv
              have htp := ordersP_mem _ t ht
              have htl := htp.length_eq
              ktr_unf
              refine c_lev (by assumption) (by assumption) (by assumption) (by assumption) rfl (by assumption) (by omega) hy1 (fun c hc => hxs c (htp.mem_iff.mp hc)) hys (by decide +kernel) (by decide +kernel) ?_
              intro r tr h' tk' hlev' F' N'
              ktr_unf
              refine LCg.CompEnd.intro F' N' _ (fun p hp => hp) off (Or.inr ⟨_, .head _, rfl, _, rfl⟩) ⟨rfl, t, tkt, r, tr, rfl, rfl, hlev'⟩
            · intro rv hrv D h tk F18 N18 offD
              clear F17 N17
              obtain ⟨rs, hrs, hrA⟩ := lev_ints hIv hrv
              ktr_unf
              refine kso_min F18 N18 (N18.isList (.head _)) hrs ?_ rfl ?_
              · rw [← hrA.length]
                exact List.length_pos_of_mem (ordersP_all xs xs (List.Perm.refl _))
              clear F18 N18
              intro h12 M tM tkM F18 N18 hM1 hM2
              have hMB : M = (bagOf xs ys : Int) + (bagOf (xs.map low) (ys.map low) : Int) := min_bags hxs hys hrA hM1 hM2 hrtot.1 hrtot.2.1 hrtot.2.2
              subst hMB
              ktr_unf
              rw [show (((bagOf xs ys : Int) + (bagOf (xs.map low) (ys.map low) : Int)) == ((bagOf xs ys : Int) + (bagOf (xs.map low) (ys.map low) : Int))) = true from beq_self_eq_true _]
              refine goodW_bool (by assumption) (by assumption) (raisesW_false ?_) ?_
              · wrow_none_raised
              · wrow_post
    --}
  )
end Mine
end

theorem PySem.Challenge.cw_ny0144_01_holds : PySem.Challenge.rw_ny0144_01.Holds :=
  Mine.lawholds
