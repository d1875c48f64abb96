/-
  A region that draws its order, of calls in a chain and of new blocks in between: all orders at once.
-/
import Derived.Test.YtflmkgecgijncaaDoorF26
import Derived.Deep.RegionHeld3
namespace Go.Proofs.YtflmkgecgijncaaDoor
open Go.RowKit Go.Shelf

/-- What an operation gives: a value, and the world behind it. -/
def GivesD (P : Program) (o : Oper) (ρ : Operand → Value) (w : World) (R : Value → World → Prop) : Prop :=
  match (execOp ρ o).run P w with
  | .ok (.value v) w' => R v w'
  | .ok (.enter f args) w' => Calls P f args w' (fun e w'' => ∃ v, e = .returned v ∧ R v w'')
  | _ => False

structure Gives (P : Program) (o : Oper) (ρ : Operand → Value) (w : World) (R : Value → World → Prop) : Prop where
  out : GivesD P o ρ w R

theorem Gives.wp {P : Program} {o : Oper} {a : Act} {ρ : Operand → Value} {w : World} {R : Value → World → Prop} {K : Act → World → Prop} {Q : Exit → Act → World → Prop}
    (h : Gives P o ρ w R) (he : execOp a.eval o = execOp ρ o) (hK : ∀ v w', R v w' → K (a.put o.dst v) w') : o.wp P a w K Q := by
  unfold Oper.wp
  rw [he]
  have h := h.out
  unfold GivesD at h
  generalize (execOp ρ o).run P w = r at h
  cases r with
  | ok n w' =>
    cases n with
    | value v => exact hK _ _ h
    | enter f args => exact Calls.mono h (fun e w'' ⟨v, he, hr⟩ => by subst he; exact hK _ _ hr)
    | _ => exact h.elim
  | halt x w' => exact h.elim

def dstOf (ops : Array Oper) (j : Nat) : Option Tmp := (ops[j]?).bind (·.dst)
def depsOf (ops : Array Oper) (j : Nat) : List Nat := match ops[j]? with
  | some o => (o.after.toList.filter (Region.binds .any)).map (·.on)
  | none => []
def covers (ops : Array Oper) : Nat → Nat → Nat → Bool
  | 0, _, _ => false
  | k + 1, i, j => (depsOf ops j).any fun e => e == i || covers ops k i e
def quietOp (o : Oper) : Bool := match o.op with | .select .. => false | _ => true
def opOk (ops : Array Oper) (L : List Nat) (j : Nat) : Bool := match ops[j]? with
  | some o => o.guard.isNone && o.dst.isSome && quietOp o && (L.all fun k => k == j || dstOf ops k != o.dst) &&
      (o.op.operands.toList.all fun x => match x with | .tmp s => L.all fun k => dstOf ops k != some s || covers ops 6 k j | _ => true)
  | none => false
def freeB (ops : Array Oper) (L : List Nat) (listed : Array Bool) : Bool :=
  listed.size == ops.size && decide L.Nodup && (L.all fun j => !listed.getD j true) &&
  (L.all fun j => (depsOf ops j).all fun e => listed.getD e false || (L.contains e && decide (e < j))) && (L.all fun j => opOk ops L j) &&
  ((List.range ops.size).all fun j => L.contains j || listed.getD j true || L.all fun i => covers ops 6 i j) &&
  ((List.range ops.size).all fun j => !listed.getD j false || (depsOf ops j).all fun e => listed.getD e false)

structure FreeS (ops : Array Oper) (L : List Nat) (listed : Array Bool) : Prop where
  size : listed.size = ops.size
  nodup : L.Nodup
  fresh : ∀ j ∈ L, listed.getD j true = false
  deps : ∀ j ∈ L, ∀ e ∈ depsOf ops j, listed.getD e false = true ∨ (e ∈ L ∧ e < j)
  ok : ∀ j ∈ L, opOk ops L j = true
  out : ∀ j, j < ops.size → j ∉ L → listed.getD j true = false → ∀ i ∈ L, covers ops 6 i j = true
  closed : ∀ j, listed.getD j false = true → ∀ e ∈ depsOf ops j, listed.getD e false = true

theorem freeB_spec {ops : Array Oper} {L : List Nat} {listed : Array Bool} (h : freeB ops L listed = true) : FreeS ops L listed := by
  unfold freeB at h
  simp only [Bool.and_eq_true, beq_iff_eq, decide_eq_true_eq, List.all_eq_true, Bool.or_eq_true, Bool.not_eq_true', List.mem_range] at h
  obtain ⟨⟨⟨⟨⟨⟨h1, h2⟩, h3⟩, h4⟩, h5⟩, h6⟩, h7⟩ := h
  refine ⟨h1, h2, h3, fun j hj e he => ?_, h5, fun j hj hn hl i hi => ?_, fun j hj e he => ?_⟩
  · rcases h4 j hj e he with r | ⟨r, s⟩
    · exact Or.inl r
    · exact Or.inr ⟨by simpa using r, s⟩
  · rcases h6 j hj with (r | r) | r
    · exact absurd (by simpa using r) hn
    · rw [hl] at r; cases r
    · exact r i hi
  · by_cases hs : j < ops.size
    · rcases h7 j hs with r | r
      · rw [hj] at r; cases r
      · exact r e he
    · have : listed.getD j false = false := by simp [show ¬ j < listed.size by omega]
      rw [this] at hj; cases hj

/-- a with the values of those that are listed. -/
def canon (ops : Array Oper) (val : Nat → Value) (listed : Array Bool) : List Nat → Act → Act
  | [], a => a
  | j :: L, a => canon ops val listed L (if listed.getD j false then a.put (dstOf ops j) (val j) else a)
def canonAll (ops : Array Oper) (val : Nat → Value) : List Nat → Act → Act
  | [], a => a
  | j :: L, a => canonAll ops val L (a.put (dstOf ops j) (val j))

section
variable {ops : Array Oper}

theorem canon_congr {val val' : Nat → Value} {listed listed' : Array Bool} : ∀ {L : List Nat} {a : Act}, (∀ j ∈ L, listed.getD j false = listed'.getD j false ∧ (listed.getD j false = true → val j = val' j)) →
    canon ops val listed L a = canon ops val' listed' L a
  | [], _, _ => rfl
  | j :: L, a, h => by
    obtain ⟨h1, h2⟩ := h j (by simp)
    unfold canon
    rw [canon_congr (listed' := listed') (val' := val') fun k hk => h k (by simp [hk])]
    rw [← h1]
    cases hj : listed.getD j false
    · rfl
    · rw [h2 hj]

theorem canon_put {val : Nat → Value} {listed : Array Bool} {d : Option Tmp} {v : Value} : ∀ {L : List Nat} {a : Act}, (∀ j ∈ L, ∀ t, dstOf ops j = some t → d ≠ some t) →
    canon ops val listed L (a.put d v) = (canon ops val listed L a).put d v
  | [], _, _ => rfl
  | j :: L, a, h => by
    unfold canon
    cases hj : listed.getD j false
    · simp only [Bool.false_eq_true, if_false]; exact canon_put fun k hk => h k (by simp [hk])
    · simp only [if_true]
      rw [← Act.put_comm a _ _ (fun t ht => h j (by simp) t ht), canon_put fun k hk => h k (by simp [hk])]

theorem canon_set {val : Nat → Value} {listed : Array Bool} {i : Nat} (hl : listed.getD i true = false) : ∀ {L : List Nat} {a : Act}, i ∈ L → L.Nodup → (∀ j ∈ L, j ≠ i → ∀ t, dstOf ops j = some t → dstOf ops i ≠ some t) →
    canon ops val (listed.setIfInBounds i true) L a = (canon ops val listed L a).put (dstOf ops i) (val i)
  | [], _, h, _, _ => by cases h
  | j :: L, a, h, hn, hd => by
    have hs : i < listed.size := by
      rcases Nat.lt_or_ge i listed.size with r | r
      · exact r
      · simp [show ¬ i < listed.size by omega] at hl
    have hn' := List.nodup_cons.1 hn
    unfold canon
    by_cases e : j = i
    · subst e
      have h0 : listed.getD j false = false := by simp [hs] at hl ⊢; exact hl
      have h1 : (listed.setIfInBounds j true).getD j false = true := by simp [hs]
      rw [h0, h1]
      simp only [Bool.false_eq_true, if_false, if_true]
      rw [canon_congr (val' := val) (listed' := listed), canon_put]
      · intro k hk t ht; exact hd k (by simp [hk]) (fun e => hn'.1 (e ▸ hk)) t ht
      · intro k hk
        refine ⟨getD_set_ne false (fun e => hn'.1 (e ▸ hk)), fun _ => rfl⟩
    · rw [getD_set_ne false (Ne.symm e)]
      refine canon_set hl ?_ hn'.2 (fun k hk => hd k (by simp [hk]))
      rcases List.mem_cons.1 h with r | r
      · exact absurd r.symm e
      · exact r

theorem canon_all {val : Nat → Value} {listed : Array Bool} : ∀ {L : List Nat} {a : Act}, (∀ j ∈ L, listed.getD j false = true) → canon ops val listed L a = canonAll ops val L a
  | [], _, _ => rfl
  | j :: L, a, h => by
    unfold canon canonAll
    rw [h j (by simp)]
    simp only [if_true]
    exact canon_all fun k hk => h k (by simp [hk])

theorem canon_none {val : Nat → Value} {listed : Array Bool} : ∀ {L : List Nat} {a : Act}, (∀ j ∈ L, listed.getD j false = false) → canon ops val listed L a = a
  | [], _, _ => rfl
  | j :: L, a, h => by
    unfold canon
    rw [h j (by simp)]
    simp only [Bool.false_eq_true, if_false]
    exact canon_none fun k hk => h k (by simp [hk])

def SameAt (s : Tmp) (a a' : Act) : Prop := a.tmps.size = a'.tmps.size ∧ a.tmps[s]? = a'.tmps[s]?

theorem SameAt.put {s : Tmp} {a a' : Act} (h : SameAt s a a') (d : Option Tmp) (v : Value) : SameAt s (a.put d v) (a'.put d v) := by
  cases d with
  | none => exact h
  | some d =>
    refine ⟨by simp [Act.put, h.1], ?_⟩
    simp only [Act.put]
    rw [Array.getElem?_setIfInBounds, Array.getElem?_setIfInBounds, h.1, h.2]
theorem SameAt.skip {s : Tmp} {a a' : Act} (h : SameAt s a a') (d : Option Tmp) (v : Value) (hd : d ≠ some s) : SameAt s a (a'.put d v) := by
  cases d with
  | none => exact h
  | some d =>
    refine ⟨by simp [Act.put, h.1], ?_⟩
    simp only [Act.put]
    rw [Array.getElem?_setIfInBounds_ne (fun e => hd (by rw [e])), h.2]

theorem canon_at {val : Nat → Value} {listed : Array Bool} {s : Tmp} : ∀ {L : List Nat} {a a' : Act}, (∀ j ∈ L, listed.getD j false = false → dstOf ops j ≠ some s) → SameAt s a a' → SameAt s (canon ops val listed L a) (canonAll ops val L a')
  | [], _, _, _, h => h
  | j :: L, a, a', hj, h => by
    unfold canon canonAll
    refine canon_at (fun k hk => hj k (by simp [hk])) ?_
    cases hl : listed.getD j false
    · simp only [Bool.false_eq_true, if_false]; exact h.skip _ _ (hj j (by simp) hl)
    · simp only [if_true]; exact h.put _ _

theorem put_eval (a : Act) (d : Option Tmp) (v : Value) (x : Operand) (hx : ∀ s, x ≠ .tmp s) : (a.put d v).eval x = a.eval x := Act.eval_put fun t _ => hx t
theorem canon_eval' {val : Nat → Value} {listed : Array Bool} {x : Operand} (hx : ∀ s, x ≠ .tmp s) : ∀ {L : List Nat} {a a' : Act}, a.eval x = a'.eval x → (canon ops val listed L a).eval x = (canonAll ops val L a').eval x
  | [], _, _, h => h
  | j :: L, a, a', h => by
    unfold canon canonAll
    refine canon_eval' hx ?_
    rw [put_eval _ _ _ _ hx]
    split
    · rw [put_eval _ _ _ _ hx]; exact h
    · exact h

theorem covers_listed {listed : Array Bool} (hc : ∀ j, listed.getD j false = true → ∀ e ∈ depsOf ops j, listed.getD e false = true) : ∀ (k i j : Nat), (∀ e ∈ depsOf ops j, listed.getD e false = true) → covers ops k i j = true → listed.getD i false = true
  | 0, _, _, _, h => by cases h
  | k + 1, i, j, hj, h => by
    unfold covers at h
    obtain ⟨e, he, h⟩ := List.any_eq_true.1 h
    rcases Bool.or_eq_true_iff.1 h with r | r
    · rw [← beq_iff_eq.1 r]; exact hj e he
    · exact covers_listed hc k i e (hc e (hj e he)) r

theorem deps_ready {listed : Array Bool} {j : Nat} : j ∈ Region.ready .any ops listed ↔ listed.getD j true = false ∧ (∃ o, ops[j]? = some o) ∧ ∀ e ∈ depsOf ops j, listed.getD e false = true := by
  rw [mem_ready]
  constructor
  · rintro ⟨h0, o, ho, h⟩
    refine ⟨h0, ⟨o, ho⟩, fun e he => ?_⟩
    unfold depsOf at he
    rw [ho] at he
    obtain ⟨x, hx, rfl⟩ := List.mem_map.1 he
    obtain ⟨h1, h2⟩ := List.mem_filter.1 hx
    exact h x (by simpa using h1) h2
  · rintro ⟨h0, ⟨o, ho⟩, h⟩
    refine ⟨h0, o, ho, fun e he hb => h _ ?_⟩
    unfold depsOf
    rw [ho]
    exact List.mem_map.2 ⟨e, List.mem_filter.2 ⟨by simpa using he, hb⟩, rfl⟩
end

/-- The value of an operation: a new block's address, or what is known of a call. -/
def fval (al : Nat → Bool) (cv : Nat → Value) (β : Nat → Nat) (j : Nat) : Value := if al j then .pointer (some ⟨β j, 0, none⟩) else cv j

def upd' (β : Nat → Nat) (i n j : Nat) : Nat := if j = i then n else β j

/-- What holds of the new blocks. -/
structure Laid (L : List Nat) (al : Nat → Bool) (ob : Obj) (N : Nat) (β : Nat → Nat) (listed : Nat → Bool) (w : World) : Prop where
  got : ∀ j ∈ L, al j = true → listed j = true → N ≤ β j ∧ w.heap[β j]? = some ob
  ne : ∀ j ∈ L, ∀ k ∈ L, al j = true → al k = true → listed j = true → listed k = true → j ≠ k → β j ≠ β k

theorem Laid.below {L : List Nat} {al : Nat → Bool} {ob : Obj} {N : Nat} {β : Nat → Nat} {listed : Nat → Bool} {w w' : World} (h : Laid L al ob N β listed w) (hb : Below w.heap.size w w') : Laid L al ob N β listed w' :=
  ⟨fun j hj ha hl => ⟨(h.got j hj ha hl).1, (hb.block _ (obj_lt (h.got j hj ha hl).2)).trans (h.got j hj ha hl).2⟩, h.ne⟩

section
variable {P : Program} {ops : Array Oper} {Q : Exit → Act → World → Prop} {S : World → Prop}

theorem count_set {listed : Array Bool} {i : Nat} (hl : listed.getD i true = false) : ∀ {L : List Nat}, i ∈ L → L.Nodup → (L.filter fun j => !listed.getD j false).length = (L.filter fun j => !(listed.setIfInBounds i true).getD j false).length + 1
  | [], h, _ => by cases h
  | j :: L, h, hn => by
    have hs : i < listed.size := by
      rcases Nat.lt_or_ge i listed.size with r | r
      · exact r
      · simp [show ¬ i < listed.size by omega] at hl
    have hn' := List.nodup_cons.1 hn
    by_cases e : j = i
    · subst e
      have h0 : listed.getD j false = false := by simp [hs] at hl ⊢; exact hl
      have h1 : (listed.setIfInBounds j true).getD j false = true := by simp [hs]
      have h2 : (L.filter fun k => !listed.getD k false) = L.filter fun k => !(listed.setIfInBounds j true).getD k false := by
        apply List.filter_congr
        intro k hk
        rw [getD_set_ne false (fun e => hn'.1 (by rw [e]; exact hk))]
      rw [List.filter_cons, List.filter_cons, h0, h1, h2]; rfl
    · have ih := count_set hl (L := L) (by rcases List.mem_cons.1 h with r | r; exact absurd r.symm e; exact r) hn'.2
      rw [List.filter_cons, List.filter_cons, getD_set_ne false (Ne.symm e)]
      split
      · rw [List.length_cons, List.length_cons, ih]
      · exact ih

/-- **Calls in a chain, and new blocks in between, in whatever order**: at the end all values are known, the blocks are new and distinct. -/
theorem wpAnyH_free (L : List Nat) (al : Nat → Bool) (cv : Nat → Value) (ob : Obj) (listed0 listed1 : Array Bool) (a0 : Act) (w0 : World) (fuel2 : Nat)
    (hfree : freeB ops L listed0 = true) (h1 : L.foldl (fun l j => l.setIfInBounds j true) listed0 = listed1)
    (hal : ∀ j ∈ L, al j = true → ∀ o, ops[j]? = some o → ∀ (ρ : Operand → Value) (w : World), Gives P o ρ w fun v w' => v = .pointer (some ⟨w.heap.size, 0, none⟩) ∧ w' = w.alloc ob)
    (hcall : ∀ j ∈ L, al j = false → ∀ o, ops[j]? = some o → ∀ (β : Nat → Nat) (w : World), Below w0.heap.size w0 w →
      Gives P o (canonAll ops (fval al cv β) L a0).eval w fun v w' => v = cv j ∧ Below w.heap.size w w')
    (hS : ∀ w, Below w0.heap.size w0 w → S w)
    (hfin : ∀ (β : Nat → Nat) (w : World), Below w0.heap.size w0 w → Laid L al ob w0.heap.size β (fun _ => true) w → wpAnyH P .any ops Q S fuel2 listed1 (canonAll ops (fval al cv β) L a0) w) :
    wpAnyH P .any ops Q S (L.length + fuel2) listed0 a0 w0 := by
  have F := freeB_spec hfree
  have main : ∀ (r : Nat) (listed : Array Bool) (β : Nat → Nat) (w : World), listed.size = ops.size → (∀ j, j ∉ L → listed.getD j false = listed0.getD j false) →
      (∀ j, listed.getD j false = true → ∀ e ∈ depsOf ops j, listed.getD e false = true) → Below w0.heap.size w0 w → Laid L al ob w0.heap.size β (fun j => listed.getD j false) w →
      (L.filter fun j => !listed.getD j false).length = r → wpAnyH P .any ops Q S (r + fuel2) listed (canon ops (fval al cv β) listed L a0) w := by
    intro r
    induction r with
    | zero =>
      intro listed β w hsz hout hcl hb hlaid hcount
      have hall : ∀ j ∈ L, listed.getD j false = true := by
        intro j hj
        have := List.eq_nil_of_length_eq_zero hcount
        have h := List.filter_eq_nil_iff.1 this j hj
        simpa using h
      have e1 : listed = listed1 := by
        rw [← h1]
        have gen : ∀ (L : List Nat) (l : Array Bool), (L.foldl (fun l j => l.setIfInBounds j true) l).size = l.size ∧ ∀ j, (L.foldl (fun l j => l.setIfInBounds j true) l).getD j false = if j ∈ L ∧ j < l.size then true else l.getD j false := by
          intro L
          induction L with
          | nil => intro l; simp
          | cons k L ih =>
            intro l
            have := ih (l.setIfInBounds k true)
            simp only [List.foldl_cons]
            refine ⟨by rw [this.1]; simp, fun j => ?_⟩
            rw [this.2 j, Array.size_setIfInBounds]
            by_cases hj : j ∈ L ∧ j < l.size
            · rw [if_pos hj, if_pos ⟨by simp [hj.1], hj.2⟩]
            · rw [if_neg hj]
              by_cases e : k = j
              · subst e
                by_cases hs : k < l.size
                · simp [hs]
                · simp [hs]
              · rw [getD_set_ne false e, if_neg]
                rintro ⟨h2, h3⟩
                rcases List.mem_cons.1 h2 with r | r
                · exact e r.symm
                · exact hj ⟨r, h3⟩
        obtain ⟨g1, g2⟩ := gen L listed0
        apply Array.ext
        · rw [hsz, g1, F.size]
        · intro j hj hj'
          have hj2 : j < listed0.size := by rw [F.size, ← hsz]; exact hj
          have := g2 j
          have e1 : listed.getD j false = listed[j] := by simp [hj]
          have e2 : (L.foldl (fun l j => l.setIfInBounds j true) listed0).getD j false = (L.foldl (fun l j => l.setIfInBounds j true) listed0)[j] := by simp [hj']
          rw [← e1, ← e2, this]
          by_cases hm : j ∈ L
          · rw [if_pos ⟨hm, hj2⟩]; exact hall j hm
          · rw [if_neg (fun h => hm h.1)]; exact hout j hm
      rw [canon_all hall, Nat.zero_add, e1]
      exact hfin β w hb ⟨fun j hj ha _ => hlaid.got j hj ha (hall j hj), fun j hj k hk ha hb _ _ => hlaid.ne j hj k hk ha hb (hall j hj) (hall k hk)⟩
    | succ r ih =>
      intro listed β w hsz hout hcl hb hlaid hcount
      have hlisted : ∀ j, j < ops.size → listed.getD j true = listed.getD j false := fun j hj => by simp [hsz, hj]
      have hlt : ∀ j ∈ L, j < ops.size := by
        intro j hj
        have := F.fresh j hj
        rcases Nat.lt_or_ge j ops.size with r | r
        · exact r
        · simp [F.size, show ¬ j < ops.size by omega] at this
      rw [show r + 1 + fuel2 = (r + fuel2) + 1 by omega]
      refine ⟨fun hnil => ?_, fun i hi => ?_⟩
      · -- the least of those that are left may come up
        exfalso
        have hne : (L.filter fun j => !listed.getD j false) ≠ [] := by intro h; rw [h] at hcount; simp at hcount
        have hex : ∃ j, j ∈ L ∧ listed.getD j false = false ∧ ∀ k ∈ L, listed.getD k false = false → j ≤ k := by
          have hm : ∀ (M : List Nat), M ≠ [] → ∃ j ∈ M, ∀ k ∈ M, j ≤ k := by
            intro M
            induction M with
            | nil => intro h; exact absurd rfl h
            | cons x M ih =>
              intro _
              by_cases hM : M = []
              · subst hM; exact ⟨x, by simp, by simp⟩
              · obtain ⟨j, hj, hk⟩ := ih hM
                by_cases hxj : x ≤ j
                · exact ⟨x, by simp, fun k hk' => by rcases List.mem_cons.1 hk' with r | r; omega; have := hk k r; omega⟩
                · exact ⟨j, by simp [hj], fun k hk' => by rcases List.mem_cons.1 hk' with r | r; omega; exact hk k r⟩
          obtain ⟨j, hj, hk⟩ := hm _ hne
          obtain ⟨hj1, hj2⟩ := List.mem_filter.1 hj
          exact ⟨j, hj1, by simpa using hj2, fun k hk1 hk2 => hk k (List.mem_filter.2 ⟨hk1, by simpa using hk2⟩)⟩
        obtain ⟨j, hj, hjl, hmin⟩ := hex
        have : j ∈ Region.ready .any ops listed := by
          refine deps_ready.2 ⟨by rw [hlisted j (hlt j hj)]; exact hjl, ⟨ops[j]'(hlt j hj), by simp [hlt j hj]⟩, fun e he => ?_⟩
          rcases F.deps j hj e he with r | ⟨r, s⟩
          · by_cases hm : e ∈ L
            · have := F.fresh e hm
              have h2 : listed0.getD e true = listed0.getD e false := by simp [F.size, hlt e hm]
              rw [← h2, this] at r; cases r
            · rw [hout e hm]; exact r
          · cases hl : listed.getD e false
            · have := hmin e r hl; omega
            · rfl
        rw [hnil] at this; cases this
      · obtain ⟨hi0, ⟨o, ho⟩, hdeps⟩ := deps_ready.1 hi
        have his : i < ops.size := (Array.getElem?_eq_some_iff.1 ho).1
        have hiL : i ∈ L := by
          by_cases hm : i ∈ L
          · exact hm
          · exfalso
            have hne : (L.filter fun j => !listed.getD j false) ≠ [] := by intro h; rw [h] at hcount; simp at hcount
            obtain ⟨j, hj⟩ := List.exists_mem_of_ne_nil _ hne
            obtain ⟨hj1, hj2⟩ := List.mem_filter.1 hj
            have h0 : listed0.getD i true = false := by
              have e1 : listed0.getD i true = listed0.getD i false := by simp [F.size, his]
              rw [e1, ← hout i hm, ← hlisted i his]; exact hi0
            have := covers_listed hcl 6 j i hdeps (F.out i his hm h0 j hj1)
            rw [this] at hj2; cases hj2
        have hok := F.ok i hiL
        unfold opOk at hok
        rw [ho] at hok
        simp only [Bool.and_eq_true, List.all_eq_true] at hok
        obtain ⟨⟨⟨⟨hg, hd⟩, hq⟩, hdd⟩, hops⟩ := hok
        have hgd : o.guard = none := by simpa using hg
        have hdi : dstOf ops i = o.dst := by unfold dstOf; rw [ho]; rfl
        have hdist : ∀ j ∈ L, j ≠ i → ∀ t, dstOf ops j = some t → dstOf ops i ≠ some t := by
          intro j hj hji t ht he
          have := hdd j hj
          rcases Bool.or_eq_true_iff.1 this with r | r
          · exact hji (beq_iff_eq.1 r)
          · rw [hdi] at he; rw [ht, he] at r; simp at r
        have hw : Region.wanted o (yielded ops (canon ops (fval al cv β) listed L a0).tmps) = true := by unfold Region.wanted; rw [hgd]
        have hsel : ∀ cs b, o.op ≠ .select cs b := by intro cs b e; unfold quietOp at hq; rw [e] at hq; cases hq
        have next : ∀ (β' : Nat → Nat) (w' : World), (∀ j ∈ L, listed.getD j false = true → fval al cv β' j = fval al cv β j) → Below w0.heap.size w0 w' → Laid L al ob w0.heap.size β' (fun j => (listed.setIfInBounds i true).getD j false) w' →
            S w' ∧ wpAnyH P .any ops Q S (r + fuel2) (listed.setIfInBounds i true) ((canon ops (fval al cv β) listed L a0).put o.dst (fval al cv β' i)) w' := by
          intro β' w' hβ hb' hl'
          refine ⟨hS w' hb', ?_⟩
          have e1 : (canon ops (fval al cv β) listed L a0).put o.dst (fval al cv β' i) = canon ops (fval al cv β') (listed.setIfInBounds i true) L a0 := by
            rw [canon_set hi0 hiL F.nodup hdist, hdi]
            congr 1
            exact (canon_congr fun j hj => ⟨rfl, fun hl => hβ j hj hl⟩).symm
          rw [e1]
          refine ih (listed.setIfInBounds i true) β' w' (by simp [hsz]) (fun j hj => ?_) ?_ hb' hl' ?_
          · rw [getD_set_ne false (fun e => hj (by rw [← e]; exact hiL))]; exact hout j hj
          · intro j hj e he
            by_cases hji : i = j
            · subst hji; exact getD_set_true (hdeps e he)
            · rw [getD_set_ne false hji] at hj; exact getD_set_true (hcl j hj e he)
          · have := count_set hi0 hiL F.nodup; omega
        unfold wpOp
        rw [ho]
        simp only [hw, if_true]
        left
        cases ha : al i
        · have hG := hcall i hiL ha o ho β w hb
          refine hG.wp ?_ ?_
          · apply execOp_congr o hsel
            intro x hx
            have hx' := hops x (by simpa using hx)
            cases x with
            | tmp s =>
              simp only [List.all_eq_true] at hx'
              have := canon_at (ops := ops) (val := fval al cv β) (listed := listed) (s := s) (L := L) (a := a0) (a' := a0) (fun j hj hl he => by
                rcases Bool.or_eq_true_iff.1 (hx' j hj) with r | r
                · rw [he] at r; simp at r
                · have := covers_listed hcl 6 j i hdeps r
                  rw [hl] at this; cases this) ⟨rfl, rfl⟩
              show (canon ops (fval al cv β) listed L a0).tmps.getD s undef = (canonAll ops (fval al cv β) L a0).tmps.getD s undef
              rw [Array.getD_eq_getD_getElem?, Array.getD_eq_getD_getElem?, this.2]
            | _ => exact canon_eval' (by intro s h; cases h) rfl
          · rintro v w' ⟨rfl, hbw⟩
            have hv : cv i = fval al cv β i := by unfold fval; rw [ha]; rfl
            rw [hv]
            have hb2 : Below w0.heap.size w0 w' := hb.trans (hbw.mono hb.size)
            refine (next β w' (fun _ _ _ => rfl) hb2 ?_)
            have hl2 := hlaid.below hbw
            refine ⟨fun j hj haj hl => ?_, fun j hj k hk haj hak hl hl' => ?_⟩
            · have : i ≠ j := fun e => by rw [e] at ha; rw [ha] at haj; cases haj
              exact hl2.got j hj haj (by rw [← getD_set_ne false this]; exact hl)
            · have n1 : i ≠ j := fun e => by rw [e] at ha; rw [ha] at haj; cases haj
              have n2 : i ≠ k := fun e => by rw [e] at ha; rw [ha] at hak; cases hak
              exact hl2.ne j hj k hk haj hak (by rw [← getD_set_ne false n1]; exact hl) (by rw [← getD_set_ne false n2]; exact hl')
        · refine (hal i hiL ha o ho (canon ops (fval al cv β) listed L a0).eval w).wp rfl ?_
          rintro v w' ⟨rfl, rfl⟩
          have hv : (Value.pointer (some ⟨w.heap.size, 0, none⟩)) = fval al cv (upd' β i w.heap.size) i := by unfold fval upd'; rw [ha]; simp
          rw [hv]
          have hb2 : Below w0.heap.size w0 (w.alloc ob) := hb.alloc hb.size _
          have hl2 := hlaid.below ((Below.refl w.heap.size w).alloc (Nat.le_refl _) ob)
          refine next (upd' β i w.heap.size) (w.alloc ob) (fun j hj hl => ?_) hb2 ?_
          · have n1 : j ≠ i := fun e => by subst e; rw [hlisted j his, hl] at hi0; cases hi0
            unfold fval upd'; rw [if_neg n1]
          · refine ⟨fun j hj haj hl => ?_, fun j hj k hk haj hak hl hl' hjk => ?_⟩
            · by_cases e : j = i
              · subst e; unfold upd'; rw [if_pos rfl]; exact ⟨hb.size, heap_alloc_new w ob⟩
              · unfold upd'; rw [if_neg e]
                exact hl2.got j hj haj (by rw [← getD_set_ne false (Ne.symm e)]; exact hl)
            · have lo : ∀ j ∈ L, j ≠ i → al j = true → (listed.setIfInBounds i true).getD j false = true → β j ≠ w.heap.size := by
                intro j hj e haj hl
                have := obj_lt (hlaid.got j hj haj (by rw [← getD_set_ne false (Ne.symm e)]; exact hl)).2
                omega
              unfold upd'
              by_cases e1 : j = i
              · rw [if_pos e1, if_neg (fun e => hjk (e1.trans e.symm))]
                exact fun e => lo k hk (fun e => hjk (e1.trans e.symm)) hak hl' e.symm
              · rw [if_neg e1]
                by_cases e2 : k = i
                · rw [if_pos e2]; exact lo j hj e1 haj hl
                · rw [if_neg e2]
                  exact hlaid.ne j hj k hk haj hak (by rw [← getD_set_ne false (Ne.symm e1)]; exact hl) (by rw [← getD_set_ne false (Ne.symm e2)]; exact hl') hjk
  have hnone : ∀ j ∈ L, listed0.getD j false = false := by
    intro j hj
    have := F.fresh j hj
    have hs : j < listed0.size := by
      rcases Nat.lt_or_ge j listed0.size with r | r
      · exact r
      · simp [show ¬ j < listed0.size by omega] at this
    simp [hs] at this ⊢; exact this
  have := main L.length listed0 (fun _ => 0) w0 F.size (fun _ _ => rfl) F.closed (Below.refl _ _) ⟨fun j hj _ hl => (by rw [hnone j hj] at hl; cases hl), fun j hj k _ _ _ hl => (by rw [hnone j hj] at hl; cases hl)⟩
    (by rw [List.filter_eq_self.2]; intro j hj; rw [hnone j hj]; rfl)
  rwa [canon_none hnone] at this
end
end Go.Proofs.YtflmkgecgijncaaDoor
