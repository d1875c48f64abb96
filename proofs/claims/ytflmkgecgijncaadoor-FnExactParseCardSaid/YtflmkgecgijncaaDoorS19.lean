/-
  The rule of S15 with one quiet operation that the first store doesn't wait for.
-/
import Derived.Test.YtflmkgecgijncaaDoorS18
namespace Go.Proofs.YtflmkgecgijncaaDoor
open Go.RowKit Go.Shelf Mth

/-- What holds of the new blocks. -/
structure Laid2 (L : List Nat) (al : Nat → Bool) (ob : Nat → Obj) (N : Nat) (β : Nat → Nat) (listed : Nat → Bool) (w : World) : Prop where
  got : ∀ j ∈ L, al j = true → listed j = true → N ≤ β j ∧ w.heap[β j]? = some (ob j)
  ne : ∀ j ∈ L, ∀ k ∈ L, al j = true → al k = true → listed j = true → listed k = true → j ≠ k → β j ≠ β k

theorem Laid2.below {L : List Nat} {al : Nat → Bool} {ob : Nat → Obj} {N : Nat} {β : Nat → Nat} {listed : Nat → Bool} {w w' : World} (h : Laid2 L al ob N β listed w) (hb : Below w.heap.size w w') : Laid2 L al ob N β listed w' :=
  ⟨fun j hj ha hl => ⟨(h.got j hj ha hl).1, (hb.block _ (obj_lt (h.got j hj ha hl).2)).trans (h.got j hj ha hl).2⟩, h.ne⟩

theorem fold_getD : ∀ (L : List Nat) (l : Array Bool), (L.foldl (fun l j => l.setIfInBounds j true) l).size = l.size ∧ ∀ j, (L.foldl (fun l j => l.setIfInBounds j true) l).getD j false = if j ∈ L ∧ j < l.size then true else l.getD j false := by
  intro L
  induction L with
  | nil => intro l; simp
  | cons k L ih =>
    intro l
    have := ih (l.setIfInBounds k true)
    simp only [List.foldl_cons]
    refine ⟨by rw [this.1]; simp, fun j => ?_⟩
    rw [this.2 j, Array.size_setIfInBounds]
    by_cases hj : j ∈ L ∧ j < l.size
    · rw [if_pos hj, if_pos ⟨by simp [hj.1], hj.2⟩]
    · rw [if_neg hj]
      by_cases e : k = j
      · subst e
        by_cases hs : k < l.size
        · simp [hs]
        · simp [hs]
      · rw [getD_set_ne false e, if_neg]
        rintro ⟨h2, h3⟩
        rcases List.mem_cons.1 h2 with r | r
        · exact e r.symm
        · exact hj ⟨r, h3⟩
theorem listed_eq {listed listed0 : Array Bool} {L : List Nat} (hsz : listed.size = listed0.size) (hall : ∀ j ∈ L, listed.getD j false = true) (hout : ∀ j, j ∉ L → listed.getD j false = listed0.getD j false) :
    listed = L.foldl (fun l j => l.setIfInBounds j true) listed0 := by
  obtain ⟨g1, g2⟩ := fold_getD L listed0
  apply Array.ext
  · rw [hsz, g1]
  · intro j hj hj'
    have hj2 : j < listed0.size := by rw [← hsz]; exact hj
    have := g2 j
    have e1 : listed.getD j false = listed[j] := by simp [hj]
    have e2 : (L.foldl (fun l j => l.setIfInBounds j true) listed0).getD j false = (L.foldl (fun l j => l.setIfInBounds j true) listed0)[j] := by simp [hj']
    rw [← e1, ← e2, this]
    by_cases hm : j ∈ L
    · rw [if_pos ⟨hm, hj2⟩]; exact hall j hm
    · rw [if_neg (fun h => hm h.1)]; exact hout j hm
theorem nodup_one {M : List Nat} {t : Nat} (hn : M.Nodup) (h : ∀ x ∈ M, x = t) : M.length ≤ 1 := by
  match M, hn, h with
  | [], _, _ => simp
  | [_], _, _ => simp
  | x :: y :: M, hn, h =>
    have e1 := h x (by simp)
    have e2 := h y (by simp)
    have := List.nodup_cons.1 hn
    exact absurd (by rw [e1, ← e2]; simp) this.1
theorem canon_filter {ops : Array Oper} {val : Nat → Value} {listed : Array Bool} {t : Nat} (ht : listed.getD t false = false) : ∀ {L : List Nat} {a : Act}, (∀ j ∈ L, j ≠ t → listed.getD j false = true) → canon ops val listed L a = canonAll ops val (L.filter (· != t)) a
  | [], _, _ => rfl
  | j :: L, a, h => by
    have ih := fun a => canon_filter (ops := ops) (val := val) ht (L := L) (a := a) (fun k hk => h k (by simp [hk]))
    unfold canon
    by_cases e : j = t
    · subst e
      rw [ht, List.filter_cons]
      simp only [bne_self_eq_false, Bool.false_eq_true, if_false]
      exact ih a
    · rw [h j (by simp) e, if_pos rfl, List.filter_cons, if_pos (by simpa using e)]
      unfold canonAll
      exact ih _

def opOk3 (ops : Array Oper) (L : List Nat) (j : Nat) : Bool := match ops[j]? with
  | some o => (match o.guard with | some (g, _) => L.contains g && covers ops 6 g j | none => true) && o.dst.isSome && quietOp o && (L.all fun k => k == j || dstOf ops k != o.dst) &&
      (o.op.operands.toList.all fun x => match x with | .tmp s => L.all fun k => dstOf ops k != some s || covers ops 6 k j | _ => true)
  | none => false
def freeB3 (ops : Array Oper) (t : Nat) (L : List Nat) (listed : Array Bool) : Bool :=
  listed.size == ops.size && decide L.Nodup && (L.all fun j => !listed.getD j true) &&
  (L.all fun j => (depsOf ops j).all fun e => listed.getD e false || (L.contains e && decide (e < j))) && (L.all fun j => opOk3 ops L j) &&
  ((List.range ops.size).all fun j => L.contains j || listed.getD j true || L.all fun i => i == t || covers ops 6 i j) &&
  ((List.range ops.size).all fun j => !listed.getD j false || (depsOf ops j).all fun e => listed.getD e false)

structure FreeS3 (ops : Array Oper) (t : Nat) (L : List Nat) (listed : Array Bool) : Prop where
  size : listed.size = ops.size
  nodup : L.Nodup
  fresh : ∀ j ∈ L, listed.getD j true = false
  deps : ∀ j ∈ L, ∀ e ∈ depsOf ops j, listed.getD e false = true ∨ (e ∈ L ∧ e < j)
  ok : ∀ j ∈ L, opOk3 ops L j = true
  out : ∀ j, j < ops.size → j ∉ L → listed.getD j true = false → ∀ i ∈ L, i ≠ t → covers ops 6 i j = true
  closed : ∀ j, listed.getD j false = true → ∀ e ∈ depsOf ops j, listed.getD e false = true

theorem freeB3_spec {ops : Array Oper} {t : Nat} {L : List Nat} {listed : Array Bool} (h : freeB3 ops t L listed = true) : FreeS3 ops t L listed := by
  unfold freeB3 at h
  simp only [Bool.and_eq_true, beq_iff_eq, decide_eq_true_eq, List.all_eq_true, Bool.or_eq_true, Bool.not_eq_true', List.mem_range] at h
  obtain ⟨⟨⟨⟨⟨⟨h1, h2⟩, h3⟩, h4⟩, h5⟩, h6⟩, h7⟩ := h
  refine ⟨h1, h2, h3, fun j hj e he => ?_, h5, fun j hj hn hl i hi hit => ?_, fun j hj e he => ?_⟩
  · rcases h4 j hj e he with r | ⟨r, s⟩
    · exact Or.inl r
    · exact Or.inr ⟨by simpa using r, s⟩
  · rcases h6 j hj with (r | r) | r
    · exact absurd (by simpa using r) hn
    · rw [hl] at r; cases r
    · exact (r i hi).resolve_left hit
  · by_cases hs : j < ops.size
    · rcases h7 j hs with r | r
      · rw [hj] at r; cases r
      · exact r e he
    · have : listed.getD j false = false := by simp [show ¬ j < listed.size by omega]
      rw [this] at hj; cases hj

section
variable {P : Program} {ops : Array Oper} {Q : Exit → Act → World → Prop} {S : World → Prop}

/-- **Calls in a chain, and new blocks in between, in whatever order**: at the end all values are known, the blocks are new and distinct. -/
theorem wpAnyH_free3 (L : List Nat) (al : Nat → Bool) (cv : Nat → Value) (ob : Nat → Obj) (listed0 listed1 : Array Bool) (a0 : Act) (w0 : World) (fuel2 : Nat)
    (t : Nat) (hat : al t = false) (hfree : freeB3 ops t L listed0 = true) (listed2 : Array Bool) (h2 : (L.filter (· != t)).foldl (fun l j => l.setIfInBounds j true) listed0 = listed2) (h1 : L.foldl (fun l j => l.setIfInBounds j true) listed0 = listed1)
    (hal : ∀ j ∈ L, al j = true → ∀ o, ops[j]? = some o → ∀ (ρ : Operand → Value) (w : World), Gives P o ρ w fun v w' => v = .pointer (some ⟨w.heap.size, 0, none⟩) ∧ w' = w.alloc (ob j))
    (hcall : ∀ j ∈ L, al j = false → ∀ o, ops[j]? = some o → ∀ (β : Nat → Nat) (w : World), Below w0.heap.size w0 w →
      Gives P o (canonAll ops (fval al cv β) L a0).eval w fun v w' => v = cv j ∧ Below w.heap.size w w')
    (hwant : ∀ j ∈ L, ∀ o, ops[j]? = some o → ∀ β, Region.wanted o (yielded ops (canonAll ops (fval al cv β) L a0).tmps) = true)
    (hS : ∀ w, Below w0.heap.size w0 w → S w)
    (hfin : ∀ (β : Nat → Nat) (w : World), Below w0.heap.size w0 w → Laid2 L al ob w0.heap.size β (fun _ => true) w → wpAnyH P .any ops Q S fuel2 listed1 (canonAll ops (fval al cv β) L a0) w)
    (hfin2 : ∀ (β : Nat → Nat) (w : World), Below w0.heap.size w0 w → Laid2 L al ob w0.heap.size β (fun _ => true) w → wpAnyH P .any ops Q S (fuel2 + 1) listed2 (canonAll ops (fval al cv β) (L.filter (· != t)) a0) w) :
    wpAnyH P .any ops Q S (L.length + fuel2) listed0 a0 w0 := by
  have F := freeB3_spec hfree
  have main : ∀ (r : Nat) (listed : Array Bool) (β : Nat → Nat) (w : World), listed.size = ops.size → (∀ j, j ∉ L → listed.getD j false = listed0.getD j false) →
      (∀ j, listed.getD j false = true → ∀ e ∈ depsOf ops j, listed.getD e false = true) → Below w0.heap.size w0 w → Laid2 L al ob w0.heap.size β (fun j => listed.getD j false) w →
      (L.filter fun j => !listed.getD j false).length = r → wpAnyH P .any ops Q S (r + fuel2) listed (canon ops (fval al cv β) listed L a0) w := by
    intro r
    induction r with
    | zero =>
      intro listed β w hsz hout hcl hb hlaid hcount
      have hall : ∀ j ∈ L, listed.getD j false = true := by
        intro j hj
        have := List.eq_nil_of_length_eq_zero hcount
        have h := List.filter_eq_nil_iff.1 this j hj
        simpa using h
      have e1 : listed = listed1 := by
        rw [← h1]
        exact listed_eq (hsz.trans F.size.symm) hall hout
      rw [canon_all hall, Nat.zero_add, e1]
      exact hfin β w hb ⟨fun j hj ha _ => hlaid.got j hj ha (hall j hj), fun j hj k hk ha hb _ _ => hlaid.ne j hj k hk ha hb (hall j hj) (hall k hk)⟩
    | succ r ih =>
      intro listed β w hsz hout hcl hb hlaid hcount
      have hlisted : ∀ j, j < ops.size → listed.getD j true = listed.getD j false := fun j hj => by simp [hsz, hj]
      have hlt : ∀ j ∈ L, j < ops.size := by
        intro j hj
        have := F.fresh j hj
        rcases Nat.lt_or_ge j ops.size with r | r
        · exact r
        · simp [F.size, show ¬ j < ops.size by omega] at this
      by_cases hall0 : ∀ j ∈ L, j ≠ t → listed.getD j false = true
      · have hM : ∀ x ∈ L.filter (fun j => !listed.getD j false), x = t := by
          intro x hx
          obtain ⟨hx1, hx2⟩ := List.mem_filter.1 hx
          by_cases e : x = t
          · exact e
          · rw [hall0 x hx1 e] at hx2; cases hx2
        have hlen := nodup_one (F.nodup.filter _) hM
        have hr : r = 0 := by omega
        subst hr
        have htm : t ∈ L.filter (fun j => !listed.getD j false) := by
          obtain ⟨x, hx⟩ := List.exists_mem_of_ne_nil (L.filter fun j => !listed.getD j false) (by intro h; rw [h] at hcount; simp at hcount)
          rw [← hM x hx]; exact hx
        obtain ⟨ht1, ht2⟩ := List.mem_filter.1 htm
        have ht3 : listed.getD t false = false := by simpa using ht2
        have e1 : listed = listed2 := by
          rw [← h2]
          refine listed_eq (hsz.trans F.size.symm) (fun j hj => ?_) (fun j hj => ?_)
          · obtain ⟨hj1, hj2⟩ := List.mem_filter.1 hj
            exact hall0 j hj1 (by simpa using hj2)
          · by_cases hjL : j ∈ L
            · have hjt : j = t := by
                by_cases e : j = t
                · exact e
                · exact absurd (List.mem_filter.2 ⟨hjL, by simpa using e⟩) hj
              subst hjt
              rw [ht3]
              have := F.fresh j hjL
              have h2 : listed0.getD j true = listed0.getD j false := by simp [F.size, hlt j hjL]
              rw [← h2, this]
            · exact hout j hjL
        rw [canon_filter ht3 hall0, e1, show 0 + 1 + fuel2 = fuel2 + 1 by omega]
        have hjt : ∀ j, al j = true → j ≠ t := fun j ha e => by rw [e, hat] at ha; cases ha
        exact hfin2 β w hb ⟨fun j hj ha _ => hlaid.got j hj ha (hall0 j hj (hjt j ha)), fun j hj k hk ha hb _ _ => hlaid.ne j hj k hk ha hb (hall0 j hj (hjt j ha)) (hall0 k hk (hjt k hb))⟩
      rw [show r + 1 + fuel2 = (r + fuel2) + 1 by omega]
      refine ⟨fun hnil => ?_, fun i hi => ?_⟩
      · -- the least of those that are left may come up
        exfalso
        have hne : (L.filter fun j => !listed.getD j false) ≠ [] := by intro h; rw [h] at hcount; simp at hcount
        have hex : ∃ j, j ∈ L ∧ listed.getD j false = false ∧ ∀ k ∈ L, listed.getD k false = false → j ≤ k := by
          have hm : ∀ (M : List Nat), M ≠ [] → ∃ j ∈ M, ∀ k ∈ M, j ≤ k := by
            intro M
            induction M with
            | nil => intro h; exact absurd rfl h
            | cons x M ih =>
              intro _
              by_cases hM : M = []
              · subst hM; exact ⟨x, by simp, by simp⟩
              · obtain ⟨j, hj, hk⟩ := ih hM
                by_cases hxj : x ≤ j
                · exact ⟨x, by simp, fun k hk' => by rcases List.mem_cons.1 hk' with r | r; omega; have := hk k r; omega⟩
                · exact ⟨j, by simp [hj], fun k hk' => by rcases List.mem_cons.1 hk' with r | r; omega; exact hk k r⟩
          obtain ⟨j, hj, hk⟩ := hm _ hne
          obtain ⟨hj1, hj2⟩ := List.mem_filter.1 hj
          exact ⟨j, hj1, by simpa using hj2, fun k hk1 hk2 => hk k (List.mem_filter.2 ⟨hk1, by simpa using hk2⟩)⟩
        obtain ⟨j, hj, hjl, hmin⟩ := hex
        have : j ∈ Region.ready .any ops listed := by
          refine deps_ready.2 ⟨by rw [hlisted j (hlt j hj)]; exact hjl, ⟨ops[j]'(hlt j hj), by simp [hlt j hj]⟩, fun e he => ?_⟩
          rcases F.deps j hj e he with r | ⟨r, s⟩
          · by_cases hm : e ∈ L
            · have := F.fresh e hm
              have h2 : listed0.getD e true = listed0.getD e false := by simp [F.size, hlt e hm]
              rw [← h2, this] at r; cases r
            · rw [hout e hm]; exact r
          · cases hl : listed.getD e false
            · have := hmin e r hl; omega
            · rfl
        rw [hnil] at this; cases this
      · obtain ⟨hi0, ⟨o, ho⟩, hdeps⟩ := deps_ready.1 hi
        have his : i < ops.size := (Array.getElem?_eq_some_iff.1 ho).1
        have hiL : i ∈ L := by
          by_cases hm : i ∈ L
          · exact hm
          · exfalso
            obtain ⟨j, hj1, hjt, hjl⟩ : ∃ j, j ∈ L ∧ j ≠ t ∧ listed.getD j false = false := by
              apply Classical.byContradiction
              intro hno
              apply hall0
              intro j hj hjt
              cases hl : listed.getD j false
              · exact absurd ⟨j, hj, hjt, hl⟩ hno
              · rfl
            have h0 : listed0.getD i true = false := by
              have e1 : listed0.getD i true = listed0.getD i false := by simp [F.size, his]
              rw [e1, ← hout i hm, ← hlisted i his]; exact hi0
            have := covers_listed hcl 6 j i hdeps (F.out i his hm h0 j hj1 hjt)
            rw [this] at hjl; cases hjl
        have hok := F.ok i hiL
        unfold opOk3 at hok
        rw [ho] at hok
        simp only [Bool.and_eq_true, List.all_eq_true] at hok
        obtain ⟨⟨⟨⟨hg, hd⟩, hq⟩, hdd⟩, hops⟩ := hok
        have hdi : dstOf ops i = o.dst := by unfold dstOf; rw [ho]; rfl
        have hdist : ∀ j ∈ L, j ≠ i → ∀ t, dstOf ops j = some t → dstOf ops i ≠ some t := by
          intro j hj hji t ht he
          have := hdd j hj
          rcases Bool.or_eq_true_iff.1 this with r | r
          · exact hji (beq_iff_eq.1 r)
          · rw [hdi] at he; rw [ht, he] at r; simp at r
        have hw : Region.wanted o (yielded ops (canon ops (fval al cv β) listed L a0).tmps) = true := by
          have h0 := hwant i hiL o ho β
          unfold Region.wanted at h0 ⊢
          cases hgo : o.guard with
          | none => rfl
          | some gw =>
            obtain ⟨g, want⟩ := gw
            rw [hgo] at h0 hg
            simp only [Bool.and_eq_true] at hg
            have hgL : g ∈ L := by simpa using hg.1
            have hgl := covers_listed hcl 6 g i hdeps hg.2
            rw [← h0]
            unfold yielded
            simp only
            have hd0 : (ops[g]?).bind (·.dst) = dstOf ops g := rfl
            rw [hd0]
            cases hdg : dstOf ops g with
            | none => rfl
            | some s =>
              have := canon_at (ops := ops) (val := fval al cv β) (listed := listed) (s := s) (L := L) (a := a0) (a' := a0) (fun j hj hl he => by
                have hjg : j ≠ g := fun e => by rw [e, hgl] at hl; cases hl
                have := F.ok g hgL
                unfold opOk3 at this
                obtain ⟨og, hog⟩ : ∃ og, ops[g]? = some og := by
                  cases hx : ops[g]? with
                  | none => rw [hx] at this; cases this
                  | some og => exact ⟨og, rfl⟩
                rw [hog] at this
                simp only [Bool.and_eq_true, List.all_eq_true] at this
                have h2 := this.1.2 j hj
                have h3 : dstOf ops g = og.dst := by unfold dstOf; rw [hog]; rfl
                rcases Bool.or_eq_true_iff.1 h2 with r | r
                · exact hjg (beq_iff_eq.1 r)
                · rw [he, ← h3, hdg] at r; simp at r) ⟨rfl, rfl⟩
              simp only [Option.bind_some, this.2]
        have hsel : ∀ cs b, o.op ≠ .select cs b := by intro cs b e; unfold quietOp at hq; rw [e] at hq; cases hq
        have next : ∀ (β' : Nat → Nat) (w' : World), (∀ j ∈ L, listed.getD j false = true → fval al cv β' j = fval al cv β j) → Below w0.heap.size w0 w' → Laid2 L al ob w0.heap.size β' (fun j => (listed.setIfInBounds i true).getD j false) w' →
            S w' ∧ wpAnyH P .any ops Q S (r + fuel2) (listed.setIfInBounds i true) ((canon ops (fval al cv β) listed L a0).put o.dst (fval al cv β' i)) w' := by
          intro β' w' hβ hb' hl'
          refine ⟨hS w' hb', ?_⟩
          have e1 : (canon ops (fval al cv β) listed L a0).put o.dst (fval al cv β' i) = canon ops (fval al cv β') (listed.setIfInBounds i true) L a0 := by
            rw [canon_set hi0 hiL F.nodup hdist, hdi]
            congr 1
            exact (canon_congr fun j hj => ⟨rfl, fun hl => hβ j hj hl⟩).symm
          rw [e1]
          refine ih (listed.setIfInBounds i true) β' w' (by simp [hsz]) (fun j hj => ?_) ?_ hb' hl' ?_
          · rw [getD_set_ne false (fun e => hj (by rw [← e]; exact hiL))]; exact hout j hj
          · intro j hj e he
            by_cases hji : i = j
            · subst hji; exact getD_set_true (hdeps e he)
            · rw [getD_set_ne false hji] at hj; exact getD_set_true (hcl j hj e he)
          · have := count_set hi0 hiL F.nodup; omega
        unfold wpOp
        rw [ho]
        simp only [hw, if_true]
        left
        cases ha : al i
        · have hG := hcall i hiL ha o ho β w hb
          refine hG.wp ?_ ?_
          · apply execOp_congr o hsel
            intro x hx
            have hx' := hops x (by simpa using hx)
            cases x with
            | tmp s =>
              simp only [List.all_eq_true] at hx'
              have := canon_at (ops := ops) (val := fval al cv β) (listed := listed) (s := s) (L := L) (a := a0) (a' := a0) (fun j hj hl he => by
                rcases Bool.or_eq_true_iff.1 (hx' j hj) with r | r
                · rw [he] at r; simp at r
                · have := covers_listed hcl 6 j i hdeps r
                  rw [hl] at this; cases this) ⟨rfl, rfl⟩
              show (canon ops (fval al cv β) listed L a0).tmps.getD s undef = (canonAll ops (fval al cv β) L a0).tmps.getD s undef
              rw [Array.getD_eq_getD_getElem?, Array.getD_eq_getD_getElem?, this.2]
            | _ => exact canon_eval' (by intro s h; cases h) rfl
          · rintro v w' ⟨rfl, hbw⟩
            have hv : cv i = fval al cv β i := by unfold fval; rw [ha]; rfl
            rw [hv]
            have hb2 : Below w0.heap.size w0 w' := hb.trans (hbw.mono hb.size)
            refine (next β w' (fun _ _ _ => rfl) hb2 ?_)
            have hl2 := hlaid.below hbw
            refine ⟨fun j hj haj hl => ?_, fun j hj k hk haj hak hl hl' => ?_⟩
            · have : i ≠ j := fun e => by rw [e] at ha; rw [ha] at haj; cases haj
              exact hl2.got j hj haj (by rw [← getD_set_ne false this]; exact hl)
            · have n1 : i ≠ j := fun e => by rw [e] at ha; rw [ha] at haj; cases haj
              have n2 : i ≠ k := fun e => by rw [e] at ha; rw [ha] at hak; cases hak
              exact hl2.ne j hj k hk haj hak (by rw [← getD_set_ne false n1]; exact hl) (by rw [← getD_set_ne false n2]; exact hl')
        · refine (hal i hiL ha o ho (canon ops (fval al cv β) listed L a0).eval w).wp rfl ?_
          rintro v w' ⟨rfl, rfl⟩
          have hv : (Value.pointer (some ⟨w.heap.size, 0, none⟩)) = fval al cv (upd' β i w.heap.size) i := by unfold fval upd'; rw [ha]; simp
          rw [hv]
          have hb2 : Below w0.heap.size w0 (w.alloc (ob i)) := hb.alloc hb.size _
          have hl2 := hlaid.below ((Below.refl w.heap.size w).alloc (Nat.le_refl _) (ob i))
          refine next (upd' β i w.heap.size) (w.alloc (ob i)) (fun j hj hl => ?_) hb2 ?_
          · have n1 : j ≠ i := fun e => by subst e; rw [hlisted j his, hl] at hi0; cases hi0
            unfold fval upd'; rw [if_neg n1]
          · refine ⟨fun j hj haj hl => ?_, fun j hj k hk haj hak hl hl' hjk => ?_⟩
            · by_cases e : j = i
              · subst e; unfold upd'; rw [if_pos rfl]; exact ⟨hb.size, heap_alloc_new w (ob j)⟩
              · unfold upd'; rw [if_neg e]
                exact hl2.got j hj haj (by rw [← getD_set_ne false (Ne.symm e)]; exact hl)
            · have lo : ∀ j ∈ L, j ≠ i → al j = true → (listed.setIfInBounds i true).getD j false = true → β j ≠ w.heap.size := by
                intro j hj e haj hl
                have := obj_lt (hlaid.got j hj haj (by rw [← getD_set_ne false (Ne.symm e)]; exact hl)).2
                omega
              unfold upd'
              by_cases e1 : j = i
              · rw [if_pos e1, if_neg (fun e => hjk (e1.trans e.symm))]
                exact fun e => lo k hk (fun e => hjk (e1.trans e.symm)) hak hl' e.symm
              · rw [if_neg e1]
                by_cases e2 : k = i
                · rw [if_pos e2]; exact lo j hj e1 haj hl
                · rw [if_neg e2]
                  exact hlaid.ne j hj k hk haj hak (by rw [← getD_set_ne false (Ne.symm e1)]; exact hl) (by rw [← getD_set_ne false (Ne.symm e2)]; exact hl') hjk
  have hnone : ∀ j ∈ L, listed0.getD j false = false := by
    intro j hj
    have := F.fresh j hj
    have hs : j < listed0.size := by
      rcases Nat.lt_or_ge j listed0.size with r | r
      · exact r
      · simp [show ¬ j < listed0.size by omega] at this
    simp [hs] at this ⊢; exact this
  have := main L.length listed0 (fun _ => 0) w0 F.size (fun _ _ => rfl) F.closed (Below.refl _ _) ⟨fun j hj _ hl => (by rw [hnone j hj] at hl; cases hl), fun j hj k _ _ _ hl => (by rw [hnone j hj] at hl; cases hl)⟩
    (by rw [List.filter_eq_self.2]; intro j hj; rw [hnone j hj]; rfl)
  rwa [canon_none hnone] at this
end
end Go.Proofs.YtflmkgecgijncaaDoor
