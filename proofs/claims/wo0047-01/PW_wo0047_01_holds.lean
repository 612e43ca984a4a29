import PyProof.Rows.All
import Wide.All
import OpenK.AllK
import Wide.FinOn
import PySem.Challenge.RW_wo0047_01
set_option Elab.async false
set_option rowWalk.seconds 0
set_option linter.unusedVariables false
set_option compiler.extract_closed false
-- Math0
section
namespace Mine
/-- the plain walk: a stack of segments, the places done, the parts -/
structure SS where
  segs : List (List Int)
  done : List Int
  parts : List (List Int)

inductive Reach (adj : Int → List Int) : Int → Int → Prop
  | refl (x : Int) : Reach adj x x
  | step {x y z : Int} : y ∈ adj x → Reach adj y z → Reach adj x z

def insI (x : Int) : List Int → List Int
  | [] => [x]
  | y :: r => if x ≤ y then x :: y :: r else y :: insI x r
def isort : List Int → List Int
  | [] => []
  | x :: r => insI x (isort r)

def mergeAt (o : Int) : List (List Int) → List (List Int)
  | [] => []
  | s :: r => if o ∈ s then [s ++ r.flatten] else s :: mergeAt o r

def starts : Nat → List (List Int) → List Int
  | _, [] => []
  | n, s :: r => (n : Int) :: starts (n + s.length) r

def goneL (g : Int → SS → Option SS) : List Int → SS → Option SS
  | [], s => some s
  | o :: r, s => if o ∈ s.segs.flatten then goneL g r { s with segs := mergeAt o s.segs } else if o ∈ s.done then goneL g r s else match g o s with
      | none => none
      | some s1 => goneL g r s1

def goneEnd (v : Int) (s s2 : SS) : SS :=
  if s2.segs.dropLast.flatten.length = s.segs.flatten.length then { segs := s2.segs.dropLast, done := s2.done ++ [v], parts := s2.parts ++ [isort (s2.segs.getLastD [])] }
  else { s2 with done := s2.done ++ [v] }

def goneS (adj : Int → List Int) : Nat → Int → SS → Option SS
  | 0, _, _ => none
  | f + 1, v, s => match goneL (goneS adj f) (adj v) { s with segs := s.segs ++ [[v]] } with
      | none => none
      | some s2 => some (goneEnd v s s2)

/-- the order in which a part's last place is done -/
inductive KOrd : List Int → List (List Int) → Prop
  | nil (d : List Int) : KOrd d []
  | more {d : List Int} {ps : List (List Int)} (x : Int) : KOrd d ps → KOrd (d ++ [x]) ps
  | part {d : List Int} {ps : List (List Int)} {x : Int} {P : List Int} : KOrd d ps → x ∈ P → (∀ y ∈ P, y ∈ d ++ [x]) → KOrd (d ++ [x]) (ps ++ [P])

structure Inv (adj : Int → List Int) (s : SS) : Prop where
  pn : s.segs.flatten.Nodup
  pr : ∀ x ∈ s.segs.flatten, 0 ≤ x ∧ x < 7
  ne : ∀ S ∈ s.segs, S ≠ []
  dn : s.done.Nodup
  dr : ∀ x ∈ s.done, 0 ≤ x ∧ x < 7
  con : ∀ S ∈ s.segs, ∀ x ∈ S, ∀ y ∈ S, Reach adj x y
  fwd : s.segs.Pairwise fun S T => ∀ x ∈ S, ∀ y ∈ T, Reach adj x y
  out : ∀ A S B, s.segs = A ++ S :: B → ∀ x ∈ S, x ∈ s.done → ∀ y ∈ adj x, (y ∈ s.done ∨ y ∈ s.segs.flatten) ∧ y ∉ A.flatten
  cov : ∀ x ∈ s.done, x ∈ s.segs.flatten ∨ x ∈ s.parts.flatten
  pdn : ∀ x ∈ s.parts.flatten, x ∈ s.done ∧ x ∉ s.segs.flatten
  pnd : s.parts.flatten.Nodup
  pne : ∀ P ∈ s.parts, P ≠ []
  scc : ∀ P ∈ s.parts, ∀ x ∈ P, ∀ y ∈ P, Reach adj x y
  clo : ∀ A P B, s.parts = A ++ P :: B → ∀ x ∈ P, ∀ y ∈ adj x, y ∈ A.flatten ∨ y ∈ P
  srt : ∀ P ∈ s.parts, P.Pairwise (· ≤ ·)
  ord : KOrd s.done s.parts

/-- a call's start: the place is new, and all of the path reaches it -/
structure Pre (adj : Int → List Int) (v : Int) (s : SS) : Prop where
  inv : Inv adj s
  rng : 0 ≤ v ∧ v < 7
  np : v ∉ s.segs.flatten
  nd : v ∉ s.done
  rch : ∀ x ∈ s.segs.flatten, Reach adj x v

/-- a call's loop, behind the streets of es -/
structure LInv (adj : Int → List Int) (v : Int) (s : SS) (es : List Int) (σ : SS) : Prop where
  inv : Inv adj σ
  nd : v ∉ σ.done
  shape : ∃ pre mid ext, s.segs = pre ++ mid ∧ σ.segs = pre ++ [mid.flatten ++ v :: ext] ∧ (∀ x ∈ ext, x ∈ σ.done) ∧ ∀ o ∈ es, o ∉ pre.flatten
  seen : ∀ o ∈ es, o ∈ σ.done ∨ o ∈ σ.segs.flatten
  dpre : ∃ nd, σ.done = s.done ++ nd ∧ ∀ x ∈ nd, x ∉ s.segs.flatten

/-- a call's end -/
structure Res (adj : Int → List Int) (v : Int) (s s' : SS) : Prop where
  inv : Inv adj s'
  din : v ∈ s'.done
  shape : s'.segs = s.segs ∨ ∃ pre mid ext, s.segs = pre ++ mid ∧ mid ≠ [] ∧ s'.segs = pre ++ [mid.flatten ++ v :: ext] ∧ (∀ x ∈ ext, x ∈ s'.done)
  dpre : ∃ nd, s'.done = s.done ++ nd ∧ ∀ x ∈ nd, x ∉ s.segs.flatten
end Mine
end
-- Math1
section
namespace Mine
variable {adj : Int → List Int}
theorem Reach.trans {x y z : Int} (h : Reach adj x y) (k : Reach adj y z) : Reach adj x z := by
  induction h with
  | refl => exact k
  | step e _ ih => exact .step e (ih k)
theorem Reach.one {x y : Int} (h : y ∈ adj x) : Reach adj x y := .step h (.refl y)

theorem split_last {α : Type} {A B X : List α} {S T : α} (h : A ++ S :: B = X ++ [T]) : (B = [] ∧ A = X ∧ S = T) ∨ ∃ B', B = B' ++ [T] ∧ X = A ++ S :: B' := by
  rcases List.eq_nil_or_concat B with rfl | ⟨B', t, rfl⟩
  · left
    have := List.append_inj' h rfl
    exact ⟨rfl, this.1, by simpa using this.2⟩
  · right
    have h' : (A ++ S :: B') ++ [t] = X ++ [T] := by simpa using h
    have := List.append_inj' h' rfl
    have e : t = T := by simpa using this.2
    subst e
    exact ⟨B', by simp, this.1.symm⟩

theorem mergeAt_split {o : Int} : ∀ {segs : List (List Int)}, o ∈ segs.flatten → ∃ A S B, segs = A ++ S :: B ∧ o ∈ S ∧ o ∉ A.flatten ∧ mergeAt o segs = A ++ [S ++ B.flatten]
  | [], h => by simp at h
  | s :: r, h => by
    by_cases hs : o ∈ s
    · exact ⟨[], s, r, rfl, hs, by simp, by simp [mergeAt, hs]⟩
    · have hr : o ∈ r.flatten := by
        rw [List.flatten_cons] at h
        rcases List.mem_append.mp h with h | h
        · exact absurd h hs
        · exact h
      obtain ⟨A, S, B, e, h1, h2, h3⟩ := mergeAt_split hr
      refine ⟨s :: A, S, B, by rw [e]; rfl, h1, ?_, ?_⟩
      · rw [List.flatten_cons]
        intro hm
        rcases List.mem_append.mp hm with hm | hm
        · exact hs hm
        · exact h2 hm
      · rw [mergeAt, if_neg hs, h3]; rfl
theorem mergeAt_flatten (o : Int) : ∀ segs : List (List Int), (mergeAt o segs).flatten = segs.flatten
  | [] => rfl
  | s :: r => by
    unfold mergeAt
    split
    · simp
    · rw [List.flatten_cons, List.flatten_cons, mergeAt_flatten o r]

theorem mem_insI {x y : Int} : ∀ {l : List Int}, y ∈ insI x l ↔ y = x ∨ y ∈ l
  | [] => by simp [insI]
  | z :: r => by
    unfold insI
    split
    · simp
    · rw [List.mem_cons, mem_insI, List.mem_cons]
      constructor
      · rintro (h | h | h)
        · exact .inr (.inl h)
        · exact .inl h
        · exact .inr (.inr h)
      · rintro (h | h | h)
        · exact .inr (.inl h)
        · exact .inl h
        · exact .inr (.inr h)
theorem mem_isort {y : Int} : ∀ {l : List Int}, y ∈ isort l ↔ y ∈ l
  | [] => by simp [isort]
  | z :: r => by unfold isort; rw [mem_insI, mem_isort, List.mem_cons]
theorem insI_perm (x : Int) : ∀ l : List Int, (insI x l).Perm (x :: l)
  | [] => .refl _
  | y :: r => by
    unfold insI
    split
    · exact .refl _
    · exact ((insI_perm x r).cons y).trans (.swap x y r)
theorem isort_perm : ∀ l : List Int, (isort l).Perm l
  | [] => .refl _
  | x :: r => (insI_perm x _).trans ((isort_perm r).cons x)
theorem insI_sorted (x : Int) : ∀ {l : List Int}, l.Pairwise (· ≤ ·) → (insI x l).Pairwise (· ≤ ·)
  | [], _ => by simp [insI]
  | y :: r, h => by
    obtain ⟨h1, h2⟩ := List.pairwise_cons.mp h
    unfold insI
    split
    · rename_i hxy
      refine List.pairwise_cons.mpr ⟨fun z hz => ?_, h⟩
      rcases List.mem_cons.mp hz with rfl | hz
      · exact hxy
      · exact Int.le_trans hxy (h1 z hz)
    · rename_i hxy
      refine List.pairwise_cons.mpr ⟨fun z hz => ?_, insI_sorted x h2⟩
      rcases mem_insI.mp hz with rfl | hz
      · omega
      · exact h1 z hz
theorem isort_sorted : ∀ l : List Int, (isort l).Pairwise (· ≤ ·)
  | [] => .nil
  | x :: r => insI_sorted x (isort_sorted r)
theorem isort_nodup {l : List Int} (h : l.Nodup) : (isort l).Nodup := (isort_perm l).nodup_iff.mpr h

/-- all of the path reaches a place of its last segment -/
theorem Inv.reach_last {s : SS} (I : Inv adj s) {pre : List (List Int)} {T : List Int} (e : s.segs = pre ++ [T]) {v : Int} (hv : v ∈ T) : ∀ x ∈ s.segs.flatten, Reach adj x v := by
  intro x hx
  rw [e] at hx
  have f := I.fwd
  rw [e] at f
  obtain ⟨_, _, f3⟩ := List.pairwise_append.mp f
  rw [List.flatten_append] at hx
  rcases List.mem_append.mp hx with hx | hx
  · obtain ⟨S, hS, hxS⟩ := List.mem_flatten.mp hx
    exact f3 S hS T (by simp) x hxS v hv
  · have hx : x ∈ T := by simpa using hx
    exact I.con T (by rw [e]; simp) x hx v hv

theorem Pre.init {v : Int} {s : SS} (P : Pre adj v s) : LInv adj v s [] { s with segs := s.segs ++ [[v]] } := by
  obtain ⟨I, hr, np, nd, rc⟩ := P
  have fl : (s.segs ++ [[v]]).flatten = s.segs.flatten ++ [v] := by simp
  refine ⟨⟨?_, ?_, ?_, I.dn, I.dr, ?_, ?_, ?_, ?_, ?_, I.pnd, I.pne, I.scc, I.clo, I.srt, I.ord⟩, nd, ⟨s.segs, [], [], by simp, by simp, by simp, by simp⟩, by simp, ⟨[], by simp, by simp⟩⟩
  · show (s.segs ++ [[v]]).flatten.Nodup
    rw [fl]
    exact List.nodup_append.mpr ⟨I.pn, by simp, fun x hx y hy e => np (by rw [List.mem_singleton.mp hy] at e; exact e ▸ hx)⟩
  · intro x hx
    have hx : x ∈ (s.segs ++ [[v]]).flatten := hx
    rw [fl] at hx
    rcases List.mem_append.mp hx with hx | hx
    · exact I.pr x hx
    · rw [List.mem_singleton.mp hx]; exact hr
  · intro S hS
    rcases List.mem_append.mp hS with hS | hS
    · exact I.ne S hS
    · rw [List.mem_singleton.mp hS]; simp
  · intro S hS x hx y hy
    rcases List.mem_append.mp hS with hS | hS
    · exact I.con S hS x hx y hy
    · rw [List.mem_singleton.mp hS] at hx hy
      rw [List.mem_singleton.mp hx, List.mem_singleton.mp hy]; exact .refl v
  · refine List.pairwise_append.mpr ⟨I.fwd, by simp, fun S hS T hT x hx y hy => ?_⟩
    rw [List.mem_singleton.mp hT] at hy
    rw [List.mem_singleton.mp hy]
    exact rc x (List.mem_flatten.mpr ⟨S, hS, hx⟩)
  · intro A S B e x hx hd y hy
    rcases split_last e.symm with ⟨_, _, e3⟩ | ⟨B', _, e2⟩
    · rw [e3] at hx
      rw [List.mem_singleton.mp hx] at hd
      exact absurd hd nd
    · obtain ⟨h1, h2⟩ := I.out A S B' e2 x hx hd y hy
      refine ⟨h1.imp id fun h => ?_, h2⟩
      show y ∈ (s.segs ++ [[v]]).flatten
      rw [fl]; exact List.mem_append_left _ h
  · intro x hx
    refine (I.cov x hx).imp (fun h => ?_) id
    show x ∈ (s.segs ++ [[v]]).flatten
    rw [fl]; exact List.mem_append_left _ h
  · intro x hx
    obtain ⟨h1, h2⟩ := I.pdn x hx
    refine ⟨h1, ?_⟩
    show x ∉ (s.segs ++ [[v]]).flatten
    rw [fl]
    intro hm
    rcases List.mem_append.mp hm with hm | hm
    · exact h2 hm
    · rw [List.mem_singleton.mp hm] at h1; exact nd h1

theorem LInv.skip {v : Int} {s σ : SS} {es : List Int} {o : Int} (h : LInv adj v s es σ) (hp : o ∉ σ.segs.flatten) (hd : o ∈ σ.done) : LInv adj v s (es ++ [o]) σ := by
  obtain ⟨I, nd, ⟨pre, mid, ext, e1, e2, e3, e4⟩, sn, dp⟩ := h
  refine ⟨I, nd, ⟨pre, mid, ext, e1, e2, e3, fun x hx => ?_⟩, fun x hx => ?_, dp⟩
  · rcases List.mem_append.mp hx with hx | hx
    · exact e4 x hx
    · rw [List.mem_singleton.mp hx]
      intro hm; exact hp (by rw [e2, List.flatten_append]; exact List.mem_append_left _ hm)
  · rcases List.mem_append.mp hx with hx | hx
    · exact sn x hx
    · rw [List.mem_singleton.mp hx]; exact .inl hd

theorem LInv.path {v : Int} {s σ : SS} {es : List Int} {o : Int} (h : LInv adj v s es σ) (ho : o ∈ adj v) (hp : o ∈ σ.segs.flatten) : LInv adj v s (es ++ [o]) { σ with segs := mergeAt o σ.segs } := by
  obtain ⟨I, nd, ⟨pre, mid, ext, e1, e2, e3, e4⟩, sn, dp⟩ := h
  obtain ⟨A, S, B, f1, f2, f3, f4⟩ := mergeAt_split hp
  have hvT : v ∈ mid.flatten ++ v :: ext := by simp
  have all := I.reach_last e2 hvT
  have fl := mergeAt_flatten o σ.segs
  have fwd := I.fwd
  rw [f1] at fwd
  obtain ⟨w1, w2, w3⟩ := List.pairwise_append.mp fwd
  obtain ⟨w4, w5⟩ := List.pairwise_cons.mp w2
  have inM : ∀ {y}, y ∈ S ++ B.flatten → y ∈ S ∨ ∃ T ∈ B, y ∈ T := fun {y} hy => (List.mem_append.mp hy).imp id fun h => List.mem_flatten.mp h
  have fromO : ∀ y ∈ S ++ B.flatten, Reach adj o y := fun y hy => by
    rcases inM hy with hy | ⟨T, hT, hy⟩
    · exact I.con S (by rw [f1]; simp) o f2 y hy
    · exact w4 T hT o f2 y hy
  have conM : ∀ x ∈ S ++ B.flatten, ∀ y ∈ S ++ B.flatten, Reach adj x y := fun x hx y hy =>
    ((all x (by rw [f1]; simp only [List.flatten_append, List.flatten_cons]; exact List.mem_append_right _ hx)).trans (.one ho)).trans (fromO y hy)
  have conA : ∀ T ∈ A, T ∈ σ.segs := fun T hT => by rw [f1]; exact List.mem_append_left _ hT
  refine ⟨⟨?_, ?_, ?_, I.dn, I.dr, ?_, ?_, ?_, ?_, ?_, I.pnd, I.pne, I.scc, I.clo, I.srt, I.ord⟩, nd, ?_, ?_, dp⟩
  · show (mergeAt o σ.segs).flatten.Nodup
    rw [fl]; exact I.pn
  · intro x hx
    have hx : x ∈ (mergeAt o σ.segs).flatten := hx
    rw [fl] at hx; exact I.pr x hx
  · intro T hT
    have hT : T ∈ mergeAt o σ.segs := hT
    rw [f4] at hT
    rcases List.mem_append.mp hT with hT | hT
    · exact I.ne T (conA T hT)
    · rw [List.mem_singleton.mp hT]
      intro e
      have : S = [] := (List.append_eq_nil_iff.mp e).1
      rw [this] at f2; simp at f2
  · intro T hT
    have hT : T ∈ mergeAt o σ.segs := hT
    rw [f4] at hT
    rcases List.mem_append.mp hT with hT | hT
    · exact I.con T (conA T hT)
    · rw [List.mem_singleton.mp hT]; exact conM
  · show (mergeAt o σ.segs).Pairwise _
    rw [f4]
    refine List.pairwise_append.mpr ⟨w1, by simp, fun T hT M hM x hx y hy => ?_⟩
    rw [List.mem_singleton.mp hM] at hy
    rcases inM hy with hy | ⟨T', hT', hy⟩
    · exact w3 T hT S (by simp) x hx y hy
    · exact w3 T hT T' (by simp [hT']) x hx y hy
  · intro A1 S1 B1 e x hx hd y hy
    have e : mergeAt o σ.segs = A1 ++ S1 :: B1 := e
    rw [f4] at e
    show (y ∈ σ.done ∨ y ∈ (mergeAt o σ.segs).flatten) ∧ _
    rw [fl]
    rcases split_last e.symm with ⟨_, g2, g3⟩ | ⟨B', _, g2⟩
    · rw [g3] at hx
      rw [g2]
      rcases inM hx with hx | ⟨T, hT, hx⟩
      · exact I.out A S B f1 x hx hd y hy
      · obtain ⟨B1', B2', hB⟩ := List.append_of_mem hT
        obtain ⟨k1, k2⟩ := I.out (A ++ S :: B1') T B2' (by rw [f1, hB]; simp) x hx hd y hy
        refine ⟨k1, fun hm => k2 ?_⟩
        rw [List.flatten_append]; exact List.mem_append_left _ hm
    · exact I.out A1 S1 (B' ++ S :: B) (by rw [f1, g2]; simp) x hx hd y hy
  · intro x hx
    show x ∈ (mergeAt o σ.segs).flatten ∨ _
    rw [fl]; exact I.cov x hx
  · intro x hx
    show x ∈ σ.done ∧ x ∉ (mergeAt o σ.segs).flatten
    rw [fl]; exact I.pdn x hx
  · rcases split_last (f1.symm.trans e2) with ⟨g1, g2, g3⟩ | ⟨B', g1, g2⟩
    · refine ⟨pre, mid, ext, e1, ?_, e3, fun x hx => ?_⟩
      · show mergeAt o σ.segs = _
        rw [f4, g1, g2, g3]; simp
      · rcases List.mem_append.mp hx with hx | hx
        · exact e4 x hx
        · rw [List.mem_singleton.mp hx, ← g2]; exact f3
    · refine ⟨A, S :: B' ++ mid, ext, by rw [e1, g2]; simp, ?_, e3, fun x hx => ?_⟩
      · show mergeAt o σ.segs = _
        rw [f4, g1]; simp
      · rcases List.mem_append.mp hx with hx | hx
        · intro hm
          exact e4 x hx (by rw [g2, List.flatten_append]; exact List.mem_append_left _ hm)
        · rw [List.mem_singleton.mp hx]; exact f3
  · intro x hx
    show x ∈ σ.done ∨ x ∈ (mergeAt o σ.segs).flatten
    rw [fl]
    rcases List.mem_append.mp hx with hx | hx
    · exact sn x hx
    · rw [List.mem_singleton.mp hx]; exact .inr hp
end Mine
end
-- Math2
section
namespace Mine
variable {adj : Int → List Int}

theorem LInv.pre {v : Int} {s σ : SS} {es : List Int} {o : Int} (h : LInv adj v s es σ) (ho : o ∈ adj v) (hr : 0 ≤ o ∧ o < 7) (hp : o ∉ σ.segs.flatten) (hd : o ∉ σ.done) : Pre adj o σ := by
  obtain ⟨I, nd, ⟨pre, mid, ext, e1, e2, e3, e4⟩, sn, dp⟩ := h
  exact ⟨I, hr, hp, hd, fun x hx => (I.reach_last e2 (v := v) (by simp) x hx).trans (.one ho)⟩

theorem LInv.child {v : Int} {s σ σ' : SS} {es : List Int} {o : Int} (h : LInv adj v s es σ) (hp : o ∉ σ.segs.flatten) (r : Res adj o σ σ') : LInv adj v s (es ++ [o]) σ' := by
  obtain ⟨I, nd, ⟨pre, mid, ext, e1, e2, e3, e4⟩, sn, ⟨nd0, d1, d2⟩⟩ := h
  obtain ⟨I', din, sh, ⟨nd1, d3, d4⟩⟩ := r
  have hv : v ∈ σ.segs.flatten := by rw [e2]; simp
  have up : ∀ x ∈ σ.done, x ∈ σ'.done := fun x hx => by rw [d3]; exact List.mem_append_left _ hx
  have hpre : o ∉ pre.flatten := fun hm => hp (by rw [e2, List.flatten_append]; exact List.mem_append_left _ hm)
  have sub : ∀ x ∈ σ.segs.flatten, x ∈ σ'.segs.flatten := by
    intro x hx
    rcases sh with e | ⟨p1, m1, ext1, f1, f2, f3, f4⟩
    · rw [e]; exact hx
    · rw [f3, List.flatten_append]
      rw [f1, List.flatten_append] at hx
      rcases List.mem_append.mp hx with hx | hx
      · exact List.mem_append_left _ hx
      · exact List.mem_append_right _ (by simp only [List.flatten_cons, List.flatten_nil, List.append_nil]; exact List.mem_append_left _ hx)
  refine ⟨I', ?_, ?_, ?_, ⟨nd0 ++ nd1, by rw [d3, d1, List.append_assoc], ?_⟩⟩
  · rw [d3]
    intro hm
    rcases List.mem_append.mp hm with hm | hm
    · exact nd hm
    · exact d4 v hm hv
  · rcases sh with e | ⟨p1, m1, ext1, f1, f2, f3, f4⟩
    · refine ⟨pre, mid, ext, e1, by rw [e, e2], fun x hx => up x (e3 x hx), fun x hx => ?_⟩
      rcases List.mem_append.mp hx with hx | hx
      · exact e4 x hx
      · rw [List.mem_singleton.mp hx]; exact hpre
    · rcases List.eq_nil_or_concat m1 with rfl | ⟨m1', t, rfl⟩
      · exact absurd rfl f2
      · have h' : (p1 ++ m1') ++ [t] = pre ++ [mid.flatten ++ v :: ext] := by rw [← e2, f1]; simp
        have q := List.append_inj' h' rfl
        have q1 : p1 ++ m1' = pre := q.1
        have q2 : t = mid.flatten ++ v :: ext := by simpa using q.2
        refine ⟨p1, m1' ++ mid, ext ++ o :: ext1, by rw [e1, ← q1]; simp, by rw [f3, q2]; simp, fun x hx => ?_, fun x hx => ?_⟩
        · rcases List.mem_append.mp hx with hx | hx
          · exact up x (e3 x hx)
          · rcases List.mem_cons.mp hx with rfl | hx
            · exact din
            · exact f4 x hx
        · have hsub : ∀ z, z ∈ p1.flatten → z ∈ pre.flatten := fun z hz => by rw [← q1, List.flatten_append]; exact List.mem_append_left _ hz
          rcases List.mem_append.mp hx with hx | hx
          · exact fun hm => e4 x hx (hsub _ hm)
          · rw [List.mem_singleton.mp hx]; exact fun hm => hpre (hsub _ hm)
  · intro x hx
    rcases List.mem_append.mp hx with hx | hx
    · rcases sn x hx with hx | hx
      · exact .inl (up x hx)
      · exact .inr (sub x hx)
    · rw [List.mem_singleton.mp hx]; exact .inl din
  · intro x hx
    rcases List.mem_append.mp hx with hx | hx
    · exact d2 x hx
    · intro hm
      refine d4 x hx ?_
      rw [e1] at hm
      rw [e2]
      simp only [List.flatten_append, List.flatten_cons, List.flatten_nil, List.append_nil] at hm ⊢
      rcases List.mem_append.mp hm with hm | hm
      · exact List.mem_append_left _ hm
      · exact List.mem_append_right _ (List.mem_append_left _ hm)

theorem flatten_ne {l : List (List Int)} (h : ∀ S ∈ l, S ≠ []) (e : l.flatten.length = 0) : l = [] := by
  cases l with
  | nil => rfl
  | cons S r =>
    exfalso
    have h1 := h S (by simp)
    have h2 : 0 < S.length := List.length_pos_iff.mpr h1
    rw [List.flatten_cons, List.length_append] at e
    omega

theorem LInv.fin {v : Int} {s σ : SS} (P : Pre adj v s) (h : LInv adj v s (adj v) σ) : Res adj v s (goneEnd v s σ) := by
  obtain ⟨I, nd, ⟨pre, mid, ext, e1, e2, e3, e4⟩, sn, ⟨nd0, d1, d2⟩⟩ := h
  have hT : (σ.segs.getLastD []) = mid.flatten ++ v :: ext := by rw [e2]; simp
  have hD : σ.segs.dropLast = pre := by rw [e2]; simp
  have hv : v ∈ mid.flatten ++ v :: ext := by simp
  have fl : σ.segs.flatten = pre.flatten ++ (mid.flatten ++ v :: ext) := by rw [e2]; simp
  have pn := I.pn
  rw [fl] at pn
  obtain ⟨n1, n2, n3⟩ := List.nodup_append.mp pn
  have vpre : v ∉ pre.flatten := fun hm => n3 v hm v hv rfl
  have vrng := P.rng
  have dn' : (σ.done ++ [v]).Nodup := List.nodup_append.mpr ⟨I.dn, by simp, fun x hx y hy e => nd (by rw [List.mem_singleton.mp hy] at e; exact e ▸ hx)⟩
  have dr' : ∀ x ∈ σ.done ++ [v], 0 ≤ x ∧ x < 7 := fun x hx => by
    rcases List.mem_append.mp hx with hx | hx
    · exact I.dr x hx
    · rw [List.mem_singleton.mp hx]; exact vrng
  have dp' : ∃ nd, σ.done ++ [v] = s.done ++ nd ∧ ∀ x ∈ nd, x ∉ s.segs.flatten := ⟨nd0 ++ [v], by rw [d1, List.append_assoc], fun x hx => by
    rcases List.mem_append.mp hx with hx | hx
    · exact d2 x hx
    · rw [List.mem_singleton.mp hx]; exact P.np⟩
  unfold goneEnd
  rw [hD, hT]
  by_cases hc : pre.flatten.length = s.segs.flatten.length
  · rw [if_pos hc]
    have hmid : mid = [] := by
      refine flatten_ne (fun S hS => P.inv.ne S (by rw [e1]; exact List.mem_append_right _ hS)) ?_
      rw [e1, List.flatten_append, List.length_append] at hc
      omega
    subst hmid
    simp only [List.flatten_nil, List.nil_append, List.append_nil] at *
    have inD : ∀ x ∈ v :: ext, x ∈ σ.done ++ [v] := fun x hx => by
      rcases List.mem_cons.mp hx with rfl | hx
      · exact List.mem_append_right _ (by simp)
      · exact List.mem_append_left _ (e3 x hx)
    have mems : ∀ {x}, x ∈ isort (v :: ext) ↔ x ∈ v :: ext := mem_isort
    have lastS : ∀ y, y ∉ pre.flatten → y ∈ σ.done ∨ y ∈ σ.segs.flatten → y ∈ σ.parts.flatten ∨ y ∈ isort (v :: ext) := fun y hy hh => by
      have toT : y ∈ σ.segs.flatten → y ∈ isort (v :: ext) := fun h => by
        rw [fl] at h
        rcases List.mem_append.mp h with h | h
        · exact absurd h hy
        · exact mems.mpr h
      rcases hh with h | h
      · rcases I.cov y h with h | h
        · exact .inr (toT h)
        · exact .inl h
      · exact .inr (toT h)
    refine ⟨⟨n1, ?_, ?_, dn', dr', ?_, ?_, ?_, ?_, ?_, ?_, ?_, ?_, ?_, ?_, ?_⟩, List.mem_append_right _ (by simp), .inl e1.symm, dp'⟩
    · intro x hx; exact I.pr x (by rw [fl]; exact List.mem_append_left _ hx)
    · intro S hS; exact I.ne S (by rw [e2]; exact List.mem_append_left _ hS)
    · intro S hS; exact I.con S (by rw [e2]; exact List.mem_append_left _ hS)
    · have f := I.fwd
      rw [e2] at f
      exact (List.pairwise_append.mp f).1
    · intro A S B e x hx hd y hy
      have e : pre = A ++ S :: B := e
      have hxp : x ∈ pre.flatten := by rw [e]; simp [hx]
      have hxd : x ∈ σ.done := by
        rcases List.mem_append.mp hd with hd | hd
        · exact hd
        · rw [List.mem_singleton.mp hd] at hxp; exact absurd hxp vpre
      obtain ⟨k1, k2⟩ := I.out A S (B ++ [v :: ext]) (by rw [e2, e]; simp) x hx hxd y hy
      refine ⟨?_, k2⟩
      rcases k1 with k1 | k1
      · exact .inl (List.mem_append_left _ k1)
      · rw [fl] at k1
        rcases List.mem_append.mp k1 with k1 | k1
        · exact .inr k1
        · exact .inl (inD y k1)
    · intro x hx
      show x ∈ pre.flatten ∨ x ∈ (σ.parts ++ [isort (v :: ext)]).flatten
      simp only [List.flatten_append, List.flatten_cons, List.flatten_nil, List.append_nil, List.mem_append]
      by_cases hxp : x ∈ pre.flatten
      · exact .inl hxp
      · rcases List.mem_append.mp hx with hx | hx
        · exact .inr (lastS x hxp (.inl hx))
        · rw [List.mem_singleton.mp hx]; exact .inr (.inr (mems.mpr (by simp)))
    · intro x hx
      have hx : x ∈ (σ.parts ++ [isort (v :: ext)]).flatten := hx
      simp only [List.flatten_append, List.flatten_cons, List.flatten_nil, List.append_nil, List.mem_append] at hx
      rcases hx with hx | hx
      · obtain ⟨k1, k2⟩ := I.pdn x hx
        exact ⟨List.mem_append_left _ k1, fun hm => k2 (by rw [fl]; exact List.mem_append_left _ hm)⟩
      · have hx := mems.mp hx
        exact ⟨inD x hx, fun hm => n3 x hm x hx rfl⟩
    · show (σ.parts ++ [isort (v :: ext)]).flatten.Nodup
      simp only [List.flatten_append, List.flatten_cons, List.flatten_nil, List.append_nil]
      refine List.nodup_append.mpr ⟨I.pnd, isort_nodup n2, fun x hx y hy e => ?_⟩
      subst e
      exact (I.pdn x hx).2 (by rw [fl]; exact List.mem_append_right _ (mems.mp hy))
    · intro Q hQ
      rcases List.mem_append.mp hQ with hQ | hQ
      · exact I.pne Q hQ
      · rw [List.mem_singleton.mp hQ]
        intro e
        have : v ∈ isort (v :: ext) := mems.mpr (by simp)
        rw [e] at this; simp at this
    · intro Q hQ x hx y hy
      rcases List.mem_append.mp hQ with hQ | hQ
      · exact I.scc Q hQ x hx y hy
      · rw [List.mem_singleton.mp hQ] at hx hy
        exact I.con (v :: ext) (by rw [e2]; simp) x (mems.mp hx) y (mems.mp hy)
    · intro A Q B e x hx y hy
      have e : σ.parts ++ [isort (v :: ext)] = A ++ Q :: B := e
      rcases split_last e.symm with ⟨_, g2, g3⟩ | ⟨B', _, g2⟩
      · rw [g2, g3]
        rw [g3] at hx
        have hx := mems.mp hx
        rcases List.mem_cons.mp hx with rfl | hx
        · exact lastS y (e4 y hy) (sn y hy)
        · obtain ⟨k1, k2⟩ := I.out pre (v :: ext) [] (by rw [e2]) x (List.mem_cons_of_mem _ hx) (e3 x hx) y hy
          exact lastS y k2 k1
      · exact I.clo A Q B' g2 x hx y hy
    · intro Q hQ
      rcases List.mem_append.mp hQ with hQ | hQ
      · exact I.srt Q hQ
      · rw [List.mem_singleton.mp hQ]; exact isort_sorted _
    · exact .part I.ord (mems.mpr (by simp)) fun y hy => inD y (mems.mp hy)
  · rw [if_neg hc]
    have hmid : mid ≠ [] := by
      rintro rfl
      apply hc
      rw [e1]; simp
    refine ⟨⟨I.pn, I.pr, I.ne, dn', dr', I.con, I.fwd, ?_, ?_, ?_, I.pnd, I.pne, I.scc, I.clo, I.srt, .more v I.ord⟩, List.mem_append_right _ (by simp), .inr ⟨pre, mid, ext, e1, hmid, e2, fun x hx => List.mem_append_left _ (e3 x hx)⟩, dp'⟩
    · intro A S B e x hx hd y hy
      have e : σ.segs = A ++ S :: B := e
      rcases List.mem_append.mp hd with hd | hd
      · obtain ⟨k1, k2⟩ := I.out A S B e x hx hd y hy
        exact ⟨k1.imp (fun h => List.mem_append_left _ h) id, k2⟩
      · have hxv := List.mem_singleton.mp hd
        subst hxv
        rcases split_last (e.symm.trans e2) with ⟨_, g2, _⟩ | ⟨B', _, g2⟩
        · rw [g2]
          exact ⟨(sn y hy).imp (fun h => List.mem_append_left _ h) id, e4 y hy⟩
        · exact absurd (by rw [g2]; simp [hx]) vpre
    · intro x hx
      rcases List.mem_append.mp hx with hx | hx
      · exact I.cov x hx
      · rw [List.mem_singleton.mp hx]; exact .inl (by rw [fl]; simp)
    · intro x hx
      obtain ⟨k1, k2⟩ := I.pdn x hx
      exact ⟨List.mem_append_left _ k1, k2⟩

theorem goneL_inv {g : Int → SS → Option SS} {v : Int} {s : SS} (hr : ∀ o ∈ adj v, 0 ≤ o ∧ o < 7) (hg : ∀ o σ σ', Pre adj o σ → g o σ = some σ' → Res adj o σ σ') :
    ∀ {r es : List Int} {σ s2 : SS}, LInv adj v s es σ → es ++ r = adj v → goneL g r σ = some s2 → LInv adj v s (adj v) s2
  | [], es, σ, s2, h, e, hs => by
    simp only [goneL] at hs
    cases hs
    rw [List.append_nil] at e
    exact e ▸ h
  | o :: r, es, σ, s2, h, e, hs => by
    have ho : o ∈ adj v := by rw [← e]; simp
    have e' : (es ++ [o]) ++ r = adj v := by rw [← e]; simp
    unfold goneL at hs
    split at hs
    · exact goneL_inv hr hg (h.path ho (by assumption)) e' hs
    · split at hs
      · exact goneL_inv hr hg (h.skip (by assumption) (by assumption)) e' hs
      · split at hs
        · cases hs
        · rename_i h1 h2 _ s1 hq
          exact goneL_inv hr hg (h.child h1 (hg o σ s1 (h.pre ho (hr o ho) h1 h2) hq)) e' hs

theorem goneS_res (hr : ∀ x, ∀ o ∈ adj x, 0 ≤ o ∧ o < 7) : ∀ f v s s', Pre adj v s → goneS adj f v s = some s' → Res adj v s s'
  | 0, _, _, _, _, h => by simp [goneS] at h
  | f + 1, v, s, s', P, h => by
    unfold goneS at h
    split at h
    · cases h
    · rename_i s2 hq
      cases h
      exact LInv.fin P (goneL_inv (hr v) (goneS_res hr f) P.init rfl hq)

/-- how many places are new -/
def unv (s : SS) : Nat := ((List.range 7).filter fun (i : Nat) => !decide ((i : Int) ∈ s.segs.flatten) && !decide ((i : Int) ∈ s.done)).length

theorem filter_lt {p q : Nat → Bool} : ∀ {l : List Nat}, (∀ x ∈ l, q x = true → p x = true) → (l.filter q).length ≤ (l.filter p).length
  | [], _ => Nat.le_refl _
  | x :: r, h => by
    have ih := filter_lt (p := p) (q := q) (l := r) fun y hy => h y (List.mem_cons_of_mem _ hy)
    by_cases hq : q x = true
    · rw [List.filter_cons_of_pos hq, List.filter_cons_of_pos (h x (by simp) hq)]; simpa using ih
    · rw [List.filter_cons_of_neg hq]
      by_cases hp : p x = true
      · rw [List.filter_cons_of_pos hp]; simp; omega
      · rw [List.filter_cons_of_neg hp]; exact ih
theorem filter_lt' {p q : Nat → Bool} {a : Nat} : ∀ {l : List Nat}, (∀ x ∈ l, q x = true → p x = true) → a ∈ l → p a = true → q a = false → (l.filter q).length < (l.filter p).length
  | [], _, ha, _, _ => by simp at ha
  | x :: r, h, ha, h1, h2 => by
    have hr : ∀ y ∈ r, q y = true → p y = true := fun y hy => h y (List.mem_cons_of_mem _ hy)
    rcases List.mem_cons.mp ha with rfl | ha
    · rw [List.filter_cons_of_pos h1, List.filter_cons_of_neg (by simp [h2])]
      have := filter_lt hr
      simp; omega
    · have ih := filter_lt' hr ha h1 h2
      by_cases hq : q x = true
      · rw [List.filter_cons_of_pos hq, List.filter_cons_of_pos (h x (by simp) hq)]; simpa using ih
      · rw [List.filter_cons_of_neg hq]
        by_cases hp : p x = true
        · rw [List.filter_cons_of_pos hp]; simp; omega
        · rw [List.filter_cons_of_neg hp]; exact ih

theorem LInv.unv_lt {v : Int} {s σ : SS} {es : List Int} (P : Pre adj v s) (h : LInv adj v s es σ) : unv σ < unv s := by
  obtain ⟨I, nd, ⟨pre, mid, ext, e1, e2, e3, e4⟩, sn, ⟨nd0, d1, d2⟩⟩ := h
  have hsub : ∀ x, x ∈ s.segs.flatten → x ∈ σ.segs.flatten := fun x hx => by
    rw [e1, List.flatten_append] at hx
    rw [e2]
    simp only [List.flatten_append, List.flatten_cons, List.flatten_nil, List.append_nil]
    rcases List.mem_append.mp hx with hx | hx
    · exact List.mem_append_left _ hx
    · exact List.mem_append_right _ (List.mem_append_left _ hx)
  have hv : v ∈ σ.segs.flatten := by rw [e2]; simp
  obtain ⟨v0, v1⟩ := P.rng
  have hvn : ((v.toNat : Nat) : Int) = v := by omega
  refine filter_lt' (a := v.toNat) (fun x _ hx => ?_) (by rw [List.mem_range]; omega) ?_ ?_
  · simp only [Bool.and_eq_true, Bool.not_eq_true', decide_eq_false_iff_not] at hx ⊢
    exact ⟨fun hm => hx.1 (hsub _ hm), fun hm => hx.2 (by rw [d1]; exact List.mem_append_left _ hm)⟩
  · rw [hvn]
    simp only [Bool.and_eq_true, Bool.not_eq_true', decide_eq_false_iff_not]
    exact ⟨P.np, P.nd⟩
  · rw [hvn]
    simp [hv]

theorem goneL_some {g : Int → SS → Option SS} {v : Int} {s : SS} {n : Nat} (P : Pre adj v s) (hn : unv s ≤ n) (hr : ∀ o ∈ adj v, 0 ≤ o ∧ o < 7) (hg : ∀ o σ σ', Pre adj o σ → g o σ = some σ' → Res adj o σ σ')
    (ht : ∀ o σ, Pre adj o σ → unv σ < n → ∃ σ', g o σ = some σ') : ∀ {r es : List Int} {σ : SS}, LInv adj v s es σ → es ++ r = adj v → ∃ s2, goneL g r σ = some s2
  | [], es, σ, h, e => ⟨σ, rfl⟩
  | o :: r, es, σ, h, e => by
    have ho : o ∈ adj v := by rw [← e]; simp
    have e' : (es ++ [o]) ++ r = adj v := by rw [← e]; simp
    unfold goneL
    split
    · exact goneL_some P hn hr hg ht (h.path ho (by assumption)) e'
    · split
      · exact goneL_some P hn hr hg ht (h.skip (by assumption) (by assumption)) e'
      · rename_i h1 h2
        have P' := h.pre ho (hr o ho) h1 h2
        obtain ⟨s1, hq⟩ := ht o σ P' (Nat.lt_of_lt_of_le (h.unv_lt P) hn)
        rw [hq]
        exact goneL_some P hn hr hg ht (h.child h1 (hg o σ s1 P' hq)) e'

theorem goneS_some (hr : ∀ x, ∀ o ∈ adj x, 0 ≤ o ∧ o < 7) : ∀ f v s, Pre adj v s → unv s < f → ∃ s', goneS adj f v s = some s'
  | 0, _, _, _, h => absurd h (Nat.not_lt_zero _)
  | f + 1, v, s, P, h => by
    obtain ⟨s2, hq⟩ := goneL_some (g := goneS adj f) P (Nat.le_of_lt_succ h) (hr v) (goneS_res hr f) (goneS_some hr f) P.init rfl
    exact ⟨goneEnd v s s2, by unfold goneS; rw [hq]⟩
end Mine
end
-- Math3
section
namespace Mine
theorem starts_append (n : Nat) : ∀ (A B : List (List Int)), starts n (A ++ B) = starts n A ++ starts (n + A.flatten.length) B
  | [], B => by simp [starts]
  | S :: A, B => by
    simp only [List.cons_append, starts, List.flatten_cons, List.length_append]
    rw [starts_append _ A B, Nat.add_assoc]
theorem starts_length (n : Nat) : ∀ A : List (List Int), (starts n A).length = A.length
  | [] => rfl
  | S :: A => by simp [starts, starts_length _ A]
theorem starts_push (segs : List (List Int)) (v : Int) : starts 0 (segs ++ [[v]]) = starts 0 segs ++ [(segs.flatten.length : Int)] := by
  rw [starts_append]; simp [starts]
theorem starts_ge (n : Nat) : ∀ (A : List (List Int)), ∀ x ∈ starts n A, (n : Int) ≤ x
  | [], x, h => by simp [starts] at h
  | S :: A, x, h => by
    simp only [starts, List.mem_cons] at h
    rcases h with rfl | h
    · exact Int.le_refl _
    · have := starts_ge (n + S.length) A x h
      omega
theorem starts_lt (n : Nat) : ∀ (A : List (List Int)), (∀ S ∈ A, S ≠ []) → (starts n A).Pairwise (· < ·)
  | [], _ => by simp [starts]
  | S :: A, h => by
    simp only [starts]
    refine List.pairwise_cons.mpr ⟨fun x hx => ?_, starts_lt _ A fun T hT => h T (List.mem_cons_of_mem _ hT)⟩
    have h1 := starts_ge _ A x hx
    have h2 : 0 < S.length := List.length_pos_iff.mpr (h S (by simp))
    omega
theorem pairwise_getD {l : List Int} (h : l.Pairwise (· < ·)) : ∀ i j : Nat, i ≤ j → j < l.length → l.getD i 0 ≤ l.getD j 0 := by
  intro i j hij hj
  rcases Nat.lt_or_eq_of_le hij with hlt | rfl
  · have := List.pairwise_iff_getElem.mp h i j (by omega) hj hlt
    rw [List.getD_eq_getElem?_getD, List.getD_eq_getElem?_getD, List.getElem?_eq_getElem (by omega), List.getElem?_eq_getElem hj]
    exact Int.le_of_lt this
  · exact Int.le_refl _
theorem starts_sorted {A : List (List Int)} (h : ∀ S ∈ A, S ≠ []) : ∀ i j : Nat, i ≤ j → j < (starts 0 A).length → (starts 0 A).getD i 0 ≤ (starts 0 A).getD j 0 := pairwise_getD (starts_lt 0 A h)

theorem idxOf_append {o : Int} {A B : List Int} (h : o ∉ A) : (A ++ B).idxOf o = A.length + B.idxOf o := by
  induction A with
  | nil => simp
  | cons a A ih =>
    have h1 : a ≠ o := fun e => h (by simp [e])
    have h2 : o ∉ A := fun hm => h (List.mem_cons_of_mem _ hm)
    simp only [List.cons_append, List.length_cons]
    rw [List.idxOf_cons, show (a == o) = false from beq_eq_false_iff_ne.mpr h1, cond_false, ih h2]
    omega
theorem idxOf_append_mem {o : Int} {A B : List Int} (h : o ∈ A) : (A ++ B).idxOf o = A.idxOf o := by
  induction A with
  | nil => simp at h
  | cons a A ih =>
    simp only [List.cons_append]
    rw [List.idxOf_cons, List.idxOf_cons]
    by_cases e : a = o
    · simp [e]
    · rw [show (a == o) = false from beq_eq_false_iff_ne.mpr e, cond_false, cond_false]
      rcases List.mem_cons.mp h with rfl | h
      · exact absurd rfl e
      · rw [ih h]

/-- what bisect keeps is what the merged segments' starts are -/
theorem merge_starts {segs : List (List Int)} {o : Int} {k : Nat} (ho : o ∈ segs.flatten) (hk : k ≤ (starts 0 segs).length)
    (h1 : ∀ i : Nat, i < k → (starts 0 segs).getD i 0 ≤ (segs.flatten.idxOf o : Nat)) (h2 : ∀ i : Nat, k ≤ i → i < (starts 0 segs).length → ((segs.flatten.idxOf o : Nat) : Int) < (starts 0 segs).getD i 0) :
    (starts 0 segs).take k = starts 0 (mergeAt o segs) := by
  obtain ⟨A, S, B, e, m1, m2, m3⟩ := mergeAt_split ho
  have hidx : segs.flatten.idxOf o = A.flatten.length + S.idxOf o := by
    rw [e, List.flatten_append, idxOf_append m2, List.flatten_cons, idxOf_append_mem m1]
  have hS : S.idxOf o < S.length := List.idxOf_lt_length_iff.mpr m1
  have hst : starts 0 segs = starts 0 A ++ (A.flatten.length : Int) :: starts (A.flatten.length + S.length) B := by
    rw [e, starts_append]; simp [starts]
  have hA : (starts 0 A).length = A.length := starts_length 0 A
  have hk1 : k = A.length + 1 := by
    have g1 : ¬ k ≤ A.length := fun hle => by
      have := h2 A.length hle (by rw [hst]; simp [hA])
      rw [hst, List.getD_eq_getElem?_getD, List.getElem?_append_right (by omega)] at this
      simp only [hA, Nat.sub_self, List.getElem?_cons_zero, Option.getD_some] at this
      rw [hidx] at this
      omega
    have g2 : ¬ A.length + 1 < k := fun hlt => by
      have h3 := h1 (A.length + 1) hlt
      have hlen : A.length + 1 < (starts 0 segs).length := by omega
      rw [hst, List.getD_eq_getElem?_getD, List.getElem?_append_right (by omega)] at h3
      rw [hst] at hlen
      simp only [hA, List.length_append, List.length_cons] at hlen
      have e9 : A.length + 1 - A.length = 1 := by omega
      simp only [hA, e9, List.getElem?_cons_succ] at h3
      have hB : 0 < (starts (A.flatten.length + S.length) B).length := by omega
      rw [List.getElem?_eq_getElem hB, Option.getD_some] at h3
      have := starts_ge _ B _ (List.getElem_mem hB)
      rw [hidx] at h3
      omega
    omega
  rw [m3, starts_append, hst, hk1]
  simp only [starts, Nat.zero_add]
  rw [show A.length + 1 = (starts 0 A).length + 1 by rw [hA], List.take_append, List.take_of_length_le (by omega)]
  simp

theorem nodup_len : ∀ {n : Nat} {l : List Int}, l.Nodup → (∀ x ∈ l, 0 ≤ x ∧ x < n) → l.length ≤ n
  | 0, [], _, _ => Nat.le_refl _
  | 0, x :: _, _, h => by have := h x (by simp); omega
  | n + 1, l, hn, h => by
    have hf : (l.filter (fun x => decide (x ≠ (n : Int)))).length ≤ n := by
      refine nodup_len (hn.filter _) fun x hx => ?_
      obtain ⟨h1, h2⟩ := List.mem_filter.mp hx
      have := h x h1
      have h2 : x ≠ (n : Int) := by simpa using h2
      omega
    have hc : l.length ≤ (l.filter (fun x => decide (x ≠ (n : Int)))).length + 1 := by
      by_cases hm : (n : Int) ∈ l
      · have e : l.filter (fun x => decide (x ≠ (n : Int))) = l.erase (n : Int) := by
          rw [hn.erase_eq_filter]
          refine List.filter_congr fun x _ => ?_
          by_cases hx : x = (n : Int) <;> simp [hx]
        rw [e, List.length_erase_of_mem hm]
        omega
      · have e : l.filter (fun x => decide (x ≠ (n : Int))) = l := List.filter_eq_self.mpr fun x hx => decide_eq_true (p := x ≠ (n : Int)) fun (e : x = (n : Int)) => hm (e ▸ hx)
        rw [e]
        omega
    omega

theorem sorted_unique : ∀ {l l' : List Int}, l.Perm l' → l.Pairwise (· ≤ ·) → l'.Pairwise (· ≤ ·) → l = l'
  | [], l', h, _, _ => by simpa using h.symm
  | a :: l, [], h, _, _ => by simpa using h
  | a :: l, b :: l', h, h1, h2 => by
    obtain ⟨a1, a2⟩ := List.pairwise_cons.mp h1
    obtain ⟨b1, b2⟩ := List.pairwise_cons.mp h2
    have e : a = b := by
      have ma : a ∈ b :: l' := h.subset (by simp)
      have mb : b ∈ a :: l := h.symm.subset (by simp)
      rcases List.mem_cons.mp ma with e | ma
      · exact e
      · rcases List.mem_cons.mp mb with e | mb
        · exact e.symm
        · have := a1 b mb
          have := b1 a ma
          omega
    subst e
    rw [sorted_unique (List.Perm.cons_inv h) a2 b2]
theorem isort_of {l l' : List Int} (h : l'.Perm l) (hs : l'.Pairwise (· ≤ ·)) : l' = isort l := sorted_unique (h.trans (isort_perm l).symm) hs (isort_sorted l)

variable {adj : Int → List Int}
theorem Inv.path_len {s : SS} (I : Inv adj s) : s.segs.flatten.length ≤ 7 := nodup_len I.pn I.pr
theorem Inv.done_len {s : SS} (I : Inv adj s) : s.done.length ≤ 7 := nodup_len I.dn I.dr
theorem len_le_flatten : ∀ {l : List (List Int)}, (∀ S ∈ l, S ≠ []) → l.length ≤ l.flatten.length
  | [], _ => Nat.le_refl _
  | S :: r, h => by
    have := len_le_flatten (l := r) fun T hT => h T (List.mem_cons_of_mem _ hT)
    have h2 : 0 < S.length := List.length_pos_iff.mpr (h S (by simp))
    simp only [List.length_cons, List.flatten_cons, List.length_append]
    omega
theorem Inv.segs_len {s : SS} (I : Inv adj s) : s.segs.length ≤ 7 := Nat.le_trans (len_le_flatten I.ne) I.path_len
theorem Inv.parts_len {s : SS} (I : Inv adj s) : s.parts.length ≤ 7 :=
  Nat.le_trans (len_le_flatten I.pne) (nodup_len I.pnd fun x hx => I.dr x (I.pdn x hx).1)
end Mine
end
-- Math4
section
namespace Mine
variable {adj : Int → List Int}
theorem fin_shape {v : Int} {s σ : SS} {es : List Int} (h : LInv adj v s es σ) : ∃ pre T, σ.segs = pre ++ [T] ∧ starts 0 σ.segs = starts 0 pre ++ [(pre.flatten.length : Int)] ∧ (starts 0 σ.segs).drop ((starts 0 σ.segs).length - 1) = [(pre.flatten.length : Int)] ∧ σ.segs.flatten = pre.flatten ++ T ∧ pre.flatten.length ≤ s.segs.flatten.length := by
  obtain ⟨pre, mid, ext, e1, e2, -, -⟩ := h.shape
  have hs : starts 0 σ.segs = starts 0 pre ++ [(pre.flatten.length : Int)] := by rw [e2, starts_append]; simp [starts]
  refine ⟨pre, _, e2, hs, ?_, ?_, ?_⟩
  · rw [hs]; simp
  · rw [e2]; simp
  · rw [e1]; simp
theorem end_yes {v : Int} {s σ : SS} {pre : List (List Int)} {T : List Int} (e : σ.segs = pre ++ [T]) (h : pre.flatten.length = s.segs.flatten.length) : goneEnd v s σ = { segs := pre, done := σ.done ++ [v], parts := σ.parts ++ [isort T] } := by
  unfold goneEnd
  rw [if_pos (by rw [e, List.dropLast_concat]; exact h), e, List.dropLast_concat]
  simp
theorem end_no {v : Int} {s σ : SS} {pre : List (List Int)} {T : List Int} (e : σ.segs = pre ++ [T]) (h : pre.flatten.length ≠ s.segs.flatten.length) : goneEnd v s σ = { σ with done := σ.done ++ [v] } := by
  unfold goneEnd
  rw [if_neg (by rw [e, List.dropLast_concat]; exact h)]
theorem goneL_nil {g : Int → SS → Option SS} {σ s2 : SS} {n : Nat} {l : List Int} (h : goneL g (l.drop n) σ = some s2) (hn : l.length ≤ n) : σ = s2 := by
  rw [List.drop_of_length_le hn] at h
  exact Option.some.inj h
end Mine
end
-- Math5
section
namespace Mine
/-- Warshall's ways: over the places below k -/
def War (E : Int → Int → Prop) : Nat → Int → Int → Prop
  | 0, i, j => i = j ∨ E i j
  | k + 1, i, j => War E k i j ∨ (War E k i k ∧ War E k k j)
variable {E : Int → Int → Prop} {adj adjB : Int → List Int}
theorem war_up {i j : Int} {k k' : Nat} (h : k ≤ k') : War E k i j → War E k' i j := by
  intro w
  induction h with
  | refl => exact w
  | step _ ih => exact .inl ih
theorem war_trans : ∀ (k m : Nat) {i j : Int}, m < k → War E k i m → War E k m j → War E k i j
  | 0, _, _, _, h, _, _ => absurd h (Nat.not_lt_zero _)
  | k + 1, m, i, j, h, a, b => by
    rcases Nat.lt_or_eq_of_le (Nat.le_of_lt_succ h) with hm | rfl
    · rcases a with a | ⟨a1, a2⟩
      · rcases b with b | ⟨b1, b2⟩
        · exact .inl (war_trans k m hm a b)
        · exact .inr ⟨war_trans k m hm a b1, b2⟩
      · rcases b with b | ⟨b1, b2⟩
        · exact .inr ⟨a1, war_trans k m hm a2 b⟩
        · exact .inr ⟨a1, b2⟩
    · have a' : War E m i m := a.elim id fun h => h.1
      have b' : War E m m j := b.elim id fun h => h.2
      exact .inr ⟨a', b'⟩
theorem war_mid {k : Nat} {j : Int} : War E (k + 1) k j ↔ War E k k j := ⟨fun h => h.elim id fun h => h.2, .inl⟩
theorem war_reach (hE : ∀ i j, E i j → j ∈ adj i) : ∀ (k : Nat) {i j : Int}, War E k i j → Reach adj i j
  | 0, i, j, h => h.elim (fun e => e ▸ .refl i) fun e => .one (hE _ _ e)
  | k + 1, _, _, h => h.elim (fun h => war_reach hE k h) fun h => (war_reach hE k h.1).trans (war_reach hE k h.2)
theorem reach_war (hE : ∀ i j, j ∈ adj i → E i j) (hr : ∀ x, ∀ o ∈ adj x, 0 ≤ o ∧ o < 7) {i j : Int} (h : Reach adj i j) : War E 7 i j := by
  induction h with
  | refl x => exact war_up (Nat.zero_le _) (.inl rfl)
  | @step x y z hy _ ih =>
    obtain ⟨r0, r1⟩ := hr _ _ hy
    have e : ((y.toNat : Nat) : Int) = y := by omega
    refine war_trans 7 y.toNat (by omega) ?_ ?_
    · rw [e]; exact war_up (Nat.zero_le _) (.inr (hE _ _ hy))
    · rw [e]; exact ih
theorem war_iff (hE : ∀ i j, E i j ↔ j ∈ adj i) (hr : ∀ x, ∀ o ∈ adj x, 0 ≤ o ∧ o < 7) {i j : Int} : War E 7 i j ↔ Reach adj i j :=
  ⟨war_reach (fun i j => (hE i j).mp) 7, reach_war (fun i j => (hE i j).mpr) hr⟩

/-- what a gathering reaches -/
inductive BR (adjB : Int → List Int) (met : List Int) (x : Int) : Int → Prop
  | base : BR adjB met x x
  | step {y z : Int} : BR adjB met x y → z ∈ adjB y → z ∉ met → BR adjB met x z
/-- a group under way: the first n of it have been asked, and of the next one the streets es -/
structure GrpI (adjB : Int → List Int) (met : List Int) (x : Int) (g : List Int) (n : Nat) (es : List Int) : Prop where
  nd : g.Nodup
  rng : ∀ y ∈ g, 0 ≤ y ∧ y < 7
  off : ∀ y ∈ g, y ∉ met
  st : x ∈ g
  rch : ∀ y ∈ g, BR adjB met x y
  clo : ∀ i : Nat, i < n → i < g.length → ∀ z ∈ adjB (g.getD i 0), z ∈ met ++ g
  cur : ∀ z ∈ es, z ∈ met ++ g
structure Grp (adjB : Int → List Int) (met : List Int) (x : Int) (g : List Int) : Prop where
  nd : g.Nodup
  rng : ∀ y ∈ g, 0 ≤ y ∧ y < 7
  off : ∀ y ∈ g, y ∉ met
  st : x ∈ g
  rch : ∀ y ∈ g, BR adjB met x y
  clo : ∀ y ∈ g, ∀ z ∈ adjB y, z ∈ met ∨ z ∈ g
theorem GrpI.init {met : List Int} {x : Int} (h0 : 0 ≤ x ∧ x < 7) (hx : x ∉ met) : GrpI adjB met x [x] 0 [] :=
  ⟨by simp, fun y hy => List.mem_singleton.mp hy ▸ h0, fun y hy => List.mem_singleton.mp hy ▸ hx, by simp, fun y hy => List.mem_singleton.mp hy ▸ .base, fun i hi => absurd hi (Nat.not_lt_zero _), by simp⟩
theorem GrpI.has {met g es : List Int} {x o : Int} {n : Nat} (h : GrpI adjB met x g n es) (ho : o ∈ met ++ g) : GrpI adjB met x g n (es ++ [o]) :=
  ⟨h.nd, h.rng, h.off, h.st, h.rch, h.clo, fun z hz => (List.mem_append.mp hz).elim (h.cur z) fun hz => List.mem_singleton.mp hz ▸ ho⟩
theorem GrpI.new {met g es : List Int} {x o : Int} {n : Nat} (h : GrpI adjB met x g n es) (hn : n < g.length) (ha : o ∈ adjB (g.getD n 0)) (hr : 0 ≤ o ∧ o < 7) (ho : o ∉ met ++ g) : GrpI adjB met x (g ++ [o]) n (es ++ [o]) := by
  have hm : o ∉ met := fun h => ho (List.mem_append_left _ h)
  have hg : o ∉ g := fun h => ho (List.mem_append_right _ h)
  have up : ∀ z ∈ met ++ g, z ∈ met ++ (g ++ [o]) := fun z hz => by rw [← List.append_assoc]; exact List.mem_append_left _ hz
  have gn : g.getD n 0 ∈ g := by rw [List.getD_eq_getElem?_getD, List.getElem?_eq_getElem hn]; exact List.getElem_mem hn
  refine ⟨List.nodup_append.mpr ⟨h.nd, by simp, fun a ha b hb e => hg (by rw [List.mem_singleton.mp hb] at e; exact e ▸ ha)⟩, fun y hy => ?_, fun y hy => ?_, List.mem_append_left _ h.st, fun y hy => ?_, fun i hi hl z hz => ?_, fun z hz => ?_⟩
  · exact (List.mem_append.mp hy).elim (h.rng y) fun hy => List.mem_singleton.mp hy ▸ hr
  · exact (List.mem_append.mp hy).elim (h.off y) fun hy => List.mem_singleton.mp hy ▸ hm
  · exact (List.mem_append.mp hy).elim (h.rch y) fun hy => List.mem_singleton.mp hy ▸ .step (h.rch _ gn) ha hm
  · have hi' : i < g.length := by omega
    rw [List.getD_eq_getElem?_getD, List.getElem?_append_left hi', ← List.getD_eq_getElem?_getD] at hz
    exact up z (h.clo i hi hi' z hz)
  · rcases List.mem_append.mp hz with hz | hz
    · exact up z (h.cur z hz)
    · rw [List.mem_singleton.mp hz]; simp
theorem GrpI.next {met g : List Int} {x : Int} {n : Nat} (h : GrpI adjB met x g n (adjB (g.getD n 0))) : GrpI adjB met x g (n + 1) [] := by
  refine ⟨h.nd, h.rng, h.off, h.st, h.rch, fun i hi hl z hz => ?_, by simp⟩
  rcases Nat.lt_or_eq_of_le (Nat.le_of_lt_succ hi) with hi | rfl
  · exact h.clo i hi hl z hz
  · exact h.cur z hz
theorem GrpI.len {met g es : List Int} {x : Int} {n : Nat} (h : GrpI adjB met x g n es) : g.length ≤ 7 := nodup_len h.nd h.rng
theorem GrpI.fin {met g es : List Int} {x : Int} {n : Nat} (h : GrpI adjB met x g n es) (hn : g.length ≤ n) : Grp adjB met x g := by
  refine ⟨h.nd, h.rng, h.off, h.st, h.rch, fun y hy z hz => ?_⟩
  obtain ⟨i, hi, e⟩ := List.getElem_of_mem hy
  refine List.mem_append.mp (h.clo i (by omega) hi z ?_)
  rw [List.getD_eq_getElem?_getD, List.getElem?_eq_getElem hi]
  simpa [e] using hz

/-- a whole gathering: the order; what has been met ahead of it, and behind it; the groups -/
inductive Gath (adjB : Int → List Int) : List Int → List Int → List Int → List (List Int) → Prop
  | nil (m : List Int) : Gath adjB [] m m []
  | skip {x : Int} {r m m' : List Int} {ps : List (List Int)} : x ∈ m → Gath adjB r m m' ps → Gath adjB (x :: r) m m' ps
  | group {x : Int} {r m m' g : List Int} {ps : List (List Int)} : x ∉ m → Grp adjB m x g → Gath adjB r (m ++ g) m' ps → Gath adjB (x :: r) m m' (isort g :: ps)
theorem Gath.append {o1 o2 m m1 m2 : List Int} {p1 p2 : List (List Int)} (h : Gath adjB o1 m m1 p1) (k : Gath adjB o2 m1 m2 p2) : Gath adjB (o1 ++ o2) m m2 (p1 ++ p2) := by
  induction h with
  | nil => exact k
  | skip hx _ ih => exact .skip hx (ih k)
  | group hx hg _ ih => exact .group hx hg (ih k)

theorem kord_sub {d : List Int} {ps : List (List Int)} (K : KOrd d ps) : ∀ x ∈ ps.flatten, x ∈ d := by
  induction K with
  | nil => intro x hx; simp at hx
  | more y _ ih => exact fun x hx => List.mem_append_left _ (ih x hx)
  | part _ _ hP ih =>
    intro x hx
    rw [List.flatten_append] at hx
    rcases List.mem_append.mp hx with hx | hx
    · exact List.mem_append_left _ (ih x hx)
    · exact hP x (by simpa using hx)

theorem stays {ps : List (List Int)} (clo : ∀ A Q B, ps = A ++ Q :: B → ∀ x ∈ Q, ∀ y ∈ adj x, y ∈ A.flatten ∨ y ∈ Q) {x y : Int} (h : Reach adj x y) : x ∈ ps.flatten → y ∈ ps.flatten := by
  induction h with
  | refl => exact id
  | @step x y z hy _ ih =>
    intro hx
    obtain ⟨Q, hQ, hxQ⟩ := List.mem_flatten.mp hx
    obtain ⟨A, B, e⟩ := List.append_of_mem hQ
    refine ih ?_
    rw [e]
    simp only [List.flatten_append, List.flatten_cons]
    rcases clo A Q B e x hxQ y hy with h | h
    · exact List.mem_append_left _ h
    · exact List.mem_append_right _ (List.mem_append_left _ h)

end Mine
end
-- Math6
section
namespace Mine
variable {E : Int → Int → Prop} {adj adjB : Int → List Int}
theorem reach_war7 (hE : ∀ i j : Int, 0 ≤ i → i < 7 → j ∈ adj i → E i j) (hr : ∀ x, ∀ o ∈ adj x, 0 ≤ o ∧ o < 7) {i j : Int} (h : Reach adj i j) : 0 ≤ i → i < 7 → War E 7 i j := by
  induction h with
  | refl x => exact fun _ _ => war_up (Nat.zero_le _) (.inl rfl)
  | @step x y z hy _ ih =>
    intro h0 h1
    obtain ⟨r0, r1⟩ := hr _ _ hy
    have e : ((y.toNat : Nat) : Int) = y := by omega
    refine war_trans 7 y.toNat (by omega) ?_ ?_
    · rw [e]; exact war_up (Nat.zero_le _) (.inr (hE _ _ h0 h1 hy))
    · rw [e]; exact ih r0 r1
theorem gath_law7 (hB : ∀ x y : Int, 0 ≤ x ∧ x < 7 → 0 ≤ y ∧ y < 7 → (x ∈ adjB y ↔ y ∈ adj x)) {d : List Int} {ps : List (List Int)} (K : KOrd d ps) :
    ∀ {qs ps' : List (List Int)} {m m' : List Int}, d.Nodup → (ps ++ qs).flatten.Nodup → (∀ x ∈ d, x ∈ (ps ++ qs).flatten) → (∀ x ∈ (ps ++ qs).flatten, 0 ≤ x ∧ x < 7) → (∀ x, x ∈ m ↔ x ∈ qs.flatten) →
      (∀ A Q B, ps = A ++ Q :: B → ∀ x ∈ Q, ∀ y ∈ adj x, y ∈ A.flatten ∨ y ∈ Q) → (∀ P ∈ ps, ∀ x ∈ P, ∀ y ∈ P, Reach adj x y) → (∀ P ∈ ps, P.Pairwise (· ≤ ·)) → (∀ y, ∀ z ∈ adjB y, z ∈ (ps ++ qs).flatten) →
      Gath adjB d.reverse m m' ps' → ps' = ps.reverse := by
  induction K with
  | nil d =>
    intro qs ps' m m' dn nd cov hV hm clo scc srt hcov G
    have key : ∀ (l : List Int) (m m' : List Int) (ps' : List (List Int)), (∀ x ∈ l, x ∈ m) → Gath adjB l m m' ps' → ps' = [] := by
      intro l
      induction l with
      | nil => intro m m' ps' _ G; cases G; rfl
      | cons x r ih =>
        intro m m' ps' h G
        cases G with
        | skip _ G => exact ih _ _ _ (fun y hy => h y (List.mem_cons_of_mem _ hy)) G
        | group hx _ _ => exact absurd (h x (by simp)) hx
    exact key _ _ _ _ (fun x hx => (hm x).mpr (by simpa using cov x (List.mem_reverse.mp hx))) G
  | @more d ps x K ih =>
    intro qs ps' m m' dn nd cov hV hm clo scc srt hcov G
    rw [List.reverse_append] at G
    obtain ⟨dn1, _, dn3⟩ := List.nodup_append.mp dn
    have hxm : x ∈ m := by
      have h := cov x (List.mem_append_right _ (by simp))
      rw [List.flatten_append] at h
      rcases List.mem_append.mp h with h | h
      · exact absurd rfl (dn3 x (kord_sub K x h) x (by simp))
      · exact (hm x).mpr h
    cases G with
    | skip _ G => exact ih dn1 nd (fun y hy => cov y (List.mem_append_left _ hy)) hV hm clo scc srt hcov G
    | group hx _ _ => exact absurd hxm hx
  | @part d ps x P K hxP hP ih =>
    intro qs ps' m m' dn nd cov hV hm clo scc srt hcov G
    rw [List.reverse_append] at G
    obtain ⟨dn1, _, dn3⟩ := List.nodup_append.mp dn
    have eq1 : (ps ++ [P] ++ qs).flatten = ps.flatten ++ (P ++ qs.flatten) := by simp
    rw [eq1] at nd hV
    have hVP : ∀ x ∈ P, 0 ≤ x ∧ x < 7 := fun x h => hV x (List.mem_append_right _ (List.mem_append_left _ h))
    have hVp : ∀ x ∈ ps.flatten, 0 ≤ x ∧ x < 7 := fun x h => hV x (List.mem_append_left _ h)
    obtain ⟨nd1, nd2, nd3⟩ := List.nodup_append.mp nd
    obtain ⟨nd4, nd5, nd6⟩ := List.nodup_append.mp nd2
    have psP : ∀ y ∈ ps.flatten, y ∉ P := fun y h1 h2 => nd3 y h1 y (List.mem_append_left _ h2) rfl
    have Pm : ∀ y ∈ P, y ∉ m := fun y h1 h2 => nd6 y h1 y ((hm y).mp h2) rfl
    have cloP : ∀ y ∈ P, ∀ z ∈ adj y, z ∈ ps.flatten ∨ z ∈ P := clo ps P [] rfl
    have clo' : ∀ A Q B, ps = A ++ Q :: B → ∀ x ∈ Q, ∀ y ∈ adj x, y ∈ A.flatten ∨ y ∈ Q := fun A Q B e => clo A Q (B ++ [P]) (by rw [e]; simp)
    cases G with
    | skip hx _ => exact absurd hx (Pm x hxP)
    | @group _ _ _ _ g ps'' hx hg G =>
      have sub1 : ∀ y, BR adjB m x y → y ∈ P := by
        intro y hy
        induction hy with
        | base => exact hxP
        | @step y z _ hz hzm ihy =>
          have h := hcov _ _ hz
          rw [eq1] at h
          rcases List.mem_append.mp h with h | h
          · exfalso
            have hyz : y ∈ adj z := (hB z y (hVp z h) (hVP y ihy)).mp hz
            exact psP y (stays clo' (.one hyz) h) ihy
          · rcases List.mem_append.mp h with h | h
            · exact h
            · exact absurd ((hm z).mpr h) hzm
      have sub2 : ∀ y, Reach adj y x → y ∈ P → y ∈ g := by
        intro y hy
        have gen : ∀ {y w : Int}, Reach adj y w → w = x → y ∈ P → y ∈ g := by
          intro y w hy
          induction hy with
          | refl w => rintro rfl _; exact hg.st
          | @step y z w hz hr ihr =>
            intro e hyP
            subst e
            rcases cloP y hyP z hz with h | h
            · exact absurd hxP (psP _ (stays clo' hr h))
            · have hzg := ihr rfl h
              rcases hg.clo z hzg y ((hB y z (hVP y hyP) (hVP z h)).mpr hz) with h | h
              · exact absurd h (Pm y hyP)
              · exact h
        exact gen hy rfl
      have same : ∀ y, y ∈ P ↔ y ∈ g := fun y => ⟨fun h => sub2 y (scc P (by simp) y h x hxP) h, fun h => sub1 y (hg.rch y h)⟩
      have eP : P = isort g := isort_of ((List.perm_ext_iff_of_nodup nd4 hg.nd).mpr same) (srt P (by simp))
      have hr := ih (qs := P :: qs) dn1 (by simpa using nd) (fun y hy => by simpa using cov y (List.mem_append_left _ hy)) (fun y hy => hV y (by simpa using hy)) (fun y => by rw [List.mem_append, hm, List.flatten_cons, List.mem_append, same]; exact Or.comm)
        clo' (fun Q hQ => scc Q (List.mem_append_left _ hQ)) (fun Q hQ => srt Q (List.mem_append_left _ hQ)) (fun y z hz => by simpa using hcov y z hz) G
      rw [List.reverse_append, hr, ← eP]; rfl
end Mine
end
-- Ba
section
open PySem PySem.W PySem.Spec PySem.Calls PyProof.Rows
set_option maxRecDepth 100000
namespace Mine
theorem ba_mro : mroOf (.type "bytearray") = pure [.type "bytearray", .type "object"] := by rw [mroOf_type]; kernel_rfl
theorem ba_lookup_new : typeLookup (.type "bytearray") "__new__" = pure (some (.builtin "bytearray.__new__")) := by rw [typeLookup_type, builtinLookup_eq_fast]; kernel_rfl
theorem ba_slot_init : Slot "bytearray" "__init__" "bytearray.__init__" :=
  .of (owner := "bytearray") (n := "__init__") (by rw [typeLookup_type, builtinLookup_eq_fast]; kernel_rfl) (by decide +kernel) (by decide +kernel) (by decide +kernel)
    (by first | exact .inl (by decide +kernel) | exact .inr (by decide +kernel)) (by rw [isSubtype_type]; kernel_rfl)
theorem ba_called : TypeCalled "bytearray" "bytearray.__new__" "bytearray.__init__" :=
  ⟨by decide +kernel, by decide +kernel, ⟨_, _, ba_mro⟩, madeBy_type ba_mro ba_lookup_new (by decide +kernel), by decide +kernel, by rw [isSubtype_type]; kernel_rfl, ba_slot_init⟩
theorem ba_typeCall (a : Value) : checkTypeCall "bytearray" ⟨[a], []⟩ = pure () := by kernel_rfl
theorem ba_newCall (a : Value) : checkBuiltinCall "bytearray.__new__" ⟨[.type "bytearray", a], []⟩ = pure () := by kernel_rfl
theorem ba_entry_new : entryFor table "bytearray.__new__" = some Builtin.«list.__new__» := entryFor_alias (id' := "list.__new__") (by kernel_rfl) (by decide +kernel) (by decide +kernel) (by kernel_rfl)
theorem ba_entry_init : entryFor table "bytearray.__init__" = some Builtin.«bytearray.__init__» := by first | exact entryFor_of_fast (by kernel_rfl) | exact entryFor_of_tree (by kernel_rfl)
theorem ba_plain_new : plainId "bytearray.__new__" = true := by decide +kernel
theorem ba_plain_init : plainId "bytearray.__init__" = true := by decide +kernel
theorem ba_args_init (a b : Value) : argsOk "bytearray.__init__" ⟨[a, b], []⟩ := by unfold argsOk; kernel_rfl
set_option maxRecDepth 1000000 in
set_option maxHeartbeats 4000000 in
theorem ba_owner : ("bytearray.__new__".splitOn ".__new__").headD "" = "bytearray" := by simp +decide [String.splitOn, String.splitOnAux]
theorem ba_sub : isSubtype (.type "bytearray") (.type "bytearray") = pure true := by rw [isSubtype_type]; kernel_rfl
theorem ba_no_release : typeLookup (.type "bytearray") "__release_buffer__" = pure (some (.builtin "bytearray.__release_buffer__")) := by rw [typeLookup_type, builtinLookup_eq_fast]; kernel_rfl
section
variable {prog : Program} {w : World} {A : Around} {E : Value → Shared → Prop} {s : Shared}
theorem ba_new (a : Value) {Q₁ : Value → Shared → Prop}
    (h : Q₁ (.ref s.heap.objs.size) { s with heap := s.heap.push { cls := .type "bytearray", data := .bytearray #[] } }) :
    codeAny (model prog w) A (.call (.builtin "bytearray.__new__") ⟨[.type "bytearray", a], []⟩) (wants Q₁ E) s := by
  refine codeAny_of_tree ?_
  show wpAny _ A.in1 (do checkBuiltinCall "bytearray.__new__" ⟨[.type "bytearray", a], []⟩; again (.builtin "bytearray.__new__" ⟨[.type "bytearray", a], []⟩)) _ _ s
  refine wpAny_bind (wpAny_of_eq (ba_newCall a) (wpAny_pure ⟨plainId_quiet ba_plain_new _, codeAny_builtin_stack ba_entry_new rfl fun p st => ?_⟩))
  rw [Around.under_plainId ba_plain_new _]
  have hsub := ba_sub
  have hown := ba_owner
  obtain ⟨hp, g, d, tk, os⟩ := s
  simp only [hown]
  wp_walk
  exact h
end
end Mine
end
-- GLogic
section
open PySem PySem.W PySem.Spec PySem.Calls PyProof.Rows
set_option maxRecDepth 100000
namespace Mine
/-- a code that holds a bytearray while it decodes -/
def decCode : Code → Bool
  | .builtin id _ => Builtin.Bytes.decodersThatHold.contains id
  | _ => false
/-- no such code stands on the stack -/
def GoodC (Γ : PySem.Ctx) : Prop := decCode Γ.code = false ∧ ∀ x ∈ Γ.below, decCode x.1 = false
def wpG {α : Type} (M : Model) (A : Around) (t : Sem α) (Q : α → Shared → Prop) (E : Value → Shared → Prop) (s : Shared) : Prop :=
  ∀ Γ p, Γ.In A → GoodC Γ → Sem.wp M Γ t (fun a _ s' => Q a s') (fun e _ s' => E e s') p s
def codeG (M : Model) (A : Around) (c : Code) (R : Result → Shared → Prop) (s : Shared) : Prop :=
  ∀ Γ p, Γ.code = c → Γ.Below A → GoodC Γ → wpCode M Γ R p s
section
variable {α β : Type} {M : Model} {A : Around} {E : Value → Shared → Prop} {s : Shared}
theorem wpG_of {t : Sem α} {Q : α → Shared → Prop} (h : wpAny M A t Q E s) : wpG M A t Q E s := fun Γ p hΓ _ => h Γ p hΓ
theorem wpG_mono {t : Sem α} {Q Q' : α → Shared → Prop} {E' : Value → Shared → Prop} (h : wpG M A t Q E s) (hQ : ∀ a s, Q a s → Q' a s) (hE : ∀ e s, E e s → E' e s) : wpG M A t Q' E' s :=
  fun Γ p hΓ hG => Sem.wp_mono M Γ t (fun a _ s => hQ a s) (fun e _ s => hE e s) p s (h Γ p hΓ hG)
theorem wpG_bind {m : Sem α} {f : α → Sem β} {Q : β → Shared → Prop} (h : wpG M A m (fun a s' => wpG M A (f a) Q E s') E s) : wpG M A (m >>= f) Q E s := fun Γ p hΓ hG => by
  rw [Sem.wp_bind']
  exact Sem.wp_mono M Γ m (fun a p' s' h' => h' Γ p' hΓ hG) (fun _ _ _ h' => h') p s (h Γ p hΓ hG)
theorem wpG_pure {a : α} {Q : α → Shared → Prop} (h : Q a s) : wpG M A (pure a) Q E s := wpG_of (wpAny_pure h)
/-- what is ahead is walked as always -/
theorem wpG_ahead {m : Sem α} {f : α → Sem β} {Q : β → Shared → Prop} (h : wpAny M A m (fun a s' => wpG M A (f a) Q E s') E s) : wpG M A (m >>= f) Q E s := wpG_bind (wpG_of h)
theorem wpG_holding {vs : List Value} {m : Sem α} {Q : α → Shared → Prop} (h : wpG M A m Q E s) : wpG M A (holding vs m) Q E s :=
  fun Γ p hΓ hG => by rw [Sem.wp_holding]; exact h Γ p hΓ hG
theorem wpG_keep {vs : List Value} {m : Sem α} {Q : α → Shared → Prop} (h : wpG M A m Q E s) : wpG M A (m.keep vs) Q E s :=
  fun Γ p hΓ hG => by rw [Sem.wp_keep]; exact h Γ p hΓ hG
theorem wpG_onRaise {m : Sem α} {k : Value → Sem Unit} {Q : α → Shared → Prop} (h : wpG M A m Q (fun e s' => wpAny M A (k e) (fun _ s'' => E e s'') E s') s) : wpG M A (m.onRaise k) Q E s := fun Γ p hΓ hG => by
  rw [Sem.wp_onRaise]
  exact Sem.wp_mono M Γ m (fun _ _ _ h' => h') (fun e p' s' h' => h' Γ p' hΓ) p s (h Γ p hΓ hG)
theorem good_enter {Γ : PySem.Ctx} (h : GoodC Γ) {c : Code} (hc : decCode c = false) (hd : Option Value) (p : Pos) : GoodC (Γ.enter c hd p) :=
  ⟨hc, fun x hx => by
    have hx : x ∈ (Γ.code, p) :: Γ.below := hx
    rcases List.mem_cons.mp hx with rfl | hx
    · exact h.1
    · exact h.2 x hx⟩
theorem wpG_call {f : Value} {pos : List Value} {kw : List (Str × Value)} {Q : Value → Shared → Prop}
    (hc : codeG M A (.call f ⟨pos, kw⟩) (fun r s' => match r with | .ok (.ret v) => Q v s' | .ok _ => False | .error e => E e s') s) : wpG M A (call f pos kw) Q E s := fun Γ p hΓ hG => by
  show Sem.wp M Γ (runValue (.call f ⟨pos, kw⟩)) _ _ p s
  rw [Sem.wp_runValue]
  exact hc _ p rfl (hΓ.enter _ none p (by intro x; cases x)) (good_enter hG rfl none p)
theorem codeG_of_tree {c : Code} {R : Result → Shared → Prop}
    (h : wpG M (A.under c) (M.den c) (fun fin s' => match fin with | .done f => R (.ok f) s' | .again c' => c'.quiet = true ∧ decCode c' = false ∧ codeG M A c' R s') (fun e s' => R (.error e) s') s) : codeG M A c R s := fun Γ p hc hΓ hG => by
  rw [wpCode_iff_wp, hc]
  refine Sem.wp_mono M Γ _ (fun fin p' s' h' => ?_) (fun _ _ _ h' => h') p s (h Γ p (hc ▸ hΓ.in) hG)
  cases fin with
  | done f => exact h'
  | again c' => exact ⟨h'.1, h'.2.2 (Γ.goto c') p' rfl (hΓ.goto c') ⟨h'.2.1, hG.2⟩⟩
theorem codeG_of {c : Code} {R : Result → Shared → Prop} (h : codeAny M A c R s) : codeG M A c R s := fun Γ p hc hΓ _ => h Γ p hc hΓ
theorem codeG_mono {c : Code} {R R' : Result → Shared → Prop} (h : codeG M A c R s) (hR : ∀ r s, R r s → R' r s) : codeG M A c R' s :=
  fun Γ p hc hΓ hG => wpCode_mono hR (h Γ p hc hΓ hG)
theorem stack_none {A : Around} {Γ : PySem.Ctx} (hΓ : Γ.In A) (hG : GoodC Γ) (hg : A.guards = some []) (p : Pos) : ∀ x ∈ (Γ.code, p) :: Γ.below, x.1.isGuard = false ∧ decCode x.1 = false := by
  have hgs : guardsOf ((Γ.code, p) :: Γ.below) = [] := by rw [guardsOf_cons]; exact hΓ.2.2.2.1 _ hg
  intro x hx
  refine ⟨?_, ?_⟩
  · cases e : x.1.isGuard with
    | false => rfl
    | true =>
      have : x.1 ∈ guardsOf ((Γ.code, p) :: Γ.below) := List.mem_filter.mpr ⟨List.mem_map.mpr ⟨x, hx, rfl⟩, e⟩
      rw [hgs] at this; cases this
  · rcases List.mem_cons.mp hx with rfl | hx
    · exact hG.1
    · exact hG.2 x hx
theorem guards_ne {id : String} {args : Args} (h : (Code.builtin id args).isGuard = false) {s : String} (hs : guardIds.contains s = true) : ¬ id = s := by
  rintro rfl
  have h : guardIds.contains id = false := h
  rw [hs] at h
  cases h
theorem wpG_exported {self : Value} {Q : Bool → Shared → Prop} (hg : A.guards = some []) (h : Q false s) : wpG M A (Builtin.Bytes.exported self) Q E s := fun Γ p hΓ hG => by
  unfold Builtin.Bytes.exported
  rw [Sem.wp_bind']
  unfold stack
  rw [Sem.wp_stack]
  have key : ∀ f : Code × Pos → Bool, (∀ x ∈ (Γ.code, p) :: Γ.below, f x = false) → Q (List.any ((Γ.code, p) :: Γ.below) f) s := fun f hf => by rw [List.any_eq_false.mpr fun x hx => by rw [hf x hx]; exact Bool.false_ne_true]; exact h
  refine key _ ?_
  intro x hx
  obtain ⟨h1, h2⟩ := stack_none hΓ hG hg p x hx
  obtain ⟨c, q⟩ := x
  cases c
  case builtin id args =>
    have h1 : (Code.builtin id args).isGuard = false := h1
    have h2 : Builtin.Bytes.decodersThatHold.contains id = false := h2
    obtain ⟨pos, kw⟩ := args
    have n1 := guards_ne h1 (s := "bytearray.__contains__") (by decide +kernel)
    have n2 := guards_ne h1 (s := "bytearray.__mod__") (by decide +kernel)
    have n3 := guards_ne h1 (s := "bytearray.__rmod__") (by decide +kernel)
    have n4 := guards_ne h1 (s := "_struct.pack_into.held") (by decide +kernel)
    have n5 := guards_ne h1 (s := "bytearray.find.held") (by decide +kernel)
    clear h1 key
    delta Builtin.Bytes.exported.match_1
    with_unfolding_all dsimp only
    refine (dif_neg n1).trans ?_
    refine (dif_neg n2).trans ?_
    refine (dif_neg n3).trans ?_
    refine (dif_neg n4).trans ?_
    refine (dif_neg n5).trans ?_
    cases pos with
    | nil => rfl
    | cons v tl => exact (congrArg _ h2).trans (Bool.and_false _)
  all_goals rfl
end
end Mine
end
-- GBa
section
open PySem PySem.W PySem.Spec PySem.Calls PyProof.Rows
set_option maxRecDepth 100000
namespace Mine
theorem ba_bind (v : Value) : Builtin.Bytes.bindOptional "bytearray.__init__" "bytearray" ["source", "encoding", "errors"] [v] [] = pure [some v, none, none] := by kernel_rfl
theorem ba_ends : ("bytearray.__release_buffer__".endsWith ("." ++ "__release_buffer__")) = true := by decide +kernel
theorem ba_drop : ("bytearray.__release_buffer__".dropRight ("__release_buffer__".length + 1)) = "bytearray" := by decide +kernel
theorem ba_int_index : typeLookup (.type "int") "__index__" = pure (some (.builtin "int.__index__")) := by rw [typeLookup_type, builtinLookup_eq_fast]; kernel_rfl
section
variable {prog : Program} {w : World} {A : Around} {E : Value → Shared → Prop} {s : Shared}
abbrev baObj (b : Array UInt8) : Obj := { cls := .type "bytearray", data := .bytearray b }
theorem ba_own {S : Addr} {b : Array UInt8} {Q : Bool → Shared → Prop} (hS : s.heap.get? S = some (baObj b)) (h : Q false s) : wpAny (model prog w) A (Builtin.Bytes.ownRelease (.ref S)) Q E s := by
  have hT : s.TypeIs (.ref S) "bytearray" := ⟨_, hS, rfl⟩
  unfold Builtin.Bytes.ownRelease Builtin.Bytes.slotIsOwn
  refine wpAny_bind (wpAny_bind (wpAny_specialOf hT ba_no_release ?_))
  dsimp only
  rw [ba_ends]
  refine bm_if_false rfl ?_
  rw [ba_drop]
  exact wpAny_isInstance hT ba_sub (wpAny_pure h)
theorem ba_init {S : Addr} {t : Tok} {Q : Fin → Shared → Prop} (hg : A.guards = some []) (hS : s.heap.get? S = some (baObj #[]))
    (h : ∀ h', (∀ b o, b ≠ S → s.heap.get? b = some o → h'.get? b = some o) → h'.get? S = some (baObj (Array.replicate 14 0)) → Q (.done (.ret .none)) { s with heap := h' }) :
    wpG (model prog w) A (Builtin.«bytearray.__init__» ⟨[.ref S, .int 14 t], []⟩) Q E s := by
  unfold Builtin.«bytearray.__init__»
  refine wpG_ahead (ba_own hS ?_)
  refine wpG_ahead (wpAny_of_eq (ba_bind _) ?_)
  dsimp only
  refine wpG_ahead (wpAny_of_eq (a := ()) rfl ?_)
  refine wpG_ahead (wpAny_of_eq (a := ()) rfl ?_)
  refine wpG_bind ?_
  show wpG _ _ (Builtin.Bytes.exported (Value.ref S) >>= _) _ _ _
  refine wpG_bind (wpG_exported hg ?_)
  refine wpG_of ?_
  show wpAny _ _ (Builtin.Bytes.exportsOf (Value.ref S) >>= _) _ _ _
  refine wpAny_bind ?_
  show wpAny _ _ (load S >>= _) _ _ _
  refine wpAny_bind (wpAny_load hS (wpAny_pure (wpAny_pure ?_)))
  refine wpG_of ?_
  refine bm_if_false (by decide) ?_
  have ba_write : ∀ {s' : Shared} {b : Array UInt8} {f : Array UInt8 → Array UInt8} {Q' : Unit → Shared → Prop}, s'.heap.get? S = some (baObj b) → (f b).size ≤ 1000 →
      Q' () { s' with heap := s'.heap.update S (Obj.mapBytearray f) } → wpAny (model prog w) A (Builtin.Bytes.write (.ref S) f) Q' E s' := by
    intro s' b f Q' hS' hz hq
    show wpAny _ _ (updateBytearray S f) _ _ _
    unfold updateBytearray
    refine wpAny_bind (wpAny_load hS' ?_)
    show wpAny _ _ (update S (Obj.mapBytearray f) >>= fun _ => lookBehind S) _ _ _
    refine wpAny_bind (wpAny_update hS' ?_)
    have hS₂ : (s'.heap.update S (Obj.mapBytearray f)).get? S = some (baObj (f b)) := Heap.get?_update_self (Obj.mapBytearray f) hS' rfl
    refine wpAny_lookBehind hS₂ ?_ hq
    show (if (f b).size > sizeLine then some "bytearray:memory" else none) = none
    rw [if_neg]
    rw [sizeLine_eq]; omega
  refine wpAny_bind (ba_write hS (Nat.zero_le _) ?_)
  have hS₁ : (s.heap.update S (Obj.mapBytearray fun _ => (#[] : Array UInt8))).get? S = some (baObj #[]) := Heap.get?_update_self (Obj.mapBytearray fun _ => (#[] : Array UInt8)) hS rfl
  refine wpAny_bind (wpAny_of_eq (a := none) rfl ?_)
  refine bm_if_false rfl ?_
  refine wpAny_bind (wpAny_of_eq (a := ()) rfl ?_)
  refine wpAny_bind (wpAny_specialOf (typeIs_int _ _ _) ba_int_index ?_)
  refine bm_if_true rfl ?_
  refine wpAny_bind (wpAny_attempt (wpAny_of_eq (a := (14 : Int)) rfl ?_))
  dsimp only
  refine bm_if_false (by decide) ?_
  rw [if_neg (show ¬ ((14 : Int) < 0) by decide)]
  refine bm_if_false (by decide) ?_
  refine bm_if_false (by decide) ?_
  refine wpAny_bind (wpAny_rule ?_)
  rw [if_pos (show (14 : Int) > 0 by decide)]
  refine wpAny_bind (ba_write (s' := { s with heap := s.heap.update S (Obj.mapBytearray fun _ => (#[] : Array UInt8)) }) hS₁ (by simp) ?_)
  refine wpAny_pure (h _ (fun b o hb e => ?_) ?_)
  · exact (Heap.get?_update_other _ _ (Ne.symm hb)).trans ((Heap.get?_update_other _ _ (Ne.symm hb)).trans e)
  · exact Heap.get?_update_self (Obj.mapBytearray fun _ => Array.replicate (Int.toNat 14) (0 : UInt8)) hS₁ rfl
end
end Mine
end
-- GCall
section
open PySem PySem.W PySem.Spec PySem.Calls PyProof.Rows
set_option maxRecDepth 100000
namespace Mine
section
variable {prog : Program} {w : World} {A : Around} {E : Value → Shared → Prop} {s : Shared}
theorem wpG_if_false {α : Type} {M : Model} {c : Bool} {a b : Sem α} {Q : α → Shared → Prop} (hc : c = false) (h : wpG M A b Q E s) : wpG M A (if c = true then a else b) Q E s := by
  subst hc
  exact h
theorem codeG_builtin {id : String} {args : Args} {b : Builtin} {R : Result → Shared → Prop} (hb : entryFor table id = some b)
    (h : wpG (model prog w) (A.under (.builtin id args)) (b args) (fun fin s' => match fin with | .done f => R (.ok f) s' | .again c' => c'.quiet = true ∧ decCode c' = false ∧ codeG (model prog w) A c' R s') (fun e s' => R (.error e) s') s) :
    codeG (model prog w) A (.builtin id args) R s := by
  refine codeG_of_tree ?_
  show wpG _ _ (match entryFor table id with | some b => b args | none => unsupported ((withoutEnding? id "#data").getD id)) _ _ s
  rw [hb]; exact h
theorem call_ba {t : Tok} {Q : Value → Shared → Prop} (hg : A.guards = some []) (h : ∀ h', (∀ b o, s.heap.get? b = some o → h'.get? b = some o) → h'.get? s.heap.objs.size = some (baObj (Array.replicate 14 0)) → Q (.ref s.heap.objs.size) { s with heap := h' }) :
    wpG (model prog w) A (call (.type "bytearray") [.int 14 t]) Q E s := by
  refine wpG_call (codeG_of_tree ?_)
  show wpG _ _ (callAny (.type "bytearray") _) _ _ _
  refine wpG_pure ⟨Code.quiet_builtin _ (by decide +kernel), (show Builtin.Bytes.decodersThatHold.contains "type.__call__" = false by decide +kernel), codeG_builtin F.entry_type_call ?_⟩
  rw [Around.under_plain (weight_type_call_type "bytearray" [.int 14 t] []) rfl]
  unfold Builtin.«type.__call__»
  refine wpG_if_false (by decide) ?_
  dsimp only
  refine wpG_if_false (by decide +kernel) ?_
  refine wpG_ahead (wpAny_of_eq (ba_typeCall _) ?_)
  refine wpG_ahead (wpAny_of_eq ba_mro ?_)
  refine wpG_if_false rfl ?_
  refine wpG_ahead (wpAny_of_eq ba_called.made ?_)
  dsimp only
  refine wpG_ahead (wpAny_pure ?_)
  refine wpG_ahead (wpAny_holding (wpAny_call (codeAny_mono (ba_new (E := E) (.int 14 t) (Q₁ := fun v s' => v = .ref s.heap.objs.size ∧ s' = { s with heap := s.heap.push (baObj #[]) }) ⟨rfl, rfl⟩) fun r s₁ hr => ?_)))
  cases r with
  | error e => exact hr
  | ok fl =>
    cases fl with
    | ret obj =>
      obtain ⟨rfl, rfl⟩ := hr
      have hS : (s.heap.push (baObj #[])).get? s.heap.objs.size = some (baObj #[]) := Heap.get?_push_size _ rfl
      have hT : ({ s with heap := s.heap.push (baObj #[]) } : Shared).TypeIs (.ref s.heap.objs.size) "bytearray" := ⟨_, hS, rfl⟩
      dsimp only
      refine wpG_ahead (wpAny_isInstance hT ba_sub ?_)
      refine wpG_if_false rfl ?_
      refine wpG_bind (wpG_holding ?_)
      unfold callSpecial?
      refine wpG_ahead (wpAny_specialOf hT ba_slot_init.lookup ?_)
      dsimp only
      refine wpG_holding ?_
      refine wpG_ahead (wpAny_of_eq (ba_slot_init.bind _) ?_)
      dsimp only
      refine wpG_bind (wpG_call ?_)
      refine codeG_of_tree ?_
      show wpG _ _ (do checkBuiltinCall "bytearray.__init__" ⟨[.ref s.heap.objs.size, .int 14 t], []⟩; again (.builtin "bytearray.__init__" ⟨[.ref s.heap.objs.size, .int 14 t], []⟩)) _ _ _
      refine wpG_ahead (ba_slot_init.check _ _ _ _ _ _ _ _ hT (ba_args_init _ _) ?_)
      refine wpG_pure ⟨plainId_quiet ba_plain_init _, (show Builtin.Bytes.decodersThatHold.contains "bytearray.__init__" = false by decide +kernel), codeG_builtin ba_entry_init ?_⟩
      rw [Around.under_plainId ba_plain_init _]
      refine ba_init hg hS fun h' hk hb => ?_
      dsimp only
      refine wpG_pure (wpG_pure ?_)
      exact h h' (fun b o e => hk b o (Nat.ne_of_lt (Heap.lt_size e)) (Heap.get?_push_of_some _ e)) hb
    | _ => exact hr.elim
end
end Mine
end
-- GStmt
section
open PySem PySem.W PySem.Spec PySem.Calls PyProof.Rows
set_option maxRecDepth 100000
namespace Mine
section
variable {M : Model} {A : Around} {E : Value → Shared → Prop} {s : Shared} {env : Env}
theorem wpG_execs_cons {st : Stmt} {rest : List Stmt} {Q : Flow → Shared → Prop} (h : wpG M A (exec st env) (fun f s' => match f with | .next => wpG M A (execs rest env) Q E s' | f => Q f s') E s) : wpG M A (execs (st :: rest) env) Q E s := by
  rw [execs_cons]
  refine wpG_bind (wpG_mono h (fun f s' h' => ?_) fun _ _ e => e)
  cases f <;> first | exact h' | exact wpG_pure h'
theorem wpG_Assign_Name {x : Str} {pos' pos : Pos} {value : Expr} {Q : Flow → Shared → Prop} (h : wpG M A (eval value env) (fun v s₁ => wpAny M A (storeName env x v) (fun _ => Q .next) E s₁) E s)
    (hs : swapsWith value (some (.Name x pos')) pos.line env = pure false := by rfl) : wpG M A (exec (.Assign [.Name x pos'] value pos) env) Q E s := fun Γ p hΓ hG => by
  simp only [exec_Assign_Name env x pos' value pos hs, Sem.wp_bind', Sem.wp_cmd_standAt, Sem.wp_bindName, Sem.wp_pure']
  exact Sem.wp_mono M Γ _ (fun v _ s₁ h₁ => h₁ Γ _ hΓ) (fun _ _ _ h' => h') _ _ (h Γ _ hΓ hG)
theorem wpG_Call {func : Expr} {args : List Expr} {pos : Pos} {Q : Value → Shared → Prop} (h : wpAny M A (eval func env) (fun f s₁ => wpG M A (callWith pos f [] (backTo pos (starEach args env)) []) Q E s₁) E s)
    (he : eval (.Call func args [] pos) env = (do callWith pos (← eval func env) [] (backTo pos (starEach args env)) (backToKw pos (keywordEach [] env))) := by rfl) : wpG M A (eval (.Call func args [] pos) env) Q E s := by
  rw [he]; exact wpG_ahead h
theorem wpG_callWith {pos : Pos} {f : Value} {P : Heap → Prop} {args : List (Bool × Sem Value)} {Q : Value → Shared → Prop} (hplain : args.any (·.1) = false)
    (hk : ∀ h, P h → ∃ k, (k = Keeper.frame ∨ k = Keeper.machine ∨ k = Keeper.boundFrame) ∧ Looks M h (keeperOf f) k)
    (h : wpAny M A (evalArgs f true args []) (fun a s₁ => P s₁.heap ∧ wpG M A (call f ([] ++ a.pos) a.kw) Q E s₁) E s) : wpG M A (callWith pos f [] args []) Q E s := by
  unfold callWith
  refine wpG_ahead (wpAny_holding (wpAny_mono h (fun a s₁ h₁ => ?_) fun _ _ x => x))
  refine wpG_ahead (wpAny_standAt ?_)
  obtain ⟨k, hk', L⟩ := hk _ h₁.1
  simp only [hplain, List.any_nil, Bool.or_false]
  refine wpG_ahead (L.here ?_)
  have tail : ∀ {t : Sem Value}, wpG M A t Q E s₁ → wpG M A (t >>= fun r => holding [r] point >>= fun _ => pure r) Q E s₁ :=
    fun ht => wpG_bind (wpG_mono ht (fun r s₂ hr => wpG_ahead (wpAny_holding (wpAny_point (wpG_pure hr)))) fun _ _ x => x)
  have marked (mk : Value) : wpG M A (callMarked mk f ([] ++ a.pos) a.kw) Q E s₁ := by unfold callMarked; exact wpG_keep h₁.2
  rcases hk' with rfl | rfl | rfl <;> dsimp only <;> first | exact tail h₁.2 | (split <;> first | exact tail h₁.2 | exact tail (marked _))
theorem wpG_callWith_type {pos : Pos} {T : String} {args : List (Bool × Sem Value)} {Q : Value → Shared → Prop} (hplain : args.any (·.1) = false)
    (h : wpAny M A (evalArgs (.type T) true args []) (fun a s₁ => wpG M A (call (.type T) ([] ++ a.pos) a.kw) Q E s₁) E s) : wpG M A (callWith pos (.type T) [] args []) Q E s := by
  unfold callWith
  refine wpG_ahead (wpAny_holding (wpAny_mono h (fun a s₁ h₁ => ?_) fun _ _ x => x))
  refine wpG_ahead (wpAny_standAt ?_)
  simp only [hplain, List.any_nil, Bool.or_false]
  refine wpG_ahead (wpAny_pure ?_)
  exact wpG_bind (wpG_mono h₁ (fun r s₂ hr => wpG_ahead (wpAny_holding (wpAny_point (wpG_pure hr)))) fun _ _ x => x)
end
section
variable {prog : Program} {w : World} {A A₀ : Around} {s : Shared} {R : Result → Shared → Prop} {base h₀ : Heap} {outer : List Env} {L : Addr} {m : Str → Option Value} {env : Env} {news : List (Addr × Obj)}
  {name qual : Str} {params : Arguments} {body : List Stmt} {scope : Scope} {cl : List (Str × Addr)} {dV kV doc pm cdv ct : Value} {an : Option Addr} {fo : Obj} {f : Addr} {args : Args} {binds : List (Str × Value)}
theorem codeG_func {body : List Stmt} {env : Env} (h : wpG (model prog w) (A.deeper env) (execs body env) (fun f s' => R (.ok (.ret (match f with | .ret v => v | _ => .none))) s')
      (fun e s' => wpAny (model prog w) (A.deeper env) (leaving env e) (fun _ s'' => R (.error e) s'') (fun e' s'' => R (.error e') s'') s') s) : codeG (model prog w) A (.func body env) R s := by
  refine codeG_of_tree ?_
  show wpG _ (A.deeper env) (do point; match ← (execs body env).onRaise (leaving env) with | .ret v => ret v | _ => ret .none) _ _ s
  refine wpG_ahead (wpAny_point (wpG_bind (wpG_onRaise (wpG_mono h (fun f s' h' => ?_) fun _ _ h' => h'))))
  cases f <;> exact wpG_pure h'
theorem codeG_call_function {a : Addr} {args : Args} {o : Obj} {fd : FuncData} {body : List Stmt} (hroom : A.depth < recursionLimit) (ho : s.heap.get? a = some o)
    (hd' : o.data = .func fd) (hco : fd.scope.isCoroutine = false) (hgen : fd.scope.isGenerator = false) (hbody : fd.body = .stmts body) (hcd : s.heap.CodeRec fd.code fd.qualname)
    (h : wpAny (model prog w) A.in1 (bindArgs fd args) (fun binds s₁ => wpAny (model prog w) A.in1 (newFunctionEnv fd.scope fd.globals fd.closure binds (fd.qualname ++ ".<locals>.") (some a) fd.code none fd.builtins)
        (fun env s₂ => s₂.heap.NoLimit ∧ codeG (model prog w) A (.func body env) R s₂) (fun e s' => R (.error e) s') s₁) (fun e s' => R (.error e) s') s) :
    codeG (model prog w) A (.call (.ref a) args) R s := by
  refine codeG_of_tree (wpG_of ?_)
  show wpAny _ A.in1 (callAny (.ref a) args) _ _ s
  simp only [callAny]
  refine wpAny_bind (wpAny_load ho ?_)
  obtain ⟨c, oc, vs, tq, hc, hoc, hdc, hq⟩ := hcd
  simp only [hd', callFunction, hco, hgen, hbody, hc]
  rw [hc] at h
  refine wpAny_bind (m := field (.ref c) 1) (wpAny_field hoc hdc hq (wpAny_bind (wpAny_pure ?_)))
  exact wpAny_bind (wpAny_mono h (fun binds s₁ h₁ => wpAny_bind (wpAny_mono h₁ (fun env s₂ h₂ => wpAny_bind (wpAny_enterFrame h₂.1 hroom (wpAny_pure ⟨rfl, rfl, h₂.2⟩))) fun _ _ h' => h')) fun _ _ h' => h')
theorem callG_plain (B : Below A₀ base outer h₀) (F : Fr h₀ L s.heap m) (N : News h₀ L s.heap news) (hlim : h₀.NoLimit) (hA : A.frames = some (env :: outer)) (hf : env.frame = some L) (hke : env.scope.kind = .function)
    (ho : s.heap.get? f = some fo) (hd : fo.data = .func (fnX name qual params body scope cl dV kV doc pm an cdv ct)) (hcd : s.heap.CodeRec cdv qual) (hroom : A.depth < recursionLimit)
    (hbind : BindsTo s (fnX name qual params body scope cl dV kV doc pm an cdv ct) args binds) (hloc : ∀ y ∈ binds, scope.names.lookup y.1 = some .local)
    (h : ∀ g L' h₁, Fr h₀ L g m → Fr g L' h₁ (fun y => binds.reverse.lookup y) → News g L' h₁ news → Below A base (env :: outer) g → h₀.StaysIn g → (∀ p ∈ news, p.1 < L') →
      wpG (model prog w) (A.deeper (envX qual scope L' f cdv cl)) (execs body (envX qual scope L' f cdv cl))
        (fun fl s' => LeaveK h₀ L m g R (match fl with | .ret v => v | _ => .none) s')
        (fun e s' => wpAny (model prog w) (A.deeper (envX qual scope L' f cdv cl)) (leaving (envX qual scope L' f cdv cl) e) (fun _ s'' => R (.error e) s'') (fun e' s'' => R (.error e') s'') s')
        { s with heap := h₁, toks := s.toks + binds.length })
    (hcell : ∀ x ∈ scope.names, x.2 ≠ .cell) (hco : scope.isCoroutine = false := by rfl) (hgen : scope.isGenerator = false := by rfl) (hk : scope.kind = .function := by rfl) : codeG (model prog w) A (.call (.ref f) args) R s := by
  obtain ⟨FG, BG, st, lv⟩ := groundX (R := R) B F N hA hf hke
  refine codeG_call_function hroom ho hd hco hgen rfl hcd (hbind _ _ _ _ ?_)
  refine wpAny_newFunctionEnv hcell hloc (fun h₁ hns hsb => ⟨(hlim.keeps F.keep).fresh _ hsb, codeG_func ?_⟩) hk
  have hk₁ : ∀ b o, s.heap.get? b = some o → h₁.get? b = some o := fun b o e => hsb.extBut b o (Nat.ne_of_lt (Heap.lt_size e)) (Heap.get?_push_of_some _ e)
  exact wpG_mono (h _ s.heap.objs.size h₁ FG ⟨hns, fun b o e => hk₁ b o (of_hideAll _ e), Nat.le_of_eq (hideAll_size _ _)⟩
    (fun p hp => ⟨hk₁ _ _ (N p hp).1, Nat.ne_of_lt (Heap.lt_size (N p hp).1), hideAll_none _ (List.mem_map_of_mem hp)⟩) BG st (fun p hp => Heap.lt_size (N p hp).1)) (fun fl s' hl => lv _ _ hl) fun _ _ y => y
end
end Mine
end
-- GHead
section
open PySem PySem.W PySem.Spec PySem.Calls PyProof.Rows
set_option maxRecDepth 100000
namespace Mine
theorem caller_good : GoodC ⟨.builtin "claim.caller" {}, none, none, [], none⟩ := ⟨by decide +kernel, fun _ h => nomatch h⟩
/-- a thread that was walked in the logic without decoders comes to its end -/
theorem endsG {prog : Program} {w : World} {t : Sem PySem.Fin} {s : Shared} {R : Result → Shared → Prop} (hreg : s.asleep)
    (h : wpG (model prog w) callerA t (fun fin s' => ∃ f, fin = .done f ∧ (R (.ok f) s' ∧ leftWithCleanup s'.gens = false)) (fun e s' => R (.error e) s' ∧ leftWithCleanup s'.gens = false) s) :
    ∃ n r s' s'', runN (denote table) prog w n s ⟨t, .builtin "claim.caller" {}, default, []⟩ = .halted (outcomeOf r) s' ∧
      schedN (denote table) prog w n (.single s ⟨t, .builtin "claim.caller" {}, default, []⟩) = .halted (outcomeOf r) s' ∧ s'.forget = s''.forget ∧ R r s'' := by
  have h0 : Sem.wp (model prog w) ⟨.builtin "claim.caller" {}, none, none, [], none⟩ t (Sem.finPost (model prog w) ⟨.builtin "claim.caller" {}, none, none, [], none⟩ fun r s' => R r s' ∧ leftWithCleanup s'.gens = false)
      (fun e _ s' => R (.error e) s' ∧ leftWithCleanup s'.gens = false) default s := by
    refine Sem.wp_mono _ _ t (fun fin p' s' h' => ?_) (fun _ _ _ h' => h') default s (h _ default caller_in caller_good)
    obtain ⟨f, rfl, hf⟩ := h'
    exact hf
  obtain ⟨n, r, s₁, s₂, hs, hn, hfo, hR⟩ := wp_halts_full (M := model prog w) (R := R) hreg h0
  exact ⟨n, r, s₂, s₁, hn, hs, hfo, hR⟩
theorem callFromG {c : ClaimW} {tree : List Value → Sem PySem.Fin} {w : World} {s : Shared} {free : Addr → Prop} {gens : Prop} {kept : Heap → Prop} (hz : s.asleep) (hgens : s.gens = #[])
    (hspec : ∀ args, c.pre args = true → WData.layableAll args = true → ∀ ord : List DictEntry → List DictEntry, (∀ l, (ord l).Perm l) → ∃ vs s₁, layAllW c.records (classAt s.heap) w.params ord args s = some (vs, s₁) ∧
      wpG (model c.prog w) callerA (tree vs) (fun fin s' => ∃ f, fin = .done f ∧ (c.Ends s args vs s₁ (.ok f) s' ∧ s'.os = s.os ∧ AllBare s'.gens ∧ kept s'.heap)) (fun e s' => c.Ends s args vs s₁ (.error e) s' ∧ s'.os = s.os ∧ AllBare s'.gens ∧ kept s'.heap) s₁) :
    c.CallFrom (fun vs => ⟨tree vs, .builtin "claim.caller" {}, default, []⟩) w free gens kept s := by
  intro args hpre hlay ord hord
  obtain ⟨vs, s₁, hlaid, hcode⟩ := hspec args hpre hlay ord hord
  have hal := layAllW_rest _ _ _ hlaid
  obtain ⟨k, r, s', s'', hrun, hsched, hfo, hcase, hos, hkp⟩ := endsG (prog := c.prog) (w := w) (t := tree vs) (s := s₁) (R := fun r s' => c.Ends s args vs s₁ r s' ∧ s'.os = s.os ∧ kept s'.heap) (Shared.asleep_of_life hal.2.2.2 hz)
    (wpG_mono hcode (fun fin s' ⟨f, e, h1, h2, h3, h4⟩ => ⟨f, e, ⟨h1, h2, h4⟩, leftWithCleanup_false_of_bare h3⟩) fun e s' ⟨h1, h2, h3, h4⟩ => ⟨⟨h1, h2, h4⟩, leftWithCleanup_false_of_bare h3⟩)
  obtain ⟨eh, _, _, eo, _⟩ := Shared.forget_eq hfo
  replace hcase := hcase.congr eh
  rw [← eh] at hkp
  rw [← eo] at hos
  refine ⟨vs, s₁, hlaid, k, _, s', hsched, ?_, (fun _ i x hx => by rw [hgens] at hx; simp at hx), hkp, by rw [(runN_life _ _ _ hrun).trans hal.2.2.2], Shared.rest_eq hos⟩
  rcases hcase with ⟨v, rfl, d1, d2, d3, d4, d5⟩ | ⟨e, ob, cls, rfl, d1, d2, d3, d4, d5⟩
  · exact .inl ⟨v, rfl, d1, d2, d3, fun b o y _ => d4 b o y, d5⟩
  · exact .inr ⟨e, ob, cls, rfl, d1, d2, d3, d4, fun b o y _ => d5 b o y⟩
abbrev WalkG (q : Program) (loose : List Str) (XP : (Str → Option Value) → Heap → Prop) (YP : World → Heap → Prop) (r : RowW) (d : DefRec) (kwd : List (Str × Expr)) : Prop :=
  ∀ (w : World) (s₀ s₁ : Shared) (mg mb : Str → Option Value), Ground q loose r.records XP w s₀ mg mb s₁.heap → YP w s₁.heap → ∀ (a : Addr) (o : Obj) (pm cd doc dV kV : Value), s₁.heap.get? a = some o →
    o.data = .func { docDef d.name d.params d.body d.scope pm cd doc with defaults := dV, kwdefaults := kV } → s₁.heap.CodeRec cd d.name → Dflts mg s₁.heap d.params kwd dV kV → mg d.name = some (.ref a) → s₁.gens = #[] →
    ∀ (args : List WData) (vals : List Value) (as : List Addr), r.claim.pre args = true → WData.layableAll args = true → ReadsAllW r.records (classAt s₀.heap) s₁.heap vals args as → WellAll w.params s₁.heap vals args → (∀ a ∈ as, (a == sysModules) = false) →
      wpG (model r.prog w) callerA (PySem.call (.ref a) vals) (fun v s' => GoodWG r.claim (classAt s₀.heap) (ExcName.means s₀.heap) args s₁ (.ok (.ret v)) s')
        (fun e s' => GoodWG r.claim (classAt s₀.heap) (ExcName.means s₀.heap) args s₁ (.error e) s') s₁
theorem PySem.W.holds_open {r : OpenRow} {q : Program} {loose : List Str} {Xt : Shared → Bool} {XP : (Str → Option Value) → Heap → Prop} {α : Type} {Yf : Shared → α} {Ya : World → α} {YP : World → Heap → Prop} {d : DefRec} {kwd : List (Str × Expr)} {N : Nat}
    (left : LeftO r.prog q loose Xt Yf Ya N) (hY : ∀ w s, Yf s = Ya w → YP w s.heap) (hYk : ∀ w h h', YP w h → (∀ b o, h.get? b = some o → h'.get? b = some o) → YP w h')
    (hX : ∀ s, Xt s = true → XP (s.heap.nsMap mainGlobals) s.heap) (hXk : ∀ mg h h', XP mg h → (∀ b o, h.get? b = some o → h'.get? b = some o) → XP mg h')
    (hdef : defOf q r.name = some (d, kwd)) (hp : r.prog.theDef r.name = some (d.params, d.body, d.scope)) (hk : kwWritten? d.params.kwonlyargs d.params.kw_defaults = some kwd) (hRf : ∀ s, Xt s = true → RecFacts r.records s.heap) (hwr : (!r.writes || r.records.isEmpty) = true)
    (k1 : r.wellSaid = true) (ok : (chainsOk q && opensWell r.prog && (frees r.toRowW && r.within.isEmpty)) = true) (hb : r.prog.bare) (hw : r.toRowW.promised)
    (call : WalkG q loose XP YP r.toRowW d kwd) : r.Holds := by
  obtain ⟨ok, k5⟩ := Bool.and_eq_true_iff.mp ok
  obtain ⟨hch, o1⟩ := Bool.and_eq_true_iff.mp ok
  obtain ⟨k5, k6⟩ := Bool.and_eq_true_iff.mp k5
  obtain ⟨hsame, hu, ha, hap, hm⟩ := frees_parts k5
  have hi := ident_freeW hu ha hap
  have hwi : r.toRowW.claim.within = [] := List.isEmpty_iff.mp k6
  refine ⟨k1, hw, ⟨hb, o1, by show r.toRowW.makers.map _ = []; rw [hm]; rfl⟩, hw.witness, fun w => ⟨(left.behind hX hch w).1, fun s' hs' => ?_⟩⟩
  obtain ⟨s₀, hf, hg0, s, hT, hz, hgens, hg, G00, y⟩ := (left.behind (XP := fun mg h => XP mg h ∧ RecFacts r.records h) (fun s hs => ⟨hX s hs, hRf s hs⟩) hch w).2 s' hs'
  have G0 : Ground q loose [] XP w s (s.heap.nsMap mainGlobals) (s.heap.nsMap builtinsNs) s.heap := ⟨G00.T, G00.B, G00.D, G00.TE, G00.TD, G00.W, G00.X.1, G00.cls, G00.has, G00.apart, G00.once, G00.K⟩
  have RF := G00.X.2
  have hgens : s.gens = #[] := Array.eq_empty_of_size_eq_zero (beq_iff_eq.mp hgens)
  have G : Ground q loose r.records XP w s _ _ s.heap := RF.ground G0
  refine ⟨s₀, hf, hg0, s, hT, fun n hn => ?_, RF.1, RF.2.1, callFromG (c := r.toRowW.claim) (tree := fun vs => do match ← nsGet mainNs r.name with
      | some f => do ret (← PySem.call f vs)
      | none => unsupported "claim.caller:no-such-global") hz hgens fun args hpre hlay ord hord => ?_⟩
  · obtain rfl : n = r.name := by split at hn <;> simp_all
    exact pinned_of_view hg G0 hdef hp hk
  · obtain ⟨⟨vs, s₁⟩, hlaid⟩ := Option.isSome_iff_exists.mp (layAllW_isSome (P := w.params) (ord := ord) G.has args r.args s (pre_splitW hpre).1)
    have keeps := layAllW_keeps _ _ _ hlaid
    have hal := layAllW_rest _ _ _ hlaid
    obtain ⟨as, hrd, hin, hold⟩ := reads_layAllW hord _ _ _ hlaid hlay s₁.heap (fun _ _ e => e)
    have L : Laid r.records w s s₁ args vs as := ⟨⟨ord, hord, hlaid⟩, hrd, hin, hold, keeps, hal.1.trans hgens, hal.2.2.1⟩
    have G₁ := G.keeps hXk keeps
    obtain ⟨a, o, pm, cd, doc, dV, kV, h1, h2, h3, h4, h5⟩ := G₁.fn hdef
    have hcall := call w s s₁ _ _ G₁ (hYk _ _ _ (hY w s y) keeps) a o pm cd doc dV kV h2 h3 h4 h5 (defOf_name hdef ▸ h1) L.gens args vs as hpre hlay L.reads L.well (L.low G.low)
    refine ⟨vs, s₁, hlaid, wpG_ahead (wpAny_nsGet G₁.T.g ?_)⟩
    rw [h1]
    refine wpG_bind (wpG_mono hcall (fun v s' g => wpG_pure ⟨_, rfl, ?_⟩) fun e s' g => ?_)
    · have z := g.laid (c := r.toRowW.claim) hsame hwi hi L
      exact ⟨z.1, z.2.1, z.2.2, fun q => ⟨namesKept_of hT hg _ keeps g.2.1.old, noTable hwr q⟩⟩
    · have z := g.laid (c := r.toRowW.claim) hsame hwi hi L
      exact ⟨z.1, z.2.1, z.2.2, fun q => ⟨namesKept_of hT hg _ keeps g.2.1.old, noTable hwr q⟩⟩
end Mine
end
-- HD
open PySem PySem.W PyProof.Rows
namespace Mine
set_option maxRecDepth 100000 in
set_option maxHeartbeats 8000000 in
open_top hd for PySem.Challenge.rw_wo0047_01
end Mine
-- Base0
section
open PySem PySem.W PySem.Spec PySem.Calls PyProof.Rows
namespace Mine

structure Stop (P : Prop) : Prop where
  out : P

theorem tokGen {M : Model} {A : Around} {α : Type} {t : Sem α} {Q : α → Shared → Prop} {E : Value → Shared → Prop} {h gs d n o} (k : ∀ n, wpAny M A t Q E (Shared.mk h gs d n o)) : wpAny M A t Q E (Shared.mk h gs d n o) := k n

abbrev Led := List (Addr × Obj)
noncomputable abbrev LO : List Str := (looseW hd.view_39
      [Str.ofString "bisect_right", Str.ofString "tspecials", Str.ofString "_name_disallowed_re",
        Str.ofString "_value_disallowed_re", Str.ofString "_formatparam"])

/-- what a call of the text's own def hands back, said over the ledger -/
def Sp (w : World) (mean : ExcName → Option Value) (mg mb : Str → Option Value)
    (f : Addr) (n : Nat) (vs : List Value) (kw : List (Str × Value)) (news : Led) (Post : Value → Led → Prop) : Prop :=
  ∀ (dp un : Nat) (gd : Option (List Code)) (cn : Str) (cs : Scope) (a : Addr) (ccd : Value) (cl : List (Str × Addr)) (outer : List Env) (A₀ : Around) (base h₀ : Heap) (L : Addr) (m : Str → Option Value) (s : Shared)
    (Q E : Value → Shared → Prop),
    Below A₀ base outer h₀ → Fr h₀ L s.heap m → (hd.heap_39 w.params).In h₀ → News h₀ L s.heap news → Top hd.view_39 LO mean mg mb h₀ → cs.kind = .function → dp + n < recursionLimit → un + 8 * n < cLine →
    (∀ r news' h' tk', Fr h₀ L h' m → News h₀ L h' news' → Post r news' → Q r { s with heap := h', toks := tk' }) →
    wpAny (model PySem.Challenge.pw_wo0047_01 w) (ktrTop dp un gd cn cs L a ccd cl outer) (call (.ref f) vs kw) Q E s

theorem sp_use {w : World} {mean : ExcName → Option Value} {mg mb : Str → Option Value}
    {f : Addr} {n : Nat} {vs : List Value} {kw : List (Str × Value)} {news : Led} {Post : Value → Led → Prop}
    {dp un : Nat} {gd : Option (List Code)} {cn : Str} {cs : Scope} {a : Addr} {ccd : Value} {cl : List (Str × Addr)} {outer : List Env} {A₀ : Around} {base h₀ : Heap} {L : Addr} {m : Str → Option Value} {s : Shared}
    {Q E : Value → Shared → Prop}
    (C : Sp w mean mg mb f n vs kw news Post)
    (B : Below A₀ base outer h₀) (F : Fr h₀ L s.heap m) (X : (hd.heap_39 w.params).In h₀) (N : News h₀ L s.heap news) (T : Top hd.view_39 LO mean mg mb h₀) (hk : cs.kind = .function) (hd : dp + n < recursionLimit) (hu : un + 8 * n < cLine)
    (ret : ∀ r news' h' tk', Fr h₀ L h' m → News h₀ L h' news' → Post r news' → Q r { s with heap := h', toks := tk' }) :
    wpAny (model PySem.Challenge.pw_wo0047_01 w) (ktrTop dp un gd cn cs L a ccd cl outer) (call (.ref f) vs kw) Q E s :=
  C _ _ _ _ _ _ _ _ _ _ _ _ _ _ _ _ _ B F X N T hk hd hu ret

end Mine
end
-- Rx
section
open PySem PySem.W PySem.Spec PySem.Calls PyProof.Rows
namespace Mine
set_option maxRecDepth 100000

def lowL : List Str := ["a", "b", "c", "d", "e", "f", "g"]
def upL : List Str := ["A", "B", "C", "D", "E", "F", "G"]
def digL : List Str := ["0", "1", "2", "3", "4", "5", "6"]

theorem rx_getattribute : typeLookup (.type "re.Pattern") "__getattribute__" = pure (some (.builtin "object.__getattribute__")) := by rw [typeLookup_type, builtinLookup_eq_fast]; kernel_rfl
theorem rx_canon : (Manifest.canonical "object.__getattribute__" != "object.__getattribute__") = false := by decide +kernel
theorem rx_getattr_none : typeLookup (.type "re.Pattern") "__getattr__" = pure none := by rw [typeLookup_type, builtinLookup_eq_fast]; kernel_rfl
theorem rx_type_search : typeOf (.builtin "re.Pattern.search") = pure (.type "method_descriptor") := by show builtinType _ = _; rw [builtinType_eq_fast]; kernel_rfl
theorem rx_slot_search : Slot "re.Pattern" "search" "re.Pattern.search" :=
  .of (owner := "re.Pattern") (n := "search") (by rw [typeLookup_type, builtinLookup_eq_fast]; kernel_rfl) (by decide +kernel) (by decide +kernel) (by decide +kernel)
    (by first | exact .inl (by decide +kernel) | exact .inr (by decide +kernel)) (by rw [isSubtype_type]; kernel_rfl)
theorem rx_entry_search : entryFor table "re.Pattern.search" = some Builtin.«re.Pattern.search» := entryFor_of_fast (by kernel_rfl)
theorem rx_args_search (a b : Value) : argsOk "re.Pattern.search" ⟨[a, b], []⟩ := by unfold argsOk; kernel_rfl

def rxIn (P : Params) (a : Addr) (x : Str) : Prop := ∀ (S : Setting) (t : Tok), peek (hd.heap_39 P) S (Builtin.«re.Pattern.search» ⟨[.ref a, .str x t], []⟩) = some (.done (.ret .none))

theorem rx_names (P : Params) : ∀ x ∈ lowL ++ upL, rxIn P 64 x := by
  intro x hx
  simp only [lowL, upL, List.cons_append, List.nil_append, List.mem_cons, List.not_mem_nil, or_false] at hx
  rcases hx with rfl | rfl | rfl | rfl | rfl | rfl | rfl | rfl | rfl | rfl | rfl | rfl | rfl | rfl <;> (intro S t; kernel_rfl)
theorem rx_vals (P : Params) : ∀ x ∈ digL, rxIn P 69 x := by
  intro x hx
  simp only [digL, List.mem_cons, List.not_mem_nil, or_false] at hx
  rcases hx with rfl | rfl | rfl | rfl | rfl | rfl | rfl <;> (intro S t; kernel_rfl)

section
variable {prog : Program} {w : World} {A : Around} {E : Value → Shared → Prop} {s : Shared}
theorem rx_method {a : Addr} {o : Obj} {pl : Sem Bool} {Q : Value × List Value → Shared → Prop} {M : Model} (ho : s.heap.get? a = some o) (hc : o.cls = .type "re.Pattern") (hd : o.dict = none)
    (h : Q (.builtin "re.Pattern.search", [.ref a]) s) : wpAny M A (getMethod (.ref a) "search" pl) Q E s := by
  have hT : s.TypeIs (.ref a) "re.Pattern" := ⟨o, ho, hc⟩
  unfold getMethod
  refine wpAny_bind (wpAny_specialOf hT rx_getattribute ?_)
  show wpAny M A (if (Manifest.canonical "object.__getattribute__" != "object.__getattribute__") = true then _ else _) Q E s
  rw [rx_canon, if_neg Bool.false_ne_true]
  refine wpAny_bind (wpAny_specialOf hT rx_getattr_none ?_)
  refine wpAny_bind (wpAny_specialOf hT rx_slot_search.lookup ?_)
  refine wpAny_bind (wpAny_of_eq rx_type_search ?_)
  refine wpAny_bind (wpAny_load ho ?_)
  rw [hd]
  exact wpAny_bind (wpAny_rule (wpAny_pure h))
theorem rx_search {a : Addr} {o : Obj} {x : Str} {t : Tok} {Q : Value → Shared → Prop} (X : (hd.heap_39 w.params).In s.heap) (ho : s.heap.get? a = some o) (hc : o.cls = .type "re.Pattern") (hx : rxIn w.params a x)
    (h : Q .none s) : wpAny (model prog w) A (call (.builtin "re.Pattern.search") [.ref a, .str x t]) Q E s := by
  have hT : s.TypeIs (.ref a) "re.Pattern" := ⟨o, ho, hc⟩
  refine wpAny_call_entry rx_slot_search hT rx_entry_search ?_ (rx_args_search _ _)
  exact (Looks.of_peek X (hx _ _)).here ⟨_, rfl, h⟩
end
section
variable {prog : Program} {w : World} {A : Around} {E : Value → Shared → Prop} {s : Shared} {h₀ : Heap} {L : Addr} {m : Str → Option Value}
/-- the two patterns of the text, from the written part -/
theorem rx_method_K {a : Addr} {o : Obj} {pl : Sem Bool} {Q : Value × List Value → Shared → Prop} {M : Model} (F : Fr h₀ L s.heap m) (X : (hd.heap_39 w.params).In h₀) (ho : (hd.heap_39 w.params).lookup a = some o) (hc : o.cls = .type "re.Pattern") (hd : o.dict = none)
    (h : Q (.builtin "re.Pattern.search", [.ref a]) s) : wpAny M A (getMethod (.ref a) "search" pl) Q E s := rx_method (F.keep _ _ (X _ _ ho)) hc hd h
theorem rx_search_K {a : Addr} {o : Obj} {x : Str} {t : Tok} {Q : Value → Shared → Prop} (F : Fr h₀ L s.heap m) (X : (hd.heap_39 w.params).In h₀) (ho : (hd.heap_39 w.params).lookup a = some o) (hc : o.cls = .type "re.Pattern") (hx : rxIn w.params a x)
    (h : Q .none s) : wpAny (model prog w) A (call (.builtin "re.Pattern.search") [.ref a, .str x t]) Q E s := rx_search (X.keeps F.keep) (F.keep _ _ (X _ _ ho)) hc hx h
end
end Mine
end
-- Base1
section
open PySem PySem.W PySem.Spec PySem.Calls PyProof.Rows
namespace Mine
theorem low_short : ∀ x ∈ lowL ++ upL, PySem.Builtin.Str.tooLong (Txt.lower x).length = false := by decide +kernel
theorem low_low : ∀ x ∈ lowL ++ upL, Txt.lower x ∈ lowL := by decide +kernel
abbrev tup (vs : List Value) : Obj := { cls := .type "tuple", data := .seq vs.toArray }
/-- the pairs of texts that a town's list holds -/
inductive Tups (news : Led) : List Addr → List (Str × Str) → Prop
  | nil : Tups news [] []
  | cons {a : Addr} {k v : Str} {t u : Tok} {as : List Addr} {es : List (Str × Str)} : (a, tup [.str k t, .str v u]) ∈ news → Tups news as es → Tups news (a :: as) ((k, v) :: es)
theorem Tups.mono {news news' : Led} {as : List Addr} {es : List (Str × Str)} (h : Tups news as es) (hs : ∀ p ∈ news, p ∈ news') : Tups news' as es := by
  induction h with
  | nil => exact .nil
  | cons hm _ ih => exact .cons (hs _ hm) ih
theorem Tups.get {news : Led} {as : List Addr} {es : List (Str × Str)} (h : Tups news as es) : ∀ {i : Nat} {a : Addr}, as[i]? = some a → ∃ k v t u, es[i]? = some (k, v) ∧ (a, tup [.str k t, .str v u]) ∈ news := by
  induction h with
  | nil => intro i a e; simp at e
  | cons hm _ ih =>
    intro i a e
    cases i with
    | zero => simp at e; subst e; exact ⟨_, _, _, _, rfl, hm⟩
    | succ i => simp at e; simpa using ih e
theorem Tups.length {news : Led} {as : List Addr} {es : List (Str × Str)} (h : Tups news as es) : as.length = es.length := by
  induction h with
  | nil => rfl
  | cons _ _ ih => simp [ih]
theorem allNe_eq {d : Addr} {news : Led} (h : AllLt d news) : ∀ p ∈ news, p.1 ≠ d := fun p hp => Nat.ne_of_lt (ktn_ltOf h p hp)
theorem allNe_1 {d : Addr} {news : Led} (h : AllLt d news) : ∀ p ∈ news, p.1 ≠ d + 1 := fun p hp => Nat.ne_of_lt (Nat.lt_succ_of_lt (ktn_ltOf h p hp))
theorem allNe_2 {d : Addr} {news : Led} (h : AllLt d news) : ∀ p ∈ news, p.1 ≠ d + 1 + 1 := fun p hp => Nat.ne_of_lt (Nat.lt_succ_of_lt (Nat.lt_succ_of_lt (ktn_ltOf h p hp)))
theorem memOf {p : Addr × Obj} {l : List (Addr × Obj)} (h : p ∈ l) : List.Mem p l := h
abbrev hdict (H : Int) (tk : Tok) (hl : Addr) : Obj := dictOf [⟨H, .str (Str.ofString "_headers") tk, .ref hl⟩] 1
theorem item_ints {prog : Program} {w : World} {A : Around} {E : Value → Shared → Prop} {s : Shared} {h₀ : Heap} {L : Addr} {news : Led} {value slice : PySem.Expr} {l : Addr} {vs : List Value} {ns : List Int} {nn : Nat} {k : Int} {u : Tok} {Q : Value → Shared → Prop}
    (N : News h₀ L s.heap news) (hm : (l, listOf vs.toArray nn) ∈ news) (hi : IntsAre vs ns) (h0 : 0 ≤ k) (h1 : k < ns.length) (h2 : ns.length < 2 ^ 62) (h : ∀ t, Q (.int (ns.getD k.toNat 0) t) s)
    (hs : subscripted slice false (.ref l) (.int k u) = operate [.ref l, .int k u] (getItem (.ref l) (.int k u)) := by with_unfolding_all rfl) :
    wpAny (model prog w) A (subscriptTail value slice (.ref l) (.int k u)) Q E s := by
  have hl : s.heap.IsList l vs.toArray := ⟨_, (N _ hm).1, rfl, nn, rfl⟩
  obtain ⟨t, ht⟩ := hi.get k.toNat (ns.getD k.toNat 0) (by rw [List.getD_eq_getElem?_getD, List.getElem?_eq_getElem (by omega)]; rfl)
  exact tail_any hl.typeIs slot_list_getitem.lookup (wpAny_getItem_list hl h0 (by omega) (by simpa using ht) (h t)) hs

section
open LCg LCt
variable {prog : Program} {w : World} {A : Around} {h₀ : Heap} {L : Addr} {m : Str → Option Value} {env : Env} {ct elt : Expr} {x : Str} {scope : Scope} {cl : List (Str × Addr)} {s : Shared} {S : List (Addr × Obj) → Prop} {P : Nat → Value → Prop} {Fin : List Value → List (Addr × Obj) → Prop}
theorem compEnd_mono {s₁ s₂ : Shared} {I C D : Addr} {oI oC oD : Obj} {r r' : Value → List (Addr × Obj) → Prop} {y : Value} (k : ∀ nw, r y nw → r' y nw) (h : CompEnd h₀ L m s₁ I oI C oC D oD S r y s₂) : CompEnd h₀ L m s₁ I oI C oC D oD S r' y s₂ := by
  obtain ⟨h', tk, nw, e, F, N, o, hS, hr⟩ := h
  exact ⟨h', tk, nw, e, F, N, o, hS, k _ hr⟩
theorem restT_ind (N : Nat) (J : Nat → List Value → Led → Prop)
    (step : ∀ i ys news, i < N → J i ys news → ∀ v I oI C oC D m₂ h tk (E' : Value → Shared → Prop), P i v → NsObj oC m₂ → m₂ x = some v → Fr h₀ L h m → News h₀ L h ((I, oI) :: (C, oC) :: (D, lst ys) :: news) → Off3 I C D news → ((@Ne Nat I C) ∧ (@Ne Nat I D) ∧ (@Ne Nat C D)) →
      wpAny (model prog w) A (isTrue ct (compEnvC scope cl C env) (eval ct (compEnvC scope cl C env))) (fun ok s' => if ok = true then
        wpAny (model prog w) A (eval elt (compEnvC scope cl C env)) (CompEnd h₀ L m { s with heap := h, toks := tk } I oI C oC D (lst ys) S (fun y news' => J (i + 1) (ys ++ [y]) news')) E' s'
        else CompEnd h₀ L m { s with heap := h, toks := tk } I oI C oC D (lst ys) S (fun _ news' => J (i + 1) ys news') Value.none s') E' { s with heap := h, toks := tk })
    (fin : ∀ ys news, J N ys news → Fin ys news) : ∀ n i ys news, i + n = N → J i ys news → CompRestT prog w A h₀ L m env ct elt x scope cl s S P Fin n i ys news := by
  intro n
  induction n with
  | zero => intro i ys news e hJ; exact CompRestT.zero (fin ys news (by rw [← e]; exact hJ))
  | succ n ih =>
    intro i ys news e hJ
    refine CompRestT.succ fun v I oI C oC D m₂ h tk E' a1 a2 a3 a4 a5 a6 a7 => ?_
    refine wpAny_mono (step i ys news (by omega) hJ v I oI C oC D m₂ h tk E' a1 a2 a3 a4 a5 a6 a7) (fun ok s' hk => ?_) fun _ _ e => e
    split at hk
    · rename_i hok
      rw [if_pos hok]
      exact wpAny_mono hk (fun y s₂ hq => compEnd_mono (fun nw hr => ih _ _ _ (by omega) hr) hq) fun _ _ e => e
    · rename_i hok
      rw [if_neg hok]
      exact compEnd_mono (fun nw hr => ih _ _ _ (by omega) hr) hk
theorem rest_ind (N : Nat) (J : Nat → List Value → Led → Prop)
    (step : ∀ i ys news, i < N → J i ys news → ∀ v I oI C oC D m₂ h tk (E' : Value → Shared → Prop), P i v → NsObj oC m₂ → m₂ x = some v → Fr h₀ L h m → News h₀ L h ((I, oI) :: (C, oC) :: (D, lst ys) :: news) → Off3 I C D news → ((@Ne Nat I C) ∧ (@Ne Nat I D) ∧ (@Ne Nat C D)) →
        wpAny (model prog w) A (eval elt (compEnvC scope cl C env)) (CompEnd h₀ L m { s with heap := h, toks := tk } I oI C oC D (lst ys) S (fun y news' => J (i + 1) (ys ++ [y]) news')) E' { s with heap := h, toks := tk })
    (fin : ∀ ys news, J N ys news → Fin ys news) : ∀ n i ys news, i + n = N → J i ys news → CompRest prog w A h₀ L m env elt x scope cl s S P Fin n i ys news := by
  intro n
  induction n with
  | zero => intro i ys news e hJ; exact CompRest.zero (fin ys news (by rw [← e]; exact hJ))
  | succ n ih =>
    intro i ys news e hJ
    refine CompRest.succ fun v I oI C oC D m₂ h tk E' a1 a2 a3 a4 a5 a6 a7 => ?_
    exact wpAny_mono (step i ys news (by omega) hJ v I oI C oC D m₂ h tk E' a1 a2 a3 a4 a5 a6 a7) (fun y s₂ hq => compEnd_mono (fun nw hr => ih _ _ _ (by omega) hr) hq) fun _ _ e => e
end

/-- an address that the ledger does not hold -/
abbrev OffA (D : Addr) (news : Led) : Prop := ∀ p ∈ news, p.1 ≠ D
theorem off1_all {D : Addr} : ∀ {l : Led}, LCg.Off1 D l → ∀ p ∈ l, p.1 ≠ D
  | [], _, _, h => nomatch h
  | _ :: _, x, p, h => by
    rcases List.mem_cons.mp h with rfl | h
    · exact x.1
    · exact off1_all x.2 p h
theorem news_sub {h₀ h : Heap} {L : Addr} {news news' : Led} (N : News h₀ L h news') (hs : ∀ p ∈ news, p ∈ news') : News h₀ L h news := fun p hp => N p (hs p hp)

/-- the values are these texts -/
inductive Strs : List Value → List Str → Prop
  | nil : Strs [] []
  | cons {x : Str} {t : Tok} {vs : List Value} {xs : List Str} : Strs vs xs → Strs (.str x t :: vs) (x :: xs)
theorem Strs.snoc {vs : List Value} {xs : List Str} {x : Str} {t : Tok} (h : Strs vs xs) : Strs (vs ++ [.str x t]) (xs ++ [x]) := by
  induction h with
  | nil => exact .cons .nil
  | cons _ ih => exact .cons ih
theorem Strs.length {vs : List Value} {xs : List Str} (h : Strs vs xs) : vs.length = xs.length := by
  induction h with
  | nil => rfl
  | cons _ ih => simp [ih]
theorem Strs.get {vs : List Value} {xs : List Str} (h : Strs vs xs) : ∀ {i : Nat} {v : Value}, vs[i]? = some v → ∃ x t, xs[i]? = some x ∧ v = .str x t := by
  induction h with
  | nil => intro i v e; simp at e
  | cons _ ih =>
    intro i v e
    cases i with
    | zero => simp at e; subst e; exact ⟨_, _, rfl, rfl⟩
    | succ i => simp at e; simpa using ih e
/-- what get_all tells -/
def getAll (es : List (Str × Str)) (nm : Str) : List Str := (es.filter fun p => Txt.lower p.1 == nm).map (·.2)
theorem getAll_step {es : List (Str × Str)} {nm k v : Str} {i : Nat} (h : es[i]? = some (k, v)) :
    getAll (es.take (i + 1)) nm = if Txt.lower k == nm then getAll (es.take i) nm ++ [v] else getAll (es.take i) nm := by
  unfold getAll
  rw [List.take_add_one, h]
  simp only [Option.toList_some, List.filter_append, List.map_append]
  split
  · rename_i hc; simp [hc]
  · rename_i hc; simp [hc]
end Mine
end
-- Base2
section
open PySem PySem.W PySem.Spec PySem.Calls PyProof.Rows
namespace Mine
/-- the end of a loop's turn -/
def LpEnd (h₀ : Heap) (L : Addr) (own : Led) (J : (Str → Option Value) → Led → Prop) (s₁ : Shared) (f : Flow) (s₂ : Shared) : Prop :=
  f = .next ∧ ∃ h' tk m' led nx, s₂ = { s₁ with heap := h', toks := tk } ∧ Fr h₀ L h' m' ∧ News h₀ L h' led ∧ (∀ p ∈ nx, p ∈ led) ∧ (∀ p ∈ own, p ∈ led) ∧ (∀ p ∈ own, ∀ q ∈ nx, p.1 ≠ q.1) ∧ J m' nx
theorem LpEnd.intro {h₀ h' : Heap} {L : Addr} {own led : Led} {J : (Str → Option Value) → Led → Prop} {s₁ : Shared} {tk : Nat} {m' : Str → Option Value} (nx : Led) (F : Fr h₀ L h' m') (N : News h₀ L h' led)
    (hn : ∀ p ∈ nx, p ∈ led) (ho : ∀ p ∈ own, p ∈ led) (hs : ∀ p ∈ own, ∀ q ∈ nx, p.1 ≠ q.1) (hj : J m' nx) : LpEnd h₀ L own J s₁ .next { s₁ with heap := h', toks := tk } :=
  ⟨rfl, h', tk, m', led, nx, rfl, F, N, hn, ho, hs, hj⟩
section
variable {prog : Program} {w : World} {A : Around} {E : Value → Shared → Prop} {s : Shared} {env : Env} {h₀ : Heap} {target : Expr} {body : List Stmt} {Q : Flow → Shared → Prop}

theorem loop_gen {I : Addr} {fp : List Addr} {n : Nat} {P : Nat → Value → Prop} {St : Nat → Heap → Prop} {m : Str → Option Value} {nx : Led} (J : Nat → (Str → Option Value) → Led → Prop)
    (W : Walks prog w A I fp [I] n P St) (hLf : env.locals ∉ fp) (hI : h₀.get? I = none) (hlive : ∀ i h, St i h → ∀ b ∈ fp, ∃ o, h.get? b = some o) (hfp : ∀ p ∈ nx, p.1 ∉ fp)
    (hst : St 0 s.heap) (F : Fr h₀ env.locals s.heap m) (N : News h₀ env.locals s.heap nx)
    (hgo : ∀ i (s' : Shared) v (Q' : Unit → Shared → Prop), St i s'.heap → Q' () s' → wpAny (model prog w) A (letOwnedTupleGo target (.ref I) v) Q' E s')
    (hj : J 0 m nx)
    (turn : ∀ i v m₁ nx s₁ own, i < n → P i v → J i m₁ nx → (∀ p ∈ own, ∀ q ∈ nx, p.1 ≠ q.1) → Fr h₀ env.locals (Shared.heap s₁) m₁ → News h₀ env.locals s₁.heap (nx ++ own) →
      wpAny (model prog w) A (assign target env v) (fun _ s₃ => wpAny (model prog w) A (execs body env) (LpEnd h₀ env.locals own (J (i + 1)) s₁) E s₃) E s₁)
    (done : ∀ h tk m' nx, Fr h₀ env.locals h m' → News h₀ env.locals h nx → J n m' nx → Q .next { s with heap := h, toks := tk }) :
    LoopAtT prog w A h₀ env target body Q E (.ref I) s := by
  refine ⟨I, fp, [I], n, P, St, m, nx, (fun i m nx => J i m nx ∧ ∀ p ∈ nx, p.1 ∉ fp), rfl, W, hLf, ?_, ?_, hst, F, N, hgo, ⟨hj, hfp⟩, ?_, ?_⟩
  · intro b hb; rw [List.mem_singleton.mp hb]; exact hI
  · intro p hp hb; exact hfp p hp (W.sub _ hb)
  · rintro i v m₁ news₁ s₁ own hin hP ⟨hJ, hoff⟩ hnw hsub hget hall hst₁ F₁ N₁
    have hsep : ∀ p ∈ own, ∀ q ∈ news₁, p.1 ≠ q.1 := fun p hp q hq e => hoff q hq (e ▸ hsub p hp)
    refine wpAny_mono (turn i v m₁ news₁ s₁ own hin hP hJ hsep F₁ (news_sub N₁ fun p hp => List.mem_append.mpr (List.mem_append.mp hp).symm)) (fun _ s₃ h₃ => wpAny_mono h₃ (fun f s₂ hf => ?_) fun _ _ e => e) fun _ _ e => e
    obtain ⟨rfl, h', tk, m', led, nx', rfl, F', N', hn, ho, hs, hj'⟩ := hf
    have hoff' : ∀ p ∈ nx', p.1 ∉ fp := fun p hp hb => by
      have h0 : h₀.get? p.1 = none := (N' p (hn p hp)).2.2
      obtain ⟨o, e⟩ := hlive _ _ hst₁ _ hb
      exact hs _ (hall _ hb h0 o e) p hp rfl
    exact ⟨rfl, h', tk, m', nx', rfl, F', fun p hp => N' p ((List.mem_append.mp hp).elim (ho p) (hn p)), fun p hp hb => hoff' p hp (W.sub _ hb), hj', hoff'⟩
  · rintro h' tk m' news' F' N' _ ⟨hJ, _⟩
    exact done h' tk m' news' F' N' hJ

/-- a loop over a list that the loop's own ledger leaves out -/
theorem loop_list {l : Addr} {vs : List Value} {m : Str → Option Value} {nx : Led} (J : Nat → (Str → Option Value) → Led → Prop)
    (hh : A.handled = none) (hls : s.heap.IsList l vs.toArray) (hlL : l ≠ env.locals) (hoff : ∀ p ∈ nx, p.1 ≠ l) (F : Fr h₀ env.locals s.heap m) (N : News h₀ env.locals s.heap nx) (hj : J 0 m nx)
    (turn : ∀ i v m₁ nx s₁ own, vs[i]? = some v → J i m₁ nx → (∀ p ∈ own, ∀ q ∈ nx, p.1 ≠ q.1) → Fr h₀ env.locals (Shared.heap s₁) m₁ → News h₀ env.locals s₁.heap (nx ++ own) →
      wpAny (model prog w) A (assign target env v) (fun _ s₃ => wpAny (model prog w) A (execs body env) (LpEnd h₀ env.locals own (J (i + 1)) s₁) E s₃) E s₁)
    (done : ∀ h tk m' nx, Fr h₀ env.locals h m' → News h₀ env.locals h nx → J vs.length m' nx → Q .next { s with heap := h, toks := tk }) :
    wpAny (model prog w) A (pyIter (.ref l)) (fun it s₂ => LoopAtT prog w A h₀ env target body Q E it s₂) E s := by
  have hlt : l < s.heap.objs.size := by obtain ⟨_, e, _⟩ := id hls; exact Heap.lt_size e
  refine wpAny_pyIter_list hls ?_
  have W := Walks.list (prog := prog) (w := w) hh s.heap.objs.size l (Nat.ne_of_lt hlt) vs.toArray
  have hlen : vs.toArray.size = vs.length := by simp
  rw [hlen] at W
  refine loop_gen J W ?_ (next_is_new F) ?_ ?_ ⟨⟨_, Heap.get?_push_size _ rfl, rfl, rfl⟩, hls.at fun o e => Heap.get?_push_of_some _ e⟩ (F.push _) (fun p hp => ⟨Heap.get?_push_of_some _ (N p hp).1, (N p hp).2⟩)
    (fun i s' v Q' st hQ' => letGo_listiter st.1 hQ') hj (fun i v m₁ nx s₁ own _ hP => turn i v m₁ nx s₁ own (by simpa using hP)) done
  · intro hm
    rcases List.mem_cons.mp hm with e | hm
    · exact absurd F.ns.lt (e ▸ Nat.lt_irrefl _)
    · exact hlL (List.mem_singleton.mp hm).symm
  · rintro i h ⟨⟨o, e, _⟩, ⟨o', e', _⟩⟩ b hb
    rcases List.mem_cons.mp hb with rfl | hb
    · exact ⟨o, e⟩
    · rw [List.mem_singleton.mp hb]; exact ⟨o', e'⟩
  · intro p hp hm
    rcases List.mem_cons.mp hm with e | hm
    · exact absurd (Heap.lt_size (N p hp).1) (e ▸ Nat.lt_irrefl _)
    · exact hoff p hp (List.mem_singleton.mp hm)
end
end Mine
end
-- Base3
section
open PySem PySem.W PySem.Spec PySem.Calls PyProof.Rows
namespace Mine
/-- the lists of ints that a list of parts holds -/
inductive Parts (news : Led) : List Addr → List (List Int) → Prop
  | nil : Parts news [] []
  | cons {a : Addr} {vs : List Value} {n : Nat} {p : List Int} {as : List Addr} {ps : List (List Int)} : (a, listOf vs.toArray n) ∈ news → IntsAre vs p → Parts news as ps → Parts news (a :: as) (p :: ps)
theorem Parts.mono {news news' : Led} {as : List Addr} {ps : List (List Int)} (h : Parts news as ps) (hs : ∀ p ∈ news, p ∈ news') : Parts news' as ps := by
  induction h with
  | nil => exact .nil
  | cons hm hi _ ih => exact .cons (hs _ hm) hi ih
theorem Parts.snoc {news : Led} {as : List Addr} {ps : List (List Int)} {a : Addr} {vs : List Value} {n : Nat} {p : List Int} (h : Parts news as ps) (hm : (a, listOf vs.toArray n) ∈ news) (hi : IntsAre vs p) : Parts news (as ++ [a]) (ps ++ [p]) := by
  induction h with
  | nil => exact .cons hm hi .nil
  | cons hm' hi' _ ih => exact .cons hm' hi' ih
theorem Parts.length {news : Led} {as : List Addr} {ps : List (List Int)} (h : Parts news as ps) : as.length = ps.length := by
  induction h with
  | nil => rfl
  | cons _ _ _ ih => simp [ih]

/-- a Headers at tw with its pairs -/
structure Town (news : Led) (tw : Addr) (es : List (Str × Str)) : Prop where
  out : ∃ (dx hl : Addr) (hn : Nat) (H : Int) (hk : Tok) (ts : List Addr), (tw, instObj 198 dx) ∈ news ∧ (dx, hdict H hk hl) ∈ news ∧ (hl, listOf (ts.map Value.ref).toArray hn) ∈ news ∧ Tups news ts es
theorem Town.mono {news news' : Led} {tw : Addr} {es : List (Str × Str)} (h : Town news tw es) (hs : ∀ p ∈ news, p ∈ news') : Town news' tw es := by
  obtain ⟨dx, hl, hn, H, hk, ts, h1, h2, h3, h4⟩ := h.out
  exact ⟨dx, hl, hn, H, hk, ts, hs _ h1, hs _ h2, hs _ h3, h4.mono hs⟩

def letL (v : Int) : Str := lowL.getD v.toNat "a"
def letU (v : Int) : Str := upL.getD v.toNat "A"
def digS (v : Int) : Str := digL.getD v.toNat "0"
theorem letL_mem (v : Int) : letL v ∈ lowL := by
  unfold letL
  rw [List.getD_eq_getElem?_getD]
  cases h : lowL[v.toNat]? with
  | none => decide
  | some x => exact List.mem_of_getElem? h
theorem letU_mem (v : Int) : letU v ∈ upL := by
  unfold letU
  rw [List.getD_eq_getElem?_getD]
  cases h : upL[v.toNat]? with
  | none => decide
  | some x => exact List.mem_of_getElem? h
theorem low_same : ∀ x ∈ lowL, Txt.lower x = x := by decide +kernel
theorem low_up : ∀ k : Nat, k < 7 → Txt.lower (upL.getD k "A") = lowL.getD k "a" := by decide +kernel

/-- the streets out of a place, by a town's pairs -/
def adjT (es : List (Str × Str)) (v : Int) : List Int := (getAll es (letL v)).map fun x => (digL.idxOf x : Nat)
/-- the town's values are the seven figures -/
def TownOk (es : List (Str × Str)) : Prop := (∀ p ∈ es, p.1 ∈ lowL ++ upL) ∧ (∀ p ∈ es, p.2 ∈ digL) ∧ es.length ≤ 9
theorem adjT_rng {es : List (Str × Str)} (h : TownOk es) (v : Int) : ∀ o ∈ adjT es v, 0 ≤ o ∧ o < 7 := by
  intro o ho
  obtain ⟨x, hx, rfl⟩ := List.mem_map.mp ho
  unfold getAll at hx
  obtain ⟨p, hp, rfl⟩ := List.mem_map.mp hx
  have hd := h.2.1 p (List.mem_filter.mp hp).1
  have := List.idxOf_lt_length_iff.mpr hd
  have e : digL.length = 7 := rfl
  omega
end Mine
end
-- Base4
section
open PySem PySem.W PySem.Spec PySem.Calls PyProof.Rows
namespace Mine
theorem letL_items : ∀ k : Nat, k < 7 → Txt.item (Str.ofString "abcdefg") (k : Int) = lowL.getD k "a" := by decide +kernel
theorem letU_items : ∀ k : Nat, k < 7 → Txt.item (Str.ofString "ABCDEFG") (k : Int) = upL.getD k "A" := by decide +kernel
theorem dig_reads : ∀ x ∈ digL, PySem.intText? x = some ((digL.idxOf x : Nat) : Int) ∧ x.length ≤ 640 := by decide +kernel
section
variable {prog : Program} {w : World} {A : Around} {E : Value → Shared → Prop} {s : Shared} {h₀ : Heap} {L : Addr} {m : Str → Option Value} {news news' : Led} {value slice : PySem.Expr}
theorem item_low {t u : Tok} {k : Int} {Q : Value → Shared → Prop} (h0 : 0 ≤ k) (h1 : k < 7) (h : ∀ t' n, Q (.str (letL k) t') { s with toks := n })
    (hs : subscripted slice false (.str (Str.ofString "abcdefg") t) (.int k u) = operate [.str (Str.ofString "abcdefg") t, .int k u] (getItem (.str (Str.ofString "abcdefg") t) (.int k u)))
    (ht : ∀ r, letTemporaryGo value (.str (Str.ofString "abcdefg") t) r = pure ()) : wpAny (model prog w) A (subscriptTail value slice (.str (Str.ofString "abcdefg") t) (.int k u)) Q E s := by
  have hl : (Str.ofString "abcdefg").length = 7 := by decide +kernel
  refine item_str (fitsSsize_of (N := 9223372036854775808) (by omega) (by omega) (Int.le_refl _)) (by rw [hl]; omega) (by rw [hl]; omega) (fun _ => ?_) hs ht
  have e := letL_items k.toNat (by omega)
  rw [show ((k.toNat : Nat) : Int) = k by omega] at e
  rw [e]; exact h _ _
theorem item_up {t u : Tok} {k : Int} {Q : Value → Shared → Prop} (h0 : 0 ≤ k) (h1 : k < 7) (h : ∀ t' n, Q (.str (letU k) t') { s with toks := n })
    (hs : subscripted slice false (.str (Str.ofString "ABCDEFG") t) (.int k u) = operate [.str (Str.ofString "ABCDEFG") t, .int k u] (getItem (.str (Str.ofString "ABCDEFG") t) (.int k u)))
    (ht : ∀ r, letTemporaryGo value (.str (Str.ofString "ABCDEFG") t) r = pure ()) : wpAny (model prog w) A (subscriptTail value slice (.str (Str.ofString "ABCDEFG") t) (.int k u)) Q E s := by
  have hl : (Str.ofString "ABCDEFG").length = 7 := by decide +kernel
  refine item_str (fitsSsize_of (N := 9223372036854775808) (by omega) (by omega) (Int.le_refl _)) (by rw [hl]; omega) (by rw [hl]; omega) (fun _ => ?_) hs ht
  have e := letU_items k.toNat (by omega)
  rw [show ((k.toNat : Nat) : Int) = k by omega] at e
  rw [e]; exact h _ _
theorem int_dig {x : Str} {t : Tok} {Q : Value → Shared → Prop} (hx : x ∈ digL) (h : ∀ t' n, Q (.int ((digL.idxOf x : Nat) : Int) t') { s with toks := n }) : wpAny (model prog w) A (call (.type "int") [.str x t]) Q E s :=
  KIN.call_text (dig_reads x hx).1 (dig_reads x hx).2 (h _ _)
theorem append_P {l : Addr} {vs : List Value} {n : Nat} {x : Value} {Q : Value → Shared → Prop} (F : Fr h₀ L s.heap m) (N : News h₀ L s.heap news) (U : Upd l (listOf vs.toArray n) (listOf (vs ++ [x]).toArray (n + 1)) news news')
    (hz : vs.length ≤ 1000) (h : ∀ h', Fr h₀ L h' m → News h₀ L h' news' → Q .none { s with heap := h' }) : wpAny (model prog w) A (call (.builtin "list.append") [.ref l, x]) Q E s := by
  have e : (vs ++ [x]).toArray = vs.toArray.push x := by simp
  rw [e] at U
  exact append_K F N U h (by rw [List.size_toArray, sizeLine_eq]; omega)
theorem any_in {ns : List Int} {k : Int} (h : (ns.any fun y => y == k) = true) : k ∈ ns := by simpa using h
theorem any_out {ns : List Int} {k : Int} (h : (ns.any fun y => y == k) = false) : k ∉ ns := fun hm => by simp at h; exact h k hm rfl
theorem canLay_ints : ∀ ns : List Int, PyData.canLayAll0 (ns.map .int) = true
  | [] => by simp [PyData.canLayAll0]
  | x :: r => by simp [PyData.canLayAll0, PyData.canLay0, canLay_ints r]
theorem depth_ints : ∀ ns : List Int, PyData.depthAll (ns.map .int) = 0
  | [] => by simp [PyData.depthAll]
  | x :: r => by simp [PyData.depthAll, PyData.depth, depth_ints r]
theorem weight_ints : ∀ ns : List Int, (∀ x ∈ ns, 0 ≤ x ∧ x < 1000) → PyData.weightAll (ns.map .int) ≤ 20 * ns.length
  | [], _ => by simp [PyData.weightAll]
  | x :: r, h => by
    have ih := weight_ints r fun y hy => h y (List.mem_cons_of_mem _ hy)
    have hx := h x (by simp)
    have hw : PyData.weight (.int x) ≤ 12 := by
      simp only [PyData.weight]
      split
      · omega
      · rename_i h0
        have h0 : x ≠ 0 := by simpa using h0
        have : x.natAbs.log2 < 10 := (Nat.log2_lt (by omega)).mpr (by omega)
        omega
    simp only [List.map_cons, PyData.weightAll, List.length_cons]
    omega
theorem layable_small {ns : List Int} (h1 : ns.length ≤ 100) (h2 : ∀ x ∈ ns, 0 ≤ x ∧ x < 1000) : PyData.layable0 (.list (ns.map .int)) = true := by
  have hw : PyData.weightAll (ns.map .int) ≤ 2 ^ 20 := Nat.le_trans (weight_ints ns h2) (Nat.le_trans (Nat.mul_le_mul_left 20 h1) (by decide))
  unfold PyData.layable0
  rw [show PyData.canLay0 (.list (ns.map .int)) = true by simp [PyData.canLay0, canLay_ints], show PyData.depth (.list (ns.map .int)) = 1 by simp [PyData.depth, depth_ints],
    show PyData.weight (.list (ns.map .int)) = PyData.weightAll (ns.map .int) by simp [PyData.weight], decide_eq_true hw]
  rfl
theorem len_led {l : Addr} {vs : List Value} {n : Nat} {ns : List Int} {Q : Value → Shared → Prop} (N : News h₀ L s.heap news) (hm : (l, listOf vs.toArray n) ∈ news) (hi : IntsAre vs ns) (hf : ns.length < 2 ^ 62)
    (h : ∀ t' n', Q (.int (ns.length : Nat) t') { s with toks := n' }) : wpAny (model prog w) A (call (.builtin "len") [.ref l]) Q E s :=
  KM.len_K (its := vs.toArray) N hm (by simp [hi.length]) hf (h _ _)
theorem eq_led {a b : Addr} {vs us : List Value} {n1 n2 : Nat} {ns ms : List Int} {Q : Value → Shared → Prop} (N : News h₀ L s.heap news) (ha : (a, listOf vs.toArray n1) ∈ news) (hb : (b, listOf us.toArray n2) ∈ news) (hi : IntsAre vs ns) (hj : IntsAre us ms) (hu : A.units + 64 < cLine)
    (h : Q (.bool (decide (ns = ms))) s) : wpAny (model prog w) A (compareOp .Eq (.ref a) (.ref b)) Q E s := eq_intsK (News.isList N ha) hi (News.isList N hb) hj hu h
theorem index_led {l : Addr} {vs : List Value} {n : Nat} {ns : List Int} {k : Int} {t : Tok} {Q : Value → Shared → Prop} (N : News h₀ L s.heap news) (hm : (l, listOf vs.toArray n) ∈ news) (hi : IntsAre vs ns) (h1 : ns.length ≤ 100) (h2 : ∀ x ∈ ns, 0 ≤ x ∧ x < 1000) (hk : (ns.any fun y => y == k) = true)
    (h : ∀ t' n', Q (.int (ns.idxOf k : Nat) t') { s with toks := n' }) : wpAny (model prog w) A (call (.builtin "list.index") [.ref l, .int k t]) Q E s :=
  index_list_ints ⟨_, (N _ hm).1, rfl, n, rfl⟩ hi (layable_small h1 h2) (any_in hk) (h _ _)
end
end Mine
end
-- Base5
section
open PySem PySem.W PySem.Spec PySem.Calls PyProof.Rows
namespace Mine
/-- the ledger of a walk's call: the four lists first -/
def GLed (pa ba da qa : Addr) (vp : List Value) (n1 : Nat) (vb : List Value) (n2 : Nat) (vd : List Value) (n3 : Nat) (vq : List Value) (n4 : Nat) (rest : Led) : Led :=
  (pa, listOf vp.toArray n1) :: (ba, listOf vb.toArray n2) :: (da, listOf vd.toArray n3) :: (qa, listOf vq.toArray n4) :: rest
structure Ap4 (pa ba da qa : Addr) (rest : Led) : Prop where
  a1 : @Ne Nat pa ba
  a2 : @Ne Nat pa da
  a3 : @Ne Nat pa qa
  a4 : @Ne Nat ba da
  a5 : @Ne Nat ba qa
  a6 : @Ne Nat da qa
  b1 : ∀ p ∈ rest, p.1 ≠ pa
  b2 : ∀ p ∈ rest, p.1 ≠ ba
  b3 : ∀ p ∈ rest, p.1 ≠ da
  b4 : ∀ p ∈ rest, p.1 ≠ qa
def OffL (tl rest : Led) : Prop := ∀ p ∈ tl, ∀ q ∈ rest, p.1 ≠ q.1
/-- the four lists bear this state; what is new lies in tl -/
structure GRep (s0 : SS) (vq : List Value) (vp vb vd : List Value) (pl : List Addr) (tl : Led) (σ : SS) : Prop where
  i1 : IntsAre vp σ.segs.flatten
  i2 : IntsAre vb (starts 0 σ.segs)
  i3 : IntsAre vd σ.done
  new : ∃ ps, Parts tl pl ps ∧ σ.parts = s0.parts ++ ps
/-- what the loop over the streets keeps -/
structure GJ (es : List (Str × Str)) (f : Nat) (v : Int) (t : Tok) (sp : Int) (tsp : Tok) (tw pa ba da qa : Addr) (s0 s2 : SS) (vq : List Value) (rest : Led) (i : Nat) (m : Str → Option Value) (nx : Led) : Prop where
  out : ∃ σ tl vp n1 vb n2 vd n3 pl n4, nx = GLed pa ba da qa vp n1 vb n2 vd n3 (vq ++ pl.map Value.ref) n4 (tl ++ rest) ∧ LInv (adjT es) v s0 ((adjT es v).take i) σ ∧ goneL (goneS (adjT es) f) ((adjT es v).drop i) σ = some s2 ∧ GRep s0 vq vp vb vd pl tl σ ∧ Ap4 pa ba da qa (tl ++ rest) ∧ OffL tl rest
  m1 : m (Str.ofString "place") = some (.int v t)
  m2 : m (Str.ofString "town") = some (.ref tw)
  m3 : m (Str.ofString "path") = some (.ref pa)
  m4 : m (Str.ofString "bounds") = some (.ref ba)
  m5 : m (Str.ofString "done") = some (.ref da)
  m6 : m (Str.ofString "parts") = some (.ref qa)
  m7 : m (Str.ofString "spot") = some (.int sp tsp)
/-- what a walk's call hands back -/
def GPost (pa ba da qa : Addr) (s0 s' : SS) (vq : List Value) (rest : Led) (r : Value) (nw : Led) : Prop :=
  r = .none ∧ ∃ tl vp n1 vb n2 vd n3 pl n4, nw = GLed pa ba da qa vp n1 vb n2 vd n3 (vq ++ pl.map Value.ref) n4 (tl ++ rest) ∧ GRep s0 vq vp vb vd pl tl s' ∧ Ap4 pa ba da qa (tl ++ rest) ∧ OffL tl rest
theorem getAll_dig {es : List (Str × Str)} (ok : TownOk es) {nm : Str} : ∀ x ∈ getAll es nm, x ∈ digL := by
  intro x hx
  unfold getAll at hx
  obtain ⟨p, hp, rfl⟩ := List.mem_map.mp hx
  exact ok.2.1 p (List.mem_filter.mp hp).1
theorem getAll_adj {es : List (Str × Str)} {v : Int} {x : Str} {i : Nat} (h : (getAll es (Txt.lower (letL v)))[i]? = some x) : (adjT es v)[i]? = some ((digL.idxOf x : Nat) : Int) := by
  rw [low_same _ (letL_mem v)] at h
  unfold adjT
  rw [List.getElem?_map, h]; rfl
theorem getAll_len {es : List (Str × Str)} {v : Int} : (getAll es (Txt.lower (letL v))).length = (adjT es v).length := by
  rw [low_same _ (letL_mem v)]
  unfold adjT
  rw [List.length_map]
section
variable {pa ba da qa : Addr} {vp vb vd vq vq' : List Value} {n1 n2 n3 n4 : Nat} {X Y : Led}
theorem gled_mono (e : vq = vq') (h : ∀ p ∈ X, p ∈ Y) : ∀ p ∈ GLed pa ba da qa vp n1 vb n2 vd n3 vq n4 X, p ∈ GLed pa ba da qa vp n1 vb n2 vd n3 vq' n4 Y := by
  subst e
  intro p hp
  unfold GLed at hp ⊢
  simp only [List.mem_cons] at hp ⊢
  rcases hp with hp | hp | hp | hp | hp
  · exact .inl hp
  · exact .inr (.inl hp)
  · exact .inr (.inr (.inl hp))
  · exact .inr (.inr (.inr (.inl hp)))
  · exact .inr (.inr (.inr (.inr (h p hp))))
theorem gled_tail {p : Addr × Obj} (h : p ∈ X) : p ∈ GLed pa ba da qa vp n1 vb n2 vd n3 vq n4 X := by
  unfold GLed; simp [h]
theorem Ap4.mono (A : Ap4 pa ba da qa Y) (h : ∀ p ∈ X, p ∈ Y) : Ap4 pa ba da qa X :=
  ⟨A.a1, A.a2, A.a3, A.a4, A.a5, A.a6, fun p hp => A.b1 p (h p hp), fun p hp => A.b2 p (h p hp), fun p hp => A.b3 p (h p hp), fun p hp => A.b4 p (h p hp)⟩
theorem sep_gled {vp' vb' vd' : List Value} {n1' n2' n3' n4' : Nat} {own : Led} (h : ∀ p ∈ own, ∀ q ∈ GLed pa ba da qa vp n1 vb n2 vd n3 vq n4 X, p.1 ≠ q.1) (k : ∀ p ∈ own, ∀ q ∈ Y, p.1 ≠ q.1) :
    ∀ p ∈ own, ∀ q ∈ GLed pa ba da qa vp' n1' vb' n2' vd' n3' vq' n4' Y, p.1 ≠ q.1 := by
  intro p hp q hq
  unfold GLed at h hq
  simp only [List.mem_cons] at hq
  rcases hq with rfl | rfl | rfl | rfl | hq
  · exact h p hp (pa, listOf vp.toArray n1) (.head _)
  · exact h p hp (ba, listOf vb.toArray n2) (.tail _ (.head _))
  · exact h p hp (da, listOf vd.toArray n3) (.tail _ (.tail _ (.head _)))
  · exact h p hp (qa, listOf vq.toArray n4) (.tail _ (.tail _ (.tail _ (.head _))))
  · exact k p hp q hq
end
theorem Parts.append {news : Led} {a1 a2 : List Addr} {p1 p2 : List (List Int)} (h : Parts news a1 p1) (k : Parts news a2 p2) : Parts news (a1 ++ a2) (p1 ++ p2) := by
  induction h with
  | nil => exact k
  | cons hm hi _ ih => exact .cons hm hi ih
theorem adj_step {l : List Int} {o : Int} {i : Nat} (h : l[i]? = some o) : l.take (i + 1) = l.take i ++ [o] ∧ l.drop i = o :: l.drop (i + 1) := by
  obtain ⟨hi, e⟩ := List.getElem?_eq_some_iff.mp h
  refine ⟨by rw [List.take_add_one, h]; rfl, ?_⟩
  rw [List.drop_eq_getElem_cons hi, e]
theorem goneL_path {g : Int → SS → Option SS} {o : Int} {r : List Int} {σ s2 : SS} (h : goneL g (o :: r) σ = some s2) (hp : o ∈ σ.segs.flatten) : goneL g r { σ with segs := mergeAt o σ.segs } = some s2 := by
  unfold goneL at h; rwa [if_pos hp] at h
theorem goneL_skip {g : Int → SS → Option SS} {o : Int} {r : List Int} {σ s2 : SS} (h : goneL g (o :: r) σ = some s2) (hp : o ∉ σ.segs.flatten) (hd : o ∈ σ.done) : goneL g r σ = some s2 := by
  unfold goneL at h; rwa [if_neg hp, if_pos hd] at h
theorem goneL_child {g : Int → SS → Option SS} {o : Int} {r : List Int} {σ s2 : SS} (h : goneL g (o :: r) σ = some s2) (hp : o ∉ σ.segs.flatten) (hd : o ∉ σ.done) : ∃ s1, g o σ = some s1 ∧ goneL g r s1 = some s2 := by
  unfold goneL at h
  rw [if_neg hp, if_neg hd] at h
  split at h
  · cases h
  · exact ⟨_, by assumption, h⟩
theorem ints_take {vs : List Value} {ns : List Int} (h : IntsAre vs ns) : ∀ {j : Nat}, IntsAre vs (ns.take j) → True := fun _ => trivial
theorem dropLast_take {α : Type} {l : List α} {j : Nat} (h : j ≤ l.length) : (l.take j).dropLast = l.take (j - 1) := by
  rw [List.dropLast_eq_take, List.length_take, List.take_take]
  congr 1
  omega
theorem ap_own {a : Addr} {v : Obj} {own X Y : Led} (h1 : ∀ p ∈ X, p.1 ≠ a) (h2 : ∀ p ∈ own, ∀ q ∈ Y, p.1 ≠ q.1) (h3 : (a, v) ∈ Y) : ∀ p ∈ X ++ own, p.1 ≠ a := fun p hp =>
  (List.mem_append.mp hp).elim (h1 p) fun h => h2 p h _ h3
end Mine
end
-- Base6
section
open PySem PySem.W PySem.Spec PySem.Calls PyProof.Rows
namespace Mine
theorem gone_end {g h : Heap} {L : Addr} {v : Int} {t : Tok} {s0 σ : SS} {pa ba da qa D D1 D2 D3 : Addr} {o1 o2 o3 : Obj} {vS vp2 vb vd vq : List Value} {nS : List Int} {c np2 n2 n3 n4 j : Nat} {pl : List Addr} {ps : List (List Int)} {tl rest : Led} {pre : List (List Int)} {T : List Int}
    (N : News g L h ((D, listOf vS.toArray c) :: (D1, o1) :: (D2, o2) :: (D3, o3) :: (pa, listOf vp2.toArray np2) :: (ba, listOf vb.dropLast.toArray n2) :: (da, listOf (vd ++ [Value.int v t]).toArray n3) :: (qa, listOf (vq ++ pl.map Value.ref ++ [Value.ref D]).toArray n4) :: (tl ++ rest)))
    (hl : D1 < D ∧ D2 < D ∧ D3 < D ∧ pa < D ∧ ba < D ∧ da < D ∧ qa < D ∧ AllLt D (tl ++ rest))
    (z1 : σ.segs = pre ++ [T]) (z2 : starts 0 σ.segs = starts 0 pre ++ [(pre.flatten.length : Int)]) (z4 : σ.segs.flatten = pre.flatten ++ T) (he : pre.flatten.length = s0.segs.flatten.length)
    (iS : IntsAre vS nS) (pS : nS.Perm (σ.segs.flatten.drop s0.segs.flatten.length)) (oS : nS.Pairwise (· ≤ ·))
    (ip : IntsAre vp2 (σ.segs.flatten.take j)) (hj : j = s0.segs.flatten.length) (ib : IntsAre vb.dropLast (starts 0 σ.segs).dropLast) (i3 : IntsAre vd σ.done)
    (hps : Parts tl pl ps) (hpe : σ.parts = s0.parts ++ ps) (hA : Ap4 pa ba da qa (tl ++ rest)) (hO : OffL tl rest) :
    ∃ nw, News g L h nw ∧ GPost pa ba da qa s0 (goneEnd v s0 σ) vq rest .none nw := by
  obtain ⟨-, -, -, h4, h5, h6, h7, h8⟩ := hl
  have ne : ∀ p ∈ tl ++ rest, p.1 ≠ D := allNe_eq h8
  refine ⟨GLed pa ba da qa vp2 np2 vb.dropLast n2 (vd ++ [Value.int v t]) n3 (vq ++ (pl ++ [D]).map Value.ref) n4 (((D, listOf vS.toArray c) :: tl) ++ rest), news_sub N ?_, rfl, (D, listOf vS.toArray c) :: tl, _, _, _, _, _, _, pl ++ [D], _, rfl, ?_, ?_, ?_⟩
  · intro p hp
    unfold GLed at hp
    simp only [List.mem_cons, List.cons_append, List.map_append, List.map_cons, List.map_nil, List.append_assoc] at hp ⊢
    rcases hp with hp | hp | hp | hp | hp | hp <;> simp [hp]
  · rw [end_yes z1 he]
    refine ⟨?_, ?_, intsAre_append i3 (.cons _ _ .nil), ps ++ [nS], (hps.mono fun p hp => List.mem_cons_of_mem _ hp).snoc (List.mem_cons_self ..) iS, ?_⟩
    · have e : σ.segs.flatten.take j = pre.flatten := by rw [z4, hj, ← he]; simp
      rw [e] at ip
      exact ip
    · rw [z2, List.dropLast_concat] at ib
      exact ib
    · show σ.parts ++ [isort T] = _
      have e : nS = isort T := isort_of (by rw [z4, ← he, List.drop_left] at pS; exact pS) oS
      rw [hpe, List.append_assoc, e]
  · refine ⟨hA.a1, hA.a2, hA.a3, hA.a4, hA.a5, hA.a6, fun p hp => ?_, fun p hp => ?_, fun p hp => ?_, fun p hp => ?_⟩ <;> rcases List.mem_cons.mp hp with rfl | hp
    · exact Nat.ne_of_gt h4
    · exact hA.b1 p hp
    · exact Nat.ne_of_gt h5
    · exact hA.b2 p hp
    · exact Nat.ne_of_gt h6
    · exact hA.b3 p hp
    · exact Nat.ne_of_gt h7
    · exact hA.b4 p hp
  · intro p hp q hq
    rcases List.mem_cons.mp hp with rfl | hp
    · exact (ne q (List.mem_append_right _ hq)).symm
    · exact hO p hp q hq
end Mine
end
-- Base7
section
open PySem PySem.W PySem.Spec PySem.Calls PyProof.Rows
namespace Mine
theorem glue_one (x y : Str) : Txt.join x [y] = y := by
  show Builtin.Str.glued x [y] = y
  rw [StrLaws.glued_eq_join]
  rfl
section
variable {prog : Program} {w : World} {A : Around} {E : Value → Shared → Prop} {s : Shared} {h₀ : Heap} {L : Addr} {m : Str → Option Value} {news news' : Led} {value slice : PySem.Expr}
theorem join_1 {x y : Str} {t : Tok} {D : Addr} {items : Array Value} {Q : Value → Shared → Prop} (hl : s.heap.IsList D items) (hi : StrsAre items.toList [y]) (hx : x.length ≤ 16) (hy : y.length ≤ 1000)
    (h : ∀ t' k, Q (.str y t') { s with toks := k }) : wpAny (model prog w) A (call (.builtin "str.join") [.str x t, .ref D]) Q E s :=
  join_listW hl hi hx (by simp; omega) (by intro t' k; rw [glue_one]; exact h t' k)
theorem news_15 {g h : Heap} {a b c d p : Addr × Obj} {rest : Led} (N : News g L h (a :: b :: c :: d :: p :: rest)) : News g L h (p :: a :: rest) := news_sub N (by
  intro x hx; simp only [List.mem_cons] at hx ⊢; rcases hx with h | h | h <;> simp [h])
theorem dig_len : ∀ x ∈ digL, x.length ≤ 1000 := by decide +kernel
end
end Mine
end
-- Base8
section
open PySem PySem.W PySem.Spec PySem.Calls PyProof.Rows
namespace Mine
section
variable {prog : Program} {w : World} {A : Around} {E : Value → Shared → Prop} {s : Shared} {env : Env} {h₀ : Heap} {target : Expr} {body : List Stmt} {Q : Flow → Shared → Prop}
/-- a loop that keeps what it goes over -/
theorem loop_genK {I : Addr} {fp : List Addr} {n : Nat} {P : Nat → Value → Prop} {St : Nat → Heap → Prop} {m : Str → Option Value} {nx kp : Led} (J : Nat → (Str → Option Value) → Led → Prop)
    (W : Walks prog w A I fp [I] n P St) (hLf : env.locals ∉ fp) (hI : h₀.get? I = none) (hlive : ∀ i h, St i h → ∀ b ∈ fp, ∃ o, h.get? b = some o) (hfp : ∀ p ∈ nx, p.1 ∉ fp) (hkp : ∀ p ∈ kp, p.1 ∈ fp ∧ p.1 ∉ [I])
    (hst : St 0 s.heap) (F : Fr h₀ env.locals s.heap m) (N : News h₀ env.locals s.heap (kp ++ nx))
    (hgo : ∀ i (s' : Shared) v (Q' : Unit → Shared → Prop), St i s'.heap → Q' () s' → wpAny (model prog w) A (letOwnedTupleGo target (.ref I) v) Q' E s')
    (hj : J 0 m nx)
    (turn : ∀ i v m₁ nx s₁ own, i < n → P i v → J i m₁ nx → (∀ p ∈ own, ∀ q ∈ nx, p.1 ≠ q.1) → (∀ p ∈ kp, p ∈ own) → Fr h₀ env.locals (Shared.heap s₁) m₁ → News h₀ env.locals s₁.heap (nx ++ own) →
      wpAny (model prog w) A (assign target env v) (fun _ s₃ => wpAny (model prog w) A (execs body env) (LpEnd h₀ env.locals own (J (i + 1)) s₁) E s₃) E s₁)
    (done : ∀ h tk m' nx, Fr h₀ env.locals h m' → News h₀ env.locals h (kp ++ nx) → J n m' nx → Q .next { s with heap := h, toks := tk }) :
    LoopAtT prog w A h₀ env target body Q E (.ref I) s := by
  refine ⟨I, fp, [I], n, P, St, m, kp ++ nx, (fun i m news => ∃ nx, news = kp ++ nx ∧ J i m nx ∧ ∀ p ∈ nx, p.1 ∉ fp), rfl, W, hLf, ?_, ?_, hst, F, N, hgo, ⟨nx, rfl, hj, hfp⟩, ?_, ?_⟩
  · intro b hb; rw [List.mem_singleton.mp hb]; exact hI
  · intro p hp hb
    rcases List.mem_append.mp hp with hp | hp
    · exact (hkp p hp).2 hb
    · exact hfp p hp (W.sub _ hb)
  · rintro i v m₁ news₁ s₁ own hin hP ⟨nx, rfl, hJ, hoff⟩ hnw hsub hget hall hst₁ F₁ N₁
    have hsep : ∀ p ∈ own, ∀ q ∈ nx, p.1 ≠ q.1 := fun p hp q hq e => hoff q hq (e ▸ hsub p hp)
    have hko : ∀ p ∈ kp, p ∈ own := fun p hp => by
      have h1 := N₁ p (List.mem_append_right _ (List.mem_append_left _ hp))
      exact hall p.1 (hkp p hp).1 h1.2.2 p.2 h1.1
    refine wpAny_mono (turn i v m₁ nx s₁ own hin hP hJ hsep hko F₁ (news_sub N₁ fun p hp => (List.mem_append.mp hp).elim (fun h => List.mem_append_right _ (List.mem_append_right _ h)) fun h => List.mem_append_left _ h)) (fun _ s₃ h₃ => wpAny_mono h₃ (fun f s₂ hf => ?_) fun _ _ e => e) fun _ _ e => e
    obtain ⟨rfl, h', tk, m', led, nx', rfl, F', N', hn, ho, hs, hj'⟩ := hf
    have hoff' : ∀ p ∈ nx', p.1 ∉ fp := fun p hp hb => by
      have h0 : h₀.get? p.1 = none := (N' p (hn p hp)).2.2
      obtain ⟨o, e⟩ := hlive _ _ hst₁ _ hb
      exact hs _ (hall _ hb h0 o e) p hp rfl
    refine ⟨rfl, h', tk, m', kp ++ nx', rfl, F', fun p hp => N' p ?_, fun p hp hb => ?_, nx', rfl, hj', hoff'⟩
    · rcases List.mem_append.mp hp with hp | hp
      · exact ho p hp
      · rcases List.mem_append.mp hp with hp | hp
        · exact ho p (hko p hp)
        · exact hn p hp
    · rcases List.mem_append.mp hp with hp | hp
      · exact (hkp p hp).2 hb
      · exact hoff' p hp (W.sub _ hb)
  · rintro h' tk m' news' F' N' _ ⟨nx, rfl, hJ, _⟩
    exact done h' tk m' nx F' N' hJ

/-- a loop over a list that stays in the ledger -/
theorem loop_listK {l : Addr} {vs : List Value} {ln : Nat} {m : Str → Option Value} {nx : Led} (J : Nat → (Str → Option Value) → Led → Prop)
    (hh : A.handled = none) (hoff : ∀ p ∈ nx, p.1 ≠ l) (F : Fr h₀ env.locals s.heap m) (N : News h₀ env.locals s.heap ((l, listOf vs.toArray ln) :: nx)) (hj : J 0 m nx)
    (turn : ∀ i v m₁ nx s₁ own, vs[i]? = some v → J i m₁ nx → (∀ p ∈ own, ∀ q ∈ nx, p.1 ≠ q.1) → (l, listOf vs.toArray ln) ∈ own → Fr h₀ env.locals (Shared.heap s₁) m₁ → News h₀ env.locals s₁.heap (nx ++ own) →
      wpAny (model prog w) A (assign target env v) (fun _ s₃ => wpAny (model prog w) A (execs body env) (LpEnd h₀ env.locals own (J (i + 1)) s₁) E s₃) E s₁)
    (done : ∀ h tk m' nx, Fr h₀ env.locals h m' → News h₀ env.locals h ((l, listOf vs.toArray ln) :: nx) → J vs.length m' nx → Q .next { s with heap := h, toks := tk }) :
    wpAny (model prog w) A (pyIter (.ref l)) (fun it s₂ => LoopAtT prog w A h₀ env target body Q E it s₂) E s := by
  have hls : s.heap.IsList l vs.toArray := ⟨_, (N _ (.head _)).1, rfl, ln, rfl⟩
  have hlL : l ≠ env.locals := (N _ (.head _)).2.1
  have hlt : l < s.heap.objs.size := Heap.lt_size (N _ (.head _)).1
  refine wpAny_pyIter_list hls ?_
  have W := Walks.list (prog := prog) (w := w) hh s.heap.objs.size l (Nat.ne_of_lt hlt) vs.toArray
  have hlen : vs.toArray.size = vs.length := by simp
  rw [hlen] at W
  refine loop_genK (kp := [(l, listOf vs.toArray ln)]) J W ?_ (next_is_new F) ?_ ?_ ?_ ⟨⟨_, Heap.get?_push_size _ rfl, rfl, rfl⟩, hls.at fun o e => Heap.get?_push_of_some _ e⟩ (F.push _) (fun p hp => ⟨Heap.get?_push_of_some _ (N p hp).1, (N p hp).2⟩)
    (fun i s' v Q' st hQ' => letGo_listiter st.1 hQ') hj (fun i v m₁ nx s₁ own _ hP hJ hs hk => turn i v m₁ nx s₁ own (by simpa using hP) hJ hs (hk _ (.head _))) done
  · intro hm
    rcases List.mem_cons.mp hm with e | hm
    · exact absurd F.ns.lt (e ▸ Nat.lt_irrefl _)
    · exact hlL (List.mem_singleton.mp hm).symm
  · rintro i h ⟨⟨o, e, _⟩, ⟨o', e', _⟩⟩ b hb
    rcases List.mem_cons.mp hb with rfl | hb
    · exact ⟨o, e⟩
    · rw [List.mem_singleton.mp hb]; exact ⟨o', e'⟩
  · intro p hp hm
    rcases List.mem_cons.mp hm with e | hm
    · exact absurd (Heap.lt_size (N p (List.mem_cons_of_mem _ hp)).1) (e ▸ Nat.lt_irrefl _)
    · exact hoff p hp (List.mem_singleton.mp hm)
  · intro p hp
    rw [List.mem_singleton.mp hp]
    exact ⟨by simp, fun hm => absurd hlt ((List.mem_singleton.mp hm) ▸ Nat.lt_irrefl _)⟩
end
end Mine
end
-- Base9
section
open PySem PySem.W PySem.Spec PySem.Calls PyProof.Rows
namespace Mine
/-- a cell's street: its beginning, its end, its letters -/
def cB (c : Int) : Int := c.fmod 7
def cE (c : Int) : Int := (c.fdiv 7).fmod 7
def cL (c k : Int) : Str := if (c.fdiv 49).fmod 2 = 1 then letU k else letL k
def strF (cs : List Int) : List (Int × Int) := cs.map fun c => (cB c, cE c)
def fwdF (cs : List Int) : List (Str × Str) := cs.map fun c => (cL c (cB c), digS (cE c))
def bwdF (cs : List Int) : List (Str × Str) := cs.map fun c => (cL c (cE c), digS (cB c))
theorem cB_rng (c : Int) : 0 ≤ cB c ∧ cB c < 7 := ⟨Int.fmod_nonneg_of_pos _ (by decide), Int.fmod_lt_of_pos _ (by decide)⟩
theorem cE_rng (c : Int) : 0 ≤ cE c ∧ cE c < 7 := ⟨Int.fmod_nonneg_of_pos _ (by decide), Int.fmod_lt_of_pos _ (by decide)⟩
theorem cL_mem (c k : Int) : cL c k ∈ lowL ++ upL := by
  unfold cL
  split
  · exact List.mem_append_right _ (letU_mem k)
  · exact List.mem_append_left _ (letL_mem k)
theorem digS_mem (v : Int) : digS v ∈ digL := by
  unfold digS
  rw [List.getD_eq_getElem?_getD]
  cases h : digL[v.toNat]? with
  | none => decide
  | some x => exact List.mem_of_getElem? h
theorem digS_eq : ∀ k : Nat, k < 7 → (Str.ofString (toString (k : Int))) = digL.getD k "0" := by decide +kernel
inductive IPairs (news : Led) : List Addr → List (Int × Int) → Prop
  | nil : IPairs news [] []
  | cons {a : Addr} {b e : Int} {t u : Tok} {as : List Addr} {es : List (Int × Int)} : (a, tup [.int b t, .int e u]) ∈ news → IPairs news as es → IPairs news (a :: as) ((b, e) :: es)
theorem IPairs.mono {news news' : Led} {as : List Addr} {es : List (Int × Int)} (h : IPairs news as es) (hs : ∀ p ∈ news, p ∈ news') : IPairs news' as es := by
  induction h with
  | nil => exact .nil
  | cons hm _ ih => exact .cons (hs _ hm) ih
theorem IPairs.snoc {news : Led} {as : List Addr} {es : List (Int × Int)} {a : Addr} {b e : Int} {t u : Tok} (h : IPairs news as es) (hm : (a, tup [.int b t, .int e u]) ∈ news) : IPairs news (as ++ [a]) (es ++ [(b, e)]) := by
  induction h with
  | nil => exact .cons hm .nil
  | cons hm' _ ih => exact .cons hm' ih
theorem IPairs.length {news : Led} {as : List Addr} {es : List (Int × Int)} (h : IPairs news as es) : as.length = es.length := by
  induction h with
  | nil => rfl
  | cons _ _ ih => simp [ih]
theorem IPairs.get {news : Led} {as : List Addr} {es : List (Int × Int)} (h : IPairs news as es) : ∀ {i : Nat} {a : Addr}, as[i]? = some a → ∃ b e t u, es[i]? = some (b, e) ∧ (a, tup [.int b t, .int e u]) ∈ news := by
  induction h with
  | nil => intro i a e; simp at e
  | cons hm _ ih =>
    intro i a e
    cases i with
    | zero => simp at e; subst e; exact ⟨_, _, _, _, rfl, hm⟩
    | succ i => simp at e; simpa using ih e
theorem Tups.snoc {news : Led} {as : List Addr} {es : List (Str × Str)} {a : Addr} {k v : Str} {t u : Tok} (h : Tups news as es) (hm : (a, tup [.str k t, .str v u]) ∈ news) : Tups news (as ++ [a]) (es ++ [(k, v)]) := by
  induction h with
  | nil => exact .cons hm .nil
  | cons hm' _ ih => exact .cons hm' ih
theorem take_snoc {α : Type} {l : List α} {i : Nat} {x : α} (h : l[i]? = some x) : l.take (i + 1) = l.take i ++ [x] := by
  rw [List.take_add_one, h]; rfl
/-- what the loop over the cells keeps -/
def TJ (rest : Led) (sl hl1 tw1 dx1 : Addr) (H1 : Int) (k1 : Tok) (hl2 tw2 dx2 : Addr) (H2 : Int) (k2 : Tok) (cells : List Int) (i : Nat) (m : Str → Option Value) (nx : Led) : Prop :=
  ∃ pl n0 ts1 n1 ts2 n2 tl, nx = (sl, listOf (pl.map Value.ref).toArray n0) :: (hl1, listOf (ts1.map Value.ref).toArray n1) :: (hl2, listOf (ts2.map Value.ref).toArray n2) ::
    (tw1, instObj 198 dx1) :: (dx1, hdict H1 k1 hl1) :: (tw2, instObj 198 dx2) :: (dx2, hdict H2 k2 hl2) :: (tl ++ rest) ∧
    IPairs tl pl (strF (cells.take i)) ∧ Tups tl ts1 (fwdF (cells.take i)) ∧ Tups tl ts2 (bwdF (cells.take i)) ∧
    (∀ p ∈ tl ++ rest, p.1 ≠ sl ∧ p.1 ≠ hl1 ∧ p.1 ≠ hl2 ∧ p.1 ≠ tw1 ∧ p.1 ≠ dx1 ∧ p.1 ≠ tw2 ∧ p.1 ≠ dx2) ∧ OffL tl rest ∧
    m (Str.ofString "streets") = some (.ref sl) ∧ m (Str.ofString "onward") = some (.ref tw1) ∧ m (Str.ofString "backward") = some (.ref tw2)
theorem ints_at {vs : List Value} {ns : List Int} (h : IntsAre vs ns) : ∀ {i : Nat} {v : Value}, vs[i]? = some v → ∃ n t, ns[i]? = some n ∧ v = .int n t := by
  induction h with
  | nil => intro i v e; simp at e
  | cons n t _ ih =>
    intro i v e
    cases i with
    | zero => simp at e; exact ⟨n, t, rfl, e.symm⟩
    | succ i => simp at e; simpa using ih e
def TNe (sl hl1 hl2 x1 dx1 x2 dx2 : Addr) : Prop := (sl ≠ hl1 ∧ sl ≠ hl2 ∧ hl1 ≠ hl2) ∧ (x1 ≠ sl ∧ x1 ≠ hl1 ∧ x1 ≠ hl2) ∧ (dx1 ≠ sl ∧ dx1 ≠ hl1 ∧ dx1 ≠ hl2) ∧ (x2 ≠ sl ∧ x2 ≠ hl1 ∧ x2 ≠ hl2) ∧ (dx2 ≠ sl ∧ dx2 ≠ hl1 ∧ dx2 ≠ hl2)
theorem towns_init {g h : Heap} {L D hl2 x2 dx2 hl1 x1 dx1 sl la : Addr} {o0 o9 : Obj} {H1 H2 : Int} {k1 k2 : Tok} {rest : Led} {m : Str → Option Value} (F : Fr g L h m)
    (N : News g L h ((D, o0) :: (hl2, listOf #[] 0) :: (x2, instObj 198 dx2) :: (dx2, hdict H2 k2 hl2) :: (hl1, listOf #[] 0) :: (x1, instObj 198 dx1) :: (dx1, hdict H1 k1 hl1) :: (sl, listOf #[] 0) :: (la, o9) :: rest))
    (e1 : m (Str.ofString "streets") = some (.ref sl)) (e2 : m (Str.ofString "onward") = some (.ref x1)) (e3 : m (Str.ofString "backward") = some (.ref x2))
    (hla : OffA la rest) (l1 : la < sl ∧ AllLt sl rest)
    (a1 : OffA dx1 ((sl, listOf #[] 0) :: (la, o9) :: rest)) (a2 : OffA x1 ((sl, listOf #[] 0) :: (la, o9) :: rest)) (a3 : OffA hl1 ((sl, listOf #[] 0) :: (la, o9) :: rest))
    (b1 : OffA dx2 ((hl1, listOf #[] 0) :: (x1, instObj 198 dx1) :: (dx1, hdict H1 k1 hl1) :: (sl, listOf #[] 0) :: (la, o9) :: rest))
    (b2 : OffA x2 ((hl1, listOf #[] 0) :: (x1, instObj 198 dx1) :: (dx1, hdict H1 k1 hl1) :: (sl, listOf #[] 0) :: (la, o9) :: rest))
    (b3 : OffA hl2 ((hl1, listOf #[] 0) :: (x1, instObj 198 dx1) :: (dx1, hdict H1 k1 hl1) :: (sl, listOf #[] 0) :: (la, o9) :: rest)) (c1 : hl1 ≠ dx1) (c2 : hl1 ≠ x1) (c3 : hl2 ≠ dx2) (c4 : hl2 ≠ x2) :
    ∃ sl hl1 tw1 dx1 H1 k1 hl2 tw2 dx2 H2 k2 m0 nx, TNe sl hl1 hl2 tw1 dx1 tw2 dx2 ∧ Fr g L h m0 ∧ News g L h ((la, o9) :: nx) ∧ OffA la nx ∧ ∀ cells, TJ rest sl hl1 tw1 dx1 H1 k1 hl2 tw2 dx2 H2 k2 cells 0 m0 nx := by
  simp only [OffA, List.forall_mem_cons] at *
  refine ⟨sl, hl1, x1, dx1, H1, k1, hl2, x2, dx2, H2, k2, m, (sl, listOf #[] 0) :: (hl1, listOf #[] 0) :: (hl2, listOf #[] 0) :: (x1, instObj 198 dx1) :: (dx1, hdict H1 k1 hl1) :: (x2, instObj 198 dx2) :: (dx2, hdict H2 k2 hl2) :: ([] ++ rest), ⟨⟨a3.1, b3.2.2.2.1, b3.1⟩, ⟨Ne.symm a2.1, c2.symm, b3.2.1⟩, ⟨Ne.symm a1.1, c1.symm, b3.2.2.1⟩, ⟨Ne.symm b2.2.2.2.1, Ne.symm b2.1, c4.symm⟩, ⟨Ne.symm b1.2.2.2.1, Ne.symm b1.1, c3.symm⟩⟩, F, news_sub N ?_, ?_, fun cells => ⟨[], _, [], _, [], _, [], rfl, .nil, .nil, .nil, fun p hp => ⟨?_, ?_, ?_, ?_, ?_, ?_, ?_⟩, (fun _ h => nomatch h), e1, e2, e3⟩⟩
  · intro p hp; simp only [List.mem_cons, List.nil_append] at hp ⊢; grind
  · intro p hp
    simp only [List.mem_cons, List.nil_append] at hp
    rcases hp with rfl | rfl | rfl | rfl | rfl | rfl | rfl | hp
    · exact Nat.ne_of_gt l1.1
    · exact a3.2.1.symm
    · exact b3.2.2.2.2.1.symm
    · exact a2.2.1.symm
    · exact a1.2.1.symm
    · exact b2.2.2.2.2.1.symm
    · exact b1.2.2.2.2.1.symm
    · exact hla p hp
  · exact allNe_eq l1.2 p hp
  · exact a3.2.2 p hp
  · exact b3.2.2.2.2.2 p hp
  · exact a2.2.2 p hp
  · exact a1.2.2 p hp
  · exact b2.2.2.2.2.2 p hp
  · exact b1.2.2.2.2.2 p hp
/-- what the towns' call hands back -/
def TownsPost (rest : Led) (cells : List Int) (r : Value) (nw : Led) : Prop :=
  ∃ R sl tw1 tw2 pl n0 tl, r = .ref R ∧ nw = (R, tup [.ref sl, .ref tw1, .ref tw2]) :: (sl, listOf (pl.map Value.ref).toArray n0) :: (tl ++ rest) ∧ IPairs tl pl (strF cells) ∧ Town tl tw1 (fwdF cells) ∧ Town tl tw2 (bwdF cells) ∧
    (∀ p ∈ tl ++ rest, p.1 ≠ sl) ∧ @Ne Nat R sl ∧ (∀ p ∈ tl ++ rest, p.1 ≠ R) ∧ OffL tl rest
theorem towns_done {g h : Heap} {L R : Addr} {rest nx : Led} {sl hl1 tw1 dx1 hl2 tw2 dx2 : Addr} {H1 H2 : Int} {k1 k2 : Tok} {cells : List Int} {i : Nat} {m : Str → Option Value} (hne : TNe sl hl1 hl2 tw1 dx1 tw2 dx2)
    (hJ : TJ rest sl hl1 tw1 dx1 H1 k1 hl2 tw2 dx2 H2 k2 cells i m nx) (hi : cells.length ≤ i) (N : News g L h ((R, tup [.ref sl, .ref tw1, .ref tw2]) :: nx)) (hR : ∀ p ∈ nx, p.1 < R) : ∃ nw, News g L h nw ∧ TownsPost rest cells (.ref R) nw := by
  obtain ⟨pl, n0, ts1, n1, ts2, n2, tl, e, j1, j2, j3, j4, j5, m1, m2, m3⟩ := hJ
  subst e
  rw [List.take_of_length_le hi] at j1 j2 j3
  obtain ⟨⟨a1, a2, a3⟩, ⟨a4, a5, a6⟩, ⟨a7, a8, a9⟩, ⟨a10, a11, a12⟩, ⟨a13, a14, a15⟩⟩ := hne
  have hR' : ∀ p ∈ (sl, listOf (pl.map Value.ref).toArray n0) :: (hl1, listOf (ts1.map Value.ref).toArray n1) :: (hl2, listOf (ts2.map Value.ref).toArray n2) :: (tw1, instObj 198 dx1) :: (dx1, hdict H1 k1 hl1) :: (tw2, instObj 198 dx2) :: (dx2, hdict H2 k2 hl2) :: (tl ++ rest), p.1 ≠ R := fun p hp => Nat.ne_of_lt (hR p hp)
  simp only [List.forall_mem_cons] at hR'
  obtain ⟨r1, r2⟩ := hR'
  refine ⟨_, news_sub N ?_, R, sl, tw1, tw2, pl, n0, (hl1, listOf (ts1.map Value.ref).toArray n1) :: (hl2, listOf (ts2.map Value.ref).toArray n2) :: (tw1, instObj 198 dx1) :: (dx1, hdict H1 k1 hl1) :: (tw2, instObj 198 dx2) :: (dx2, hdict H2 k2 hl2) :: tl, rfl, rfl, j1.mono fun p hp => by simp [hp], ⟨dx1, hl1, n1, H1, k1, ts1, by simp, by simp, by simp, j2.mono fun p hp => by simp [hp]⟩, ⟨dx2, hl2, n2, H2, k2, ts2, by simp, by simp, by simp, j3.mono fun p hp => by simp [hp]⟩, ?_, fun e => r1 e.symm, ?_, ?_⟩
  · intro p hp; simp only [List.mem_cons, List.cons_append] at hp ⊢; grind
  · simp only [List.cons_append, List.forall_mem_cons]
    exact ⟨a1.symm, a2.symm, a4, a7, a10, a13, fun p hp => (j4 p hp).1⟩
  · simp only [List.cons_append, List.forall_mem_cons]
    exact ⟨r2.1, r2.2.1, r2.2.2.1, r2.2.2.2.1, r2.2.2.2.2.1, r2.2.2.2.2.2.1, r2.2.2.2.2.2.2⟩
  · unfold OffL
    simp only [List.forall_mem_cons]
    exact ⟨fun q hq => (j4 q (List.mem_append_right _ hq)).2.1.symm, fun q hq => (j4 q (List.mem_append_right _ hq)).2.2.1.symm, fun q hq => (j4 q (List.mem_append_right _ hq)).2.2.2.1.symm, fun q hq => (j4 q (List.mem_append_right _ hq)).2.2.2.2.1.symm, fun q hq => (j4 q (List.mem_append_right _ hq)).2.2.2.2.2.1.symm, fun q hq => (j4 q (List.mem_append_right _ hq)).2.2.2.2.2.2.symm, j5⟩
theorem news_66 {g h : Heap} {L : Addr} {a b c d e p : Addr × Obj} {rest : Led} (N : News g L h (a :: b :: c :: d :: e :: p :: rest)) : News g L h (p :: a :: b :: c :: d :: e :: rest) := news_sub N (by
  intro x hx; simp only [List.mem_cons] at hx ⊢; grind)
section
variable {rest own tl : Led} {sl hl1 tw1 dx1 hl2 tw2 dx2 D1 D2 D3 : Addr} {H1 H2 : Int} {k1 k2 : Tok} {cells : List Int} {i : Nat} {m : Str → Option Value} {pl ts1 ts2 : List Addr} {n0 n1 n2 : Nat} {K1 K2 : Str} {c : Int} {u1 u2 u3 u4 u5 u6 : Tok}
/-- the rest of the ledger at the first call, at the second -/
def TR1 (rest own tl : Led) (sl hl2 tw1 dx1 tw2 dx2 hl1 : Addr) (H1 H2 : Int) (k1 k2 : Tok) (pl ts2 : List Addr) (n0 n2 : Nat) : Led :=
  (hl2, listOf (ts2.map Value.ref).toArray n2) :: (sl, listOf (pl.map Value.ref).toArray n0) :: (tw1, instObj 198 dx1) :: (dx1, hdict H1 k1 hl1) :: (tw2, instObj 198 dx2) :: (dx2, hdict H2 k2 hl2) :: (tl ++ (rest ++ own))
def TR2 (rest own tl : Led) (sl hl2 tw1 dx1 tw2 dx2 hl1 D1 : Addr) (H1 H2 : Int) (k1 k2 : Tok) (pl ts1 : List Addr) (n0 n1 : Nat) (o1 : Obj) : Led :=
  (hl1, listOf ((ts1 ++ [D1]).map Value.ref).toArray (n1 + 1)) :: (D1, o1) :: (sl, listOf (pl.map Value.ref).toArray n0) :: (tw1, instObj 198 dx1) :: (dx1, hdict H1 k1 hl1) :: (tw2, instObj 198 dx2) :: (dx2, hdict H2 k2 hl2) :: (tl ++ (rest ++ own))
theorem tr1_off (hne : TNe sl hl1 hl2 tw1 dx1 tw2 dx2) (j4 : ∀ p ∈ tl ++ rest, p.1 ≠ sl ∧ p.1 ≠ hl1 ∧ p.1 ≠ hl2 ∧ p.1 ≠ tw1 ∧ p.1 ≠ dx1 ∧ p.1 ≠ tw2 ∧ p.1 ≠ dx2) (ho : ∀ p ∈ own, p.1 ≠ hl1) :
    ∀ p ∈ TR1 rest own tl sl hl2 tw1 dx1 tw2 dx2 hl1 H1 H2 k1 k2 pl ts2 n0 n2, p.1 ≠ hl1 := by
  obtain ⟨⟨a1, a2, a3⟩, ⟨a4, a5, a6⟩, ⟨a7, a8, a9⟩, ⟨a10, a11, a12⟩, ⟨a13, a14, a15⟩⟩ := hne
  intro p hp
  unfold TR1 at hp
  simp only [List.mem_cons, List.mem_append] at hp
  rcases hp with rfl | rfl | rfl | rfl | rfl | rfl | hp | hp | hp
  · exact a3.symm
  · exact a1
  · exact a5
  · exact a8
  · exact a11
  · exact a14
  · exact (j4 p (List.mem_append_left _ hp)).2.1
  · exact (j4 p (List.mem_append_right _ hp)).2.1
  · exact ho p hp
theorem tr2_off {o1 : Obj} (hne : TNe sl hl1 hl2 tw1 dx1 tw2 dx2) (j4 : ∀ p ∈ tl ++ rest, p.1 ≠ sl ∧ p.1 ≠ hl1 ∧ p.1 ≠ hl2 ∧ p.1 ≠ tw1 ∧ p.1 ≠ dx1 ∧ p.1 ≠ tw2 ∧ p.1 ≠ dx2) (ho : ∀ p ∈ own, p.1 ≠ hl2) (d1 : D1 ≠ hl2) :
    ∀ p ∈ TR2 rest own tl sl hl2 tw1 dx1 tw2 dx2 hl1 D1 H1 H2 k1 k2 pl ts1 n0 n1 o1, p.1 ≠ hl2 := by
  obtain ⟨⟨a1, a2, a3⟩, ⟨a4, a5, a6⟩, ⟨a7, a8, a9⟩, ⟨a10, a11, a12⟩, ⟨a13, a14, a15⟩⟩ := hne
  intro p hp
  unfold TR2 at hp
  simp only [List.mem_cons, List.mem_append] at hp
  rcases hp with rfl | rfl | rfl | rfl | rfl | rfl | rfl | hp | hp | hp
  · exact a3
  · exact d1
  · exact a2
  · exact a6
  · exact a9
  · exact a12
  · exact a15
  · exact (j4 p (List.mem_append_left _ hp)).2.2.1
  · exact (j4 p (List.mem_append_right _ hp)).2.2.1
  · exact ho p hp
theorem news_t2 {g h : Heap} {L : Addr} {o1 : Obj} (N : News g L h ((hl1, listOf ((ts1 ++ [D1]).map Value.ref).toArray (n1 + 1)) :: (D1, o1) :: TR1 rest own tl sl hl2 tw1 dx1 tw2 dx2 hl1 H1 H2 k1 k2 pl ts2 n0 n2)) :
    News g L h ((hl2, listOf (ts2.map Value.ref).toArray n2) :: TR2 rest own tl sl hl2 tw1 dx1 tw2 dx2 hl1 D1 H1 H2 k1 k2 pl ts1 n0 n1 o1) := news_sub N (by
  intro p hp; simp only [TR1, TR2, List.mem_cons] at hp ⊢; grind)
theorem towns_sl {o1 o2 o3 : Obj} (hne : TNe sl hl1 hl2 tw1 dx1 tw2 dx2) (j4 : ∀ p ∈ tl ++ rest, p.1 ≠ sl ∧ p.1 ≠ hl1 ∧ p.1 ≠ hl2 ∧ p.1 ≠ tw1 ∧ p.1 ≠ dx1 ∧ p.1 ≠ tw2 ∧ p.1 ≠ dx2) (ho : ∀ p ∈ own, p.1 ≠ sl)
    (d1 : OffA D1 (TR1 rest own tl sl hl2 tw1 dx1 tw2 dx2 hl1 H1 H2 k1 k2 pl ts2 n0 n2)) (d2 : OffA D2 (TR2 rest own tl sl hl2 tw1 dx1 tw2 dx2 hl1 D1 H1 H2 k1 k2 pl ts1 n0 n1 o1))
    (d3 : AllLt D3 ((hl2, listOf ((ts2 ++ [D2]).map Value.ref).toArray (n2 + 1)) :: (D2, o2) :: TR2 rest own tl sl hl2 tw1 dx1 tw2 dx2 hl1 D1 H1 H2 k1 k2 pl ts1 n0 n1 o1)) :
    ∀ p ∈ (D3, o3) :: (hl2, listOf ((ts2 ++ [D2]).map Value.ref).toArray (n2 + 1)) :: (D2, o2) :: (hl1, listOf ((ts1 ++ [D1]).map Value.ref).toArray (n1 + 1)) :: (D1, o1) ::
      (tw1, instObj 198 dx1) :: (dx1, hdict H1 k1 hl1) :: (tw2, instObj 198 dx2) :: (dx2, hdict H2 k2 hl2) :: (tl ++ (rest ++ own)), p.1 ≠ sl := by
  have d3 := allNe_eq d3
  simp only [TR1, TR2, OffA, List.forall_mem_cons, List.forall_mem_append] at d1 d2 d3 j4
  obtain ⟨f1, f2, f3, f4, f5, f6, f7, f8, f9⟩ := d1
  obtain ⟨g1, g2, g3, g4, g5, g6, g7, g8, g9, g10⟩ := d2
  obtain ⟨h1, h2, h3, h4, h5, h6, h7, h8, h9, h10, h11, h12⟩ := d3
  obtain ⟨⟨a1, a2, a3⟩, ⟨a4, a5, a6⟩, ⟨a7, a8, a9⟩, ⟨a10, a11, a12⟩, ⟨a13, a14, a15⟩⟩ := hne
  simp only [List.forall_mem_cons, List.forall_mem_append]
  exact ⟨h5.symm, a2.symm, g3.symm, a1.symm, f2.symm, a4, a7, a10, a13, fun p hp => (j4.1 p hp).1, fun p hp => (j4.2 p hp).1, ho⟩
theorem towns_step {g h : Heap} {L : Addr} (N : News g L h ((sl, listOf (pl.map Value.ref ++ [Value.ref D3]).toArray (n0 + 1)) :: (D3, tup [.int (cB c) u5, .int (cE c) u6]) :: (hl2, listOf ((ts2 ++ [D2]).map Value.ref).toArray (n2 + 1)) :: (D2, tup [.str K2 u3, .str (digS (cB c)) u4]) :: (hl1, listOf ((ts1 ++ [D1]).map Value.ref).toArray (n1 + 1)) :: (D1, tup [.str K1 u1, .str (digS (cE c)) u2]) ::
      (tw1, instObj 198 dx1) :: (dx1, hdict H1 k1 hl1) :: (tw2, instObj 198 dx2) :: (dx2, hdict H2 k2 hl2) :: (tl ++ (rest ++ own))))
    (hne : TNe sl hl1 hl2 tw1 dx1 tw2 dx2) (hc : cells[i]? = some c) (hK1 : K1 = cL c (cB c)) (hK2 : K2 = cL c (cE c))
    (j1 : IPairs tl pl (strF (cells.take i))) (j2 : Tups tl ts1 (fwdF (cells.take i))) (j3 : Tups tl ts2 (bwdF (cells.take i)))
    (j4 : ∀ p ∈ tl ++ rest, p.1 ≠ sl ∧ p.1 ≠ hl1 ∧ p.1 ≠ hl2 ∧ p.1 ≠ tw1 ∧ p.1 ≠ dx1 ∧ p.1 ≠ tw2 ∧ p.1 ≠ dx2) (j5 : OffL tl rest)
    (e1 : m (Str.ofString "streets") = some (.ref sl)) (e2 : m (Str.ofString "onward") = some (.ref tw1)) (e3 : m (Str.ofString "backward") = some (.ref tw2))
    (hsep : ∀ p ∈ own, ∀ q ∈ (sl, listOf (pl.map Value.ref).toArray n0) :: (hl1, listOf (ts1.map Value.ref).toArray n1) :: (hl2, listOf (ts2.map Value.ref).toArray n2) :: (tw1, instObj 198 dx1) :: (dx1, hdict H1 k1 hl1) :: (tw2, instObj 198 dx2) :: (dx2, hdict H2 k2 hl2) :: (tl ++ rest), p.1 ≠ q.1)
    (d1 : OffA D1 (TR1 rest own tl sl hl2 tw1 dx1 tw2 dx2 hl1 H1 H2 k1 k2 pl ts2 n0 n2)) (d1' : D1 ≠ hl1)
    {o1 : Obj} (d2 : OffA D2 (TR2 rest own tl sl hl2 tw1 dx1 tw2 dx2 hl1 D1 H1 H2 k1 k2 pl ts1 n0 n1 o1)) (d2' : D2 ≠ hl2)
    {o2 : Obj} (d3 : AllLt D3 ((hl2, listOf ((ts2 ++ [D2]).map Value.ref).toArray (n2 + 1)) :: (D2, o2) :: TR2 rest own tl sl hl2 tw1 dx1 tw2 dx2 hl1 D1 H1 H2 k1 k2 pl ts1 n0 n1 o1)) :
    ∃ nx led, News g L h led ∧ (∀ p ∈ nx, p ∈ led) ∧ (∀ p ∈ own, p ∈ led) ∧ (∀ p ∈ own, ∀ q ∈ nx, p.1 ≠ q.1) ∧ TJ rest sl hl1 tw1 dx1 H1 k1 hl2 tw2 dx2 H2 k2 cells (i + 1) m nx := by
  have d3 := allNe_eq d3
  simp only [TR1, TR2, OffA, List.forall_mem_cons, List.forall_mem_append] at d1 d2 d3
  obtain ⟨f1, f2, f3, f4, f5, f6, f7, f8, f9⟩ := d1
  obtain ⟨g1, g2, g3, g4, g5, g6, g7, g8, g9, g10⟩ := d2
  obtain ⟨h1, h2, h3, h4, h5, h6, h7, h8, h9, h10, h11, h12⟩ := d3
  refine ⟨(sl, listOf ((pl ++ [D3]).map Value.ref).toArray (n0 + 1)) :: (hl1, listOf ((ts1 ++ [D1]).map Value.ref).toArray (n1 + 1)) :: (hl2, listOf ((ts2 ++ [D2]).map Value.ref).toArray (n2 + 1)) :: (tw1, instObj 198 dx1) :: (dx1, hdict H1 k1 hl1) :: (tw2, instObj 198 dx2) :: (dx2, hdict H2 k2 hl2) ::
    (((D3, tup [.int (cB c) u5, .int (cE c) u6]) :: (D2, tup [.str K2 u3, .str (digS (cB c)) u4]) :: (D1, tup [.str K1 u1, .str (digS (cE c)) u2]) :: tl) ++ rest), _, N, ?_, ?_, ?_, pl ++ [D3], _, ts1 ++ [D1], _, ts2 ++ [D2], _, _, rfl, ?_, ?_, ?_, ?_, ?_, e1, e2, e3⟩
  · rw [List.map_append, List.map_cons, List.map_nil]
    intro p hp; simp only [List.mem_cons, List.mem_append, List.cons_append] at hp ⊢; grind
  · intro p hp; simp [hp]
  · intro p hp q hq
    have s1 := hsep p hp
    simp only [List.forall_mem_cons] at s1
    obtain ⟨s1, s2, s3, s4, s5, s6, s7, s8⟩ := s1
    simp only [List.mem_cons, List.cons_append] at hq
    rcases hq with rfl | rfl | rfl | rfl | rfl | rfl | rfl | rfl | rfl | rfl | hq
    · exact s1
    · exact s2
    · exact s3
    · exact s4
    · exact s5
    · exact s6
    · exact s7
    · exact h12 p hp
    · exact g10 p hp
    · exact f9 p hp
    · exact s8 q hq
  · have e : strF (cells.take (i + 1)) = strF (cells.take i) ++ [(cB c, cE c)] := by unfold strF; rw [take_snoc hc, List.map_append]; rfl
    rw [e]
    exact (j1.mono fun p hp => by simp [hp]).snoc (List.mem_cons_self ..)
  · have e : fwdF (cells.take (i + 1)) = fwdF (cells.take i) ++ [(cL c (cB c), digS (cE c))] := by unfold fwdF; rw [take_snoc hc, List.map_append]; rfl
    rw [e, ← hK1]
    exact (j2.mono fun p hp => by simp [hp]).snoc (t := u1) (u := u2) (by simp)
  · have e : bwdF (cells.take (i + 1)) = bwdF (cells.take i) ++ [(cL c (cE c), digS (cB c))] := by unfold bwdF; rw [take_snoc hc, List.map_append]; rfl
    rw [e, ← hK2]
    exact (j3.mono fun p hp => by simp [hp]).snoc (t := u3) (u := u4) (by simp)
  · intro p hp
    simp only [List.cons_append, List.mem_cons] at hp
    rcases hp with rfl | rfl | rfl | hp
    · exact ⟨h5.symm, h3.symm, h1.symm, h6.symm, h7.symm, h8.symm, h9.symm⟩
    · exact ⟨g3.symm, g1.symm, d2', g4.symm, g5.symm, g6.symm, g7.symm⟩
    · exact ⟨f2.symm, d1', f1.symm, f3.symm, f4.symm, f5.symm, f6.symm⟩
    · exact j4 p hp
  · intro p hp q hq
    simp only [List.mem_cons] at hp
    rcases hp with rfl | rfl | rfl | hp
    · exact (h11 q hq).symm
    · exact (g9 q hq).symm
    · exact (f8 q hq).symm
    · exact j5 p hp q hq
end
section
variable {prog : Program} {w : World} {A : Around} {E : Value → Shared → Prop} {s : Shared} {h₀ : Heap} {L : Addr} {m : Str → Option Value} {news news' : Led} {value slice : PySem.Expr}
theorem str_dig {k : Int} {t : Tok} {Q : Value → Shared → Prop} (h0 : 0 ≤ k) (h1 : k < 7) (h : ∀ t' n', Q (.str (digS k) t') { s with toks := n' }) : wpAny (model prog w) A (call (.type "str") [.int k t]) Q E s := by
  refine P.str_of_int ?_ ?_
  · have h9 : ∀ k : Nat, k < 7 → Nat.log2 (Int.natAbs (k : Int)) < 1920 := by decide
    have := h9 k.toNat (by omega)
    rwa [show ((k.toNat : Nat) : Int) = k by omega] at this
  · have e := digS_eq k.toNat (by omega)
    rw [show ((k.toNat : Nat) : Int) = k by omega] at e
    have h' := h s.toks (s.toks + 1)
    unfold digS at h'
    rw [← e] at h'
    exact h'
end
end Mine
end
-- Base10
section
open PySem PySem.W PySem.Spec PySem.Calls PyProof.Rows
namespace Mine
section
variable {prog : Program} {w : World} {A : Around} {E : Value → Shared → Prop} {s : Shared} {env : Env} {h₀ : Heap} {target : Expr} {body : List Stmt} {Q : Flow → Shared → Prop}
/-- a loop beside a ledger that it leaves as it is -/
theorem loop_genC {I : Addr} {fp : List Addr} {n : Nat} {P : Nat → Value → Prop} {St : Nat → Heap → Prop} {m : Str → Option Value} {nx kc : Led} (J : Nat → (Str → Option Value) → Led → Prop)
    (W : Walks prog w A I fp [I] n P St) (hLf : env.locals ∉ fp) (hI : h₀.get? I = none) (hlive : ∀ i h, St i h → ∀ b ∈ fp, ∃ o, h.get? b = some o) (hfp : ∀ p ∈ nx, p.1 ∉ fp) (hkI : ∀ p ∈ kc, p.1 ∉ [I]) (hks : ∀ p ∈ kc, ∀ q ∈ nx, p.1 ≠ q.1)
    (hst : St 0 s.heap) (F : Fr h₀ env.locals s.heap m) (N : News h₀ env.locals s.heap (kc ++ nx))
    (hgo : ∀ i (s' : Shared) v (Q' : Unit → Shared → Prop), St i s'.heap → Q' () s' → wpAny (model prog w) A (letOwnedTupleGo target (.ref I) v) Q' E s')
    (hj : J 0 m nx)
    (turn : ∀ i v m₁ nx s₁ own, i < n → P i v → J i m₁ nx → (∀ p ∈ own, ∀ q ∈ nx, p.1 ≠ q.1) → (∀ p ∈ kc, p ∈ own) → Fr h₀ env.locals (Shared.heap s₁) m₁ → News h₀ env.locals s₁.heap (nx ++ own) →
      wpAny (model prog w) A (assign target env v) (fun _ s₃ => wpAny (model prog w) A (execs body env) (LpEnd h₀ env.locals own (J (i + 1)) s₁) E s₃) E s₁)
    (done : ∀ h tk m' nx, Fr h₀ env.locals h m' → News h₀ env.locals h (kc ++ nx) → J n m' nx → (∀ p ∈ kc, ∀ q ∈ nx, p.1 ≠ q.1) → Q .next { s with heap := h, toks := tk }) :
    LoopAtT prog w A h₀ env target body Q E (.ref I) s := by
  refine ⟨I, fp, [I], n, P, St, m, kc ++ nx, (fun i m news => ∃ nx, news = kc ++ nx ∧ J i m nx ∧ (∀ p ∈ nx, p.1 ∉ fp) ∧ ∀ p ∈ kc, ∀ q ∈ nx, p.1 ≠ q.1), rfl, W, hLf, ?_, ?_, hst, F, N, hgo, ⟨nx, rfl, hj, hfp, hks⟩, ?_, ?_⟩
  · intro b hb; rw [List.mem_singleton.mp hb]; exact hI
  · intro p hp hb
    rcases List.mem_append.mp hp with hp | hp
    · exact hkI p hp hb
    · exact hfp p hp (W.sub _ hb)
  · rintro i v m₁ news₁ s₁ own hin hP ⟨nx, rfl, hJ, hoff, hks'⟩ hnw hsub hget hall hst₁ F₁ N₁
    have hsep : ∀ p ∈ own ++ kc, ∀ q ∈ nx, p.1 ≠ q.1 := fun p hp q hq => (List.mem_append.mp hp).elim (fun h e => hoff q hq (e ▸ hsub p h)) fun h => hks' p h q hq
    refine wpAny_mono (turn i v m₁ nx s₁ (own ++ kc) hin hP hJ hsep (fun p hp => List.mem_append_right _ hp) F₁ (news_sub N₁ fun p hp => ?_)) (fun _ s₃ h₃ => wpAny_mono h₃ (fun f s₂ hf => ?_) fun _ _ e => e) fun _ _ e => e
    · simp only [List.mem_append] at hp ⊢
      rcases hp with h | h | h
      · exact .inr (.inr h)
      · exact .inl h
      · exact .inr (.inl h)
    obtain ⟨rfl, h', tk, m', led, nx', rfl, F', N', hn, ho, hs, hj'⟩ := hf
    have hoff' : ∀ p ∈ nx', p.1 ∉ fp := fun p hp hb => by
      have h0 : h₀.get? p.1 = none := (N' p (hn p hp)).2.2
      obtain ⟨o, e⟩ := hlive _ _ hst₁ _ hb
      exact hs _ (List.mem_append_left _ (hall _ hb h0 o e)) p hp rfl
    refine ⟨rfl, h', tk, m', kc ++ nx', rfl, F', fun p hp => N' p ?_, fun p hp hb => ?_, nx', rfl, hj', hoff', fun p hp q hq => hs p (List.mem_append_right _ hp) q hq⟩
    · rcases List.mem_append.mp hp with hp | hp
      · exact ho p (List.mem_append_left _ hp)
      · rcases List.mem_append.mp hp with hp | hp
        · exact ho p (List.mem_append_right _ hp)
        · exact hn p hp
    · rcases List.mem_append.mp hp with hp | hp
      · exact hkI p hp hb
      · exact hoff' p hp (W.sub _ hb)
  · rintro h' tk m' news' F' N' _ ⟨nx, rfl, hJ, _, hks'⟩
    exact done h' tk m' nx F' N' hJ hks'

/-- a loop over a list of the ledger that it leaves as it is -/
theorem loop_listC {l : Addr} {vs : List Value} {ln : Nat} {m : Str → Option Value} {nx kc : Led} (J : Nat → (Str → Option Value) → Led → Prop)
    (hh : A.handled = none) (hl : (l, listOf vs.toArray ln) ∈ kc) (hks : ∀ p ∈ kc, ∀ q ∈ nx, p.1 ≠ q.1) (F : Fr h₀ env.locals s.heap m) (N : News h₀ env.locals s.heap (kc ++ nx)) (hj : J 0 m nx)
    (turn : ∀ i v m₁ nx s₁ own, vs[i]? = some v → J i m₁ nx → (∀ p ∈ own, ∀ q ∈ nx, p.1 ≠ q.1) → (∀ p ∈ kc, p ∈ own) → Fr h₀ env.locals (Shared.heap s₁) m₁ → News h₀ env.locals s₁.heap (nx ++ own) →
      wpAny (model prog w) A (assign target env v) (fun _ s₃ => wpAny (model prog w) A (execs body env) (LpEnd h₀ env.locals own (J (i + 1)) s₁) E s₃) E s₁)
    (done : ∀ h tk m' nx, Fr h₀ env.locals h m' → News h₀ env.locals h (kc ++ nx) → J vs.length m' nx → (∀ p ∈ kc, ∀ q ∈ nx, p.1 ≠ q.1) → Q .next { s with heap := h, toks := tk }) :
    wpAny (model prog w) A (pyIter (.ref l)) (fun it s₂ => LoopAtT prog w A h₀ env target body Q E it s₂) E s := by
  have Nl := N _ (List.mem_append_left _ hl)
  have hls : s.heap.IsList l vs.toArray := ⟨_, Nl.1, rfl, ln, rfl⟩
  have hlL : l ≠ env.locals := Nl.2.1
  have hlt : l < s.heap.objs.size := Heap.lt_size Nl.1
  refine wpAny_pyIter_list hls ?_
  have W := Walks.list (prog := prog) (w := w) hh s.heap.objs.size l (Nat.ne_of_lt hlt) vs.toArray
  have hlen : vs.toArray.size = vs.length := by simp
  rw [hlen] at W
  have hnew : ∀ p ∈ kc ++ nx, p.1 ≠ s.heap.objs.size := fun p hp => Nat.ne_of_lt (Heap.lt_size (N p hp).1)
  refine loop_genC (kc := kc) J W ?_ (next_is_new F) ?_ ?_ ?_ hks ⟨⟨_, Heap.get?_push_size _ rfl, rfl, rfl⟩, hls.at fun o e => Heap.get?_push_of_some _ e⟩ (F.push _) (fun p hp => ⟨Heap.get?_push_of_some _ (N p hp).1, (N p hp).2⟩)
    (fun i s' v Q' st hQ' => letGo_listiter st.1 hQ') hj (fun i v m₁ nx s₁ own _ hP hJ hs hk => turn i v m₁ nx s₁ own (by simpa using hP) hJ hs hk) done
  · intro hm
    rcases List.mem_cons.mp hm with e | hm
    · exact absurd F.ns.lt (e ▸ Nat.lt_irrefl _)
    · exact hlL (List.mem_singleton.mp hm).symm
  · rintro i h ⟨⟨o, e, _⟩, ⟨o', e', _⟩⟩ b hb
    rcases List.mem_cons.mp hb with rfl | hb
    · exact ⟨o, e⟩
    · rw [List.mem_singleton.mp hb]; exact ⟨o', e'⟩
  · intro p hp hm
    rcases List.mem_cons.mp hm with e | hm
    · exact hnew p (List.mem_append_right _ hp) e
    · exact hks _ hl p hp (List.mem_singleton.mp hm).symm
  · intro p hp hm
    exact hnew p (List.mem_append_left _ hp) (List.mem_singleton.mp hm)
/-- a loop over a range by ones -/
theorem loop_rangeC {r : Addr} {a b : Int} {t u v : Tok} {n : Nat} {m : Str → Option Value} {nx kc : Led} (J : Nat → (Str → Option Value) → Led → Prop)
    (hh : A.handled = none) (hr : IsRange s.heap r a b 1 t u v) (hsm : Builtin.Range.small a b 1 = true) (hn : Builtin.Range.rangeSize a b 1 = ((n : Nat) : Int)) (hks : ∀ p ∈ kc, ∀ q ∈ nx, p.1 ≠ q.1) (F : Fr h₀ env.locals s.heap m) (N : News h₀ env.locals s.heap (kc ++ nx)) (hj : J 0 m nx)
    (turn : ∀ i t m₁ nx s₁ own, i < n → J i m₁ nx → (∀ p ∈ own, ∀ q ∈ nx, p.1 ≠ q.1) → (∀ p ∈ kc, p ∈ own) → Fr h₀ env.locals (Shared.heap s₁) m₁ → News h₀ env.locals s₁.heap (nx ++ own) →
      wpAny (model prog w) A (assign target env (.int (a + (i : Int)) t)) (fun _ s₃ => wpAny (model prog w) A (execs body env) (LpEnd h₀ env.locals own (J (i + 1)) s₁) E s₃) E s₁)
    (done : ∀ h tk m' nx, Fr h₀ env.locals h m' → News h₀ env.locals h (kc ++ nx) → J n m' nx → (∀ p ∈ kc, ∀ q ∈ nx, p.1 ≠ q.1) → Q .next { s with heap := h, toks := tk })
    (hgo : ∀ (I : Value) (s' : Shared) (v : Value) (Q' : Unit → Shared → Prop), Q' () s' → wpAny (model prog w) A (letOwnedTupleGo target I v) Q' E s' := by intro _ _ _ _ hq; exact wpAny_pure hq) :
    wpAny (model prog w) A (pyIter (.ref r)) (fun it s₂ => LoopAtT prog w A h₀ env target body Q E it s₂) E s := by
  refine wpAny_pyIter_range hr hsm ?_
  have hnew : ∀ p ∈ kc ++ nx, p.1 ≠ s.heap.objs.size := fun p hp => Nat.ne_of_lt (Heap.lt_size (N p hp).1)
  refine loop_genC (kc := kc) J (LCg.range_walks hh a n) ?_ (next_is_new F) (fun i h st b hb => ⟨_, List.mem_singleton.mp hb ▸ st⟩) (fun p hp hm => hnew p (List.mem_append_right _ hp) (List.mem_singleton.mp hm)) (fun p hp hm => hnew p (List.mem_append_left _ hp) (List.mem_singleton.mp hm)) hks (by show IsRangeIter _ _ _ _ _; rw [hn]; simpa using Heap.get?_push_size _ rfl) (F.push _) (fun p hp => ⟨Heap.get?_push_of_some _ (N p hp).1, (N p hp).2⟩)
    (fun i s' v Q' st hQ' => hgo _ s' v Q' hQ') hj (fun i v m₁ nx s₁ own hi hP => by obtain ⟨t, rfl⟩ := hP; exact turn i t m₁ nx s₁ own hi) done
  intro hm; exact absurd F.ns.lt (List.mem_singleton.mp hm ▸ Nat.lt_irrefl _)
end

/-- the walk under way: i places have been asked for -/
def WJ (es : List (Str × Str)) (st : Int) (tst : Tok) (tw da qa : Addr) (i : Nat) (m : Str → Option Value) (nx : Led) : Prop :=
  ∃ σ tl vd n3 pl n4, nx = (da, listOf vd.toArray n3) :: (qa, listOf (pl.map Value.ref).toArray n4) :: tl ∧ Inv (adjT es) σ ∧ σ.segs = [] ∧ (∀ k : Nat, k < i → (st + (k : Int)).fmod 7 ∈ σ.done) ∧ IntsAre vd σ.done ∧ Parts tl pl σ.parts ∧ (∀ p ∈ tl, p.1 ≠ da ∧ p.1 ≠ qa) ∧
    m (Str.ofString "town") = some (.ref tw) ∧ m (Str.ofString "start") = some (.int st tst) ∧ m (Str.ofString "done") = some (.ref da) ∧ m (Str.ofString "parts") = some (.ref qa)
/-- a walk's end -/
structure Walked (adj : Int → List Int) (σ : SS) : Prop where
  inv : Inv adj σ
  segs : σ.segs = []
  all : ∀ v : Int, 0 ≤ v → v < 7 → v ∈ σ.done
def WalkPost (es : List (Str × Str)) (news : Led) (r : Value) (nw : Led) : Prop :=
  ∃ R da qa σ tl vd n3 pl n4, r = .ref R ∧ nw = (R, tup [.ref da, .ref qa]) :: (da, listOf vd.toArray n3) :: (qa, listOf (pl.map Value.ref).toArray n4) :: (tl ++ news) ∧ Walked (adjT es) σ ∧ IntsAre vd σ.done ∧ Parts tl pl σ.parts
theorem unv_le (s : SS) : unv s < 8 := by
  unfold unv
  exact Nat.lt_succ_of_le (Nat.le_trans (List.length_filter_le _ _) (by simp))
theorem walk_step {adj : Int → List Int} (hr : ∀ x, ∀ o ∈ adj x, 0 ≤ o ∧ o < 7) {σ : SS} (I : Inv adj σ) (hs : σ.segs = []) {v : Int} (h0 : 0 ≤ v) (h1 : v < 7) (hv : v ∉ σ.done) :
    ∃ s', Pre adj v σ ∧ goneS adj 8 v σ = some s' ∧ Inv adj s' ∧ s'.segs = [] ∧ v ∈ s'.done ∧ ∀ x ∈ σ.done, x ∈ s'.done := by
  have P : Pre adj v σ := ⟨I, ⟨h0, h1⟩, by rw [hs]; simp, hv, by rw [hs]; simp⟩
  obtain ⟨s', h⟩ := goneS_some hr 8 v σ P (unv_le σ)
  obtain ⟨I', din, sh, ⟨nd, d1, _⟩⟩ := goneS_res hr 8 v σ s' P h
  refine ⟨s', P, h, I', ?_, din, fun x hx => by rw [d1]; exact List.mem_append_left _ hx⟩
  rcases sh with e | ⟨pre, mid, ext, e, hm, _, _⟩
  · rw [e, hs]
  · rw [hs] at e
    exact absurd (List.append_eq_nil_iff.mp e.symm).2 hm
theorem fmod7_rng (c : Int) : 0 ≤ c.fmod 7 ∧ c.fmod 7 < 7 := cB_rng c
theorem walk_all {st : Int} {d : List Int} (h : ∀ k : Nat, k < 7 → (st + (k : Int)).fmod 7 ∈ d) : ∀ v : Int, 0 ≤ v → v < 7 → v ∈ d := by
  intro v h0 h1
  have e : ∀ x : Int, x.fmod 7 = x % 7 := fun x => Int.fmod_eq_emod_of_nonneg x (by decide)
  have h2 := h ((v - st) % 7).toNat (by omega)
  rw [e] at h2
  have : (st + (((v - st) % 7).toNat : Int)) % 7 = v := by omega
  rwa [this] at h2
theorem inv_init {adj : Int → List Int} : Inv adj { segs := [], done := [], parts := [] } := by
  refine ⟨by simp, by simp, by simp, by simp, by simp, by simp, by simp, by simp, by simp, by simp, by simp, by simp, by simp, by simp, by simp, .nil _⟩
end Mine
end
-- BaOps
section
open PySem PySem.W PySem.Spec PySem.Calls PyProof.Rows
set_option maxRecDepth 100000
namespace Mine
theorem ba_slot_set : Slot "bytearray" "__setitem__" "bytearray.__setitem__" :=
  .of (owner := "bytearray") (n := "__setitem__") (by rw [typeLookup_type, builtinLookup_eq_fast]; kernel_rfl) (by decide +kernel) (by decide +kernel) (by decide +kernel)
    (by first | exact .inl (by decide +kernel) | exact .inr (by decide +kernel)) (by rw [isSubtype_type]; kernel_rfl)
theorem ba_entry_set : entryFor table "bytearray.__setitem__" = some Builtin.«bytearray.__setitem__» := by first | exact entryFor_of_fast (by kernel_rfl) | exact entryFor_of_tree (by kernel_rfl)
theorem ba_args_set (a b c : Value) : argsOk "bytearray.__setitem__" ⟨[a, b, c], []⟩ := by unfold argsOk; kernel_rfl
theorem ba_no_bytes : typeLookup (.type "bytearray") "__bytes__" = pure none := by rw [typeLookup_type, builtinLookup_eq_fast]; kernel_rfl
theorem ba_no_index : typeLookup (.type "bytearray") "__index__" = pure none := by rw [typeLookup_type, builtinLookup_eq_fast]; kernel_rfl
theorem ba_buffer : typeLookup (.type "bytearray") "__buffer__" = pure (some (.builtin "bytearray.__buffer__")) := by rw [typeLookup_type, builtinLookup_eq_fast]; kernel_rfl
theorem ba_ends2 : ("bytearray.__buffer__".endsWith ("." ++ "__buffer__")) = true := by decide +kernel
theorem ba_drop2 : ("bytearray.__buffer__".dropRight ("__buffer__".length + 1)) = "bytearray" := by decide +kernel
section
variable {prog : Program} {w : World} {A : Around} {E : Value → Shared → Prop} {s : Shared}
theorem ba_write {S : Addr} {b : Array UInt8} {f : Array UInt8 → Array UInt8} {Q : Unit → Shared → Prop} (hS : s.heap.get? S = some (baObj b)) (hz : (f b).size ≤ 1000)
    (hq : Q () { s with heap := s.heap.update S (Obj.mapBytearray f) }) : wpAny (model prog w) A (Builtin.Bytes.write (.ref S) f) Q E s := by
  show wpAny _ _ (updateBytearray S f) _ _ _
  unfold updateBytearray
  refine wpAny_bind (wpAny_load hS ?_)
  show wpAny _ _ (update S (Obj.mapBytearray f) >>= fun _ => lookBehind S) _ _ _
  refine wpAny_bind (wpAny_update hS ?_)
  have hS₂ : (s.heap.update S (Obj.mapBytearray f)).get? S = some (baObj (f b)) := Heap.get?_update_self (Obj.mapBytearray f) hS rfl
  refine wpAny_lookBehind hS₂ ?_ hq
  show (if (f b).size > sizeLine then some "bytearray:memory" else none) = none
  rw [if_neg]
  rw [sizeLine_eq]; omega
theorem ba_sub_int {k : Int} {t : Tok} {Q : Option Int → Shared → Prop} (hk : 0 ≤ k ∧ k < 1000) (h : Q (some k) s) : wpAny (model prog w) A (Builtin.Bytes.subscript? (.int k t)) Q E s := by
  unfold Builtin.Bytes.subscript?
  refine wpAny_bind (wpAny_specialOf (typeIs_int _ _ _) ba_int_index ?_)
  rw [if_neg (by simp)]
  refine wpAny_bind (wpAny_of_eq (a := k) (show asIndex (.int k t) = pure k from rfl) ?_)
  refine bm_if_false ?_ (wpAny_pure h)
  unfold Builtin.Bytes.fitsIndex
  simp only [Bool.not_eq_false', Bool.and_eq_true, decide_eq_true_eq]
  omega
theorem ba_byte {x : Int} {u : Tok} {Q : UInt8 → Shared → Prop} (h0 : 0 ≤ x) (h1 : x < 256) (h : Q x.toNat.toUInt8 s) : wpAny (model prog w) A (Builtin.Bytes.byteValue (.int x u)) Q E s := by
  unfold Builtin.Bytes.byteValue
  refine wpAny_bind (wpAny_of_eq (a := x) rfl ?_)
  exact bm_if_false (by simp only [Bool.or_eq_false_iff, decide_eq_false_iff_not]; omega) (wpAny_pure h)
theorem ba_payload {S : Addr} {b : Array UInt8} {Q : Array UInt8 → Shared → Prop} (hS : s.heap.get? S = some (baObj b)) (h : Q b s) : wpAny (model prog w) A (Builtin.Bytes.payload (.ref S)) Q E s := by
  unfold Builtin.Bytes.payload Builtin.Bytes.payload?
  exact wpAny_bind (wpAny_bind (wpAny_load hS (wpAny_pure (wpAny_pure h))))
theorem ba_idx {k : Int} {n : Nat} (h0 : 0 ≤ k) (h : k < n) : seqIndex? k n = some k.toNat := by
  unfold seqIndex?
  have h1 : ¬ (k < 0) := by omega
  simp only [h1, if_false]
  have h2 : (decide (0 ≤ k) && decide (k < (n : Int))) = true := by simp only [Bool.and_eq_true, decide_eq_true_eq]; omega
  rw [if_pos h2]
theorem ba_setItem {S : Addr} {b : Array UInt8} {k : Int} {x : Int} {t u : Tok} {Q : Unit → Shared → Prop} (hS : s.heap.get? S = some (baObj b)) (hk0 : 0 ≤ k) (hk : k < b.size) (hb : b.size ≤ 1000) (h0 : 0 ≤ x) (h1 : x < 256)
    (hQ : Q () { s with heap := s.heap.update S (Obj.mapBytearray (·.setIfInBounds k.toNat x.toNat.toUInt8)) }) : wpAny (model prog w) A (setItem (.ref S) (.int k t) (.int x u)) Q E s := by
  have hT : s.TypeIs (.ref S) "bytearray" := ⟨_, hS, rfl⟩
  unfold setItem
  try with_reducible refine wpAny_holding ?_
  first | refine wpAny_bind (wpAny_pure ?_) | skip
  refine wpAny_bind (wpAny_sequenceKey hT (by decide) ?_)
  refine wpAny_bind (wpAny_callSpecial?_slot (name := Str.ofString "__setitem__") hT ba_slot_set
    (wpAny_call_entry ba_slot_set hT ba_entry_set ?_ (ba_args_set _ _ _)))
  show wpAny _ _ (Builtin.Bytes.subscript? (.int k t) >>= _) _ _ s
  refine wpAny_bind (ba_sub_int ⟨hk0, by omega⟩ ?_)
  show wpAny _ _ (Builtin.Bytes.byteValue (.int x u) >>= _) _ _ s
  refine wpAny_bind (ba_byte h0 h1 ?_)
  show wpAny _ _ (Builtin.Bytes.payload (.ref S) >>= _) _ _ s
  refine wpAny_bind (ba_payload hS ?_)
  rw [ba_idx hk0 hk]
  dsimp only
  refine wpAny_bind (ba_write hS (by simp; omega) ?_)
  first
    | exact wpAny_bind (wpAny_pure (wpAny_pure ⟨.none, rfl, wpAny_pure hQ⟩))
    | exact wpAny_pure ⟨.none, rfl, wpAny_pure hQ⟩
theorem bytes_ba_new {S : Addr} {b : Array UInt8} {Q : Value → Shared → Prop} (hS : s.heap.get? S = some (baObj b)) (hz : b.size ≤ 1000) (hQ : ∀ t k, Q (.bytes b t) { s with toks := k }) :
    codeAny (model prog w) A (.call (.builtin "bytes.__new__") ⟨[.type "bytes", .ref S], []⟩) (wants Q E) s := by
  refine codeAny_of_tree ?_
  show wpAny _ A.in1 (do checkBuiltinCall "bytes.__new__" ⟨[.type "bytes", .ref S], []⟩; again (.builtin "bytes.__new__" ⟨[.type "bytes", .ref S], []⟩)) _ _ s
  refine wpAny_bind (wpAny_of_eq (F.bm_newCall _) (wpAny_pure ⟨plainId_quiet F.bm_plain _, codeAny_builtin F.bm_entry ?_⟩))
  rw [Around.under_plainId F.bm_plain _]
  have hT : s.TypeIs (.ref S) "bytearray" := ⟨_, hS, rfl⟩
  unfold Builtin.«bytes.__new__»
  refine wpAny_bind (wpAny_of_eq (a := true) rfl ?_)
  refine bm_if_false rfl ?_
  refine wpAny_bind (wpAny_of_eq F.bm_sub ?_)
  refine bm_if_false rfl ?_
  refine wpAny_bind (wpAny_of_eq (F.bm_bind _) ?_)
  refine wpAny_bind (wpAny_of_eq (a := ()) rfl ?_)
  refine wpAny_bind (wpAny_of_eq (a := ()) rfl ?_)
  refine bm_if_false rfl ?_
  refine wpAny_bind (wpAny_specialOf hT ba_no_bytes ?_)
  refine wpAny_bind (wpAny_bind ?_)
  show wpAny _ _ (load S >>= _) _ _ _
  refine wpAny_bind (wpAny_load hS ?_)
  refine wpAny_pure (wpAny_pure ?_)
  refine bm_if_false rfl ?_
  refine wpAny_bind (wpAny_specialOf hT ba_no_index ?_)
  refine bm_if_true rfl ?_
  first
    | show wpAny _ _ (Builtin.Bytes.buffer? "bytes.__new__" (.ref S) true >>= _) _ _ _
    | (refine wpAny_bind ?_; show wpAny _ _ (Builtin.Bytes.buffer? "bytes.__new__" (.ref S) true >>= _) _ _ _)
  refine wpAny_bind ?_
  unfold Builtin.Bytes.buffer?
  refine wpAny_bind (wpAny_specialOf hT ba_buffer ?_)
  dsimp only
  refine wpAny_bind ?_
  unfold Builtin.Bytes.slotIsOwn
  refine wpAny_bind (wpAny_specialOf hT ba_buffer ?_)
  dsimp only
  rw [ba_ends2]
  refine bm_if_false rfl ?_
  rw [ba_drop2]
  refine wpAny_isInstance hT ba_sub ?_
  refine bm_if_false rfl ?_
  refine wpAny_bind (wpAny_specialOf hT ba_buffer ?_)
  refine wpAny_bind (ba_own hS ?_)
  refine bm_if_false rfl ?_
  refine wpAny_bind (ba_payload hS (wpAny_pure ?_))
  dsimp only
  refine wpAny_bind (wpAny_rule ?_)
  refine wpAny_bind (wpAny_mkBytes ?_ (by rw [sizeLine_eq]; omega))
  first
    | exact wpAny_bind (wpAny_pure (wpAny_pure (hQ _ _)))
    | exact wpAny_pure (hQ _ _)
    | exact wpAny_pure (wpAny_pure (hQ _ _))
theorem bytes_of_ba {S : Addr} {b : Array UInt8} {Q : Value → Shared → Prop} (hS : s.heap.get? S = some (baObj b)) (hz : b.size ≤ 1000) (hQ : ∀ t k, Q (.bytes b t) { s with toks := k }) :
    wpAny (model prog w) A (call (.type "bytes") [.ref S]) Q E s := by
  refine callType_codes (Q₁ := fun obj s₁ => s₁.TypeIs obj "bytes" ∧ Q obj s₁) F.bm_called (F.bm_typeCall _) F.entry_object_init
    (bytes_ba_new hS hz fun t k => ⟨PySem.W.typeIs_bytes _ _ _, hQ t k⟩) fun obj s₁ h₁ => ?_
  exact ⟨h₁.1, F.args_object_init_2 obj _, object_init_meets F.bm_called.init.lookup F.bm_called.made (by decide) prog w A.in1 _ s₁ ⟨h₁.1, rfl, h₁.2⟩⟩
end
end Mine
end
-- SpG
section
open PySem PySem.W PySem.Spec PySem.Calls PyProof.Rows
set_option maxRecDepth 100000
namespace Mine
/-- a call of the text's own def, in the logic without decoders -/
def SpG (w : World) (mean : ExcName → Option Value) (mg mb : Str → Option Value)
    (f : Addr) (n : Nat) (vs : List Value) (kw : List (Str × Value)) (news : Led) (Post : Value → Led → Prop) : Prop :=
  ∀ (dp un : Nat) (gd : Option (List Code)) (cn : Str) (cs : Scope) (a : Addr) (ccd : Value) (cl : List (Str × Addr)) (outer : List Env) (A₀ : Around) (base h₀ : Heap) (L : Addr) (m : Str → Option Value) (s : Shared)
    (Q E : Value → Shared → Prop), gd = some [] →
    Below A₀ base outer h₀ → Fr h₀ L s.heap m → (hd.heap_39 w.params).In h₀ → News h₀ L s.heap news → Top hd.view_39 LO mean mg mb h₀ → cs.kind = .function → dp + n < recursionLimit → un + 8 * n < cLine →
    (∀ r news' h' tk', Fr h₀ L h' m → News h₀ L h' news' → Post r news' → Q r { s with heap := h', toks := tk' }) →
    wpG (model PySem.Challenge.pw_wo0047_01 w) (ktrTop dp un gd cn cs L a ccd cl outer) (call (.ref f) vs kw) Q E s
section
variable {prog : Program} {w : World} {A A₀ : Around} {E : Value → Shared → Prop} {s : Shared} {K : Frag} {L : Addr} {h₀ base : Heap} {m mg mb : Str → Option Value} {news news' : Led} {p : Program} {loose : List Str} {mean : ExcName → Option Value}
theorem code_defG' {env : Env} {outer : List Env} {R : Result → Shared → Prop} {name qual : Str} {params : Arguments} {body : List Stmt} {scope : Scope} {dV kV doc pm cdv ct oc : Value} {an od : Option Addr} {osl : Array (Option Value)} {f : Addr} {args : Args} {binds : List (Str × Value)}
    (B : Below A₀ base outer h₀) (F : Fr h₀ L s.heap m) (X₀ : K.In h₀) (N : News h₀ L s.heap news) (T : Top p loose mean mg mb h₀) (hA : A.frames = some (env :: outer)) (hf : env.frame = some L) (hke : env.scope.kind = .function)
    (ho : K.lookup f = some ⟨oc, od, .func (fnOf name qual params body scope dV kV doc pm an cdv ct), osl⟩) (hcd : codeIn K cdv qual = true) (hroom : A.depth < recursionLimit)
    (hbind : BindsTo s (fnOf name qual params body scope dV kV doc pm an cdv ct) args binds) (hloc : ∀ y ∈ binds, scope.names.lookup y.1 = some .local)
    (h : ∀ g L' h₁, Fr h₀ L g m → Fr g L' h₁ (fun y => binds.reverse.lookup y) → News g L' h₁ news → Below A base (env :: outer) g → K.In g → Top p loose mean mg mb g →
      wpG (model prog w) (A.deeper (envOf qual scope L' f cdv)) (execs body (envOf qual scope L' f cdv))
        (fun fl s' => LeaveK h₀ L m g R (match fl with | .ret v => v | _ => .none) s')
        (fun e s' => wpAny (model prog w) (A.deeper (envOf qual scope L' f cdv)) (leaving (envOf qual scope L' f cdv) e) (fun _ s'' => R (.error e) s'') (fun e' s'' => R (.error e') s'') s')
        { s with heap := h₁, toks := s.toks + binds.length })
    (hco : scope.isCoroutine = false) (hgen : scope.isGenerator = false) (hk : scope.kind = .function)
    (hcell : ∀ x ∈ scope.names, x.2 ≠ .cell) : codeG (model prog w) A (.call (.ref f) args) R s :=
  callG_plain (cl := []) B F N T.nolimit hA hf hke ((X₀.keeps F.keep) _ _ ho) rfl (codeRec_of (X₀.keeps F.keep) hcd) hroom hbind hloc (fun g L' h₁ FG F' N' B' st _ => h g L' h₁ FG F' N' B' (X₀.keeps st) (T.keeps st)) hcell hco hgen hk
theorem wpG_callWith_type1 {M : Model} {env : Env} {pos : Pos} {T : String} {e : Expr} {rest : List Expr} {Q : Value → Shared → Prop} (h : wpAny M A (spliced (backTo pos (starEach (e :: rest) env))) (fun vs s₁ => wpG M A (call (.type T) vs) Q E s₁) E s)
    (he : starEach (e :: rest) env = (false, eval e env) :: starEach rest env := by rfl) (hplain : (backTo pos (starEach rest env)).any (·.1) = false := by rfl) : wpG M A (callWith pos (.type T) [] (backTo pos (starEach (e :: rest) env)) []) Q E s := by
  rw [he] at h ⊢
  exact wpG_callWith_type (by show (false || (backTo pos (starEach rest env)).any (·.1)) = false; rw [hplain]; rfl) (Calls.evalArgs_plain h)
theorem wpG_callWith_K {M : Model} {env : Env} {pos : Pos} {f : Value} {e : Expr} {rest : List Expr} {Q : Value → Shared → Prop} (hk : keepIn K f = true) (h : wpAny M A (spliced (backTo pos (starEach (e :: rest) env))) (fun vs s₁ => K.In s₁.heap ∧ wpG M A (call f vs) Q E s₁) E s)
    (he : starEach (e :: rest) env = (false, eval e env) :: starEach rest env := by rfl) (hplain : (backTo pos (starEach rest env)).any (·.1) = false := by rfl) : wpG M A (callWith pos f [] (backTo pos (starEach (e :: rest) env)) []) Q E s := by
  rw [he] at h ⊢
  exact wpG_callWith (by show (false || (backTo pos (starEach rest env)).any (·.1)) = false; rw [hplain]; rfl) (keeps_K hk) (Calls.evalArgs_plain h)
/-- a bytearray of fourteen noughts, onto the ledger -/
theorem ba_made {t : Tok} {Q : Value → Shared → Prop} (hg : A.guards = some []) (F : Fr h₀ L s.heap m) (N : News h₀ L s.heap news)
    (h : ∀ S h', (∀ p ∈ news, p.1 ≠ S) → Fr h₀ L h' m → News h₀ L h' ((S, baObj (Array.replicate 14 0)) :: news) → Q (.ref S) { s with heap := h' }) : wpG (model prog w) A (call (.type "bytearray") [.int 14 t]) Q E s := by
  refine call_ba hg fun h' hk hb => h _ h' (fun p hp => Nat.ne_of_lt (Heap.lt_size (N p hp).1)) (F.keeps hk) fun p hp => ?_
  rcases List.mem_cons.mp hp with rfl | hp
  · exact ⟨hb, fun e => absurd F.ns.lt (e ▸ Nat.lt_irrefl _), next_is_new F⟩
  · exact ⟨hk _ _ (N p hp).1, (N p hp).2⟩
theorem ba_set_led {S : Addr} {b : Array UInt8} {k x : Int} {t u : Tok} {Q : Unit → Shared → Prop} (F : Fr h₀ L s.heap m) (N : News h₀ L s.heap ((S, baObj b) :: news)) (hn : ∀ p ∈ news, p.1 ≠ S) (hk0 : 0 ≤ k) (hk : k < b.size) (hb : b.size ≤ 1000) (h0 : 0 ≤ x) (h1 : x < 256)
    (h : ∀ h', Fr h₀ L h' m → News h₀ L h' ((S, baObj (b.setIfInBounds k.toNat x.toNat.toUInt8)) :: news) → Q () { s with heap := h' }) : wpAny (model prog w) A (setItem (.ref S) (.int k t) (.int x u)) Q E s := by
  have z := N (S, baObj b) (.head _)
  refine ba_setItem z.1 hk0 hk hb h0 h1 (h _ (F.change (Heap.SameBut.update ..) z.2.1 z.2.2) fun p hp => ?_)
  rcases List.mem_cons.mp hp with rfl | hp
  · exact ⟨Heap.get?_update_self (Obj.mapBytearray (·.setIfInBounds k.toNat x.toNat.toUInt8)) z.1 rfl, z.2⟩
  · exact ⟨(Heap.get?_update_other _ _ (Ne.symm (hn p hp))).trans (N p (List.mem_cons_of_mem _ hp)).1, (N p (List.mem_cons_of_mem _ hp)).2⟩
end
end Mine
end
-- Bits
section
open PySem PySem.W PySem.Spec PySem.Calls PyProof.Rows
namespace Mine
theorem bitOr_nat (n m : Nat) : Builtin.bitOr (n : Int) (m : Int) = ((n ||| m : Nat) : Int) := by
  unfold Builtin.bitOr
  have h1 : ¬ (0 ≤ Builtin.bitNot (n : Int)) := by unfold Builtin.bitNot; omega
  have h2 : ¬ (0 ≤ Builtin.bitNot (m : Int)) := by unfold Builtin.bitNot; omega
  have e : ∀ k : Nat, (Builtin.bitNot (Builtin.bitNot (k : Int))) = (k : Int) := fun k => by unfold Builtin.bitNot; omega
  rw [bitAnd_nn h1 h2, e, e, e]
  simp
theorem bitAnd_nat (n m : Nat) : Builtin.bitAnd (n : Int) (m : Int) = ((n &&& m : Nat) : Int) := by
  rw [bitAnd_pp (by omega) (by omega)]; simp
theorem shr_nat (n k : Nat) : (n : Int).fdiv (2 ^ k) = ((n >>> k : Nat) : Int) := by
  rw [Int.fdiv_eq_ediv_of_nonneg _ (by exact Int.le_of_lt (Int.pow_pos (by decide))), Nat.shiftRight_eq_div_pow]
  simp
theorem shl_nat (k : Nat) : (1 : Int) * 2 ^ k = ((2 ^ k : Nat) : Int) := by simp
theorem and_one_ne (x : Nat) : (((x &&& 1 : Nat) : Int) ≠ 0) ↔ x.testBit 0 = true := by
  rw [Nat.and_one_is_mod, Nat.testBit_zero, decide_eq_true_eq]; omega
/-- seven rows of seven bits -/
def RowsAre (rs : List Int) (R : Int → Int → Prop) : Prop :=
  rs.length = 7 ∧ ∀ i : Nat, i < 7 → ∃ n : Nat, rs[i]? = some (n : Int) ∧ n < 128 ∧ ∀ j : Nat, j < 7 → (n.testBit j = true ↔ R i j)
theorem RowsAre.congr {rs : List Int} {R R' : Int → Int → Prop} (h : RowsAre rs R) (k : ∀ i j : Nat, i < 7 → j < 7 → (R i j ↔ R' i j)) : RowsAre rs R' :=
  ⟨h.1, fun i hi => by obtain ⟨n, h1, h2, h3⟩ := h.2 i hi; exact ⟨n, h1, h2, fun j hj => (h3 j hj).trans (k i j hi hj)⟩⟩
theorem RowsAre.set {rs : List Int} {R R' : Int → Int → Prop} {a n : Nat} (h : RowsAre rs R) (hn : n < 128) (h1 : ∀ j : Nat, j < 7 → (n.testBit j = true ↔ R' a j)) (h2 : ∀ i j : Nat, i ≠ a → i < 7 → j < 7 → (R i j ↔ R' i j)) : RowsAre (rs.set a (n : Int)) R' := by
  refine ⟨by rw [List.length_set]; exact h.1, fun i hi => ?_⟩
  by_cases e : i = a
  · subst e
    exact ⟨n, by rw [List.getElem?_set]; simp [h.1, hi], hn, h1⟩
  · obtain ⟨k, k1, k2, k3⟩ := h.2 i hi
    exact ⟨k, by rw [List.getElem?_set, if_neg (Ne.symm e)]; exact k1, k2, fun j hj => (k3 j hj).trans (h2 i j e hi hj)⟩
theorem RowsAre.getD {rs : List Int} {R : Int → Int → Prop} (h : RowsAre rs R) {i : Nat} (hi : i < 7) : ∃ n : Nat, rs.getD i 0 = (n : Int) ∧ n < 128 ∧ ∀ j : Nat, j < 7 → (n.testBit j = true ↔ R i j) := by
  obtain ⟨n, h1, h2, h3⟩ := h.2 i hi
  exact ⟨n, by rw [List.getD_eq_getElem?_getD, h1]; rfl, h2, h3⟩
theorem pow_lt {k : Nat} (h : k < 7) : 2 ^ k < 128 := Nat.pow_lt_pow_right (by decide) h (a := 2) (n := 7)
/-- a street is laid -/
theorem rows_street {rs : List Int} {R : Int → Int → Prop} (h : RowsAre rs R) {b e : Int} (hb : 0 ≤ b ∧ b < 7) (he : 0 ≤ e ∧ e < 7) :
    RowsAre (rs.set b.toNat (Builtin.bitOr (rs.getD b.toNat 0) (1 * 2 ^ e.toNat))) (fun i j => R i j ∨ (i = b ∧ j = e)) := by
  obtain ⟨n, h1, h2, h3⟩ := h.getD (i := b.toNat) (by omega)
  rw [h1, shl_nat, bitOr_nat]
  have eb : ((b.toNat : Nat) : Int) = b := by omega
  have hp := pow_lt (k := e.toNat) (by omega)
  refine h.set (Nat.or_lt_two_pow (n := 7) h2 hp) (fun j hj => ?_) fun i j hi hi7 hj => ?_
  · rw [Nat.testBit_or, Bool.or_eq_true, h3 j hj, eb, Nat.testBit_two_pow, decide_eq_true_eq]
    constructor
    · rintro (h | h)
      · exact .inl h
      · exact .inr ⟨rfl, by omega⟩
    · rintro (h | ⟨_, h⟩)
      · exact .inl h
      · exact .inr (by omega)
  · constructor
    · exact .inl
    · rintro (h | ⟨h, _⟩)
      · exact h
      · omega
/-- what the test of Warshall's turn says -/
theorem bit_test {rs : List Int} {R : Int → Int → Prop} (h : RowsAre rs R) {i j : Nat} (hi : i < 7) (hj : j < 7) : (Builtin.bitAnd ((rs.getD i 0).fdiv (2 ^ j)) 1 ≠ 0) ↔ R i j := by
  obtain ⟨n, h1, h2, h3⟩ := h.getD hi
  rw [h1, shr_nat, show (1 : Int) = ((1 : Nat) : Int) from rfl, bitAnd_nat, ← h3 j hj, and_one_ne, Nat.testBit_shiftRight]
  simp
theorem rows_turn {E : Int → Int → Prop} {rs : List Int} {i p : Nat} (hi : i < 7) (hp : p < 7) (h : RowsAre rs (fun a b => if a < p then War E (i + 1) a b else War E i a b)) :
    RowsAre (if Builtin.bitAnd ((rs.getD p 0).fdiv (2 ^ i)) 1 ≠ 0 then rs.set p (Builtin.bitOr (rs.getD p 0) (rs.getD i 0)) else rs) (fun a b => if a < ((p + 1 : Nat) : Int) then War E (i + 1) a b else War E i a b) := by
  have ht := bit_test h hp hi
  rw [if_neg (by omega)] at ht
  obtain ⟨n, n1, n2, n3⟩ := h.getD hp
  obtain ⟨k, k1, k2, k3⟩ := h.getD hi
  have rowi : ∀ j : Nat, j < 7 → (k.testBit j = true ↔ War E i i j) := fun j hj => by
    rw [k3 j hj]
    split
    · exact war_mid
    · exact Iff.rfl
  have rowp : ∀ j : Nat, j < 7 → (n.testBit j = true ↔ War E i p j) := fun j hj => by rw [n3 j hj, if_neg (by omega)]
  split
  · rename_i hc
    have hw := ht.mp hc
    rw [n1, k1, bitOr_nat]
    refine h.set (Nat.or_lt_two_pow (n := 7) n2 k2) (fun j hj => ?_) fun a b ha ha7 hb => ?_
    · rw [if_pos (by omega), Nat.testBit_or, Bool.or_eq_true, rowp j hj, rowi j hj]
      exact ⟨fun h => h.elim .inl fun h => .inr ⟨hw, h⟩, fun h => h.elim .inl fun h => .inr h.2⟩
    · by_cases h1 : a < p
      · rw [if_pos (by omega), if_pos (by omega)]
      · rw [if_neg (by omega), if_neg (by omega)]
  · rename_i hc
    have hw : ¬ War E i p i := fun h => hc (ht.mpr h)
    refine h.congr fun a b ha hb => ?_
    by_cases e : a = p
    · subst e
      rw [if_neg (by omega), if_pos (by omega)]
      exact ⟨.inl, fun h => h.elim id fun h => absurd h.1 hw⟩
    · by_cases h1 : a < p
      · rw [if_pos (by omega), if_pos (by omega)]
      · rw [if_neg (by omega), if_neg (by omega)]
theorem rows_next {E : Int → Int → Prop} {rs : List Int} {i : Nat} (h : RowsAre rs (fun a b => if a < ((7 : Nat) : Int) then War E (i + 1) a b else War E i a b)) : RowsAre rs (War E (i + 1)) :=
  h.congr fun a b ha hb => by rw [if_pos (by omega)]
theorem rows_first {E : Int → Int → Prop} {rs : List Int} {i : Nat} (h : RowsAre rs (War E i)) : RowsAre rs (fun a b => if a < ((0 : Nat) : Int) then War E (i + 1) a b else War E i a b) :=
  h.congr fun a b ha hb => by rw [if_neg (by omega)]
/-- the test of the parts: each comes to the other -/
theorem bit_both {rs : List Int} {R : Int → Int → Prop} (h : RowsAre rs R) {i j : Nat} (hi : i < 7) (hj : j < 7) :
    (Builtin.bitAnd (Builtin.bitAnd ((rs.getD i 0).fdiv (2 ^ j)) ((rs.getD j 0).fdiv (2 ^ i))) 1 ≠ 0) ↔ (R i j ∧ R j i) := by
  obtain ⟨n, h1, h2, h3⟩ := h.getD hi
  obtain ⟨m, m1, m2, m3⟩ := h.getD hj
  rw [h1, m1, shr_nat, shr_nat, show (1 : Int) = ((1 : Nat) : Int) from rfl, bitAnd_nat, bitAnd_nat, ← h3 j hj, ← m3 i hi, ← Bool.and_eq_true]
  have e : (n.testBit j && m.testBit i) = ((n >>> j) &&& (m >>> i)).testBit 0 := by rw [Nat.testBit_and, Nat.testBit_shiftRight, Nat.testBit_shiftRight]; simp
  rw [e, and_one_ne]
end Mine
end
-- BaseW
section
open PySem PySem.W PySem.Spec PySem.Calls PyProof.Rows
namespace Mine
theorem walk_init {g h : Heap} {L D qa da : Addr} {o0 : Obj} {news : Led} {m : Str → Option Value} {es : List (Str × Str)} {st : Int} {tst : Tok} {tw : Addr} (F : Fr g L h m) (N : News g L h ((D, o0) :: (qa, listOf #[] 0) :: (da, listOf #[] 0) :: news))
    (l1 : ∀ p ∈ news, p.1 < da) (l2 : @LT.lt Nat _ da qa ∧ AllLt qa news) (e1 : m (Str.ofString "town") = some (.ref tw)) (e2 : m (Str.ofString "start") = some (.int st tst)) (e3 : m (Str.ofString "done") = some (.ref da)) (e4 : m (Str.ofString "parts") = some (.ref qa)) :
    ∃ da qa m0 nx, @Ne Nat da qa ∧ Fr g L h m0 ∧ News g L h (news ++ nx) ∧ (∀ p ∈ news, ∀ q ∈ nx, p.1 ≠ q.1) ∧ WJ es st tst tw da qa 0 m0 nx := by
  refine ⟨da, qa, m, (da, listOf #[] 0) :: (qa, listOf #[] 0) :: [], Nat.ne_of_lt l2.1, F, news_sub N ?_, ?_, ⟨{ segs := [], done := [], parts := [] }, [], [], 0, [], 0, rfl, inv_init, rfl, fun k hk => absurd hk (Nat.not_lt_zero _), .nil, .nil, (fun _ h => nomatch h), e1, e2, e3, e4⟩⟩
  · intro p hp; simp only [List.mem_cons, List.mem_append] at hp ⊢; grind
  · intro p hp q hq
    simp only [List.mem_cons, List.not_mem_nil, or_false] at hq
    rcases hq with rfl | rfl
    · exact Nat.ne_of_lt (l1 p hp)
    · exact allNe_eq l2.2 p hp
section
variable {es : List (Str × Str)} {st : Int} {tst : Tok} {tw da qa pa ba : Addr} {i : Nat} {m : Str → Option Value} {own tl tl2 news : Led} {vd vd' vp vb : List Value} {n1 n2 n3 n4 n3' n4' : Nat} {pl pl2 : List Addr} {σ s' : SS}
theorem walk_ap (hdq : @Ne Nat da qa) (hoff : ∀ p ∈ tl, p.1 ≠ da ∧ p.1 ≠ qa) (hsep : ∀ p ∈ own, ∀ q ∈ (da, listOf vd.toArray n3) :: (qa, listOf (pl.map Value.ref).toArray n4) :: tl, p.1 ≠ q.1)
    (l1 : ∀ p ∈ (da, listOf vd.toArray n3) :: (qa, listOf (pl.map Value.ref).toArray n4) :: tl ++ own, p.1 < pa) (l2 : @LT.lt Nat _ pa ba ∧ AllLt ba ((da, listOf vd.toArray n3) :: (qa, listOf (pl.map Value.ref).toArray n4) :: tl ++ own)) : Ap4 pa ba da qa (tl ++ own) := by
  have l3 := allNe_eq l2.2
  have l1' : ∀ p ∈ (da, listOf vd.toArray n3) :: (qa, listOf (pl.map Value.ref).toArray n4) :: tl ++ own, p.1 ≠ pa := fun p hp => Nat.ne_of_lt (l1 p hp)
  simp only [List.cons_append, List.forall_mem_cons] at l1' l3
  refine ⟨Nat.ne_of_lt l2.1, Ne.symm l1'.1, Ne.symm l1'.2.1, Ne.symm l3.1, Ne.symm l3.2.1, hdq, l1'.2.2, l3.2.2, fun p hp => ?_, fun p hp => ?_⟩ <;> rcases List.mem_append.mp hp with hp | hp
  · exact (hoff p hp).1
  · exact hsep p hp _ (.head _)
  · exact (hoff p hp).2
  · exact hsep p hp _ (.tail _ (.head _))
theorem walk_turn (hsep : ∀ p ∈ own, ∀ q ∈ (da, listOf vd.toArray n3) :: (qa, listOf (pl.map Value.ref).toArray n4) :: tl, p.1 ≠ q.1) (hR : GRep σ (pl.map Value.ref) vp vb vd' pl2 tl2 s') (hA : Ap4 pa ba da qa (tl2 ++ (tl ++ own))) (hO : OffL tl2 (tl ++ own))
    (hps : Parts tl pl σ.parts) (I' : Inv (adjT es) s') (hs : s'.segs = []) (hc : ∀ k : Nat, k < i → (st + (k : Int)).fmod 7 ∈ σ.done) (hv : (st + (i : Int)).fmod 7 ∈ s'.done) (hd : ∀ x ∈ σ.done, x ∈ s'.done)
    (m1 : m (Str.ofString "town") = some (.ref tw)) (m2 : m (Str.ofString "start") = some (.int st tst)) (m3 : m (Str.ofString "done") = some (.ref da)) (m4 : m (Str.ofString "parts") = some (.ref qa)) :
    ∃ nx, (∀ p ∈ nx, p ∈ GLed pa ba da qa vp n1 vb n2 vd' n3' (pl.map Value.ref ++ pl2.map Value.ref) n4' (tl2 ++ (tl ++ own))) ∧ (∀ p ∈ own, p ∈ GLed pa ba da qa vp n1 vb n2 vd' n3' (pl.map Value.ref ++ pl2.map Value.ref) n4' (tl2 ++ (tl ++ own))) ∧
      (∀ p ∈ own, ∀ q ∈ nx, p.1 ≠ q.1) ∧ WJ es st tst tw da qa (i + 1) m nx := by
  obtain ⟨j1, j2, j3, ⟨ps2, hps2, hpe2⟩⟩ := hR
  refine ⟨(da, listOf vd'.toArray n3') :: (qa, listOf ((pl ++ pl2).map Value.ref).toArray n4') :: (tl2 ++ tl), ?_, ?_, ?_, s', tl2 ++ tl, vd', n3', pl ++ pl2, n4', rfl, I', hs, fun k hk => ?_, j3, ?_, ?_, m1, m2, m3, m4⟩
  · rw [List.map_append]
    intro p hp
    unfold GLed
    simp only [List.mem_cons, List.mem_append] at hp ⊢
    rcases hp with hp | hp | hp | hp <;> simp [hp]
  · exact fun p hp => gled_tail (by simp [hp])
  · intro p hp q hq
    have h1 := hsep p hp
    simp only [List.forall_mem_cons] at h1
    simp only [List.mem_cons, List.mem_append] at hq
    rcases hq with rfl | rfl | hq | hq
    · exact h1.1
    · exact h1.2.1
    · exact (hO q hq p (by simp [hp])).symm
    · exact h1.2.2 q hq
  · rcases Nat.lt_or_eq_of_le (Nat.le_of_lt_succ hk) with hk | rfl
    · exact hd _ (hc k hk)
    · exact hv
  · rw [hpe2]
    exact (hps.mono fun p hp => List.mem_append_right _ hp).append (hps2.mono fun p hp => List.mem_append_left _ hp)
  · intro p hp
    have hp' : p ∈ tl2 ++ (tl ++ own) := by
      rcases List.mem_append.mp hp with hp | hp <;> simp [hp]
    exact ⟨hA.b3 p hp', hA.b4 p hp'⟩
end
/-- a walk's end, what is new lying apart -/
def WalkPost2 (es : List (Str × Str)) (news : Led) (r : Value) (nw : Led) : Prop :=
  ∃ R da qa σ tl vd n3 pl n4, r = .ref R ∧ nw = (R, tup [.ref da, .ref qa]) :: (da, listOf vd.toArray n3) :: (qa, listOf (pl.map Value.ref).toArray n4) :: (tl ++ news) ∧ Walked (adjT es) σ ∧ IntsAre vd σ.done ∧ Parts tl pl σ.parts ∧
    (∀ p ∈ news, p.1 < R) ∧ ∀ p ∈ news, ∀ q ∈ (da, listOf vd.toArray n3) :: (qa, listOf (pl.map Value.ref).toArray n4) :: tl, p.1 ≠ q.1
end Mine
end
-- BaseR
section
open PySem PySem.W PySem.Spec PySem.Calls PyProof.Rows
namespace Mine
def RJ (sl rl : Addr) (R : Nat → Int → Int → Prop) (i : Nat) (m : Str → Option Value) (nx : Led) : Prop :=
  ∃ vs n rs, nx = [(rl, listOf vs.toArray n)] ∧ IntsAre vs rs ∧ RowsAre rs (R i) ∧ m (Str.ofString "reach") = some (.ref rl) ∧ m (Str.ofString "streets") = some (.ref sl)
def RJ2 (sl rl : Addr) (k : Nat) (tk : Tok) (R : Nat → Int → Int → Prop) (i : Nat) (m : Str → Option Value) (nx : Led) : Prop :=
  RJ sl rl R i m nx ∧ m (Str.ofString "middle") = some (.int k tk)
def ReachPost (ss : List (Int × Int)) (news : Led) (r : Value) (nw : Led) : Prop :=
  ∃ rl vs n rs, r = .ref rl ∧ nw = (rl, listOf vs.toArray n) :: news ∧ IntsAre vs rs ∧ RowsAre rs (War (fun i j => (i, j) ∈ ss) 7)
theorem ipairs_at {ps : List (Int × Int)} {news : Led} {ts : List Addr} (h : IPairs news ts ps) {i : Nat} {v : Value} (hv : (ts.map Value.ref)[i]? = some v) : ∃ a b e t u, v = .ref a ∧ ps[i]? = some (b, e) ∧ (a, tup [.int b t, .int e u]) ∈ news := by
  rw [List.getElem?_map] at hv
  cases hq : ts[i]? with
  | none => rw [hq] at hv; cases hv
  | some a =>
    rw [hq] at hv
    obtain ⟨b, e, t, u, h1, h2⟩ := h.get hq
    exact ⟨a, b, e, t, u, (Option.some.inj hv).symm, h1, h2⟩
theorem rows_init {rs : List Int} (h : rs = (List.range 7).map fun (k : Nat) => (1 : Int) * 2 ^ k) (ss : List (Int × Int)) : RowsAre rs (fun i j => i = j ∨ (i, j) ∈ ss.take 0) := by
  subst h
  refine ⟨by decide, fun i hi => ⟨2 ^ i, ?_, pow_lt hi, fun j hj => ?_⟩⟩
  · rw [List.getElem?_map, List.getElem?_range hi]; simp
  · rw [Nat.testBit_two_pow, decide_eq_true_eq]
    simp
    omega
theorem rows_more {rs : List Int} {ss : List (Int × Int)} {i : Nat} {b e : Int} (h : RowsAre rs (fun i' j => i' = j ∨ (i', j) ∈ ss.take i)) (hs : ss[i]? = some (b, e)) (hb : 0 ≤ b ∧ b < 7) (he : 0 ≤ e ∧ e < 7) :
    RowsAre (rs.set b.toNat (Builtin.bitOr (rs.getD b.toNat 0) (1 * 2 ^ e.toNat))) (fun i' j => i' = j ∨ (i', j) ∈ ss.take (i + 1)) := by
  refine (rows_street h hb he).congr fun i' j _ _ => ?_
  rw [take_snoc hs, List.mem_append, List.mem_singleton, Prod.mk.injEq, or_assoc]
end Mine
end
-- BaseG
section
open PySem PySem.W PySem.Spec PySem.Calls PyProof.Rows
namespace Mine
section
variable {prog : Program} {w : World} {A : Around} {E : Value → Shared → Prop} {s : Shared} {env : Env} {h₀ : Heap} {target : Expr} {body : List Stmt} {Q : Flow → Shared → Prop}
/-- a loop over a bytes' ints -/
theorem loop_bytesC {bs : Array UInt8} {tb : Tok} {m : Str → Option Value} {nx kc : Led} (J : Nat → (Str → Option Value) → Led → Prop)
    (hh : A.handled = none) (hks : ∀ p ∈ kc, ∀ q ∈ nx, p.1 ≠ q.1) (F : Fr h₀ env.locals s.heap m) (N : News h₀ env.locals s.heap (kc ++ nx)) (hj : J 0 m nx)
    (turn : ∀ i k t m₁ nx s₁ own, (KBw.bInts bs)[i]? = some k → J i m₁ nx → (∀ p ∈ own, ∀ q ∈ nx, p.1 ≠ q.1) → (∀ p ∈ kc, p ∈ own) → Fr h₀ env.locals (Shared.heap s₁) m₁ → News h₀ env.locals s₁.heap (nx ++ own) →
      wpAny (model prog w) A (assign target env (.int k t)) (fun _ s₃ => wpAny (model prog w) A (execs body env) (LpEnd h₀ env.locals own (J (i + 1)) s₁) E s₃) E s₁)
    (done : ∀ h tk m' nx, Fr h₀ env.locals h m' → News h₀ env.locals h (kc ++ nx) → J (KBw.bInts bs).length m' nx → (∀ p ∈ kc, ∀ q ∈ nx, p.1 ≠ q.1) → Q .next { s with heap := h, toks := tk })
    (hgo : ∀ (I : Value) (s' : Shared) (v : Value) (Q' : Unit → Shared → Prop), Q' () s' → wpAny (model prog w) A (letOwnedTupleGo target I v) Q' E s' := by intro _ _ _ _ hq; exact wpAny_pure hq) :
    wpAny (model prog w) A (pyIter (.bytes bs tb)) (fun it s₂ => LoopAtT prog w A h₀ env target body Q E it s₂) E s := by
  refine KBw.pyIter_bytes ?_
  have hnew : ∀ p ∈ kc ++ nx, p.1 ≠ s.heap.objs.size := fun p hp => Nat.ne_of_lt (Heap.lt_size (N p hp).1)
  have W := KBw.walks (prog := prog) (w := w) hh s.heap.objs.size bs tb
  have hlen : bs.size = (KBw.bInts bs).length := (KBw.ints_length bs).symm
  rw [hlen] at W
  refine loop_genC (kc := kc) J W ?_ (next_is_new F) (fun i h st b hb => by obtain ⟨o, e, _⟩ := st; exact ⟨o, List.mem_singleton.mp hb ▸ e⟩) (fun p hp hm => hnew p (List.mem_append_right _ hp) (List.mem_singleton.mp hm)) (fun p hp hm => hnew p (List.mem_append_left _ hp) (List.mem_singleton.mp hm)) hks ⟨_, Heap.get?_push_size _ rfl, rfl, rfl⟩ (F.push _) (fun p hp => ⟨Heap.get?_push_of_some _ (N p hp).1, (N p hp).2⟩)
    (fun i s' v Q' st hQ' => hgo _ s' v Q' hQ') hj (fun i v m₁ nx s₁ own hi hP => by obtain ⟨c, u, hc, rfl⟩ := hP; exact turn i _ u m₁ nx s₁ own (KBw.ints_get hc)) done
  intro hm; exact absurd F.ns.lt (List.mem_singleton.mp hm ▸ Nat.lt_irrefl _)
end
theorem low_letU {v : Int} (h0 : 0 ≤ v) (h1 : v < 7) : Txt.lower (letU v) = letL v := low_up v.toNat (by omega)
theorem getAllU_adj {es : List (Str × Str)} {v : Int} (h0 : 0 ≤ v) (h1 : v < 7) {x : Str} {i : Nat} (h : (getAll es (Txt.lower (letU v)))[i]? = some x) : (adjT es v)[i]? = some ((digL.idxOf x : Nat) : Int) := by
  rw [low_letU h0 h1] at h
  unfold adjT
  rw [List.getElem?_map, h]; rfl
theorem getAllU_len {es : List (Str × Str)} {v : Int} (h0 : 0 ≤ v) (h1 : v < 7) : (getAll es (Txt.lower (letU v))).length = (adjT es v).length := by
  rw [low_letU h0 h1]
  unfold adjT
  rw [List.length_map]
theorem gath_met {adjB : Int → List Int} {o m m' : List Int} {ps : List (List Int)} (h : Gath adjB o m m' ps) : m.Nodup ∧ (∀ x ∈ m, 0 ≤ x ∧ x < 7) → m'.Nodup ∧ (∀ x ∈ m', 0 ≤ x ∧ x < 7) := by
  induction h with
  | nil => exact id
  | skip _ _ ih => exact ih
  | group hx hg _ ih =>
    rintro ⟨h1, h2⟩
    refine ih ⟨List.nodup_append.mpr ⟨h1, hg.nd, fun a ha b hb e => hg.off b hb (e ▸ ha)⟩, fun x hx => (List.mem_append.mp hx).elim (h2 x) (hg.rng x)⟩
theorem gath_len {adjB : Int → List Int} {o m m' : List Int} {ps : List (List Int)} (h : Gath adjB o m m' ps) : ps.length ≤ o.length := by
  induction h with
  | nil => exact Nat.le_refl _
  | skip _ _ ih => exact Nat.le_succ_of_le ih
  | group _ _ _ ih => exact Nat.succ_le_succ ih
/-- what the loop over the order keeps -/
def AJ (es : List (Str × Str)) (order : List Int) (tw : Addr) (i : Nat) (m : Str → Option Value) (nx : Led) : Prop :=
  ∃ ml vm nm ql pl nq tl met ps, nx = (ml, listOf vm.toArray nm) :: (ql, listOf (pl.map Value.ref).toArray nq) :: tl ∧ IntsAre vm met ∧ Gath (adjT es) (order.take i) [] met ps ∧ Parts tl pl ps ∧ @Ne Nat ml ql ∧ (∀ p ∈ tl, p.1 ≠ ml ∧ p.1 ≠ ql) ∧
    m (Str.ofString "met") = some (.ref ml) ∧ m (Str.ofString "parts") = some (.ref ql) ∧ m (Str.ofString "town") = some (.ref tw)
/-- what the loop over a group's members keeps -/
def BJ (es : List (Str × Str)) (tw gl ml ql : Addr) (met : List Int) (x : Int) (X : Led) (n : Nat) (m : Str → Option Value) (nw : Led) : Prop :=
  ∃ vg ng g spot tsp, nw = (gl, listOf vg.toArray ng) :: X ∧ IntsAre vg g ∧ GrpI (adjT es) met x g spot [] ∧ n = 7 - spot ∧
    m (Str.ofString "spot") = some (.int ((spot : Nat) : Int) tsp) ∧ m (Str.ofString "group") = some (.ref gl) ∧ m (Str.ofString "met") = some (.ref ml) ∧ m (Str.ofString "parts") = some (.ref ql) ∧ m (Str.ofString "town") = some (.ref tw)
/-- what the loop over a member's streets keeps -/
def CJ (es : List (Str × Str)) (tw gl ml ql : Addr) (met : List Int) (x : Int) (spot : Nat) (tsp : Tok) (y : Int) (k : Nat) (m : Str → Option Value) (nx : Led) : Prop :=
  ∃ vg ng g, nx = [(gl, listOf vg.toArray ng)] ∧ IntsAre vg g ∧ GrpI (adjT es) met x g spot ((adjT es y).take k) ∧ spot < g.length ∧ g.getD spot 0 = y ∧
    m (Str.ofString "spot") = some (.int ((spot : Nat) : Int) tsp) ∧ m (Str.ofString "group") = some (.ref gl) ∧ m (Str.ofString "met") = some (.ref ml) ∧ m (Str.ofString "parts") = some (.ref ql) ∧ m (Str.ofString "town") = some (.ref tw)
def GathPost (es : List (Str × Str)) (order : List Int) (news : Led) (r : Value) (nw : Led) : Prop :=
  ∃ ql pl nq tl met ps, r = .ref ql ∧ nw = (ql, listOf (pl.map Value.ref).toArray nq) :: (tl ++ news) ∧ Gath (adjT es) order [] met ps ∧ Parts tl pl ps
theorem getD_snoc {g : List Int} {o : Int} {n : Nat} (h : n < g.length) : (g ++ [o]).getD n 0 = g.getD n 0 := by
  rw [List.getD_eq_getElem?_getD, List.getElem?_append_left h, ← List.getD_eq_getElem?_getD]
theorem gath_init {g h : Heap} {L D ql ml : Addr} {o0 : Obj} {news : Led} {m : Str → Option Value} {es : List (Str × Str)} {order : List Int} {tw : Addr} (F : Fr g L h m) (N : News g L h ((D, o0) :: (ql, listOf #[] 0) :: (ml, listOf #[] 0) :: news))
    (l1 : ∀ p ∈ news, p.1 < ml) (l2 : @LT.lt Nat _ ml ql ∧ AllLt ql news) (e1 : m (Str.ofString "met") = some (.ref ml)) (e2 : m (Str.ofString "parts") = some (.ref ql)) (e3 : m (Str.ofString "town") = some (.ref tw)) :
    ∃ m0 nx, Fr g L h m0 ∧ News g L h (news ++ nx) ∧ (∀ p ∈ news, ∀ q ∈ nx, p.1 ≠ q.1) ∧ AJ es order tw 0 m0 nx := by
  refine ⟨m, (ml, listOf #[] 0) :: (ql, listOf #[] 0) :: [], F, news_sub N ?_, ?_, ⟨ml, [], 0, ql, [], 0, [], [], [], rfl, .nil, .nil _, .nil, Nat.ne_of_lt l2.1, (fun _ h => nomatch h), e1, e2, e3⟩⟩
  · intro p hp; simp only [List.mem_cons, List.mem_append] at hp ⊢; grind
  · intro p hp q hq
    simp only [List.mem_cons, List.not_mem_nil, or_false] at hq
    rcases hq with rfl | rfl
    · exact Nat.ne_of_lt (l1 p hp)
    · exact allNe_eq l2.2 p hp
theorem gath_group {g h : Heap} {L D gl : Addr} {o0 : Obj} {X : Led} {m : Str → Option Value} {es : List (Str × Str)} {tw ml ql : Addr} {met : List Int} {v : Int} {tv t0 : Tok} (F : Fr g L h m) (N : News g L h ((D, o0) :: (gl, listOf #[.int v tv] 0) :: X)) (hl : AllLt gl X)
    (h0 : 0 ≤ v ∧ v < 7) (hv : v ∉ met) (e1 : m (Str.ofString "spot") = some (.int 0 t0)) (e2 : m (Str.ofString "group") = some (.ref gl)) (e3 : m (Str.ofString "met") = some (.ref ml)) (e4 : m (Str.ofString "parts") = some (.ref ql)) (e5 : m (Str.ofString "town") = some (.ref tw)) :
    ∃ gl m5 nw, (∀ p ∈ X, p.1 ≠ gl) ∧ Fr g L h m5 ∧ News g L h nw ∧ BJ es tw gl ml ql met v X 7 m5 nw :=
  ⟨gl, m, _, allNe_eq hl, F, news_sub N fun p hp => List.mem_cons_of_mem _ hp, [.int v tv], 0, [v], 0, t0, rfl, .cons _ _ .nil, GrpI.init h0 hv, rfl, e1, e2, e3, e4, e5⟩
theorem getD_memI {g : List Int} {n : Nat} (h : n < g.length) : g.getD n 0 ∈ g := by
  rw [List.getD_eq_getElem?_getD, List.getElem?_eq_getElem h]; exact List.getElem_mem h
section
variable {es : List (Str × Str)} {order met gg n2 : List Int} {tw gl ml ql D1 D2 : Addr} {o1 o2 o3 o4 : Obj} {tl own : Led} {vm v2 w1 : List Value} {nm nq c2 n1 i : Nat} {pl : List Addr} {ps : List (List Int)} {v : Int} {m : Str → Option Value}
theorem news_ab {g h : Heap} {L : Addr} {a b : Addr × Obj} {X : Led} (N : News g L h (a :: b :: X)) : News g L h ((a :: X) ++ [b]) := news_sub N (by
  intro x hx; simp only [List.mem_cons, List.mem_append, List.not_mem_nil, or_false] at hx ⊢; rcases hx with (h | h) | h <;> simp [h])
theorem news_ba {g h : Heap} {L : Addr} {a b : Addr × Obj} {X : Led} (N : News g L h (a :: X ++ [b])) : News g L h (b :: X) := news_sub N (by
  intro x hx; simp only [List.mem_cons, List.mem_append, List.cons_append, List.not_mem_nil, or_false] at hx ⊢; rcases hx with h | h <;> simp [h])
theorem news_g6 {g h : Heap} {L : Addr} {a b c d p : Addr × Obj} {rest : Led} (N : News g L h (a :: b :: c :: d :: p :: rest)) : News g L h (p :: a :: b :: c :: d :: rest) := news_sub N (by
  intro x hx; simp only [List.mem_cons] at hx ⊢; grind)
theorem gath_q (l1 : gl < D1 ∧ ml < D1 ∧ ql < D1 ∧ AllLt D1 (tl ++ own)) (l2 : D1 < D2 ∧ gl < D2 ∧ ml < D2 ∧ ql < D2 ∧ AllLt D2 (tl ++ own)) (hgl : ql ≠ gl) (hmq : @Ne Nat ml ql) (hoff : ∀ p ∈ tl, p.1 ≠ ml ∧ p.1 ≠ ql) (ho : ∀ p ∈ own, p.1 ≠ ql) :
    ∀ p ∈ (D2, o2) :: (D1, o1) :: (gl, o3) :: (ml, o4) :: (tl ++ own), p.1 ≠ ql := by
  simp only [List.forall_mem_cons, List.forall_mem_append]
  exact ⟨Nat.ne_of_gt l2.2.2.2.1, Nat.ne_of_gt l1.2.2.1, hgl.symm, hmq, fun p hp => (hoff p hp).2, ho⟩
theorem gath_fin {g h : Heap} {L : Addr} (_F : Fr g L h m) (N : News g L h ((ql, listOf (pl.map Value.ref ++ [Value.ref D2]).toArray (nq + 1)) :: (D2, listOf v2.toArray c2) :: (D1, listOf w1.toArray n1) :: (gl, o3) :: (ml, o4) :: (tl ++ own)))
    (hi1 : IntsAre w1 (met ++ gg)) (hi2 : IntsAre v2 n2) (hp2 : n2.Perm gg) (ho2 : n2.Pairwise (· ≤ ·)) (hG : Gath (adjT es) (order.take i) [] met ps) (hv : order[i]? = some v) (hout : v ∉ met) (hgr : Grp (adjT es) met v gg) (hps : Parts tl pl ps)
    (l1 : gl < D1 ∧ ml < D1 ∧ ql < D1 ∧ AllLt D1 (tl ++ own)) (l2 : D1 < D2 ∧ gl < D2 ∧ ml < D2 ∧ ql < D2 ∧ AllLt D2 (tl ++ own)) (hoff : ∀ p ∈ tl, p.1 ≠ ml ∧ p.1 ≠ ql)
    (hsep : ∀ p ∈ own, ∀ q ∈ (ml, listOf vm.toArray nm) :: (ql, listOf (pl.map Value.ref).toArray nq) :: tl, p.1 ≠ q.1)
    (m1 : m (Str.ofString "met") = some (.ref D1)) (m2 : m (Str.ofString "parts") = some (.ref ql)) (m3 : m (Str.ofString "town") = some (.ref tw)) :
    ∃ nx led, News g L h led ∧ (∀ p ∈ nx, p ∈ led) ∧ (∀ p ∈ own, p ∈ led) ∧ (∀ p ∈ own, ∀ q ∈ nx, p.1 ≠ q.1) ∧ AJ es order tw (i + 1) m nx := by
  have f1 := allNe_eq l1.2.2.2
  have f2 := allNe_eq l2.2.2.2.2
  refine ⟨(D1, listOf w1.toArray n1) :: (ql, listOf ((pl ++ [D2]).map Value.ref).toArray (nq + 1)) :: (D2, listOf v2.toArray c2) :: tl, _, N, ?_, ?_, ?_, D1, w1, n1, ql, pl ++ [D2], nq + 1, (D2, listOf v2.toArray c2) :: tl, met ++ gg, ps ++ [isort gg], rfl, hi1, ?_, ?_, Nat.ne_of_gt l1.2.2.1, ?_, m1, m2, m3⟩
  · rw [List.map_append, List.map_cons, List.map_nil]
    intro p hp; simp only [List.mem_cons, List.mem_append] at hp ⊢; grind
  · intro p hp; simp [hp]
  · intro p hp q hq
    have h1 := hsep p hp
    simp only [List.forall_mem_cons] at h1
    simp only [List.mem_cons] at hq
    rcases hq with rfl | rfl | rfl | hq
    · exact f1 p (List.mem_append_right _ hp)
    · exact h1.2.1
    · exact f2 p (List.mem_append_right _ hp)
    · exact h1.2.2 q hq
  · rw [take_snoc hv]
    exact Gath.append hG (.group hout hgr (.nil _))
  · refine (hps.mono fun p hp => List.mem_cons_of_mem _ hp).snoc (List.mem_cons_self ..) ?_
    rw [← isort_of hp2 ho2]; exact hi2
  · intro p hp
    rcases List.mem_cons.mp hp with rfl | hp
    · exact ⟨Nat.ne_of_gt l2.1, Nat.ne_of_gt l2.2.2.2.1⟩
    · exact ⟨f1 p (List.mem_append_left _ hp), (hoff p hp).2⟩
end
end Mine
end
-- BaseS
section
open PySem PySem.W PySem.Spec PySem.Calls PyProof.Rows
namespace Mine
section
variable {prog : Program} {w : World} {A : Around} {E : Value → Shared → Prop} {s : Shared} {env : Env} {h₀ : Heap} {target : Expr} {body : List Stmt} {Q : Flow → Shared → Prop}
/-- a loop over a range -/
theorem loop_rangeS {r : Addr} {a b c : Int} {t u v : Tok} {n : Nat} {m : Str → Option Value} {nx kc : Led} (J : Nat → (Str → Option Value) → Led → Prop)
    (hh : A.handled = none) (hr : IsRange s.heap r a b c t u v) (hsm : Builtin.Range.small a b c = true) (hn : Builtin.Range.rangeSize a b c = ((n : Nat) : Int)) (hks : ∀ p ∈ kc, ∀ q ∈ nx, p.1 ≠ q.1) (F : Fr h₀ env.locals s.heap m) (N : News h₀ env.locals s.heap (kc ++ nx)) (hj : J 0 m nx)
    (turn : ∀ i t m₁ nx s₁ own, i < n → J i m₁ nx → (∀ p ∈ own, ∀ q ∈ nx, p.1 ≠ q.1) → (∀ p ∈ kc, p ∈ own) → Fr h₀ env.locals (Shared.heap s₁) m₁ → News h₀ env.locals s₁.heap (nx ++ own) →
      wpAny (model prog w) A (assign target env (.int (a + (i : Int) * c) t)) (fun _ s₃ => wpAny (model prog w) A (execs body env) (LpEnd h₀ env.locals own (J (i + 1)) s₁) E s₃) E s₁)
    (done : ∀ h tk m' nx, Fr h₀ env.locals h m' → News h₀ env.locals h (kc ++ nx) → J n m' nx → (∀ p ∈ kc, ∀ q ∈ nx, p.1 ≠ q.1) → Q .next { s with heap := h, toks := tk })
    (hgo : ∀ (I : Value) (s' : Shared) (v : Value) (Q' : Unit → Shared → Prop), Q' () s' → wpAny (model prog w) A (letOwnedTupleGo target I v) Q' E s' := by intro _ _ _ _ hq; exact wpAny_pure hq) :
    wpAny (model prog w) A (pyIter (.ref r)) (fun it s₂ => LoopAtT prog w A h₀ env target body Q E it s₂) E s := by
  refine wpAny_pyIter_range hr hsm ?_
  have hnew : ∀ p ∈ kc ++ nx, p.1 ≠ s.heap.objs.size := fun p hp => Nat.ne_of_lt (Heap.lt_size (N p hp).1)
  refine loop_genC (kc := kc) J (Walks.range hh _ a c n) ?_ (next_is_new F) (fun i h st b hb => ⟨_, List.mem_singleton.mp hb ▸ st⟩) (fun p hp hm => hnew p (List.mem_append_right _ hp) (List.mem_singleton.mp hm)) (fun p hp hm => hnew p (List.mem_append_left _ hp) (List.mem_singleton.mp hm)) hks (by show IsRangeIter _ _ _ _ _; rw [hn]; simpa using Heap.get?_push_size _ rfl) (F.push _) (fun p hp => ⟨Heap.get?_push_of_some _ (N p hp).1, (N p hp).2⟩)
    (fun i s' v Q' st hQ' => hgo _ s' v Q' hQ') hj (fun i v m₁ nx s₁ own hi hP => by obtain ⟨t, rfl⟩ := hP; exact turn i t m₁ nx s₁ own hi) done
  intro hm; exact absurd F.ns.lt (List.mem_singleton.mp hm ▸ Nat.lt_irrefl _)
end
theorem tokGenG {α : Type} {M : Model} {A : Around} {t : Sem α} {Q : α → Shared → Prop} {E : Value → Shared → Prop} {h : Heap} {g : Array GenState} {d : _} {k : Nat} {o : _}
    (hh : ∀ k, wpG M A t Q E { heap := h, gens := g, drawn := d, toks := k, os := o }) : wpG M A t Q E { heap := h, gens := g, drawn := d, toks := k, os := o } := hh k
def swapAt (p : Nat) : Nat := 7 * (p / 7) + (6 - p % 7)
theorem swapAt_row {i j : Nat} (hj : j < 7) : swapAt (7 * i + j) = 7 * i + (6 - j) := by
  unfold swapAt
  rw [Nat.mul_add_div (by decide), Nat.div_eq_of_lt hj, Nat.mul_add_mod, Nat.mod_eq_of_lt hj, Nat.add_zero]
theorem bInts_set (b : Array UInt8) (k : Nat) {x : Int} (h0 : 0 ≤ x) (h1 : x < 256) : KBw.bInts (b.setIfInBounds k x.toNat.toUInt8) = (KBw.bInts b).set k x := by
  have e : ((x.toNat.toUInt8).toNat : Int) = x := by
    have : x.toNat.toUInt8.toNat = x.toNat % 256 := by simp
    omega
  unfold KBw.bInts
  rw [Array.toList_setIfInBounds, List.map_set, e]
/-- i halves and j places of the next are turned -/
def Turned (bs b : Array UInt8) (i j : Nat) : Prop := b.size = 14 ∧ ∀ p, (p / 7 < i ∨ (p / 7 = i ∧ 6 - p % 7 < j)) → (KBw.bInts b).getD p 0 = (KBw.bInts bs).getD (swapAt p) 0
theorem Turned.zero (bs : Array UInt8) : Turned bs (Array.replicate 14 0) 0 0 := ⟨by simp, fun p h => by rcases h with h | h <;> omega⟩
theorem Turned.next {bs b : Array UInt8} {i : Nat} (h : Turned bs b i 7) : Turned bs b (i + 1) 0 := ⟨h.1, fun p hp => h.2 p (by omega)⟩
theorem Turned.set {bs b : Array UInt8} {i j : Nat} (h : Turned bs b i j) (hi : i < 2) (hj : j < 7) {k : Nat} {x : Int} (h0 : 0 ≤ x) (h1 : x < 256) (hk : k = 7 * i + 6 - j) (hx : x = (KBw.bInts bs).getD (7 * i + j) 0) : Turned bs (b.setIfInBounds k x.toNat.toUInt8) i (j + 1) := by
  refine ⟨by simp [h.1], fun p hp => ?_⟩
  have hb := h.1
  have hl : (KBw.bInts b).length = 14 := (KBw.ints_length b).trans hb
  rw [bInts_set b k h0 h1]
  by_cases e : k = p
  · subst e
    have e2 : swapAt k = 7 * i + j := by
      clear hx h0 h1 hl hb hp h
      rw [show k = 7 * i + (6 - j) by omega, swapAt_row (by omega)]; omega
    rw [e2, ← hx, List.getD_eq_getElem?_getD, List.getElem?_set_self (by omega)]; rfl
  · rw [List.getD_eq_getElem?_getD, List.getElem?_set_ne e, ← List.getD_eq_getElem?_getD]
    exact h.2 p (by omega)
def SwJ (bs : Array UInt8) (t t2 : Tok) (S : Addr) (i : Nat) (m : Str → Option Value) (nx : Led) : Prop :=
  ∃ b, nx = [(S, baObj b)] ∧ Turned bs b i 0 ∧ m (Str.ofString "swapped_data") = some (.ref S) ∧ m (Str.ofString "data") = some (.bytes bs t) ∧ m (Str.ofString "width") = some (.int 7 t2)
def SwJ2 (bs : Array UInt8) (t t2 : Tok) (S : Addr) (i : Nat) (ti : Tok) (j : Nat) (m : Str → Option Value) (nx : Led) : Prop :=
  ∃ b, nx = [(S, baObj b)] ∧ Turned bs b i j ∧ m (Str.ofString "swapped_data") = some (.ref S) ∧ m (Str.ofString "data") = some (.bytes bs t) ∧ m (Str.ofString "width") = some (.int 7 t2) ∧ m (Str.ofString "i") = some (.int (0 + (i : Int) * 7) ti)
def SwapPost (bs : Array UInt8) (news : Led) (r : Value) (nw : Led) : Prop := ∃ b tb, r = .bytes b tb ∧ nw = news ∧ Turned bs b 2 0
end Mine
end
-- Flat
section
open PySem PySem.W PySem.Spec PySem.Calls PyProof.Rows PyProof.Rows.LCg
set_option maxRecDepth 100000
set_option maxHeartbeats 2000000
namespace Mine
theorem turn2_in (elt t0 i0 t1 i1 : Expr) (scope : Scope) (pos : Pos) (it acc : Value) (env : Env) :
    compTurn (.ListComp elt [⟨t0, i0, [], 0⟩, ⟨t1, i1, [], 0⟩] scope pos) 1 it acc env = (do
      standAt i1.pos
      match ← pyNext it with
      | none => pure (.done .next)
      | some v =>
        letOwnedTupleGo t1 it v
        assign t1 env v
        (do let _ ← call (.builtin "list.append") [acc, ← eval elt env])
        again (.compLoop (.ListComp elt [⟨t0, i0, [], 0⟩, ⟨t1, i1, [], 0⟩] scope pos) 1 it acc env)) := by rfl
theorem turn2_out (elt t0 i0 t1 i1 : Expr) (scope : Scope) (pos : Pos) (it acc : Value) (env : Env) :
    compTurn (.ListComp elt [⟨t0, i0, [], 0⟩, ⟨t1, i1, [], 0⟩] scope pos) 0 it acc env = (do
      standAt i0.pos
      match ← pyNext it with
      | none => pure (.done .next)
      | some v =>
        letOwnedTupleGo t0 it v
        assign t0 env v
        let x ← eval i1 env
        standAt i1.pos
        let x ← foldedSetIterable i1 env x
        let _ ← runOwn (.compStart (.ListComp elt [⟨t0, i0, [], 0⟩, ⟨t1, i1, [], 0⟩] scope pos) 1 (← holding [x] (pyIter x)) acc env) env
        again (.compLoop (.ListComp elt [⟨t0, i0, [], 0⟩, ⟨t1, i1, [], 0⟩] scope pos) 0 it acc env)) := by rfl

section
variable {prog : Program} {w : World} {A : Around} {E : Value → Shared → Prop} {s : Shared} {R : Result → Shared → Prop} {env : Env}
/-- the inner clause walks a part -/
theorem flat_in {t0 i0 i1 : Expr} {z : Str} {pz pe : Pos} {scope : Scope} {cl : List (Str × Addr)} {pos : Pos} {vs ys : List Value} {J pa C D : Addr} {m : Str → Option Value}
    (hh : A.handled = none) (hkind : scope.kind = .function) (hz : scope.names.lookup z = some .local) (hzd : (z == ("__debug__" : Str)) = false) (hsz : ys.length + vs.length ≤ sizeLine)
    (hJC : J ≠ C) (hJD : J ≠ D) (hpJ : pa ≠ J) (hpC : pa ≠ C) (hpD : pa ≠ D) (hCD : C ≠ D)
    (hit : s.heap.IsListIter J pa 0) (hl : s.heap.IsList pa vs.toArray) (hn : s.heap.Ns C m) (hD : s.heap.get? D = some (lst ys))
    (done : ∀ h' tk m', (∀ b o, b ≠ J → b ≠ C → b ≠ D → s.heap.get? b = some o → h'.get? b = some o) → h'.Ns C m' → h'.get? D = some (lst (ys ++ vs)) → R (.ok .next) { s with heap := h', toks := tk }) :
    codeAny (model prog w) A (.compLoop (.ListComp (.Name z pe) [⟨t0, i0, [], 0⟩, ⟨.Name z pz, i1, [], 0⟩] scope pos) 1 (.ref J) (.ref D) (compEnvC scope cl C env)) R s := by
  have W := Walks.list (prog := prog) (w := w) hh J pa hpJ vs.toArray
  refine codeAny_loop rfl (fun k s' => ∃ h' tk i m', s' = { s with heap := h', toks := tk } ∧ i ≤ vs.length ∧ k = vs.length + 1 - i ∧ (h'.IsListIter J pa i ∧ h'.IsList pa vs.toArray) ∧
    (∀ b o, b ≠ J → b ≠ C → b ≠ D → s.heap.get? b = some o → h'.get? b = some o) ∧ h'.Ns C m' ∧ h'.get? D = some (lst (ys ++ vs.take i))) ?_ (vs.length + 1)
    ⟨_, _, 0, m, rfl, Nat.zero_le _, rfl, ⟨hit, hl⟩, fun _ _ _ _ _ e => e, hn, by rw [List.take_zero, List.append_nil]; exact hD⟩
  rintro k s' ⟨h', tk, i, m', rfl, hi, rfl, st, old, hn', hD'⟩
  show wpAny _ A ((compTurn (.ListComp (.Name z pe) [⟨t0, i0, [], 0⟩, ⟨.Name z pz, i1, [], 0⟩] scope pos) 1 (.ref J) (.ref D) (compEnvC scope cl C env)).onRaise (fun x => do noteFrame x (compEnvC scope cl C env); theTreesLotGoes x)) _ _ _
  refine wpAny_noted ?_
  rw [turn2_in]
  refine wpAny_bind (wpAny_standAt (wpAny_bind ?_))
  by_cases hlt : i < vs.length
  · refine W.item i _ _ _ (by simpa using hlt) st fun v h₂ tk₂ hPv hst₂ hk₂ => ?_
    have hv : vs[i]? = some v := by simpa using hPv
    dsimp only
    refine wpAny_bind (wpAny_of_eq (show letOwnedTupleGo (.Name z pz) (.ref J) v = pure () from rfl) ?_)
    refine wpAny_bind (wpAny_assign_Name (wpAny_storeName_local (lookup_relabel_local hz) (hn'.at' fun o e => hk₂ C o (by simpa using Ne.symm hJC) e) (fun h₃ hn₃ hs₃ => ?_) (by simp [compEnvC, relabel, hkind])))
    refine wpAny_bind (wpAny_bind ?_)
    rw [eval_Name _ _ _ hzd]
    refine wpAny_bind (wpAny_standAt (wpAny_loadName_local (by simpa [compEnvC, relabel] using hkind) (lookup_relabel_local hz) hn₃ (if_pos rfl) ?_))
    have hs3 : Heap.SameBut C h₂ h₃ := hs₃
    have zD : h₃.get? D = some (lst (ys ++ vs.take i)) := hs3.extBut _ _ (Ne.symm hCD) (hk₂ _ _ (by simpa using Ne.symm hJD) hD')
    refine wpAny_bind (append_at (hsz := by rw [List.size_toArray, List.length_append, List.length_take]; omega) zD fun h₄ hs₄ hD₄ => ?_)
    refine wpAny_pure (wpAny_pure ⟨rfl, vs.length + 1 - (i + 1), by omega, h₄, _, i + 1, _, rfl, hlt, rfl, ?_, ?_, hn₃.sameBut hs₄ hCD, ?_⟩)
    · refine W.frame _ _ _ hst₂ fun b hb o e => hs₄.extBut b o ?_ (hs3.extBut b o ?_ e)
      · simp only [List.mem_cons, List.not_mem_nil, or_false] at hb
        rcases hb with rfl | rfl
        · exact hJD
        · exact hpD
      · simp only [List.mem_cons, List.not_mem_nil, or_false] at hb
        rcases hb with rfl | rfl
        · exact hJC
        · exact hpC
    · exact fun b o h1 h2 h3 e => hs₄.extBut b o h3 (hs3.extBut b o h2 (hk₂ b o (by simpa using h1) (old b o h1 h2 h3 e)))
    · rw [hD₄]
      refine congrArg some ((lst_snoc _ v).trans ?_)
      rw [List.append_assoc, List.take_add_one, hv]; rfl
  · obtain rfl : i = vs.length := by omega
    refine W.done _ _ _ (by simpa using st) fun h₂ tk₂ hk₂ => ?_
    refine wpAny_pure (done h₂ tk₂ m' (fun b o h1 h2 h3 e => hk₂ b o (by simpa using h1) (old b o h1 h2 h3 e)) (hn'.at' fun o e => hk₂ C o (by simpa using Ne.symm hJC) e) ?_)
    have z := hk₂ _ _ (by simpa using Ne.symm hJD) hD'
    rwa [List.take_length] at z

theorem Parts.get {news : Led} {as : List Addr} {ps : List (List Int)} (h : Parts news as ps) : ∀ {i : Nat} {a : Addr}, as[i]? = some a → ∃ vs n p, (a, listOf vs.toArray n) ∈ news ∧ IntsAre vs p ∧ ps[i]? = some p := by
  induction h with
  | nil => intro i a e; simp at e
  | cons hm hi _ ih =>
    intro i a e
    cases i with
    | zero => simp at e; subst e; exact ⟨_, _, _, hm, hi, rfl⟩
    | succ i => obtain ⟨vs, n, p, h1, h2, h3⟩ := ih (by simpa using e); exact ⟨vs, n, p, h1, h2, by simpa using h3⟩
theorem flat_step {ps : List (List Int)} {i : Nat} {p : List Int} (h : ps[i]? = some p) : (ps.take (i + 1)).flatten = (ps.take i).flatten ++ p := by
  rw [List.take_add_one, h]; simp
theorem flat_len {ps : List (List Int)} : ∀ {i : Nat} {p : List Int}, ps[i]? = some p → (ps.take i).flatten.length + p.length ≤ ps.flatten.length := by
  intro i p h
  have e := congrArg List.length (flat_step h)
  rw [List.length_append] at e
  rw [← e]
  have e2 := congrArg (fun q => q.flatten.length) (List.take_append_drop (i + 1) ps)
  simp only [List.flatten_append, List.length_append] at e2
  omega
theorem start1 {elt t0 i0 t1 i1 : Expr} {scope : Scope} {pos : Pos} {it acc : Value}
    (h0 : codeAny (model prog w) A (.compLoop (.ListComp elt [⟨t0, i0, [], 0⟩, ⟨t1, i1, [], 0⟩] scope pos) 1 it acc env) R s)
    (h : wpAny (model prog w) A (pyIter it) (fun it' s' => codeAny (model prog w) A (.compLoop (.ListComp elt [⟨t0, i0, [], 0⟩, ⟨t1, i1, [], 0⟩] scope pos) 1 it' acc env) R s')
      (notedBy (model prog w) A env fun x s' => R (.error x) s') s) :
    codeAny (model prog w) A (.compStart (.ListComp elt [⟨t0, i0, [], 0⟩, ⟨t1, i1, [], 0⟩] scope pos) 1 it acc env) R s := by
  refine codeAny_of_tree ?_
  show wpAny _ _ ((compStart (.ListComp elt [⟨t0, i0, [], 0⟩, ⟨t1, i1, [], 0⟩] scope pos) 1 it acc env).onRaise (fun x => do noteFrame x env; standAt theWindowsPlace)) _ _ s
  refine wpAny_notedAt ?_
  unfold compStart
  show wpAny _ _ (ask >>= _) _ _ s
  refine wpAny_bind (wpAny_askSetting (wpAny_ite ?_))
  split
  · first
      | exact wpAny_bind (wpAny_pure (wpAny_pure (And.intro rfl h0)))
      | exact wpAny_pure (And.intro rfl h0)
  · first
      | exact wpAny_bind (wpAny_rule (wpAny_bind (wpAny_standAt (wpAny_bind (wpAny_mono h (fun it' s' h' => wpAny_pure (And.intro rfl h')) fun _ _ x => x)))))
      | (refine wpAny_bind (wpAny_rule ?_); show wpAny _ _ (standAt i1.pos >>= _) _ _ s; exact wpAny_bind (wpAny_standAt (wpAny_bind (wpAny_mono h (fun it' s' h' => wpAny_pure (And.intro rfl h')) fun _ _ x => x))))
/-- the outer clause walks the parts -/
theorem flat_out {i0 : Expr} {x z : Str} {px px2 pz pe : Pos} {scope : Scope} {cl : List (Str × Addr)} {pos : Pos} {h₀ : Heap} {L : Addr} {mL : Str → Option Value} {pl : List Addr} {ps : List (List Int)} {nq : Nat} {news : Led} {I ql C D : Addr} {m : Str → Option Value}
    (hh : A.handled = none) (hkind : scope.kind = .function) (hx : scope.names.lookup x = some .local) (hz : scope.names.lookup z = some .local) (hxd : (x == ("__debug__" : Str)) = false) (hzd : (z == ("__debug__" : Str)) = false) (hsz : ps.flatten.length ≤ sizeLine)
    (hIC : I ≠ C) (hID : I ≠ D) (hIL : L ≠ I) (hCL : C ≠ L) (hDL : D ≠ L) (hCD : C ≠ D) (hI₀ : h₀.get? I = none) (hC₀ : h₀.get? C = none) (hD₀ : h₀.get? D = none) (off : ∀ p ∈ news, p.1 ≠ I ∧ p.1 ≠ C ∧ p.1 ≠ D)
    (hq : (ql, listOf (pl.map Value.ref).toArray nq) ∈ news) (hps : Parts news pl ps)
    (hit : s.heap.IsListIter I ql 0) (F : Fr h₀ L s.heap mL) (N : News h₀ L s.heap ((D, lst []) :: news)) (hn : s.heap.Ns C m)
    (done : ∀ h' tk m' ys, Fr h₀ L h' mL → News h₀ L h' ((D, lst ys) :: news) → h'.Ns C m' → IntsAre ys ps.flatten → R (.ok .next) { s with heap := h', toks := tk }) :
    codeAny (model prog w) A (.compLoop (.ListComp (.Name z pe) [⟨.Name x px, i0, [], 0⟩, ⟨.Name z pz, .Name x px2, [], 0⟩] scope pos) 0 (.ref I) (.ref D) (compEnvC scope cl C env)) R s := by
  have hqI : ql ≠ I := (off _ hq).1
  have W := Walks.list (prog := prog) (w := w) hh I ql hqI (pl.map Value.ref).toArray
  have hsize : (pl.map Value.ref).toArray.size = pl.length := by simp
  have hplen := hps.length
  refine codeAny_loop rfl (fun k s' => ∃ h' tk i m' ys, s' = { s with heap := h', toks := tk } ∧ i ≤ pl.length ∧ k = pl.length + 1 - i ∧ (h'.IsListIter I ql i ∧ h'.IsList ql (pl.map Value.ref).toArray) ∧
    Fr h₀ L h' mL ∧ News h₀ L h' ((D, lst ys) :: news) ∧ h'.Ns C m' ∧ IntsAre ys (ps.take i).flatten) ?_ (pl.length + 1)
    ⟨_, _, 0, m, [], rfl, Nat.zero_le _, rfl, ⟨hit, ⟨_, (N _ (List.mem_cons_of_mem _ hq)).1, rfl, _, rfl⟩⟩, F, N, hn, .nil⟩
  rintro k s' ⟨h', tk, i, m', ys, rfl, hi, rfl, st, F', N', hn', hys⟩
  show wpAny _ A ((compTurn (.ListComp (.Name z pe) [⟨.Name x px, i0, [], 0⟩, ⟨.Name z pz, .Name x px2, [], 0⟩] scope pos) 0 (.ref I) (.ref D) (compEnvC scope cl C env)).onRaise (fun x => do noteFrame x (compEnvC scope cl C env); theTreesLotGoes x)) _ _ _
  refine wpAny_noted ?_
  rw [turn2_out]
  refine wpAny_bind (wpAny_standAt (wpAny_bind ?_))
  have offD : ∀ p ∈ (D, lst ys) :: news, p.1 ≠ I := fun p hp => by
    rcases List.mem_cons.mp hp with rfl | hp
    · exact Ne.symm hID
    · exact (off p hp).1
  by_cases hlt : i < pl.length
  · refine W.item i _ _ _ (by rw [hsize]; exact hlt) st fun v h₂ tk₂ hPv hst₂ hk₂ => ?_
    obtain ⟨a, ha, rfl⟩ : ∃ a, pl[i]? = some a ∧ v = Value.ref a := by
      rw [List.getElem?_toArray, List.getElem?_map] at hPv
      cases hq' : pl[i]? with
      | none => rw [hq'] at hPv; cases hPv
      | some a => rw [hq'] at hPv; exact ⟨a, rfl, (Option.some.inj hPv).symm⟩
    obtain ⟨vs, n, p, hm, hvs, hp⟩ := hps.get ha
    have hal := flat_len hp
    dsimp only
    refine wpAny_bind (wpAny_of_eq (show letOwnedTupleGo (.Name x px) (.ref I) (.ref a) = pure () from rfl) ?_)
    refine wpAny_bind (wpAny_assign_Name (wpAny_storeName_local (lookup_relabel_local hx) (hn'.at' fun o e => hk₂ C o (by simpa using Ne.symm hIC) e) (fun h₃ hn₃ hs₃ => ?_) (by simp [compEnvC, relabel, hkind])))
    have hs3 : Heap.SameBut C h₂ h₃ := hs₃
    have F₃ : Fr h₀ L h₃ mL := (fr_but F' hk₂ hIL hI₀).change hs3 hCL hC₀
    have N₂ : News h₀ L h₂ ((D, lst ys) :: news) := news_but N' hk₂ offD
    have N₃ : News h₀ L h₃ ((D, lst ys) :: news) := fun p hp => ⟨hs3.extBut _ _ (by
      rcases List.mem_cons.mp hp with rfl | hp
      · exact Ne.symm hCD
      · exact (off p hp).2.1) (N₂ p hp).1, (N₂ p hp).2⟩
    have hst₃ : h₃.IsListIter I ql (i + 1) ∧ h₃.IsList ql (pl.map Value.ref).toArray := W.frame _ _ _ hst₂ fun b hb o e => hs3.extBut b o (by
      simp only [List.mem_cons, List.not_mem_nil, or_false] at hb
      rcases hb with rfl | rfl
      · exact hIC
      · exact (off _ hq).2.1) e
    rw [eval_Name _ _ _ hxd]
    refine wpAny_bind (wpAny_bind (wpAny_standAt (wpAny_loadName_local (by simpa [compEnvC, relabel] using hkind) (lookup_relabel_local hx) hn₃ (if_pos rfl) ?_)))
    refine wpAny_bind (wpAny_standAt (wpAny_bind (wpAny_of_eq (show foldedSetIterable (.Name x px2) _ (.ref a) = pure (.ref a) from rfl) ?_)))
    have hla : h₃.IsList a vs.toArray := ⟨_, (N₃ _ (List.mem_cons_of_mem _ hm)).1, rfl, _, rfl⟩
    refine wpAny_bind (wpAny_holding (wpAny_pyIter_list hla ?_))
    dsimp only
    have up : ∀ b o, h₃.get? b = some o → (h₃.push { cls := .type "list_iterator", data := .fields #[.ref a, .int 0 0] }).get? b = some o := fun b o e => Heap.get?_push_of_some _ e
    obtain ⟨oC, heC, hoC⟩ := ns_obj hn₃
    have ne_of : ∀ {b : Addr} {o : Obj}, h₃.get? b = some o → b ≠ h₃.objs.size := fun e => Nat.ne_of_lt (Heap.lt_size e)
    have hJC : h₃.objs.size ≠ C := (ne_of heC).symm
    have hJD : h₃.objs.size ≠ D := (ne_of (N₃ _ (.head _)).1).symm
    have hJ₀ : h₀.get? h₃.objs.size = none := next_is_new F₃
    have hlen : ys.length = (ps.take i).flatten.length := hys.length
    have hvl : vs.length = p.length := hvs.length
    refine wpAny_bind (wpAny_runOwn ?_)
    have inner : ∀ {R' : Result → Shared → Prop}, (∀ h' tk m', (∀ b o, b ≠ h₃.objs.size → b ≠ C → b ≠ D → (h₃.push { cls := .type "list_iterator", data := .fields #[.ref a, .int 0 0] }).get? b = some o → h'.get? b = some o) → h'.Ns C m' → h'.get? D = some (lst (ys ++ vs)) → R' (.ok .next) { s with heap := h', toks := tk }) →
        codeAny (model prog w) A (.compLoop (.ListComp (.Name z pe) [⟨.Name x px, i0, [], 0⟩, ⟨.Name z pz, .Name x px2, [], 0⟩] scope pos) 1 (.ref h₃.objs.size) (.ref D) (compEnvC scope cl C env)) R' { s with heap := h₃.push { cls := .type "list_iterator", data := .fields #[.ref a, .int 0 0] }, toks := tk₂ + 1 } := fun dn =>
      flat_in hh hkind hz hzd (by rw [hlen, hvl]; omega) hJC hJD (ne_of (N₃ _ (List.mem_cons_of_mem _ hm)).1) (off _ hm).2.1 (off _ hm).2.2 hCD ⟨_, Heap.get?_push_size _ rfl, rfl, rfl⟩ (hla.push _) (hn₃.at' fun o e => up _ _ e) (up _ _ (N₃ _ (.head _)).1) dn
    have ends : ∀ h' tk m', (∀ b o, b ≠ h₃.objs.size → b ≠ C → b ≠ D → (h₃.push { cls := .type "list_iterator", data := .fields #[.ref a, .int 0 0] }).get? b = some o → h'.get? b = some o) → h'.Ns C m' → h'.get? D = some (lst (ys ++ vs)) →
        ∃ k, k < pl.length + 1 - i ∧ ∃ h'' tk' i m' ys, ({ s with heap := h', toks := tk } : Shared) = { s with heap := h'', toks := tk' } ∧ i ≤ pl.length ∧ k = pl.length + 1 - i ∧ (h''.IsListIter I ql i ∧ h''.IsList ql (pl.map Value.ref).toArray) ∧
          Fr h₀ L h'' mL ∧ News h₀ L h'' ((D, lst ys) :: news) ∧ h''.Ns C m' ∧ IntsAre ys (ps.take i).flatten := by
      intro h4 tk4 m4 k4 n4 d4
      have keep : ∀ b o, b ≠ C → b ≠ D → h₃.get? b = some o → h4.get? b = some o := fun b o h1 h2 e => k4 b o (ne_of e) h1 h2 (up _ _ e)
      refine ⟨pl.length + 1 - (i + 1), by omega, h4, tk4, i + 1, m4, ys ++ vs, rfl, hlt, rfl, ?_, ?_, ?_, n4, ?_⟩
      · refine W.frame _ _ _ hst₃ fun b hb o e => keep b o ?_ ?_ e
        · simp only [List.mem_cons, List.not_mem_nil, or_false] at hb
          rcases hb with rfl | rfl
          · exact hIC
          · exact (off _ hq).2.1
        · simp only [List.mem_cons, List.not_mem_nil, or_false] at hb
          rcases hb with rfl | rfl
          · exact hID
          · exact (off _ hq).2.2
      · refine ⟨F₃.ns.at' fun o e => keep L o (Ne.symm hCL) (Ne.symm hDL) e, fun b o e => keep b o ?_ ?_ (F₃.keep b o e), F₃.above⟩
        · intro q; rw [q, hC₀] at e; cases e
        · intro q; rw [q, hD₀] at e; cases e
      · intro p hp
        rcases List.mem_cons.mp hp with rfl | hp
        · exact ⟨d4, hDL, hD₀⟩
        · have z := N₃ p (List.mem_cons_of_mem _ hp)
          exact ⟨keep _ _ (off p hp).2.1 (off p hp).2.2 z.1, z.2⟩
      · rw [flat_step hp]
        exact hys.append hvs
    have fini : ∀ {R' : Result → Shared → Prop}, (∀ h' tk, (∃ k, k < pl.length + 1 - i ∧ ∃ h'' tk' i m' ys, ({ s with heap := h', toks := tk } : Shared) = { s with heap := h'', toks := tk' } ∧ i ≤ pl.length ∧ k = pl.length + 1 - i ∧ (h''.IsListIter I ql i ∧ h''.IsList ql (pl.map Value.ref).toArray) ∧
          Fr h₀ L h'' mL ∧ News h₀ L h'' ((D, lst ys) :: news) ∧ h''.Ns C m' ∧ IntsAre ys (ps.take i).flatten) → R' (.ok .next) { s with heap := h', toks := tk }) → codeAny (model prog w) A (.compLoop (.ListComp (.Name z pe) [⟨.Name x px, i0, [], 0⟩, ⟨.Name z pz, .Name x px2, [], 0⟩] scope pos) 1 (.ref h₃.objs.size) (.ref D) (compEnvC scope cl C env)) R' { s with heap := h₃.push { cls := .type "list_iterator", data := .fields #[.ref a, .int 0 0] }, toks := tk₂ + 1 } :=
      fun dn => inner fun h' tk m' k n d => dn h' tk (ends h' tk m' k n d)
    refine start1 (fini fun h' tk e => ?_) (wpAny_pyIter_listiter ⟨_, Heap.get?_push_size _ rfl, rfl, rfl⟩ (fini fun h' tk e => ?_))
    · exact wpAny_pure ⟨rfl, e⟩
    · exact wpAny_pure ⟨rfl, e⟩
  · obtain rfl : i = pl.length := by omega
    refine W.done _ _ _ (by rw [hsize]; exact st) fun h₂ tk₂ hk₂ => ?_
    rw [hplen, List.take_length] at hys
    exact wpAny_pure (done h₂ tk₂ m' ys (fr_but F' hk₂ hIL hI₀) (news_but N' hk₂ offD) (hn'.at' fun o e => hk₂ C o (by simpa using Ne.symm hIC) e) hys)

/-- where the comprehension of two clauses begins -/
def FlatSrc (A : Around) (h₀ : Heap) (L : Addr) (m : Str → Option Value) (news : Led) (ql : Addr) (ps : List (List Int)) (Q : Value → Shared → Prop) (v : Value) (s₁ : Shared) : Prop :=
  v = .ref ql ∧ A.handled = none ∧ Fr h₀ L s₁.heap m ∧ News h₀ L s₁.heap news ∧ ∀ D h tk ys, IntsAre ys ps.flatten → Fr h₀ L h m → News h₀ L h ((D, lst ys) :: news) → (∀ p ∈ news, p.1 < D) → Q (.ref D) { s₁ with heap := h, toks := tk }
theorem flat_comp {i0 : Expr} {x z : Str} {px px2 pz pe : Pos} {scope : Scope} {cl : List (Str × Addr)} {pos : Pos} {h₀ : Heap} {L : Addr} {mL : Str → Option Value} {pl : List Addr} {ps : List (List Int)} {nq : Nat} {news : Led} {ql : Addr} {Q : Value → Shared → Prop}
    (hq : (ql, listOf (pl.map Value.ref).toArray nq) ∈ news) (hps : Parts news pl ps) (hsz : ps.flatten.length ≤ sizeLine)
    (hclos : closureFor scope env = pure cl) (hcell : ∀ y ∈ scope.names, y.2 ≠ .cell) (hkind : scope.kind = .function)
    (hnames : ∀ y ∈ scope.names, y.2 = .local → scope.names.lookup y.1 = some .local) (hx : scope.names.lookup x = some .local) (hz : scope.names.lookup z = some .local) (hxd : (x == ("__debug__" : Str)) = false) (hzd : (z == ("__debug__" : Str)) = false)
    (h : wpAny (model prog w) A (eval i0 env) (FlatSrc A h₀ L mL news ql ps Q) E s)
    (hs : ∀ x, foldedSetIterable i0 env x = pure x := by intro _; rfl) :
    wpAny (model prog w) A (eval (.ListComp (.Name z pe) [⟨.Name x px, i0, [], 0⟩, ⟨.Name z pz, .Name x px2, [], 0⟩] scope pos) env) Q E s := by
  rw [eval_ListComp]
  refine wpAny_comprehension_free (use := none) rfl hs hclos hkind hnames (wpAny_mono h (fun xv s₁ h₁ => ?_) fun _ _ e => e)
  obtain ⟨rfl, hh, F, N, fin⟩ := h₁
  have hl : s₁.heap.IsList ql (pl.map Value.ref).toArray := ⟨_, (N _ hq).1, rfl, _, rfl⟩
  refine wpAny_pyIter_list hl ?_
  generalize hI : s₁.heap.objs.size = I
  generalize hH1 : s₁.heap.push { cls := .type "list_iterator", data := .fields #[.ref ql, .int 0 0] } = H1
  have up1 : ∀ b o, s₁.heap.get? b = some o → H1.get? b = some o := fun b o e => hH1 ▸ Heap.get?_push_of_some _ e
  have hIt : H1.IsListIter I ql 0 := ⟨_, hH1 ▸ hI ▸ Heap.get?_push_size _ rfl, rfl, rfl⟩
  have hs1 : H1.objs.size = I + 1 := by rw [← hH1, Heap.size_push, hI]
  refine wpAny_newObj_type (wpAny_newFunctionEnv hcell (by intro y hy; simp at hy) (fun h₁ hns₁ hsb₁ => ?_) hkind)
  dsimp only at hns₁ hsb₁ ⊢
  generalize hH2 : H1.push { cls := .type "list", dict := none, data := .seq ([] : List Value).toArray } = H2 at hns₁ hsb₁ ⊢
  have hs2 : H2.objs.size = I + 2 := by rw [← hH2, Heap.size_push, hs1]
  rw [hs1]
  rw [hs2] at hns₁ hsb₁ ⊢
  have up2 : ∀ b o, H1.get? b = some o → H2.get? b = some o := fun b o e => hH2 ▸ Heap.get?_push_of_some _ e
  have up3 : ∀ b o, b < I + 2 → H2.get? b = some o → h₁.get? b = some o := fun b o hb e => hsb₁.extBut b o (Nat.ne_of_lt hb) (Heap.get?_push_of_some _ e)
  have hIlt : ∀ {b : Addr} {o : Obj}, s₁.heap.get? b = some o → b < I := fun e => hI ▸ Heap.lt_size e
  have old : ∀ b o, s₁.heap.get? b = some o → h₁.get? b = some o := fun b o e => up3 b o (Nat.lt_of_lt_of_le (hIlt e) (Nat.le_add_right _ _)) (up2 _ _ (up1 _ _ e))
  have fresh₀ : ∀ a, I ≤ a → h₀.get? a = none := fun a ha => by
    cases e : h₀.get? a with
    | none => rfl
    | some o' => exact absurd (hIlt (F.keep a o' e)) (Nat.not_lt.mpr ha)
  have hLlt : L < I := hI ▸ F.ns.lt
  have hacc : h₁.get? (I + 1) = some (lst []) := up3 _ _ (Nat.lt_succ_self _) (by rw [← hH2, ← hs1]; exact Heap.get?_push_size _ rfl)
  have n1 : ∀ {b : Addr}, b < I → b ≠ I ∧ b ≠ I + 2 ∧ b ≠ I + 1 := fun hb => ⟨Nat.ne_of_lt hb, Nat.ne_of_lt (Nat.lt_of_lt_of_le hb (Nat.le_add_right _ _)), Nat.ne_of_lt (Nat.lt_of_lt_of_le hb (Nat.le_add_right _ _))⟩
  have off : ∀ p ∈ news, p.1 ≠ I ∧ p.1 ≠ I + 2 ∧ p.1 ≠ I + 1 := fun p hp => n1 (hIlt (N p hp).1)
  have hit₁ : h₁.IsListIter I ql 0 := (hIt.at fun o e => up3 _ _ (Nat.lt_of_lt_of_le (Nat.lt_succ_self I) (Nat.le_add_right _ 1)) (up2 _ _ e))
  have N₁ : News h₀ L h₁ ((I + 1, lst []) :: news) := fun p hp => by
    rcases List.mem_cons.mp hp with rfl | hp
    · exact ⟨hacc, Ne.symm (n1 hLlt).2.2, fresh₀ _ (Nat.le_add_right _ _)⟩
    · exact ⟨old _ _ (N p hp).1, (N p hp).2⟩
  have loop : codeAny (model prog w) A (.compLoop (.ListComp (.Name z pe) [⟨.Name x px, i0, [], 0⟩, ⟨.Name z pz, .Name x px2, [], 0⟩] scope pos) 0 (.ref I) (.ref (I + 1)) (compEnvC scope cl (I + 2) env))
      (compPost (model prog w) A E none Q (.ref (I + 1)) (I + 2)) { s₁ with heap := h₁, toks := s₁.toks + ([] : List (Str × Value)).length } := by
    refine flat_out hh hkind hx hz hxd hzd hsz (Nat.ne_of_lt (Nat.lt_of_lt_of_le (Nat.lt_succ_self I) (Nat.le_add_right _ 1))) (Nat.ne_of_lt (Nat.lt_succ_self I)) (n1 hLlt).1 (Ne.symm (n1 hLlt).2.1) (Ne.symm (n1 hLlt).2.2) (Nat.ne_of_gt (Nat.lt_succ_self (I + 1)))
      (fresh₀ _ (Nat.le_refl _)) (fresh₀ _ (Nat.le_add_right _ _)) (fresh₀ _ (Nat.le_add_right _ _)) off hq hps hit₁ (F.keeps old) N₁ hns₁ fun h' tk m' ys F' N' hn' hys => ?_
    refine ⟨m', hn', fun h'' hs'' => fin (I + 1) h'' tk ys hys (F'.change hs'' (Ne.symm (n1 hLlt).2.1) (fresh₀ _ (Nat.le_add_right _ _))) (fun p hp => ⟨hs''.extBut _ _ ?_ (N' p hp).1, (N' p hp).2⟩) fun p hp => Nat.lt_of_lt_of_le (hIlt (N p hp).1) (Nat.le_add_right _ _)⟩
    rcases List.mem_cons.mp hp with rfl | hp
    · exact Nat.ne_of_lt (Nat.lt_succ_self (I + 1))
    · exact (off p hp).2.1
  exact codeAny_compStart_list loop (wpAny_pyIter_listiter hit₁ loop)
end
end Mine
end
-- PairT
section
open PySem PySem.W PySem.Spec PySem.Calls PyProof.Rows PyProof.Rows.LCg
set_option maxRecDepth 100000
set_option maxHeartbeats 2000000
namespace Mine
section
variable {prog : Program} {w : World} {A : Around} {E : Value → Shared → Prop} {s : Shared} {R : Result → Shared → Prop} {env : Env}
/-- one turn over the streets: the test, then the element -/
def PTurn (prog : Program) (w : World) (A : Around) (h₀ : Heap) (L : Addr) (m : Str → Option Value) (env : Env) (ct elt : Expr) (x y : Str) (scope : Scope) (cl : List (Str × Addr)) (news : Led) (ps : List (Int × Int)) (K : Nat → List Value → Prop) (s : Shared) : Prop :=
  ∀ i a b ta tb ys I oI C oC D m₂ h tk (E' : Value → Shared → Prop), ps[i]? = some (a, b) → K i ys → NsObj oC m₂ → m₂ x = some (.int a ta) → m₂ y = some (.int b tb) → Fr h₀ L h m → News h₀ L h ((I, oI) :: (C, oC) :: (D, lst ys) :: news) → Off3 I C D news → ((@Ne Nat I C) ∧ (@Ne Nat I D) ∧ (@Ne Nat C D)) →
    wpAny (model prog w) A (isTrue ct (compEnvC scope cl C env) (eval ct (compEnvC scope cl C env))) (fun ok s' => if ok = true then
      wpAny (model prog w) A (eval elt (compEnvC scope cl C env)) (CompEnd h₀ L m { s with heap := h, toks := tk } I oI C oC D (lst ys) (fun nw => nw = news) (fun v _ => K (i + 1) (ys ++ [v]))) E' s'
      else CompEnd h₀ L m { s with heap := h, toks := tk } I oI C oC D (lst ys) (fun nw => nw = news) (fun _ _ => K (i + 1) ys) Value.none s') E' { s with heap := h, toks := tk }
theorem pair_loop {ct elt iter : Expr} {x y : Str} {px py tp : Pos} {x1} {scope : Scope} {cl : List (Str × Addr)} {pos : Pos} {h₀ : Heap} {L : Addr} {mL : Str → Option Value} {tl : List Addr} {ps : List (Int × Int)} {nq : Nat} {news : Led} {I ql C D : Addr} {m : Str → Option Value} {K : Nat → List Value → Prop} {s₀ : Shared}
    (hh : A.handled = none) (hkind : scope.kind = .function) (hx : scope.names.lookup x = some .local) (hy : scope.names.lookup y = some .local) (hxy : x ≠ y) (hsz : ps.length ≤ sizeLine)
    (hIC : I ≠ C) (hID : I ≠ D) (hIL : L ≠ I) (hCL : C ≠ L) (hDL : D ≠ L) (hCD : C ≠ D) (hI₀ : h₀.get? I = none) (hC₀ : h₀.get? C = none) (hD₀ : h₀.get? D = none) (off : ∀ p ∈ news, p.1 ≠ I ∧ p.1 ≠ C ∧ p.1 ≠ D)
    (hq : (ql, listOf (tl.map Value.ref).toArray nq) ∈ news) (hps : IPairs news tl ps)
    (hit : s.heap.IsListIter I ql 0) (F : Fr h₀ L s.heap mL) (N : News h₀ L s.heap ((D, lst []) :: news)) (hn : s.heap.Ns C m) (hK : K 0 []) (turn : PTurn prog w A h₀ L mL env ct elt x y scope cl news ps K s)
    (done : ∀ h' tk m' ys, Fr h₀ L h' mL → News h₀ L h' ((D, lst ys) :: news) → h'.Ns C m' → K ps.length ys → R (.ok .next) { s with heap := h', toks := tk }) :
    codeAny (model prog w) A (.compLoop (.ListComp elt [⟨.Tuple [.Name x px, .Name y py] x1 tp, iter, [ct], 0⟩] scope pos) 0 (.ref I) (.ref D) (compEnvC scope cl C env)) R s := by
  have W := Walks.list (prog := prog) (w := w) hh I ql (off _ hq).1 (tl.map Value.ref).toArray
  have hsize : (tl.map Value.ref).toArray.size = tl.length := by simp
  have hplen := hps.length
  refine codeAny_loop rfl (fun k s' => ∃ h' tk i m' ys, s' = { s with heap := h', toks := tk } ∧ i ≤ tl.length ∧ k = tl.length + 1 - i ∧ (h'.IsListIter I ql i ∧ h'.IsList ql (tl.map Value.ref).toArray) ∧
    Fr h₀ L h' mL ∧ News h₀ L h' ((D, lst ys) :: news) ∧ h'.Ns C m' ∧ ys.length ≤ i ∧ K i ys) ?_ (tl.length + 1)
    ⟨_, _, 0, m, [], rfl, Nat.zero_le _, rfl, ⟨hit, ⟨_, (N _ (List.mem_cons_of_mem _ hq)).1, rfl, _, rfl⟩⟩, F, N, hn, Nat.le_refl _, hK⟩
  rintro k s' ⟨h', tk, i, m', ys, rfl, hi, rfl, st, F', N', hn', hyl, hKi⟩
  show wpAny _ A ((compTurn (.ListComp elt [⟨.Tuple [.Name x px, .Name y py] x1 tp, iter, [ct], 0⟩] scope pos) 0 (.ref I) (.ref D) (compEnvC scope cl C env)).onRaise (fun x => do noteFrame x (compEnvC scope cl C env); theTreesLotGoes x)) _ _ _
  refine wpAny_noted ?_
  rw [compTurn_list]
  refine wpAny_bind (wpAny_standAt (wpAny_bind ?_))
  have offD : ∀ p ∈ (D, lst ys) :: news, p.1 ≠ I ∧ p.1 ≠ C := fun p hp => by
    rcases List.mem_cons.mp hp with rfl | hp
    · exact ⟨Ne.symm hID, Ne.symm hCD⟩
    · exact ⟨(off p hp).1, (off p hp).2.1⟩
  by_cases hlt : i < tl.length
  · refine W.item i _ _ _ (by rw [hsize]; exact hlt) st fun v h₂ tk₂ hPv hst₂ hk₂ => ?_
    obtain ⟨t, ht, rfl⟩ : ∃ a, tl[i]? = some a ∧ v = Value.ref a := by
      rw [List.getElem?_toArray, List.getElem?_map] at hPv
      cases hq' : tl[i]? with
      | none => rw [hq'] at hPv; cases hPv
      | some a => rw [hq'] at hPv; exact ⟨a, rfl, (Option.some.inj hPv).symm⟩
    obtain ⟨a, b, ta, tb, hab, hm⟩ := hps.get ht
    have N₂ : News h₀ L h₂ ((D, lst ys) :: news) := news_but N' hk₂ fun p hp => (offD p hp).1
    have htup : IsTup h₂ t #[.int a ta, .int b tb] := ⟨_, (N₂ _ (List.mem_cons_of_mem _ hm)).1, rfl, _, rfl⟩
    dsimp only
    refine wpAny_bind (wpAny_letOwnedTupleGo_listiter hst₂.1 ?_)
    refine wpAny_bind (assign_Tuple_tuple hh htup rfl rfl fun h₅ he => ?_)
    have he' : ∀ b o, h₂.get? b = some o → h₅.get? b = some o := fun b o e => he b o (Nat.ne_of_lt (Heap.lt_size e)) e
    refine assignInOrder_cons (wpAny_assign_Name (wpAny_storeName_local (lookup_relabel_local hx) ((hn'.at' fun o e => hk₂ _ o (by simpa using Ne.symm hIC) e).at' fun o e => he' _ o e) (fun h₆ hn₆ hs₆ => ?_) (by simp [compEnvC, relabel, hkind])))
    refine assignInOrder_cons (wpAny_assign_Name (wpAny_storeName_local (lookup_relabel_local hy) hn₆ (fun h₃ hn₃ hs₃ => ?_) (by simp [compEnvC, relabel, hkind])))
    refine assignInOrder_nil ?_
    have old3 : ∀ b o, b ≠ C → h₂.get? b = some o → h₃.get? b = some o := fun b o hb e => hs₃.extBut b o hb (hs₆.extBut b o hb (he' b o e))
    have F₃ : Fr h₀ L h₃ mL := (((fr_but F' hk₂ hIL hI₀).keeps he').change hs₆ hCL hC₀).change hs₃ hCL hC₀
    have N₃ : News h₀ L h₃ ((D, lst ys) :: news) := fun p hp => ⟨old3 _ _ (offD p hp).2 (N₂ p hp).1, (N₂ p hp).2⟩
    have hst₃ : h₃.IsListIter I ql (i + 1) ∧ h₃.IsList ql (tl.map Value.ref).toArray := W.frame _ _ _ hst₂ fun b hb o e => old3 b o (by
      simp only [List.mem_cons, List.not_mem_nil, or_false] at hb
      rcases hb with rfl | rfl
      · exact hIC
      · exact (off _ hq).2.1) e
    obtain ⟨oC, heC, hoC⟩ := ns_obj hn₃
    obtain ⟨oI, heI, hoI1, hoI2⟩ := hst₃.1
    have N4 : News h₀ L h₃ ((I, oI) :: (C, oC) :: (D, lst ys) :: news) := fun p hp => by
      rcases List.mem_cons.mp hp with rfl | hp
      · exact ⟨heI, Ne.symm hIL, hI₀⟩
      · rcases List.mem_cons.mp hp with rfl | hp
        · exact ⟨heC, hCL, hC₀⟩
        · exact N₃ p hp
    refine wpAny_bind (wpAny_tests_one (wpAny_mono (turn i a b ta tb ys I oI C oC D _ h₃ _ _ hab hKi hoC (by simp [hxy]) (by simp) F₃ N4 (Off3.of off) ⟨hIC, hID, hCD⟩) (fun ok s₄ h₄ => ?_) fun _ _ e => e))
    cases ok with
    | true =>
      simp only [if_true] at h₄ ⊢
      refine wpAny_bind (wpAny_bind (wpAny_mono h₄ (fun v s₅ h₅ => ?_) fun _ _ e => e))
      obtain ⟨h₇, tk₇, nw, rfl, F₇, N₇, off₇, rfl, hK'⟩ := h₅
      have zC := (N₇ (C, oC) (.tail _ (.head _))).1
      have zD := (N₇ (D, lst ys) (.tail _ (.tail _ (.head _)))).1
      refine wpAny_bind (append_at (hsz := by rw [List.size_toArray]; omega) zD fun h₈ hs₈ hD₈ => ?_)
      have N₈ : News h₀ L h₈ ((D, lst (ys ++ [v])) :: nw) := fun p hp => by
        rcases List.mem_cons.mp hp with rfl | hp
        · exact ⟨hD₈.trans (congrArg some (lst_snoc ys v)), hDL, hD₀⟩
        · have z := N₇ p (.tail _ (.tail _ (.tail _ hp)))
          exact ⟨hs₈.extBut _ _ (off p hp).2.2 z.1, z.2⟩
      have hL8 : h₈.IsList ql (tl.map Value.ref).toArray := ⟨_, (N₈ _ (List.mem_cons_of_mem _ hq)).1, rfl, _, rfl⟩
      refine wpAny_pure (wpAny_pure ⟨rfl, tl.length + 1 - (i + 1), by omega, h₈, tk₇, i + 1, _, ys ++ [v], rfl, hlt, rfl, ⟨⟨oI, hs₈.extBut _ _ hID (N₇ (I, oI) (.head _)).1, hoI1, hoI2⟩, hL8⟩, F₇.change hs₈ hDL hD₀, N₈,
        (hoC.ns zC).sameBut hs₈ hCD, by rw [List.length_append, List.length_singleton]; omega, hK'⟩)
    | false =>
      simp only [Bool.false_eq_true, if_false] at h₄ ⊢
      obtain ⟨h₇, tk₇, nw, rfl, F₇, N₇, off₇, rfl, hK'⟩ := h₄
      have zC := (N₇ (C, oC) (.tail _ (.head _))).1
      have N₈ : News h₀ L h₇ ((D, lst ys) :: nw) := fun p hp => N₇ p (.tail _ (.tail _ hp))
      have hL8 : h₇.IsList ql (tl.map Value.ref).toArray := ⟨_, (N₈ _ (List.mem_cons_of_mem _ hq)).1, rfl, _, rfl⟩
      exact wpAny_pure ⟨rfl, tl.length + 1 - (i + 1), by omega, h₇, tk₇, i + 1, _, ys, rfl, hlt, rfl, ⟨⟨oI, (N₇ (I, oI) (.head _)).1, hoI1, hoI2⟩, hL8⟩, F₇, N₈, hoC.ns zC, by omega, hK'⟩
  · obtain rfl : i = tl.length := by omega
    refine W.done _ _ _ (by rw [hsize]; exact st) fun h₂ tk₂ hk₂ => ?_
    rw [hplen] at hKi
    exact wpAny_pure (done h₂ tk₂ m' ys (fr_but F' hk₂ hIL hI₀) (news_but N' hk₂ fun p hp => (offD p hp).1) (hn'.at' fun o e => hk₂ C o (by simpa using Ne.symm hIC) e) hKi)
/-- where the comprehension over the streets begins -/
def PairSrc (prog : Program) (w : World) (A : Around) (h₀ : Heap) (L : Addr) (m : Str → Option Value) (env : Env) (ct elt : Expr) (x y : Str) (scope : Scope) (cl : List (Str × Addr)) (news : Led) (ql : Addr) (ps : List (Int × Int)) (K : Nat → List Value → Prop) (Q : Value → Shared → Prop) (v : Value) (s₁ : Shared) : Prop :=
  v = .ref ql ∧ A.handled = none ∧ Fr h₀ L s₁.heap m ∧ News h₀ L s₁.heap news ∧ PTurn prog w A h₀ L m env ct elt x y scope cl news ps K s₁ ∧ ∀ D h tk ys, K ps.length ys → Fr h₀ L h m → News h₀ L h ((D, lst ys) :: news) → (∀ p ∈ news, p.1 < D) → Q (.ref D) { s₁ with heap := h, toks := tk }
theorem pair_comp {ct elt i0 : Expr} {x y : Str} {px py tp : Pos} {x1} {scope : Scope} {cl : List (Str × Addr)} {pos : Pos} {h₀ : Heap} {L : Addr} {mL : Str → Option Value} {tl : List Addr} {ps : List (Int × Int)} {nq : Nat} {news : Led} {ql : Addr} {Q : Value → Shared → Prop} (K : Nat → List Value → Prop)
    (hq : (ql, listOf (tl.map Value.ref).toArray nq) ∈ news) (hps : IPairs news tl ps) (hsz : ps.length ≤ sizeLine)
    (hclos : closureFor scope env = pure cl) (hcell : ∀ y ∈ scope.names, y.2 ≠ .cell) (hkind : scope.kind = .function)
    (hnames : ∀ y ∈ scope.names, y.2 = .local → scope.names.lookup y.1 = some .local) (hx : scope.names.lookup x = some .local) (hy : scope.names.lookup y = some .local) (hxy : x ≠ y) (hK : K 0 [])
    (h : wpAny (model prog w) A (eval i0 env) (PairSrc prog w A h₀ L mL env ct elt x y scope cl news ql ps K Q) E s)
    (hs : ∀ x, foldedSetIterable i0 env x = pure x := by intro _; rfl) :
    wpAny (model prog w) A (eval (.ListComp elt [⟨.Tuple [.Name x px, .Name y py] x1 tp, i0, [ct], 0⟩] scope pos) env) Q E s := by
  rw [eval_ListComp]
  refine wpAny_comprehension_free (use := none) rfl hs hclos hkind hnames (wpAny_mono h (fun xv s₁ h₁ => ?_) fun _ _ e => e)
  obtain ⟨rfl, hh, F, N, turn, fin⟩ := h₁
  have hl : s₁.heap.IsList ql (tl.map Value.ref).toArray := ⟨_, (N _ hq).1, rfl, _, rfl⟩
  refine wpAny_pyIter_list hl ?_
  generalize hI : s₁.heap.objs.size = I
  generalize hH1 : s₁.heap.push { cls := .type "list_iterator", data := .fields #[.ref ql, .int 0 0] } = H1
  have up1 : ∀ b o, s₁.heap.get? b = some o → H1.get? b = some o := fun b o e => hH1 ▸ Heap.get?_push_of_some _ e
  have hIt : H1.IsListIter I ql 0 := ⟨_, hH1 ▸ hI ▸ Heap.get?_push_size _ rfl, rfl, rfl⟩
  have hs1 : H1.objs.size = I + 1 := by rw [← hH1, Heap.size_push, hI]
  refine wpAny_newObj_type (wpAny_newFunctionEnv hcell (by intro y hy; simp at hy) (fun h₁ hns₁ hsb₁ => ?_) hkind)
  dsimp only at hns₁ hsb₁ ⊢
  generalize hH2 : H1.push { cls := .type "list", dict := none, data := .seq ([] : List Value).toArray } = H2 at hns₁ hsb₁ ⊢
  have hs2 : H2.objs.size = I + 2 := by rw [← hH2, Heap.size_push, hs1]
  rw [hs1]
  rw [hs2] at hns₁ hsb₁ ⊢
  have up2 : ∀ b o, H1.get? b = some o → H2.get? b = some o := fun b o e => hH2 ▸ Heap.get?_push_of_some _ e
  have up3 : ∀ b o, b < I + 2 → H2.get? b = some o → h₁.get? b = some o := fun b o hb e => hsb₁.extBut b o (Nat.ne_of_lt hb) (Heap.get?_push_of_some _ e)
  have hIlt : ∀ {b : Addr} {o : Obj}, s₁.heap.get? b = some o → b < I := fun e => hI ▸ Heap.lt_size e
  have old : ∀ b o, s₁.heap.get? b = some o → h₁.get? b = some o := fun b o e => up3 b o (Nat.lt_of_lt_of_le (hIlt e) (Nat.le_add_right _ _)) (up2 _ _ (up1 _ _ e))
  have fresh₀ : ∀ a, I ≤ a → h₀.get? a = none := fun a ha => by
    cases e : h₀.get? a with
    | none => rfl
    | some o' => exact absurd (hIlt (F.keep a o' e)) (Nat.not_lt.mpr ha)
  have hLlt : L < I := hI ▸ F.ns.lt
  have hacc : h₁.get? (I + 1) = some (lst []) := up3 _ _ (Nat.lt_succ_self _) (by rw [← hH2, ← hs1]; exact Heap.get?_push_size _ rfl)
  have n1 : ∀ {b : Addr}, b < I → b ≠ I ∧ b ≠ I + 2 ∧ b ≠ I + 1 := fun hb => ⟨Nat.ne_of_lt hb, Nat.ne_of_lt (Nat.lt_of_lt_of_le hb (Nat.le_add_right _ _)), Nat.ne_of_lt (Nat.lt_of_lt_of_le hb (Nat.le_add_right _ _))⟩
  have off : ∀ p ∈ news, p.1 ≠ I ∧ p.1 ≠ I + 2 ∧ p.1 ≠ I + 1 := fun p hp => n1 (hIlt (N p hp).1)
  have hit₁ : h₁.IsListIter I ql 0 := (hIt.at fun o e => up3 _ _ (Nat.lt_of_lt_of_le (Nat.lt_succ_self I) (Nat.le_add_right _ 1)) (up2 _ _ e))
  have N₁ : News h₀ L h₁ ((I + 1, lst []) :: news) := fun p hp => by
    rcases List.mem_cons.mp hp with rfl | hp
    · exact ⟨hacc, Ne.symm (n1 hLlt).2.2, fresh₀ _ (Nat.le_add_right _ _)⟩
    · exact ⟨old _ _ (N p hp).1, (N p hp).2⟩
  have loop : codeAny (model prog w) A (.compLoop (.ListComp elt [⟨.Tuple [.Name x px, .Name y py] x1 tp, i0, [ct], 0⟩] scope pos) 0 (.ref I) (.ref (I + 1)) (compEnvC scope cl (I + 2) env))
      (compPost (model prog w) A E none Q (.ref (I + 1)) (I + 2)) { s₁ with heap := h₁, toks := s₁.toks + ([] : List (Str × Value)).length } := by
    refine pair_loop (s₀ := s₁) hh hkind hx hy hxy hsz (Nat.ne_of_lt (Nat.lt_of_lt_of_le (Nat.lt_succ_self I) (Nat.le_add_right _ 1))) (Nat.ne_of_lt (Nat.lt_succ_self I)) (n1 hLlt).1 (Ne.symm (n1 hLlt).2.1) (Ne.symm (n1 hLlt).2.2) (Nat.ne_of_gt (Nat.lt_succ_self (I + 1)))
      (fresh₀ _ (Nat.le_refl _)) (fresh₀ _ (Nat.le_add_right _ _)) (fresh₀ _ (Nat.le_add_right _ _)) off hq hps hit₁ (F.keeps old) N₁ hns₁ hK turn fun h' tk m' ys F' N' hn' hys => ?_
    refine ⟨m', hn', fun h'' hs'' => fin (I + 1) h'' tk ys hys (F'.change hs'' (Ne.symm (n1 hLlt).2.1) (fresh₀ _ (Nat.le_add_right _ _))) (fun p hp => ⟨hs''.extBut _ _ ?_ (N' p hp).1, (N' p hp).2⟩) fun p hp => Nat.lt_of_lt_of_le (hIlt (N p hp).1) (Nat.le_add_right _ _)⟩
    rcases List.mem_cons.mp hp with rfl | hp
    · exact Nat.ne_of_lt (Nat.lt_succ_self (I + 1))
    · exact (off p hp).2.1
  exact codeAny_compStart_list loop (wpAny_pyIter_listiter hit₁ loop)
end
end Mine
end
-- EnumL
section
open PySem PySem.W PySem.Spec PySem.Calls PyProof.Rows
set_option maxRecDepth 100000
namespace Mine
section
variable {prog : Program} {w : World} {A : Around} {E : Value → Shared → Prop} {s : Shared} {env : Env} {h₀ : Heap} {body : List Stmt} {Q : Flow → Shared → Prop}
/-- a loop over enumerate of a list of the ledger: the ledger's own places stay where they are -/
theorem enum_loop {l : Addr} {vs : List Value} {ln : Nat} {xi xc : Str} {m : Str → Option Value} {nx kc : Led} {as : List Addr} (J : Nat → (Str → Option Value) → Led → Prop)
    (hmap : ∀ i m nx, J i m nx → nx.map (·.1) = as) (hh : A.handled = none) (hl : (l, listOf vs.toArray ln) ∈ kc) (hks : ∀ p ∈ kc, ∀ q ∈ nx, p.1 ≠ q.1) (F : Fr h₀ env.locals s.heap m) (N : News h₀ env.locals s.heap (kc ++ nx)) (hj : J 0 m nx)
    (turn : ∀ i v t m₁ nx s₁ own, vs[i]? = some v → J i m₁ nx → (∀ p ∈ own, ∀ q ∈ nx, p.1 ≠ q.1) → (∀ p ∈ kc, p ∈ own) → Fr h₀ env.locals (Shared.heap s₁) (fun y => if y = xc then some v else if y = xi then some (.int i t) else m₁ y) → News h₀ env.locals s₁.heap (nx ++ own) →
      wpAny (model prog w) A (execs body env) (LpEnd h₀ env.locals own (J (i + 1)) s₁) E s₁)
    (done : ∀ h tk m' nx, Fr h₀ env.locals h m' → News h₀ env.locals h (kc ++ nx) → J vs.length m' nx → (∀ p ∈ kc, ∀ q ∈ nx, p.1 ≠ q.1) → Q .next { s with heap := h, toks := tk }) :
    wpAny (model prog w) A (call (.type "enumerate") [.ref l]) (fun xv s₁ => wpAny (model prog w) A (pyIter xv) (fun it s₂ => PairAt3 prog w A h₀ env xi xc body Q E it s₂) E s₁) E s := by
  have Nl := N _ (List.mem_append_left _ hl)
  have hls : s.heap.IsList l vs.toArray := ⟨_, Nl.1, rfl, ln, rfl⟩
  have hlt : l < s.heap.objs.size := Heap.lt_size Nl.1
  have hLs : env.locals < s.heap.objs.size := F.ns.lt
  refine call_enumerate_list hls fun h' he hit hsz hk => wpAny_pyIter_enum he ?_
  generalize hS : s.heap.objs.size = S at he hit hsz hlt hLs
  have hlow : ∀ p ∈ kc ++ nx, p.1 < S := fun p hp => hS ▸ Heap.lt_size (N p hp).1
  have ne : ∀ {b : Addr}, b < S → b ≠ S ∧ b ≠ S + 1 := fun hb => ⟨Nat.ne_of_lt hb, Nat.ne_of_lt (Nat.lt_succ_of_lt hb)⟩
  have fresh : ∀ b, S ≤ b → h₀.get? b = none := fun b hb => by
    cases e : h₀.get? b with
    | none => rfl
    | some o => exact absurd (hS ▸ Heap.lt_size (F.keep b o e)) (Nat.not_lt.mpr hb)
  have offw : ∀ {p : Addr × Obj}, p.1 < S → p.1 ∉ [S + 1, S] := fun hp hm => by
    rcases List.mem_cons.mp hm with e | hm
    · exact (ne hp).2 e
    · exact (ne hp).1 (List.mem_singleton.mp hm)
  refine ⟨S + 1, [S + 1, S, l], [S + 1, S], vs.toArray.size, _, _, _, (fun i v0 v1 => ∃ t, v0 = .int i t ∧ vs[i]? = some v1), m, kc ++ nx,
    (fun i m news => ∃ nx, news = kc ++ nx ∧ J i m nx ∧ ∀ p ∈ kc, ∀ q ∈ nx, p.1 ≠ q.1), rfl, WalksT.enumerate hh (S + 1) S l (Nat.succ_ne_self _) (ne hlt).2 (ne hlt).1 vs.toArray, ?_, ?_, ?_, ?_, ⟨⟨_, by simpa using he⟩, hit, hls.at fun o e => hk l o e⟩, ⟨F.ns.at' fun o e => hk _ o e, fun b o e => hk b o (F.keep b o e), F.above⟩, fun p hp => ⟨hk _ _ (N p hp).1, (N p hp).2⟩, ⟨nx, rfl, hj, hks⟩, ?_, ?_⟩
  · rintro i vals ⟨t, x, hx, rfl⟩
    exact ⟨_, _, rfl, t, rfl, by simpa using hx⟩
  · intro hm
    rcases List.mem_cons.mp hm with e | hm
    · exact (ne hLs).2 e
    · rcases List.mem_cons.mp hm with e | hm
      · exact (ne hLs).1 e
      · exact Nl.2.1 (List.mem_singleton.mp hm).symm
  · intro b hb
    rcases List.mem_cons.mp hb with rfl | hb
    · exact fresh _ (Nat.le_succ S)
    · rw [List.mem_singleton.mp hb]; exact fresh _ (Nat.le_refl _)
  · exact fun p hp => offw (hlow p hp)
  · rintro i v0 v1 m₁ news₁ s₁ own ⟨h1, tk1, rfl⟩ hi ⟨t, rfl, hv⟩ ⟨nx₁, rfl, hJ, hks₁⟩ hm1 hown F₁ N₁
    have hnx : nx₁.map (·.1) = nx.map (·.1) := (hmap _ _ _ hJ).trans (hmap _ _ _ hj).symm
    have low1 : ∀ q ∈ nx₁, q.1 < S ∧ q.1 ≠ l := fun q hq => by
      have hq1 : q.1 ∈ nx.map (·.1) := hnx ▸ List.mem_map_of_mem hq
      obtain ⟨q', hq', e⟩ := List.mem_map.mp hq1
      exact ⟨e ▸ hlow q' (List.mem_append_right _ hq'), fun e' => hks₁ _ hl q hq e'.symm⟩
    have sep : ∀ p ∈ own ++ kc, ∀ q ∈ nx₁, p.1 ≠ q.1 := fun p hp q hq => by
      rcases List.mem_append.mp hp with hp | hp
      · have := hown p hp
        have z := low1 q hq
        rcases List.mem_cons.mp this with e | this
        · exact e ▸ (ne z.1).2.symm
        · rcases List.mem_cons.mp this with e | this
          · exact e ▸ (ne z.1).1.symm
          · exact (List.mem_singleton.mp this) ▸ z.2.symm
      · exact hks₁ p hp q hq
    refine wpAny_mono (turn i v1 t m₁ nx₁ _ (own ++ kc) hv hJ sep (fun p hp => List.mem_append_right _ hp) F₁ (news_sub N₁ fun p hp => ?_)) (fun f s₂ hf => ?_) fun _ _ e => e
    · simp only [List.mem_append] at hp ⊢
      rcases hp with h | h | h
      · exact .inr (.inr h)
      · exact .inl h
      · exact .inr (.inl h)
    obtain ⟨rfl, h2, tk2, m2, led, nx2, rfl, F2, N2, a1, a2, a3, hJ2⟩ := hf
    refine ⟨rfl, h2, tk2, m2, kc ++ nx2, rfl, F2, fun p hp => N2 p ?_, ?_, nx2, rfl, hJ2, fun p hp q hq => a3 p (List.mem_append_right _ hp) q hq⟩
    · rcases List.mem_append.mp hp with hp | hp
      · exact a2 p (List.mem_append_left _ hp)
      · rcases List.mem_append.mp hp with hp | hp
        · exact a2 p (List.mem_append_right _ hp)
        · exact a1 p hp
    · rw [List.map_append, List.map_append, hmap _ _ _ hJ2, hmap _ _ _ hJ]
  · rintro h2 tk2 m2 news2 F2 N2 _ ⟨nx2, rfl, hJ2, sep2⟩
    have hn : vs.toArray.size = vs.length := by simp
    rw [hn] at hJ2
    exact done h2 tk2 m2 nx2 F2 N2 hJ2 sep2
end
end Mine
end
-- EnumT
section
open PySem PySem.W PySem.Spec PySem.Calls PyProof.Rows
set_option maxRecDepth 100000
namespace Mine
set_option maxHeartbeats 1000000 in
/-- enumerate of a tuple -/
theorem meets_enum_tup (l : Addr) (items : Array Value) (n : Nat) (dct : Option Addr) (sl : Array (Option Value)) :
    Meets (Builtin.«enumerate.__new__» ⟨[.type "enumerate", .ref l], []⟩) (fun _ R s => s.heap.get? l = some { cls := .type "tuple", dict := dct, data := .seq items n, slots := sl } ∧
      R (.ok (.ret (.ref (s.heap.push { cls := .type "tuple_iterator", data := .fields #[.ref l, .int 0 0] }).objs.size)))
        { s with heap := (s.heap.push { cls := .type "tuple_iterator", data := .fields #[.ref l, .int 0 0] }).push { cls := .type "enumerate", data := .fields #[.none, .bool false, .ref s.heap.objs.size, rawInt 0, .none, .none] } }) :=
  .of_wp fun prog w A R s h => by
    obtain ⟨hp, g, d, tk, os⟩ := s; obtain ⟨hl, h⟩ := h
    have hsub := sub_enumerate
    have hL : IsTup (Shared.heap ⟨hp, g, d, tk, os⟩) l items := ⟨_, hl, rfl, n, rfl⟩
    wp_walk using AutoSeq1.wpAny_loadPart' hl
    refine wpAny_stack_any fun st => wpAny_pure ?_
    split
    · rename_i c _ _ _ _ _
      cases (c == Value.type "enumerate")
      · wp_walk using AutoSeq1.wpAny_loadPart' hl, iter_tuple hL
        exact ⟨_, rfl, h⟩
      · wp_walk using AutoSeq1.wpAny_loadPart' hl, iter_tuple hL
        exact ⟨_, rfl, h⟩
    · wp_walk using AutoSeq1.wpAny_loadPart' hl, iter_tuple hL
      exact ⟨_, rfl, h⟩
section
variable {prog : Program} {w : World} {A : Around} {E : Value → Shared → Prop} {s : Shared}
/-- the next of a tuple's iterator, as enumerate asks for it -/
theorem nextOf_tup_item {it t : Addr} {i : Nat} {items : Array Value} {x : Value} {Q : Value → Shared → Prop} (hit : IsTupIter s.heap it t i) (ht : IsTup s.heap t items) (hx : items[i]? = some x)
    (hQ : ∀ h', IsTupIter h' it t (i + 1) → Heap.SameBut it s.heap h' → Q x { s with heap := h' }) : wpAny (model prog w) A (Builtin.SmallTypes.nextOf (.ref it)) Q E s := by
  obtain ⟨o, ho, hc, hd⟩ := id hit
  obtain ⟨ol, hol, _, nl, hdl⟩ := ht
  unfold Builtin.SmallTypes.nextOf
  refine wpAny_bind (wpAny_callSpecial?_slot (name := Str.ofString "__next__") hit.typeIs slot_tupleiter_next (wpAny_call_entry slot_tupleiter_next hit.typeIs entry_tupleiter_next ?_ (args_tupleiter_next _)))
  show wpAny _ _ (field (.ref it) 0 >>= _) _ _ s
  refine wpAny_bind (wpAny_field ho hd (x := .ref t) rfl ?_)
  show wpAny _ _ (if (Value.ref t == Value.none) = true then _ else _) _ _ s
  rw [if_neg (show ¬ ((Value.ref t == Value.none) = true) from Bool.false_ne_true)]
  show wpAny _ _ (field (.ref it) 1 >>= _) _ _ s
  refine wpAny_bind (wpAny_field ho hd (x := .int i 0) rfl ?_)
  show wpAny _ _ (seqItems? (.ref t) >>= _) _ _ s
  refine wpAny_bind (wpAny_seqItems hol hdl ?_)
  simp only [Int.toNat_natCast, hx]
  refine wpAny_bind (wpAny_setField ho hd (by simp) (wpAny_pure ⟨x, rfl, wpAny_pure (hQ _ ?_ (Heap.SameBut.update ..))⟩))
  exact ⟨_, Heap.get?_update_self _ ho (Obj.isFreed_of_fields (Obj.data_mapFields hd _)), (Obj.cls_mapFields ..).trans hc, by rw [Obj.data_mapFields hd]; simp [rawInt]⟩
theorem nextOf_tup_end {it t : Addr} {i : Nat} {items : Array Value} {Q : Value → Shared → Prop} (hh : A.handled = none) (hit : IsTupIter s.heap it t i) (ht : IsTup s.heap t items) (hx : items[i]? = none)
    (hE : ∀ h' e, Heap.ExtBut it s.heap h' → (∃ o, h'.get? e = some o ∧ o.cls = .type "StopIteration") → E (.ref e) { s with heap := h' }) : wpAny (model prog w) A (Builtin.SmallTypes.nextOf (.ref it)) Q E s := by
  obtain ⟨o, ho, hc, hd⟩ := id hit
  obtain ⟨ol, hol, _, nl, hdl⟩ := ht
  unfold Builtin.SmallTypes.nextOf
  refine wpAny_bind (wpAny_callSpecial?_slot (name := Str.ofString "__next__") hit.typeIs slot_tupleiter_next (wpAny_call_entry slot_tupleiter_next hit.typeIs entry_tupleiter_next ?_ (args_tupleiter_next _)))
  show wpAny _ _ (field (.ref it) 0 >>= _) _ _ s
  refine wpAny_bind (wpAny_field ho hd (x := .ref t) rfl ?_)
  show wpAny _ _ (if (Value.ref t == Value.none) = true then _ else _) _ _ s
  rw [if_neg (show ¬ ((Value.ref t == Value.none) = true) from Bool.false_ne_true)]
  show wpAny _ _ (field (.ref it) 1 >>= _) _ _ s
  refine wpAny_bind (wpAny_field ho hd (x := .int i 0) rfl ?_)
  show wpAny _ _ (seqItems? (.ref t) >>= _) _ _ s
  refine wpAny_bind (wpAny_seqItems hol hdl ?_)
  simp only [Int.toNat_natCast, hx]
  refine wpAny_bind (wpAny_rule (wpAny_bind (wpAny_setField ho hd (by simp) ?_)))
  show wpAny _ _ (newExc (.type "StopIteration") [] >>= _) _ _ _
  refine wpAny_bind ?_
  simp only [newExc, newTuple]
  refine wpAny_bind (wpAny_newObj_type ?_ (by size_fits))
  refine wpAny_bind (m := firstArgMember _ _) (wpAny_of_eq (a := Value.none) (by first | rfl | (simp only [firstArgMember]; rfl)) ?_)
  refine wpAny_newObj_type ?_ (by size_fits)
  simp only [raiseNew]
  refine wpAny_bind (wpAny_handled ?_)
  first | rw [show A.in1.handled = none from hh] | rw [hh]
  refine wpAny_bind (wpAny_pure (wpAny_throw ?_))
  exact hE _ _ (((Heap.SameBut.update ..).extBut.push _).push _) ⟨_, Heap.get?_push_size _ rfl, rfl⟩
end
theorem draws_tup {prog : Program} {w : World} {A : Around} (hh : A.handled = none) (it l : Addr) (hne : l ≠ it) (items : Array Value) :
    Draws prog w A it [it, l] items.size (fun i v => items[i]? = some v) (fun i h => IsTupIter h it l i ∧ IsTup h l items) where
  live := fun _ _ st => let ⟨o, ho, _⟩ := st.1; ⟨o, ho⟩
  frame := fun _ _ _ st hk => ⟨let ⟨o, e, r⟩ := st.1; ⟨o, hk it (by simp) o e, r⟩, let ⟨o, e, r⟩ := st.2; ⟨o, hk l (by simp) o e, r⟩⟩
  item := fun i s Q E hi st hQ => by
    refine nextOf_tup_item st.1 st.2 (x := items[i]) (by simp [hi]) fun h' hit' hs' => ?_
    exact hQ _ h' s.toks (by simp [hi]) ⟨hit', st.2.extBut hs'.extBut hne⟩ hs'
  done := fun s Q E st hE => nextOf_tup_end hh st.1 st.2 (by simp) hE
theorem call_enum_tup {prog : Program} {w : World} {A : Around} {E : Value → Shared → Prop} {s : Shared} {l : Addr} {items : Array Value} {Q : Value → Shared → Prop} (hL : IsTup s.heap l items)
    (h : ∀ h', IsEnum h' (s.heap.objs.size + 1) s.heap.objs.size 0 .none → IsTupIter h' s.heap.objs.size l 0 → h'.objs.size = s.heap.objs.size + 2 →
      (∀ b o, s.heap.get? b = some o → h'.get? b = some o) → Q (.ref (s.heap.objs.size + 1)) { s with heap := h' }) :
    wpAny (model prog w) A (call (.type "enumerate") [.ref l]) Q E s := by
  obtain ⟨⟨c, dct, dt, sl⟩, hl, hc, n, hd⟩ := hL
  replace hc : c = .type "tuple" := hc
  replace hd : dt = .seq items n := hd
  subst hc hd
  refine callType_new F.called_enumerate (by decide) (F.typeCall_enumerate_1 _) (F.newCall_enumerate_1 _) (fun obj => F.args_object_init_2 obj _) F.entry_enumerate_new
    (meets_enum_tup l items n dct sl) ⟨hl, ?_⟩
  have hz : (s.heap.push { cls := .type "tuple_iterator", data := .fields #[.ref l, .int 0 0] }).objs.size = s.heap.objs.size + 1 := Heap.size_push ..
  show _ ∧ _
  rw [hz]
  have he : IsEnum ((s.heap.push { cls := .type "tuple_iterator", data := .fields #[.ref l, .int 0 0] }).push
      { cls := .type "enumerate", data := .fields #[.none, .bool false, .ref s.heap.objs.size, rawInt 0, .none, .none] }) (s.heap.objs.size + 1) s.heap.objs.size 0 .none := by
    have := Heap.get?_push_size (s.heap.push { cls := .type "tuple_iterator", data := .fields #[.ref l, .int 0 0] })
      (o := { cls := .type "enumerate", data := .fields #[.none, .bool false, .ref s.heap.objs.size, rawInt 0, .none, .none] }) rfl
    rw [hz] at this; exact this
  refine ⟨⟨_, he, rfl⟩, h _ he ⟨_, Heap.get?_push_of_some _ (Heap.get?_push_size _ rfl), rfl, rfl⟩ (by rw [Heap.size_push, hz]) fun b o x => Heap.get?_push_of_some _ (Heap.get?_push_of_some _ x)⟩
end Mine
end
-- EnumC
section
open PySem PySem.W PySem.Spec PySem.Calls PyProof.Rows PyProof.Rows.LCg
set_option maxRecDepth 100000
set_option maxHeartbeats 2000000
namespace Mine
section
variable {prog : Program} {w : World} {A : Around} {E : Value → Shared → Prop} {s : Shared} {R : Result → Shared → Prop} {env : Env}
/-- one turn over enumerate of a tuple -/
def ETurn (prog : Program) (w : World) (A : Around) (h₀ : Heap) (L : Addr) (m : Str → Option Value) (env : Env) (elt : Expr) (x y : Str) (scope : Scope) (cl : List (Str × Addr)) (news : Led) (vs : List Value) (K : Nat → List Value → Prop) (s : Shared) : Prop :=
  ∀ i v t ys I oI C oC D it oit m₂ h tk (E' : Value → Shared → Prop), vs[i]? = some v → K i ys → NsObj oC m₂ → m₂ x = some (.int (i : Int) t) → m₂ y = some v → Fr h₀ L h m → News h₀ L h ((I, oI) :: (C, oC) :: (D, lst ys) :: (it, oit) :: news) → Off3 I C D ((it, oit) :: news) → ((@Ne Nat I C) ∧ (@Ne Nat I D) ∧ (@Ne Nat C D)) →
    wpAny (model prog w) A (eval elt (compEnvC scope cl C env)) (CompEnd h₀ L m { s with heap := h, toks := tk } I oI C oC D (lst ys) (fun nw => nw = (it, oit) :: news) (fun v _ => K (i + 1) (ys ++ [v]))) E' { s with heap := h, toks := tk }
theorem enum_cloop {elt iter : Expr} {x y : Str} {px py tp : Pos} {x1} {scope : Scope} {cl : List (Str × Addr)} {pos : Pos} {h₀ : Heap} {L : Addr} {mL : Str → Option Value} {vs : List Value} {news : Led} {I it l C D : Addr} {m : Str → Option Value} {K : Nat → List Value → Prop} {ot : Obj} {nt : Nat}
    (hh : A.handled = none) (hkind : scope.kind = .function) (hx : scope.names.lookup x = some .local) (hy : scope.names.lookup y = some .local) (hxy : x ≠ y) (hsz : vs.length ≤ sizeLine)
    (hIi : I ≠ it) (hIC : I ≠ C) (hID : I ≠ D) (hiC : it ≠ C) (hiD : it ≠ D) (hIL : L ≠ I) (hiL : L ≠ it) (hCL : C ≠ L) (hDL : D ≠ L) (hCD : C ≠ D) (hI₀ : h₀.get? I = none) (hi₀ : h₀.get? it = none) (hC₀ : h₀.get? C = none) (hD₀ : h₀.get? D = none) (off : ∀ p ∈ news, p.1 ≠ I ∧ p.1 ≠ C ∧ p.1 ≠ D ∧ p.1 ≠ it)
    (hl : (l, ot) ∈ news) (hlc : ot.cls = .type "tuple") (hld : ot.data = .seq vs.toArray nt)
    (hit : ∃ old, IsEnum s.heap I it (0 : Nat) old) (hti : IsTupIter s.heap it l 0) (F : Fr h₀ L s.heap mL) (N : News h₀ L s.heap ((D, lst []) :: news)) (hn : s.heap.Ns C m) (hK : K 0 []) (turn : ETurn prog w A h₀ L mL env elt x y scope cl news vs K s)
    (done : ∀ h' tk m' ys, Fr h₀ L h' mL → News h₀ L h' ((D, lst ys) :: news) → h'.Ns C m' → K vs.length ys → R (.ok .next) { s with heap := h', toks := tk }) :
    codeAny (model prog w) A (.compLoop (.ListComp elt [⟨.Tuple [.Name x px, .Name y py] x1 tp, iter, [], 0⟩] scope pos) 0 (.ref I) (.ref D) (compEnvC scope cl C env)) R s := by
  have hlI := (off _ hl).1
  have hli := (off _ hl).2.2.2
  have hLt : ∀ {h : Heap}, News h₀ L h news → IsTup h l vs.toArray := fun N => ⟨_, (N _ hl).1, hlc, _, hld⟩
  have W := WalksT.enumerateD (prog := prog) (w := w) (A := A) (draws_tup (A := A.in1) hh it l hli vs.toArray) I hIi (by simp only [List.mem_cons, List.not_mem_nil, or_false, not_or]; exact ⟨hIi, Ne.symm hlI⟩) (List.mem_cons_self ..)
  have hsize : vs.toArray.size = vs.length := by simp
  refine codeAny_loop rfl (fun k s' => ∃ h' tk i m' ys, s' = { s with heap := h', toks := tk } ∧ i ≤ vs.length ∧ k = vs.length + 1 - i ∧ ((∃ old, IsEnum h' I it (i : Nat) old) ∧ IsTupIter h' it l i ∧ IsTup h' l vs.toArray) ∧
    Fr h₀ L h' mL ∧ News h₀ L h' ((D, lst ys) :: news) ∧ h'.Ns C m' ∧ ys.length ≤ i ∧ K i ys) ?_ (vs.length + 1)
    ⟨_, _, 0, m, [], rfl, Nat.zero_le _, rfl, ⟨hit, hti, hLt fun p hp => N p (.tail _ hp)⟩, F, N, hn, Nat.le_refl _, hK⟩
  rintro k s' ⟨h', tk, i, m', ys, rfl, hi, rfl, st, F', N', hn', hyl, hKi⟩
  show wpAny _ A ((compTurn (.ListComp elt [⟨.Tuple [.Name x px, .Name y py] x1 tp, iter, [], 0⟩] scope pos) 0 (.ref I) (.ref D) (compEnvC scope cl C env)).onRaise (fun x => do noteFrame x (compEnvC scope cl C env); theTreesLotGoes x)) _ _ _
  refine wpAny_noted ?_
  rw [compTurn_list]
  refine wpAny_bind (wpAny_standAt (wpAny_bind ?_))
  have frB : ∀ {h h' : Heap}, Fr h₀ L h mL → (∀ b o, b ∉ [I, it] → h.get? b = some o → h'.get? b = some o) → Fr h₀ L h' mL := fun {h h'} F hk =>
    ⟨F.ns.at' fun o e => hk L o (by simp only [List.mem_cons, List.not_mem_nil, or_false, not_or]; exact ⟨hIL, hiL⟩) e, fun b o e => hk b o (by
      simp only [List.mem_cons, List.not_mem_nil, or_false, not_or]
      exact ⟨fun q => (by rw [q, hI₀] at e; cases e), fun q => (by rw [q, hi₀] at e; cases e)⟩) (F.keep b o e), F.above⟩
  have nsB : ∀ {h h' : Heap}, News h₀ L h ((D, lst ys) :: news) → (∀ b o, b ∉ [I, it] → h.get? b = some o → h'.get? b = some o) → News h₀ L h' ((D, lst ys) :: news) := fun {h h'} N hk p hp => ⟨hk _ _ (by
    simp only [List.mem_cons, List.not_mem_nil, or_false, not_or]
    rcases List.mem_cons.mp hp with rfl | hp
    · exact ⟨Ne.symm hID, Ne.symm hiD⟩
    · exact ⟨(off p hp).1, (off p hp).2.2.2⟩) (N p hp).1, (N p hp).2⟩
  have nC : C ∉ [I, it] := by simp only [List.mem_cons, List.not_mem_nil, or_false, not_or]; exact ⟨Ne.symm hIC, Ne.symm hiC⟩
  by_cases hlt : i < vs.length
  · refine W.item i _ _ _ (by rw [hsize]; exact hlt) st fun T vals h₂ tk₂ hPv hTs hT hM hk₂ => ?_
    obtain ⟨t, v, hv, rfl⟩ := hPv
    have hv' : vs[i]? = some v := by simpa using hv
    dsimp only
    refine wpAny_bind (W.go _ _ _ i T _ _ _ hM fun h₃ hst₃ hk₃ => ?_)
    have hT3 : IsTup h₃ T #[.int i t, v] := by
      obtain ⟨o, e, r⟩ := hT
      exact ⟨o, hk₃ _ _ (W.apart i T _ hM) e, r⟩
    refine wpAny_bind (assign_Tuple_tuple hh hT3 rfl rfl fun h₅ he => ?_)
    have he' : ∀ b o, h₃.get? b = some o → h₅.get? b = some o := fun b o e => he b o (Nat.ne_of_lt (Heap.lt_size e)) e
    have hn3 : h₃.Ns C m' := (hn'.at' fun o e => hk₂ C o nC e).at' fun o e => hk₃ C o nC e
    refine assignInOrder_cons (wpAny_assign_Name (wpAny_storeName_local (lookup_relabel_local hx) (hn3.at' fun o e => he' _ o e) (fun h₆ hn₆ hs₆ => ?_) (by simp [compEnvC, relabel, hkind])))
    refine assignInOrder_cons (wpAny_assign_Name (wpAny_storeName_local (lookup_relabel_local hy) hn₆ (fun h₇ hn₇ hs₇ => ?_) (by simp [compEnvC, relabel, hkind])))
    refine assignInOrder_nil ?_
    have old7 : ∀ b o, b ≠ C → h₃.get? b = some o → h₇.get? b = some o := fun b o hb e => hs₇.extBut b o hb (hs₆.extBut b o hb (he' b o e))
    have F₇ : Fr h₀ L h₇ mL := (((frB (frB F' hk₂) hk₃).keeps he').change hs₆ hCL hC₀).change hs₇ hCL hC₀
    have N₃ : News h₀ L h₃ ((D, lst ys) :: news) := nsB (nsB N' hk₂) hk₃
    have N₇ : News h₀ L h₇ ((D, lst ys) :: news) := fun p hp => ⟨old7 _ _ (by
      rcases List.mem_cons.mp hp with rfl | hp
      · exact Ne.symm hCD
      · exact (off p hp).2.1) (N₃ p hp).1, (N₃ p hp).2⟩
    have hst₇ := W.frame _ _ _ hst₃ fun b hb o e => old7 b o (by
      simp only [List.mem_cons, List.not_mem_nil, or_false] at hb
      rcases hb with rfl | rfl | rfl
      · exact hIC
      · exact hiC
      · exact (off _ hl).2.1) e
    obtain ⟨⟨oldv, hE7⟩, ⟨oit, hi1, hi2, hi3⟩, hT7⟩ := hst₇
    obtain ⟨oC, heC, hoC⟩ := ns_obj hn₇
    have N8 : News h₀ L h₇ ((I, _) :: (C, oC) :: (D, lst ys) :: (it, oit) :: news) := fun p hp => by
      rcases List.mem_cons.mp hp with rfl | hp
      · exact ⟨hE7, Ne.symm hIL, hI₀⟩
      · rcases List.mem_cons.mp hp with rfl | hp
        · exact ⟨heC, hCL, hC₀⟩
        · rcases List.mem_cons.mp hp with rfl | hp
          · exact N₇ _ (.head _)
          · rcases List.mem_cons.mp hp with rfl | hp
            · exact ⟨hi1, Ne.symm hiL, hi₀⟩
            · exact N₇ _ (.tail _ hp)
    have off4 : Off3 I C D ((it, oit) :: news) := Off3.of fun p hp => by
      rcases List.mem_cons.mp hp with rfl | hp
      · exact ⟨Ne.symm hIi, hiC, hiD⟩
      · exact ⟨(off p hp).1, (off p hp).2.1, (off p hp).2.2.1⟩
    refine wpAny_bind (wpAny_tests_nil ?_)
    simp only [if_true]
    refine wpAny_bind (wpAny_bind (wpAny_mono (turn i v t ys I _ C oC D it oit _ h₇ _ _ hv' hKi hoC (by simp [hxy]) (by simp) F₇ N8 off4 ⟨hIC, hID, hCD⟩) (fun u s₅ h₅ => ?_) fun _ _ e => e))
    obtain ⟨h₈, tk₈, nw, rfl, F₈, N₈, off₈, rfl, hK'⟩ := h₅
    have zC := (N₈ (C, oC) (.tail _ (.head _))).1
    have zD := (N₈ (D, lst ys) (.tail _ (.tail _ (.head _)))).1
    refine wpAny_bind (append_at (hsz := by rw [List.size_toArray]; omega) zD fun h₉ hs₉ hD₉ => ?_)
    have N₉ : News h₀ L h₉ ((D, lst (ys ++ [u])) :: news) := fun p hp => by
      rcases List.mem_cons.mp hp with rfl | hp
      · exact ⟨hD₉.trans (congrArg some (lst_snoc ys u)), hDL, hD₀⟩
      · have z := N₈ p (.tail _ (.tail _ (.tail _ (.tail _ hp))))
        exact ⟨hs₉.extBut _ _ (off p hp).2.2.1 z.1, z.2⟩
    exact wpAny_pure (wpAny_pure ⟨rfl, vs.length + 1 - (i + 1), by omega, h₉, tk₈, i + 1, _, ys ++ [u], rfl, hlt, rfl,
      ⟨⟨_, hs₉.extBut _ _ hID (N₈ _ (.head _)).1⟩, ⟨oit, hs₉.extBut _ _ hiD (N₈ (it, oit) (.tail _ (.tail _ (.tail _ (.head _))))).1, hi2, hi3⟩, hLt fun p hp => N₉ p (.tail _ hp)⟩, F₈.change hs₉ hDL hD₀, N₉, (hoC.ns zC).sameBut hs₉ hCD, by rw [List.length_append, List.length_singleton]; omega, hK'⟩)
  · obtain rfl : i = vs.length := by omega
    refine W.done _ _ _ (by rw [hsize]; exact st) fun h₂ tk₂ hk₂ => ?_
    exact wpAny_pure (done h₂ tk₂ m' ys (frB F' hk₂) (nsB N' hk₂) (hn'.at' fun o e => hk₂ C o nC e) hKi)
/-- where the comprehension over enumerate begins -/
def ESrc (prog : Program) (w : World) (A : Around) (h₀ : Heap) (L : Addr) (m : Str → Option Value) (env : Env) (elt : Expr) (x y : Str) (scope : Scope) (cl : List (Str × Addr)) (K : Nat → List Value → Prop) (tgt : Str) (Q : Flow → Shared → Prop) (xv : Value) (s₁ : Shared) : Prop :=
  ∃ (vs : List Value) (news : Led) (I it l : Addr) (ot : Obj) (nt : Nat), xv = .ref I ∧ A.handled = none ∧ I ≠ it ∧ IsEnum s₁.heap I it 0 .none ∧ IsTupIter s₁.heap it l 0 ∧ (l, ot) ∈ news ∧ ot.cls = .type "tuple" ∧ ot.data = .seq vs.toArray nt ∧ vs.length ≤ sizeLine ∧
    Fr h₀ L s₁.heap m ∧ News h₀ L s₁.heap news ∧ (∀ p ∈ news, p.1 ≠ I ∧ p.1 ≠ it) ∧ h₀.get? I = none ∧ h₀.get? it = none ∧ L ≠ I ∧ L ≠ it ∧ K 0 [] ∧ ETurn prog w A h₀ L m env elt x y scope cl news vs K s₁ ∧
    ∀ D h tk ys, K vs.length ys → Fr h₀ L h (fun z => if z = tgt then some (.ref D) else m z) → News h₀ L h ((D, lst ys) :: news) → (∀ p ∈ news, p.1 < D) → Q .next { s₁ with heap := h, toks := tk }
theorem enum_assign {elt i0 : Expr} {x y tgt : Str} {px py pt tp : Pos} {x1} {scope : Scope} {cl : List (Str × Addr)} {pos spos : Pos} {h₀ : Heap} {mL : Str → Option Value} {Q : Flow → Shared → Prop} (K : Nat → List Value → Prop)
    (hsw : swapsWith (.ListComp elt [⟨.Tuple [.Name x px, .Name y py] x1 tp, i0, [], 0⟩] scope pos) (some (.Name tgt pt)) spos.line env = pure true)
    (hclos : closureFor scope env = pure cl) (hcell : ∀ y ∈ scope.names, y.2 ≠ .cell) (hkind : scope.kind = .function)
    (hnames : ∀ y ∈ scope.names, y.2 = .local → scope.names.lookup y.1 = some .local) (hx : scope.names.lookup x = some .local) (hy : scope.names.lookup y = some .local) (hxy : x ≠ y)
    (ht : env.kindOf tgt = some .local) (hp : (env.scope.kind == .class || (env.scope.kind == .module && env.locals != env.globals)) = false)
    (h : wpAny (model prog w) A (eval i0 env) (ESrc prog w A h₀ env.locals mL env elt x y scope cl K tgt Q) E s)
    (hs : ∀ x, foldedSetIterable i0 env x = pure x := by intro _; rfl) :
    wpAny (model prog w) A (exec (.Assign [.Name tgt pt] (.ListComp elt [⟨.Tuple [.Name x px, .Name y py] x1 tp, i0, [], 0⟩] scope pos) spos) env) Q E s := by
  rw [exec_Assign_Name_used _ _ _ _ hsw]
  refine wpAny_bind (wpAny_standAt (wpAny_bind ?_))
  show wpAny _ A (do let _ ← comprehension (.ListComp elt [⟨.Tuple [.Name x px, .Name y py] x1 tp, i0, [], 0⟩] scope pos) scope env _ (newList []) false (eval i0 env) (some (assign (.Name tgt pt) env))) _ _ s
  refine wpAny_bind (wpAny_mono (wpAny_comprehension_free (use := some (assign (.Name tgt pt) env)) (Q := fun _ s' => Q .next s') rfl hs hclos hkind hnames
    (wpAny_mono h (fun xv s₁ h₁ => ?_) fun _ _ e => e)) (fun _ s' hq => wpAny_pure (wpAny_pure hq)) fun _ _ e => e)
  obtain ⟨vs, news, I, it, l, ot, nt, rfl, hh, hIi, hE, hti, hl, hlc, hld, hsz, F, N, off, hI₀, hi₀, hLI, hLi, hK, turn, fin⟩ := h₁
  refine wpAny_pyIter_enum hE ?_
  generalize hS : s₁.heap.objs.size = S
  have lt : ∀ {b : Addr} {o : Obj}, s₁.heap.get? b = some o → b < S := fun e => hS ▸ Heap.lt_size e
  have hIS : I < S := lt hE
  have hiS : it < S := by obtain ⟨o, e, _⟩ := hti; exact lt e
  have hLS : env.locals < S := hS ▸ F.ns.lt
  have n1 : ∀ {b : Addr}, b < S → b ≠ S + 1 ∧ b ≠ S := fun hb => ⟨Nat.ne_of_lt (Nat.lt_succ_of_lt hb), Nat.ne_of_lt hb⟩
  refine wpAny_newObj_type (wpAny_newFunctionEnv hcell (by intro y hy; simp at hy) (fun h₁ hns₁ hsb₁ => ?_) hkind)
  dsimp only at hns₁ hsb₁ ⊢
  generalize hH2 : s₁.heap.push { cls := .type "list", dict := none, data := .seq ([] : List Value).toArray } = H2 at hns₁ hsb₁ ⊢
  have hs2 : H2.objs.size = S + 1 := by rw [← hH2, Heap.size_push, hS]
  rw [hs2] at hns₁ hsb₁ ⊢
  rw [hS]
  have up2 : ∀ b o, s₁.heap.get? b = some o → H2.get? b = some o := fun b o e => hH2 ▸ Heap.get?_push_of_some _ e
  have up3 : ∀ b o, b < S + 1 → H2.get? b = some o → h₁.get? b = some o := fun b o hb e => hsb₁.extBut b o (Nat.ne_of_lt hb) (Heap.get?_push_of_some _ e)
  have old : ∀ b o, s₁.heap.get? b = some o → h₁.get? b = some o := fun b o e => up3 b o (Nat.lt_succ_of_lt (lt e)) (up2 _ _ e)
  have fresh₀ : ∀ a, S ≤ a → h₀.get? a = none := fun a ha => by
    cases e : h₀.get? a with
    | none => rfl
    | some o' => exact absurd (lt (F.keep a o' e)) (Nat.not_lt.mpr ha)
  have hacc : h₁.get? S = some (lst []) := up3 _ _ (Nat.lt_succ_self _) (by rw [← hH2, ← hS]; exact Heap.get?_push_size _ rfl)
  have hS0 := fresh₀ S (Nat.le_refl _)
  have hS1 := fresh₀ (S + 1) (Nat.le_succ _)
  have N₁ : News h₀ env.locals h₁ ((S, lst []) :: news) := fun p hp => by
    rcases List.mem_cons.mp hp with rfl | hp
    · exact ⟨hacc, Ne.symm (n1 hLS).2, hS0⟩
    · exact ⟨old _ _ (N p hp).1, (N p hp).2⟩
  have off4 : ∀ p ∈ news, p.1 ≠ I ∧ p.1 ≠ S + 1 ∧ p.1 ≠ S ∧ p.1 ≠ it := fun p hp => ⟨(off p hp).1, (n1 (lt (N p hp).1)).1, (n1 (lt (N p hp).1)).2, (off p hp).2⟩
  have loop : codeAny (model prog w) A (.compLoop (.ListComp elt [⟨.Tuple [.Name x px, .Name y py] x1 tp, i0, [], 0⟩] scope pos) 0 (.ref I) (.ref S) (compEnvC scope cl (S + 1) env))
      (compPost (model prog w) A E (some (assign (.Name tgt pt) env)) (fun _ s' => Q .next s') (.ref S) (S + 1)) { s₁ with heap := h₁, toks := s₁.toks + ([] : List (Str × Value)).length } := by
    refine enum_cloop hh hkind hx hy hxy hsz hIi (n1 hIS).1 (n1 hIS).2 (n1 hiS).1 (n1 hiS).2 hLI hLi (Ne.symm (n1 hLS).1) (Ne.symm (n1 hLS).2) (Nat.ne_of_gt (Nat.lt_succ_self S)) hI₀ hi₀ hS1 hS0 off4 hl hlc hld ⟨.none, old _ _ hE⟩ (let ⟨o, e, r⟩ := hti; ⟨o, old _ _ e, r⟩) (F.keeps old) N₁ hns₁ hK turn fun h' tk m' ys F' N' hn' hys => ?_
    show wpAny _ A (assign (.Name tgt pt) env (.ref S)) _ _ _
    refine wpAny_assign_Name (wpAny_storeName_local ht F'.ns (fun h₂ hn₂ hs₂ => ?_) hp)
    have hL₀ : h₀.get? env.locals = none := Heap.get?_none_of_le F'.above
    have F₂ : Fr h₀ env.locals h₂ (fun z => if z = tgt then some (.ref S) else mL z) := ⟨hn₂, fun b o e => hs₂.extBut b o (fun q => by rw [q, hL₀] at e; cases e) (F'.keep b o e), F'.above⟩
    refine ⟨m', hn'.sameBut hs₂ (Ne.symm (n1 hLS).1), fun h'' hs'' => fin S h'' _ ys hys (F₂.change hs'' (Ne.symm (n1 hLS).1) hS1) (fun p hp => ?_) fun p hp => lt (N p hp).1⟩
    have z : h₂.get? p.1 = some p.2 := hs₂.extBut _ _ (N' p hp).2.1 (N' p hp).1
    refine ⟨hs''.extBut _ _ ?_ z, (N' p hp).2⟩
    rcases List.mem_cons.mp hp with rfl | hp
    · exact Nat.ne_of_lt (Nat.lt_succ_self S)
    · exact (off4 p hp).2.1
  exact codeAny_compStart_list loop (wpAny_pyIter_enum (old _ _ hE) loop)
/-- enumerate of a tuple of the ledger, just called -/
theorem esrc_of {elt : Expr} {x y tgt : Str} {scope : Scope} {cl : List (Str × Addr)} {h₀ h : Heap} {L l : Addr} {ot : Obj} {nt : Nat} {m : Str → Option Value} {news : Led} {vs : List Value} {Q : Flow → Shared → Prop} {K : Nat → List Value → Prop} {s₁ : Shared}
    (hh : A.handled = none) (F : Fr h₀ L h m) (N : News h₀ L h news) (hE : IsEnum s₁.heap (h.objs.size + 1) h.objs.size 0 .none) (hT : IsTupIter s₁.heap h.objs.size l 0) (hk : ∀ b o, h.get? b = some o → s₁.heap.get? b = some o)
    (hl : (l, ot) ∈ news) (hlc : ot.cls = .type "tuple") (hld : ot.data = .seq vs.toArray nt) (hsz : vs.length ≤ sizeLine) (hK : K 0 []) (turn : ETurn prog w A h₀ L m env elt x y scope cl news vs K s₁)
    (fin : ∀ D h tk ys, K vs.length ys → Fr h₀ L h (fun z => if z = tgt then some (.ref D) else m z) → News h₀ L h ((D, lst ys) :: news) → (∀ p ∈ news, p.1 < D) → Q .next { s₁ with heap := h, toks := tk }) :
    ESrc prog w A h₀ L m env elt x y scope cl K tgt Q (.ref (h.objs.size + 1)) s₁ := by
  have hL : L < h.objs.size := F.ns.lt
  have hx : ∀ p ∈ news, p.1 < h.objs.size := fun p hp => Heap.lt_size (N p hp).1
  have h0 : ∀ b, h.objs.size ≤ b → h₀.get? b = none := fun b hb => Heap.get?_none_of_le (Nat.le_trans F.above (Nat.le_trans (Nat.le_of_lt hL) hb))
  exact ⟨vs, news, h.objs.size + 1, h.objs.size, l, ot, nt, rfl, hh, Nat.ne_of_gt (Nat.lt_succ_self _), hE, hT, hl, hlc, hld, hsz, F.keeps hk, fun p hp => ⟨hk _ _ (N p hp).1, (N p hp).2⟩,
    fun p hp => ⟨Nat.ne_of_lt (Nat.lt_succ_of_lt (hx p hp)), Nat.ne_of_lt (hx p hp)⟩, h0 _ (Nat.le_succ _), h0 _ (Nat.le_refl _), Nat.ne_of_lt (Nat.lt_succ_of_lt hL), Nat.ne_of_lt hL, hK, turn, fin⟩
end
end Mine
end
-- BaseP
section
open PySem PySem.W PySem.Spec PySem.Calls PyProof.Rows
namespace Mine
section
variable {prog : Program} {w : World} {A : Around} {E : Value → Shared → Prop} {s : Shared} {h₀ : Heap} {L : Addr} {news : Led}
theorem ne_led {a b : Addr} {vs us : List Value} {n1 n2 : Nat} {ns ms : List Int} {Q : Value → Shared → Prop} (N : News h₀ L s.heap news) (ha : (a, listOf vs.toArray n1) ∈ news) (hb : (b, listOf us.toArray n2) ∈ news) (hi : IntsAre vs ns) (hj : IntsAre us ms) (hu : A.units + 64 < cLine)
    (h : Q (.bool (!decide (ns = ms))) s) : wpAny (model prog w) A (compareOp .NotEq (.ref a) (.ref b)) Q E s := ne_intsK (News.isList N ha) hi (News.isList N hb) hj hu h
end
theorem ldC {M : Model} {A : Around} {E : Value → Shared → Prop} {s : Shared} {h₀ : Heap} {L a : Addr} {m : Str → Option Value} {name : Str} {scope : Scope} {cd : Value} {x : Str} {pos : Pos} {v : Value} {Q : Value → Shared → Prop} (F : Fr h₀ L s.heap m) (hv : m x = some v) (h : Q v s)
    (hk : scope.kind = .function) (hl : (envOfC name scope L a cd).kindOf x = some .local) (hd : (x == ("__debug__" : Str)) = false := by decide) : wpAny M A (eval (.Name x pos) (envOfC name scope L a cd)) Q E s := wpAny_Name (wpAny_loadName_local hk hl F.ns hv h) hd
def Perm7 (ps : List (List Int)) : Prop := ps.flatten.Perm [0, 1, 2, 3, 4, 5, 6]
theorem Perm7.len {ps : List (List Int)} (h : Perm7 ps) : ps.flatten.length = 7 := List.Perm.length_eq h
theorem Perm7.rng {ps : List (List Int)} (h : Perm7 ps) {k : Nat} {p : List Int} (hp : ps[k]? = some p) {x : Int} (hx : x ∈ p) : 0 ≤ x ∧ x < 7 := by
  have h1 : x ∈ ps.flatten := List.mem_flatten.mpr ⟨p, List.mem_of_getElem? hp, hx⟩
  have h2 := (List.Perm.mem_iff h).mp h1
  simp only [List.mem_cons, List.not_mem_nil, or_false] at h2
  omega
theorem perm_sorted7 {n : List Int} {ps : List (List Int)} (h : n.Perm ps.flatten) (k : Perm7 ps) (o : n.Pairwise (· ≤ ·)) : n = [0, 1, 2, 3, 4, 5, 6] :=
  (h.trans (show ps.flatten.Perm [0, 1, 2, 3, 4, 5, 6] from k)).eq_of_pairwise (le := fun a b => a ≤ b) (fun a b _ _ h1 h2 => Int.le_antisymm h1 h2) o (by decide)
theorem parted_n0 {g h : Heap} {L W c1 c2 c3 : Addr} {ow o1 o2 o3 : Obj} {p1 p2 p3 p4 : Addr × Obj} {news : Led} (N : News g L h ((W, ow) :: p1 :: p2 :: p3 :: p4 :: (c1, o1) :: (c2, o2) :: (c3, o3) :: news)) : News g L h ((c1, o1) :: (c2, o2) :: (c3, o3) :: (W, ow) :: news) :=
  news_sub N fun p hp => by simp only [List.mem_cons] at hp ⊢; grind
theorem allLt_mem {d : Nat} {l : List (Addr × Obj)} : AllLt d l → ∀ p ∈ l, @LT.lt Nat _ p.1 d := by
  induction l with
  | nil => intro _ p hp; cases hp
  | cons q r ih =>
    intro h p hp
    cases hp with
    | head => exact h.1
    | tail _ hp => exact ih h.2 p hp
theorem parted_ne0 {L W : Addr} {ow o2 o3 : Obj} {a1 a2 a3 a4 b2 b3 : Prop} {news : Led} (l1 : a1 ∧ a2 ∧ a3 ∧ a4 ∧ L + 1 + 1 + 1 < W ∧ b2 ∧ b3 ∧ AllLt W news) (l0 : AllLt L news) : ∀ p ∈ (L + 1 + 1, o2) :: (L + 1, o3) :: (W, ow) :: news, p.1 ≠ L + 1 + 1 + 1 := by
  obtain ⟨_, _, _, _, h, _⟩ := l1
  intro p hp
  simp only [List.mem_cons] at hp
  rcases hp with rfl | rfl | rfl | hp
  · exact Nat.ne_of_lt (Nat.lt_succ_self _)
  · exact Nat.ne_of_lt (Nat.lt_of_lt_of_le (Nat.lt_succ_self _) (Nat.le_succ _))
  · exact Nat.ne_of_gt h
  · exact Nat.ne_of_lt (Nat.lt_of_lt_of_le (allLt_mem l0 p hp) (Nat.le_add_right L 3))
open Classical in
/-- those that x reaches, and that reach x -/
noncomputable def mates (R : Int → Int → Prop) (x : Int) (n : Nat) : List Int := ((List.range n).map fun (k : Nat) => (k : Int)).filter fun o => decide (R x o ∧ R o x)
theorem mates_yes {R : Int → Int → Prop} {x : Int} {n : Nat} (h : R x n ∧ R n x) : mates R x (n + 1) = mates R x n ++ [(n : Int)] := by
  unfold mates
  rw [List.range_succ, List.map_append, List.filter_append]
  simp [h]
theorem mates_no {R : Int → Int → Prop} {x : Int} {n : Nat} (h : ¬ (R x n ∧ R n x)) : mates R x (n + 1) = mates R x n := by
  unfold mates
  rw [List.range_succ, List.map_append, List.filter_append]
  simp [h]
theorem mates_test {rs : List Int} {R : Int → Int → Prop} {x : Int} {k : Nat} (h : RowsAre rs R) (hx : 0 ≤ x ∧ x < 7) (hk : k < 7) :
    (Builtin.bitAnd (Builtin.bitAnd ((rs.getD x.toNat 0).fdiv (2 ^ ((k : Nat) : Int).toNat)) ((rs.getD ((k : Nat) : Int).toNat 0).fdiv (2 ^ x.toNat))) 1 ≠ 0) ↔ (R x k ∧ R k x) := by
  have e : ((x.toNat : Nat) : Int) = x := by omega
  have z := bit_both h (i := x.toNat) (j := k) (by omega) hk
  rw [e] at z
  rw [Int.toNat_natCast]
  exact z
theorem mates_true {rs : List Int} {R : Int → Int → Prop} {x : Int} {k : Nat} (h : RowsAre rs R) (hx : 0 ≤ x ∧ x < 7) (hk : k < 7)
    (t : Builtin.bitAnd (Builtin.bitAnd ((rs.getD x.toNat 0).fdiv (2 ^ ((k : Nat) : Int).toNat)) ((rs.getD ((k : Nat) : Int).toNat 0).fdiv (2 ^ x.toNat))) 1 ≠ 0) : mates R x (k + 1) = mates R x k ++ [(k : Int)] := mates_yes ((mates_test h hx hk).mp t)
theorem mates_false {rs : List Int} {R : Int → Int → Prop} {x : Int} {k : Nat} (h : RowsAre rs R) (hx : 0 ≤ x ∧ x < 7) (hk : k < 7)
    (t : Builtin.bitAnd (Builtin.bitAnd ((rs.getD x.toNat 0).fdiv (2 ^ ((k : Nat) : Int).toNat)) ((rs.getD ((k : Nat) : Int).toNat 0).fdiv (2 ^ x.toNat))) 1 = 0) : mates R x (k + 1) = mates R x k := mates_no fun c => (mates_test h hx hk).mpr c t
theorem mates_len {R : Int → Int → Prop} {x : Int} {n : Nat} : (mates R x n).length ≤ n := by
  unfold mates
  refine Nat.le_trans (List.length_filter_le _ _) ?_
  simp
/-- the first i parts are written down, and j places of the next -/
def Where (ps : List (List Int)) (ws : List Int) (i j : Nat) : Prop :=
  ws.length = 7 ∧ ∀ k p y x, ps[k]? = some p → p[y]? = some x → (k < i ∨ (k = i ∧ y < j)) → ws.getD x.toNat 0 = (k : Int)
theorem Where.next {ps : List (List Int)} {ws : List Int} {i : Nat} {p : List Int} (h : Where ps ws i p.length) (hp : ps[i]? = some p) : Where ps ws (i + 1) 0 :=
  ⟨h.1, fun k q y x hk hy hc => by
    rcases Nat.lt_or_ge k i with h1 | h1
    · exact h.2 k q y x hk hy (.inl h1)
    · obtain rfl : k = i := by omega
      obtain rfl : q = p := Option.some.inj (hk.symm.trans hp)
      exact h.2 k q y x hk hy (.inr ⟨rfl, (List.getElem?_eq_some_iff.mp hy).1⟩)⟩
theorem Where.set {ps : List (List Int)} {ws : List Int} {i j : Nat} (h7 : Perm7 ps) (h : Where ps ws i j) {p : List Int} {x : Int} (hp : ps[i]? = some p) (hx : p[j]? = some x) : Where ps (ws.set x.toNat (i : Int)) i (j + 1) := by
  have hr := h7.rng hp (List.mem_of_getElem? hx)
  refine ⟨by rw [List.length_set]; exact h.1, fun k q y z hk hz hc => ?_⟩
  have hz7 := h7.rng hk (List.mem_of_getElem? hz)
  by_cases e : z = x
  · subst e
    have hnd : ps.flatten.Nodup := (List.Perm.nodup_iff h7).mpr (by decide)
    have hki : k = i := by
      rcases Nat.lt_trichotomy k i with h1 | h1 | h1
      · exfalso
        have := List.pairwise_iff_getElem.mp (List.pairwise_flatten.mp hnd).2 k i (List.getElem?_eq_some_iff.mp hk).1 (List.getElem?_eq_some_iff.mp hp).1 h1
        rw [(List.getElem?_eq_some_iff.mp hk).2, (List.getElem?_eq_some_iff.mp hp).2] at this
        exact this z (List.mem_of_getElem? hz) z (List.mem_of_getElem? hx) rfl
      · exact h1
      · omega
    rw [List.getD_eq_getElem?_getD, List.getElem?_set_self (by rw [h.1]; omega), hki]; rfl
  · rw [List.getD_eq_getElem?_getD, List.getElem?_set_ne (by omega), ← List.getD_eq_getElem?_getD]
    refine h.2 k q y z hk hz ?_
    rcases hc with h1 | ⟨rfl, h2⟩
    · exact .inl h1
    · refine .inr ⟨rfl, ?_⟩
      rcases Nat.lt_or_ge y j with h3 | h3
      · exact h3
      · exfalso
        obtain rfl : y = j := by omega
        obtain rfl : q = p := Option.some.inj (hk.symm.trans hp)
        exact e (Option.some.inj (hz.symm.trans hx))
theorem Where.zero {ps : List (List Int)} {ws : List Int} (h : ws.length = 7) : Where ps ws 0 0 := ⟨h, fun k p y x _ _ hc => by omega⟩
theorem Perm7.at {ps : List (List Int)} (h : Perm7 ps) {x : Int} (h0 : 0 ≤ x) (h1 : x < 7) : ∃ (k : Nat) (p : List Int) (y : Nat), ps[k]? = some p ∧ p[y]? = some x := by
  have h2 : x ∈ ps.flatten := (List.Perm.mem_iff h).mpr (by simp only [List.mem_cons, List.not_mem_nil, or_false]; omega)
  obtain ⟨p, hp, hx⟩ := List.mem_flatten.mp h2
  obtain ⟨k, hk⟩ := List.getElem?_of_mem hp
  obtain ⟨y, hy⟩ := List.getElem?_of_mem hx
  exact ⟨k, p, y, hk, hy⟩
theorem where_lt {ps : List (List Int)} {ws : List Int} {n : Nat} (h7 : Perm7 ps) (h : Where ps ws n 0) (hn : ps.length = n) {b e : Int} (hb : 0 ≤ b ∧ b < 7) (he : 0 ≤ e ∧ e < 7) (hlt : ws.getD b.toNat 0 < ws.getD e.toNat 0) :
    ∃ (i j : Nat) (p q : List Int), ps[i]? = some p ∧ ps[j]? = some q ∧ b ∈ p ∧ e ∈ q ∧ i < j := by
  obtain ⟨i, p, y, hi, hy⟩ := h7.at hb.1 hb.2
  obtain ⟨j, q, z, hj, hz⟩ := h7.at he.1 he.2
  rw [h.2 i p y b hi hy (.inl (hn ▸ (List.getElem?_eq_some_iff.mp hi).1)), h.2 j q z e hj hz (.inl (hn ▸ (List.getElem?_eq_some_iff.mp hj).1))] at hlt
  exact ⟨i, j, p, q, hi, hj, List.mem_of_getElem? hy, List.mem_of_getElem? hz, by omega⟩
/-- what the loop over the parts keeps -/
def PJ (ps : List (List Int)) (c1 c2 Wa sl ql : Addr) (i j : Nat) (m : Str → Option Value) (nx : Led) : Prop :=
  ∃ o1 o2 v0 wv n ws, nx = [(c1, o1), (c2, o2), (Wa, listOf wv.toArray n)] ∧ o1.data = .cell (some (.ref Wa)) ∧ o2.data = .cell v0 ∧ IntsAre wv ws ∧ Where ps ws i j ∧ m (Str.ofString "parts") = some (.ref ql) ∧ m (Str.ofString "streets") = some (.ref sl)
theorem parted_init {g h : Heap} {L W sl ql : Addr} {o1 o2 o3 : Obj} {t : Tok} {a1 a2 a3 a4 : Prop} {news : Led} {m : Str → Option Value} {ps : List (List Int)} (F : Fr g L h m)
    (N : News g L h ((L + 1 + 1 + 1, o1) :: (L + 1 + 1, o2) :: (L + 1, o3) :: (W, listOf (List.replicate (Int.toNat 7) [Value.int 0 t]).flatten.toArray 0) :: news)) (l1 : a1 ∧ a2 ∧ a3 ∧ a4 ∧ L + 1 + 1 + 1 < W ∧ L + 1 + 1 < W ∧ L + 1 < W ∧ AllLt W news)
    (e1 : o1.data = .cell (some (.ref W))) (e2 : o2.data = .cell none) (l0 : AllLt L news) (hi : IntsAre (List.replicate (Int.toNat 7) [Value.int 0 t]).flatten (List.replicate (Int.toNat 7) [0]).flatten)
    (m1 : m (Str.ofString "parts") = some (.ref ql)) (m2 : m (Str.ofString "streets") = some (.ref sl)) :
    ∃ Wa nx, Fr g L h m ∧ News g L h (((L + 1, o3) :: news) ++ nx) ∧ PJ ps (L + 1 + 1 + 1) (L + 1 + 1) Wa sl ql 0 0 m nx ∧ (∀ p ∈ (L + 1, o3) :: news, ∀ q ∈ nx, p.1 ≠ q.1) ∧ @LT.lt Nat _ (L + 1 + 1 + 1) Wa := by
  obtain ⟨_, _, _, _, h1, h2, h3, h4⟩ := l1
  refine ⟨W, [(L + 1 + 1 + 1, o1), (L + 1 + 1, o2), (W, listOf (List.replicate (Int.toNat 7) [Value.int 0 t]).flatten.toArray 0)], F, news_sub N fun p hp => by simp only [List.mem_cons, List.mem_append, List.not_mem_nil, or_false] at hp ⊢; rcases hp with (h | h) | h | h | h <;> simp [h], ⟨o1, o2, _, _, _, _, rfl, e1, e2, hi, .zero rfl, m1, m2⟩, ?_, h1⟩
  intro p hp q hq
  simp only [List.mem_cons, List.not_mem_nil, or_false] at hp hq
  have low : ∀ p ∈ news, @LT.lt Nat _ p.1 L ∧ @LT.lt Nat _ p.1 W := fun p hp => ⟨allLt_mem l0 p hp, allLt_mem h4 p hp⟩
  have h1' : @LT.lt Nat _ (L + 1 + 1 + 1) W := h1
  show @Ne Nat p.1 q.1
  rcases hp with rfl | hp
  · rcases hq with rfl | rfl | rfl
    · exact Nat.ne_of_lt (Nat.lt_succ_of_lt (Nat.lt_succ_self _))
    · exact Nat.ne_of_lt (Nat.lt_succ_self _)
    · exact Nat.ne_of_lt h3
  · obtain ⟨a, b⟩ := low p hp
    rcases hq with rfl | rfl | rfl
    · exact Nat.ne_of_lt (Nat.lt_of_lt_of_le a (Nat.le_add_right L 3))
    · exact Nat.ne_of_lt (Nat.lt_of_lt_of_le a (Nat.le_add_right L 2))
    · exact Nat.ne_of_lt b
/-- what the loop over a part's places keeps -/
def PJ2 (ps : List (List Int)) (c1 c2 Wa sl ql : Addr) (i : Nat) (t : Tok) (a : Addr) (j : Nat) (m : Str → Option Value) (nx : Led) : Prop :=
  PJ ps c1 c2 Wa sl ql i j m nx ∧ m (Str.ofString "spot") = some (.int (i : Int) t) ∧ m (Str.ofString "part") = some (.ref a)
theorem PJ.map {ps : List (List Int)} {c1 c2 Wa sl ql : Addr} {i j : Nat} {m : Str → Option Value} {nx : Led} (h : PJ ps c1 c2 Wa sl ql i j m nx) : nx.map (·.1) = [c1, c2, Wa] := by
  obtain ⟨_, _, _, _, _, _, rfl, _⟩ := h; rfl
end Mine
end
-- Glue
section
open PySem PySem.W PySem.Spec PySem.Calls PyProof.Rows
set_option maxRecDepth 100000
namespace Mine
theorem low_cL (c k : Int) (h0 : 0 ≤ k) (h1 : k < 7) : Txt.lower (cL c k) = letL k := by
  unfold cL
  split
  · exact low_up k.toNat (by omega)
  · exact low_same _ (letL_mem k)
theorem letL_inj {a b : Int} (a0 : 0 ≤ a) (a1 : a < 7) (b0 : 0 ≤ b) (b1 : b < 7) (h : letL a = letL b) : a = b := by
  have key : ∀ i : Nat, i < 7 → ∀ j : Nat, j < 7 → lowL.getD i "a" = lowL.getD j "a" → i = j := by decide +kernel
  have := key a.toNat (by omega) b.toNat (by omega) h
  omega
theorem dig_idx {e : Int} (h0 : 0 ≤ e) (h1 : e < 7) : ((digL.idxOf (digS e) : Nat) : Int) = e := by
  have key : ∀ i : Nat, i < 7 → digL.idxOf (digL.getD i "0") = i := by decide +kernel
  have := key e.toNat (by omega)
  unfold digS
  omega
/-- the streets out of a place -/
theorem adj_gen {cs : List Int} {f g : Int → Int} (hf : ∀ c, 0 ≤ f c ∧ f c < 7) (hg : ∀ c, 0 ≤ g c ∧ g c < 7) {v o : Int} (h0 : 0 ≤ v) (h1 : v < 7) :
    o ∈ adjT (cs.map fun c => (cL c (f c), digS (g c))) v ↔ ∃ c ∈ cs, f c = v ∧ g c = o := by
  unfold adjT getAll
  simp only [List.mem_map, List.mem_filter]
  constructor
  · rintro ⟨x, ⟨p, ⟨⟨c, hc, rfl⟩, hp⟩, rfl⟩, rfl⟩
    refine ⟨c, hc, ?_, (dig_idx (hg c).1 (hg c).2).symm⟩
    have hp : Txt.lower (cL c (f c)) = letL v := by simpa using hp
    rw [low_cL _ _ (hf c).1 (hf c).2] at hp
    exact letL_inj (hf c).1 (hf c).2 h0 h1 hp
  · rintro ⟨c, hc, rfl, rfl⟩
    refine ⟨_, ⟨_, ⟨⟨c, hc, rfl⟩, ?_⟩, rfl⟩, dig_idx (hg c).1 (hg c).2⟩
    rw [low_cL _ _ (hf c).1 (hf c).2]
    exact beq_self_eq_true _
theorem adj_fwd {cs : List Int} {v o : Int} (h0 : 0 ≤ v) (h1 : v < 7) : o ∈ adjT (fwdF cs) v ↔ (v, o) ∈ strF cs := by
  have z := adj_gen (cs := cs) cB_rng cE_rng (v := v) (o := o) h0 h1
  refine Iff.trans z ?_
  unfold strF
  simp only [List.mem_map, Prod.mk.injEq]
theorem adj_bwd {cs : List Int} {v o : Int} (h0 : 0 ≤ v) (h1 : v < 7) : o ∈ adjT (bwdF cs) v ↔ (o, v) ∈ strF cs := by
  have z := adj_gen (cs := cs) cE_rng cB_rng (v := v) (o := o) h0 h1
  refine Iff.trans z ?_
  unfold strF
  simp only [List.mem_map, Prod.mk.injEq]
  exact ⟨fun ⟨c, h, a, b⟩ => ⟨c, h, b, a⟩, fun ⟨c, h, a, b⟩ => ⟨c, h, b, a⟩⟩
theorem town_gen {cs : List Int} (h9 : cs.length = 9) (f g : Int → Int) : TownOk (cs.map fun c => (cL c (f c), digS (g c))) := by
  refine ⟨fun p hp => ?_, fun p hp => ?_, by rw [List.length_map]; omega⟩
  · obtain ⟨c, _, rfl⟩ := List.mem_map.mp hp; exact cL_mem _ _
  · obtain ⟨c, _, rfl⟩ := List.mem_map.mp hp; exact digS_mem _
theorem ok_fwd {cs : List Int} (h9 : cs.length = 9) : TownOk (fwdF cs) := town_gen h9 cB cE
theorem ok_bwd {cs : List Int} (h9 : cs.length = 9) : TownOk (bwdF cs) := town_gen h9 cE cB
theorem str_rng {cs : List Int} : ∀ p ∈ strF cs, (0 ≤ p.1 ∧ p.1 < 7) ∧ (0 ≤ p.2 ∧ p.2 < 7) := by
  intro p hp
  obtain ⟨c, _, rfl⟩ := List.mem_map.mp hp
  exact ⟨cB_rng c, cE_rng c⟩
section
variable {cs : List Int} {σ : SS}
/-- the places -/
theorem walked_mem (W : Walked (adjT (fwdF cs)) σ) (x : Int) : x ∈ σ.parts.flatten ↔ 0 ≤ x ∧ x < 7 := by
  constructor
  · intro hx
    exact W.inv.dr x (W.inv.pdn x hx).1
  · rintro ⟨h0, h1⟩
    rcases W.inv.cov x (W.all x h0 h1) with h | h
    · rw [W.segs] at h; cases h
    · exact h
theorem perm_seven {l : List Int} (hn : l.Nodup) (hm : ∀ x, x ∈ l ↔ 0 ≤ x ∧ x < 7) : l.Perm [0, 1, 2, 3, 4, 5, 6] := by
  refine (List.perm_ext_iff_of_nodup hn (by decide)).mpr fun x => ?_
  rw [hm]
  simp only [List.mem_cons, List.not_mem_nil, or_false]
  omega
theorem walked_perm (W : Walked (adjT (fwdF cs)) σ) : Perm7 σ.parts := perm_seven W.inv.pnd (walked_mem W)
theorem walked_done (W : Walked (adjT (fwdF cs)) σ) : σ.done.length = 7 :=
  (perm_seven W.inv.dn fun x => ⟨W.inv.dr x, fun h => W.all x h.1 h.2⟩).length_eq
theorem walked_reach (W : Walked (adjT (fwdF cs)) σ) {p : List Int} (hp : p ∈ σ.parts) {x y : Int} (hx : x ∈ p) (h1 : Reach (adjT (fwdF cs)) x y) (h2 : Reach (adjT (fwdF cs)) y x) : y ∈ p := by
  obtain ⟨A, B, e⟩ := List.append_of_mem hp
  have nd := W.inv.pnd
  have clo := W.inv.clo
  rw [e, List.flatten_append, List.flatten_cons] at nd
  obtain ⟨n1, n2, n3⟩ := List.nodup_append.mp nd
  have cloA : ∀ A' Q B', A = A' ++ Q :: B' → ∀ x ∈ Q, ∀ y ∈ adjT (fwdF cs) x, y ∈ A'.flatten ∨ y ∈ Q := fun A' Q B' e' => clo A' Q (B' ++ p :: B) (by rw [e, e']; simp)
  have cloP : ∀ A' Q B', A ++ [p] = A' ++ Q :: B' → ∀ x ∈ Q, ∀ y ∈ adjT (fwdF cs) x, y ∈ A'.flatten ∨ y ∈ Q := fun A' Q B' e' => clo A' Q (B' ++ B) (by
    rw [e, show A ++ p :: B = (A ++ [p]) ++ B by simp, e']; simp)
  have hy := stays cloP h1 (by simp [hx])
  rw [List.flatten_append] at hy
  rcases List.mem_append.mp hy with hy | hy
  · exact absurd rfl (n3 x (stays cloA h2 hy) x (List.mem_append_left _ hx))
  · simpa using hy
open Classical in
theorem walked_mates (W : Walked (adjT (fwdF cs)) σ) : ∀ p ∈ σ.parts, ∀ x ∈ p, mates (War (fun i j => (i, j) ∈ strF cs) 7) x 7 = p := by
  intro p hp x hx
  have hr : ∀ x, ∀ o ∈ adjT (fwdF cs) x, 0 ≤ o ∧ o < 7 := fun x o ho => by
    obtain ⟨y, hy, rfl⟩ := List.mem_map.mp ho
    unfold getAll at hy
    obtain ⟨q, hq, rfl⟩ := List.mem_map.mp hy
    obtain ⟨c, _, rfl⟩ := List.mem_map.mp (List.mem_filter.mp hq).1
    rw [dig_idx (cE_rng c).1 (cE_rng c).2]
    exact cE_rng c
  have rng : ∀ y ∈ p, 0 ≤ y ∧ y < 7 := fun y hy => (walked_mem W y).mp (List.mem_flatten.mpr ⟨p, hp, hy⟩)
  have w1 : ∀ a b : Int, 0 ≤ a → a < 7 → Reach (adjT (fwdF cs)) a b → War (fun i j => (i, j) ∈ strF cs) 7 a b := fun a b a0 a1 h => reach_war7 (fun i j i0 i1 hj => (adj_fwd i0 i1).mp hj) hr h a0 a1
  have w2 : ∀ a b : Int, War (fun i j => (i, j) ∈ strF cs) 7 a b → Reach (adjT (fwdF cs)) a b := fun a b h => war_reach (E := fun i j => (i, j) ∈ strF cs) (adj := adjT (fwdF cs)) (fun i j hij => (adj_fwd (str_rng (i, j) hij).1.1 (str_rng (i, j) hij).1.2).mpr hij) 7 h
  have hmem : ∀ y, y ∈ mates (War (fun i j => (i, j) ∈ strF cs) 7) x 7 ↔ y ∈ p := by
    intro y
    unfold mates
    rw [List.mem_filter, List.mem_map]
    constructor
    · rintro ⟨_, h⟩
      have h := (decide_eq_true_eq (p := War (fun i j => (i, j) ∈ strF cs) 7 x y ∧ War (fun i j => (i, j) ∈ strF cs) 7 y x)).mp h
      exact walked_reach W hp hx (w2 _ _ h.1) (w2 _ _ h.2)
    · intro hy
      obtain ⟨y0, y1⟩ := rng y hy
      obtain ⟨x0, x1⟩ := rng x hx
      exact ⟨⟨y.toNat, List.mem_range.mpr (by omega), by omega⟩, decide_eq_true ⟨w1 _ _ x0 x1 (W.inv.scc p hp x hx y hy), w1 _ _ y0 y1 (W.inv.scc p hp y hy x hx)⟩⟩
  have sorted : (mates (War (fun i j => (i, j) ∈ strF cs) 7) x 7).Pairwise (· < ·) := by
    unfold mates
    refine List.Pairwise.filter _ ?_
    decide
  have nd : p.Nodup := (List.pairwise_flatten.mp W.inv.pnd).1 p hp
  have hperm : (mates (War (fun i j => (i, j) ∈ strF cs) 7) x 7).Perm p := (List.perm_ext_iff_of_nodup (sorted.imp fun h => Int.ne_of_lt h) nd).mpr hmem
  exact hperm.eq_of_pairwise (le := fun a b => a ≤ b) (fun a b _ _ h1 h2 => Int.le_antisymm h1 h2) (sorted.imp Int.le_of_lt) (W.inv.srt p hp)
theorem walked_order (W : Walked (adjT (fwdF cs)) σ) : ∀ b e, (b, e) ∈ strF cs → ∀ (i j : Nat) (p q : List Int), σ.parts[i]? = some p → σ.parts[j]? = some q → b ∈ p → e ∈ q → ¬ i < j := by
  intro b e hbe i j p q hi hj hb he hlt
  obtain ⟨⟨b0, b1⟩, _⟩ := str_rng _ hbe
  have hadj : e ∈ adjT (fwdF cs) b := (adj_fwd b0 b1).mpr hbe
  obtain ⟨hi', ei⟩ := List.getElem?_eq_some_iff.mp hi
  obtain ⟨hj', ej⟩ := List.getElem?_eq_some_iff.mp hj
  have hsplit : σ.parts = σ.parts.take i ++ p :: σ.parts.drop (i + 1) := by
    rw [← ei]; simp
  have nd := W.inv.pnd
  have pw := List.pairwise_iff_getElem.mp (List.pairwise_flatten.mp nd).2
  rcases W.inv.clo _ p _ hsplit b hb e hadj with h | h
  · obtain ⟨P, hP, heP⟩ := List.mem_flatten.mp h
    obtain ⟨k, hk, ek⟩ := List.getElem_of_mem hP
    rw [List.length_take] at hk
    rw [List.getElem_take] at ek
    have := pw k j (by omega) hj' (by omega)
    rw [ek, ej] at this
    exact this e heP e he rfl
  · have := pw i j hi' hj' hlt
    rw [ei, ej] at this
    exact this e h e he rfl
theorem walked_gath (W : Walked (adjT (fwdF cs)) σ) {met : List Int} {ps' : List (List Int)} (G : Gath (adjT (bwdF cs)) σ.done.reverse [] met ps') : ps' = σ.parts.reverse := by
  have hrB : ∀ x, ∀ o ∈ adjT (bwdF cs) x, 0 ≤ o ∧ o < 7 := fun x o ho => by
    obtain ⟨y, hy, rfl⟩ := List.mem_map.mp ho
    unfold getAll at hy
    obtain ⟨q, hq, rfl⟩ := List.mem_map.mp hy
    obtain ⟨c, _, rfl⟩ := List.mem_map.mp (List.mem_filter.mp hq).1
    rw [dig_idx (cB_rng c).1 (cB_rng c).2]
    exact cB_rng c
  refine gath_law7 (adj := adjT (fwdF cs)) (adjB := adjT (bwdF cs)) (fun x y hx hy => (adj_bwd hy.1 hy.2).trans (adj_fwd hx.1 hx.2).symm) W.inv.ord (qs := []) (m := []) W.inv.dn ?_ ?_ ?_ (by simp) W.inv.clo W.inv.scc W.inv.srt ?_ G
  · rw [List.append_nil]; exact W.inv.pnd
  · intro x hx
    rw [List.append_nil]
    exact (walked_mem W x).mpr (W.inv.dr x hx)
  · intro x hx
    rw [List.append_nil] at hx
    exact (walked_mem W x).mp hx
  · intro y z hz
    rw [List.append_nil]
    exact (walked_mem W z).mpr (hrB y z hz)
end
end Mine
end
-- LawG
section
open PySem PySem.W PySem.Spec PySem.Calls PyProof.Rows
set_option maxRecDepth 100000
namespace Mine
theorem callG_cells {prog : Program} {w : World} {A : Around} {R : Result → Shared → Prop} {s : Shared} {name : Str} {params : Arguments} {body : List Stmt} {scope : Scope}
    {pm cd doc dV kV : Value} {a : Addr} {o : Obj} {args : List Value} {binds : List (Str × Value)}
    (hroom : A.depth < recursionLimit) (ho : s.heap.get? a = some o) (hdata : o.data = .func { Calls.docDef name params body scope pm cd doc with defaults := dV, kwdefaults := kV }) (hlim : s.heap.NoLimit) (hcd : s.heap.CodeRec cd name)
    (hbind : bindArgs { Calls.docDef name params body scope pm cd doc with defaults := dV, kwdefaults := kV } ⟨args, []⟩ = pure binds)
    (hkind : ∀ x ∈ binds, scope.names.lookup x.1 = some .local ∨ (scope.names.lookup x.1 = some .cell ∧ ((cellsFrom (s.heap.objs.size + 1) scope.names []).lookup x.1).isSome = true))
    (hnd : ((cellsFrom 0 scope.names []).map (·.1)).Nodup)
    (h : ∀ h₁ tk cells, Fr s.heap s.heap.objs.size h₁ (bindL (envOfC name scope s.heap.objs.size a cd).kindOf binds fun _ => none) → News s.heap s.heap.objs.size h₁ cells →
      CellsAre (bindC (envOfC name scope s.heap.objs.size a cd).kindOf binds fun _ => none) (cellsFrom (s.heap.objs.size + 1) scope.names []) cells →
      wpG (model prog w) (A.deeper (envOfC name scope s.heap.objs.size a cd)) (execs body (envOfC name scope s.heap.objs.size a cd))
        (fun f s' => R (.ok (.ret (match f with | .ret v => v | _ => .none))) s')
        (fun e s' => wpAny (model prog w) (A.deeper (envOfC name scope s.heap.objs.size a cd)) (leaving (envOfC name scope s.heap.objs.size a cd) e)
          (fun _ s'' => R (.error e) s'') (fun e' s'' => R (.error e') s'') s')
        { s with heap := h₁, toks := tk })
    (hco : scope.isCoroutine = false := by rfl) (hgen : scope.isGenerator = false := by rfl) (hk : scope.kind = .function := by rfl) :
    codeG (model prog w) A (.call (.ref a) ⟨args, []⟩) R s := by
  refine codeG_call_function hroom ho hdata hco hgen rfl hcd (wpAny_of_eq hbind ?_)
  refine wpAny_newFunctionEnv_cells hk hkind fun env' he s' x => ?_
  subst he
  refine ⟨hlim.keeps x.toInCall.keep, codeG_func ?_⟩
  obtain ⟨h₁, tk, rfl, _⟩ := x.done
  have hk₁ := x.toInCall.keep
  obtain ⟨cells, NC, Y⟩ := Cl.news (h₀ := s.heap) (Nat.le_refl _) fun n c hm => ⟨x.cell n c (lookup_of_mem_nodup (cellsFrom_names scope.names 0 (s.heap.objs.size + 1) [] [] rfl ▸ hnd) hm), x.above n c hm⟩
  exact h h₁ tk cells ⟨x.toInCall.ns, fun b o e => hk₁ b o e, Nat.le_refl _⟩ NC Y
end Mine
end
-- BaseL
section
open PySem PySem.W PySem.Spec PySem.Calls PyProof.Rows
set_option maxRecDepth 100000
namespace Mine
section
variable {prog : Program} {w : World} {A : Around} {E : Value → Shared → Prop} {s : Shared} {h₀ : Heap} {L : Addr} {m : Str → Option Value} {news : Led}
/-- a list of ints from a place on, each ninth -/
theorem slice9 {value slice : Expr} {l : Addr} {vs : List Value} {ns : List Int} {k : Int} {t u : Tok} {ops : List Value} {Q : Value → Shared → Prop} (F : Fr h₀ L s.heap m) (N : News h₀ L s.heap news) (hm : s.heap.IsList l vs.toArray) (hi : IntsAre vs ns) (hz : ns.length ≤ 1000)
    (h : ∀ D ws zs h', Fr h₀ L h' m → News h₀ L h' ((D, listOf ws.toArray 0) :: news) → (∀ p ∈ news, p.1 < D) → IntsAre ws zs → Q (.ref D) { s with heap := h' })
    (hs : subscripted slice false (.ref l) (.ref s.heap.objs.size) = operate ops (getItem (.ref l) (.ref s.heap.objs.size))) (ht : ∀ r, letTemporaryGo value (.ref l) r = pure ()) :
    wpAny (model prog w) A (subscriptTail value slice (.ref l) (.ref s.heap.objs.size)) Q E { s with heap := s.heap.push { cls := .type "slice", data := .fields #[.int k t, .none, .int 9 u] } } :=
  kmk_slice3_lit F N hm (.int _ _) .none (.int _ _) (by decide) rfl (fun D h' F' N' l => h D _ _ h' F' N' l (IntsAre.pick hi _ _ _)) hs ht (by rw [List.size_toArray, hi.length, sizeLine_eq]; omega)
end
theorem law_drawn {h₀ h : Heap} {L De c1 c2 : Addr} {m : Str → Option Value} {ys : List Value} {p : Addr × Obj} {o1 o2 o' : Obj} (F : Fr h₀ L h m) (N : News h₀ L h ([(De, LCg.lst ys), p, (c1, o1)] ++ [(c2, o')])) (off : LCg.Off1 De [p, (c1, o1), (c2, o2)]) (d : o'.data = .cell (some (.ref De))) :
    ∃ o5 : Obj, Fr h₀ L h m ∧ News h₀ L h [(c1, o1), (c2, o5), (De, LCg.lst ys)] ∧ o5.data = .cell (some (.ref De)) ∧ @Ne Nat De c1 ∧ @Ne Nat De c2 :=
  ⟨o', F, news_sub N (by intro p hp; simp only [List.cons_append, List.nil_append, List.mem_cons, List.not_mem_nil, or_false] at hp ⊢; rcases hp with h | h | h <;> simp [h]), d, (off1_all off (c1, o1) (by simp)).symm, (off1_all off (c2, o2) (by simp)).symm⟩
theorem list_names {h : Heap} {a : Addr} {vs : List Value} {ns : List Int} {P : Prop} (_ : h.IsList a vs.toArray) (_ : IntsAre vs ns) (k : ∀ (a' : Addr) (vs' : List Value) (ns' : List Int), a' = a → vs' = vs → ns' = ns → P) : P := k _ _ _ rfl rfl rfl
theorem law_dr {ys : List Value} {ns : List Int} (h : IntsAre ys ((ns.take 60).map fun c => c.fmod (10 ^ 6))) : ∃ dr : List Int, IntsAre ys dr ∧ dr.length ≤ 60 ∧ ∀ x ∈ dr, 0 ≤ x ∧ x < 1000000 := by
  refine ⟨_, h, by rw [List.length_map, List.length_take]; omega, fun x hx => ?_⟩
  obtain ⟨c, _, rfl⟩ := List.mem_map.mp hx
  exact ⟨Int.fmod_nonneg_of_pos _ (by decide), Int.fmod_lt_of_pos _ (by decide)⟩
theorem law_seed {a b c d e f g h j : Int} {t1 t2 t3 t4 t5 t6 t7 t8 t9 : Tok} {i : Nat} {v : Value} (hv : ([Value.int a t1, Value.int b t2, Value.int c t3, Value.int d t4, Value.int e t5, Value.int f t6, Value.int g t7, Value.int h t8, Value.int j t9] : List Value)[i]? = some v) : ∃ c t, v = .int c t := by
  match i, hv with
  | 0, hv | 1, hv | 2, hv | 3, hv | 4, hv | 5, hv | 6, hv | 7, hv | 8, hv => exact ⟨_, _, (Option.some.inj hv).symm⟩
theorem law_cells {h₀ h : Heap} {L Dc c1 c2 De t : Addr} {m : Str → Option Value} {us ys : List Value} {ot o1 o5 : Obj} (F : Fr h₀ L h m) (N : News h₀ L h [(Dc, LCg.lst us), (t, ot), (c2, o1), (c1, o5), (De, LCg.lst ys)])
    (lt : ∀ p ∈ [(t, ot), (c2, o1), (c1, o5), (De, LCg.lst ys)], @LT.lt Nat _ p.1 Dc) :
    Fr h₀ L h m ∧ News h₀ L h ((Dc, listOf us.toArray us.length) :: [(c2, o1), (c1, o5), (De, LCg.lst ys)]) ∧ OffA Dc [(c2, o1), (c1, o5), (De, LCg.lst ys)] :=
  ⟨F, news_sub N (by intro p hp; simp only [List.mem_cons, List.not_mem_nil, or_false] at hp ⊢; rcases hp with h | h | h | h <;> simp [h, W.listOf]), fun p hp => Nat.ne_of_lt (lt p (List.mem_cons_of_mem _ hp))⟩
theorem law_st {h₀ h : Heap} {L R sl c1 c2 De : Addr} {tp ls o1 o5 ly : Obj} {tl : Led} (N : News h₀ L h ((R, tp) :: (sl, ls) :: (tl ++ [(c2, o1), (c1, o5), (De, ly)]))) : News h₀ L h ((c2, o1) :: (sl, ls) :: (tl ++ [(c1, o5), (De, ly)])) :=
  news_sub N (by intro p hp; simp only [List.mem_cons, List.mem_append, List.not_mem_nil, or_false] at hp ⊢; grind)
theorem law_st_ne {sl c1 c2 De : Addr} {ls o1 o5 ly : Obj} {tl : Led} (h1 : ∀ p ∈ tl ++ [(c2, o1), (c1, o5), (De, ly)], p.1 ≠ sl) (h4 : OffL tl [(c2, o1), (c1, o5), (De, ly)]) (hD : @Ne Nat De c2) (hc : @Ne Nat c1 c2) : ∀ p ∈ (sl, ls) :: (tl ++ [(c1, o5), (De, ly)]), p.1 ≠ c2 := by
  intro p hp
  simp only [List.mem_cons, List.mem_append, List.not_mem_nil, or_false] at hp
  rcases hp with rfl | hp | rfl | rfl
  · exact (h1 (c2, o1) (by simp)).symm
  · exact h4 p hp (c2, o1) (.head _)
  · exact hc
  · exact hD
/-- the towns' ledger, from here on only read -/
theorem law_towns {h₀ h : Heap} {L sl c1 c2 De tw1 tw2 : Addr} {m : Str → Option Value} {n0 : Nat} {o7 o5 : Obj} {ys : List Value} {pl : List Addr} {tl : Led} {ss : List (Int × Int)} {fs bs : List (Str × Str)} (F : Fr h₀ L h m) (N : News h₀ L h ((c2, o7) :: (sl, listOf (pl.map Value.ref).toArray n0) :: (tl ++ [(c1, o5), (De, LCg.lst ys)])))
    (h1 : IPairs tl pl ss) (h2 : Town tl tw1 fs) (h3 : Town tl tw2 bs) :
    ∃ M : Led, Fr h₀ L h m ∧ News h₀ L h M ∧ (c2, o7) ∈ M ∧ (c1, o5) ∈ M ∧ (De, listOf ys.toArray ys.length) ∈ M ∧ (sl, listOf (pl.map Value.ref).toArray n0) ∈ M ∧ IPairs M pl ss ∧ Town M tw1 fs ∧ Town M tw2 bs := by
  have sub : ∀ p ∈ tl, p ∈ (c2, o7) :: (sl, listOf (pl.map Value.ref).toArray n0) :: (tl ++ [(c1, o5), (De, LCg.lst ys)]) := fun p hp => by simp [hp]
  exact ⟨_, F, N, by simp, by simp, by simp [W.listOf], by simp, h1.mono sub, h2.mono sub, h3.mono sub⟩
end Mine
end
-- TupC
section
open PySem PySem.W PySem.Spec PySem.Calls PyProof.Rows PyProof.Rows.LCg
set_option maxRecDepth 100000
set_option maxHeartbeats 2000000
namespace Mine
section
variable {prog : Program} {w : World} {A : Around} {E : Value → Shared → Prop} {s : Shared} {env : Env} {h₀ : Heap} {L : Addr} {m : Str → Option Value}
/-- where a comprehension over a tuple of the ledger begins -/
def TSrc (prog : Program) (w : World) (A : Around) (h₀ : Heap) (L : Addr) (m : Str → Option Value) (env : Env) (elt : Expr) (x : Str) (scope : Scope) (cl : List (Str × Addr)) (Fin : Shared → List Value → Led → Prop) (xv : Value) (s₁ : Shared) : Prop :=
  ∃ (ax : Addr) (its : Array Value) (news : Led) (o : Obj) (n : Nat), xv = .ref ax ∧ A.handled = none ∧ Fr h₀ L s₁.heap m ∧ News h₀ L s₁.heap news ∧ (ax, o) ∈ news ∧ o.cls = .type "tuple" ∧ o.data = .seq its n ∧ its.size ≤ sizeLine ∧
    ∀ s₂ : Shared, (∃ h, s₂ = { s₁ with heap := h }) → CompRest prog w A h₀ L m env elt x scope cl s₂ (fun nw => (ax, o) ∈ nw) (fun i v => its[i]? = some v) (Fin s₂) its.size 0 [] news
theorem tuple_of {h : Heap} {ax : Addr} {o : Obj} {its : Array Value} {n : Nat} {news : Led} (N : News h₀ L h news) (hm : (ax, o) ∈ news) (hc : o.cls = .type "tuple") (hd : o.data = .seq its n) : h.IsTuple ax its := ⟨o, (N _ hm).1, hc, n, hd⟩
theorem tup_assign {elt iter : Expr} {x y : Str} {px py : Pos} {scope : Scope} {cl : List (Str × Addr)} {pos spos : Pos} {Q : Flow → Shared → Prop} (hLe : env.locals = L)
    (hsw : swapsWith (.ListComp elt [⟨.Name x px, iter, [], 0⟩] scope pos) (some (.Name y py)) spos.line env = pure true)
    (hclos : closureFor scope env = pure cl) (hcell : ∀ z ∈ scope.names, z.2 ≠ .cell) (hkind : scope.kind = .function)
    (hnames : ∀ z ∈ scope.names, z.2 = .local → scope.names.lookup z.1 = some .local) (hx : scope.names.lookup x = some .local)
    (hy : env.kindOf y = some .local) (hp : (env.scope.kind == .class || (env.scope.kind == .module && env.locals != env.globals)) = false)
    (h : wpAny (model prog w) A (eval iter env) (TSrc prog w A h₀ L m env elt x scope cl (fun s₂ => FinA h₀ L m s₂ y Q)) E s)
    (hs : ∀ x, foldedSetIterable iter env x = pure x := by intro _; rfl) :
    wpAny (model prog w) A (exec (.Assign [.Name y py] (.ListComp elt [⟨.Name x px, iter, [], 0⟩] scope pos) spos) env) Q E s := by
  subst hLe
  rw [exec_Assign_Name_used _ _ _ _ hsw]
  refine wpAny_bind (wpAny_standAt (wpAny_bind ?_))
  show wpAny _ A (do let _ ← comprehension (.ListComp elt [⟨.Name x px, iter, [], 0⟩] scope pos) scope env _ (newList []) false (eval iter env) (some (assign (.Name y py) env))) _ _ s
  refine wpAny_bind (wpAny_mono (wpAny_comprehension_free (use := some (assign (.Name y py) env)) (Q := fun _ s' => Q .next s') rfl hs hclos hkind hnames
    (wpAny_mono h (fun xv s₁ h₁ => ?_) fun _ _ e => e)) (fun _ s' hq => wpAny_pure (wpAny_pure hq)) fun _ _ e => e)
  obtain ⟨ax, its, news, o, n, rfl, hh, F, N, hm, hc, hd, hsz, R⟩ := h₁
  have hl := tuple_of N hm hc hd
  have hlt : ax < s₁.heap.objs.size := by obtain ⟨_, e, _⟩ := hl; exact Heap.lt_size e
  refine wpAny_pyIter_tuple hl ?_
  have up : ∀ b o, s₁.heap.get? b = some o → (s₁.heap.push { cls := .type "tuple_iterator", data := .fields #[.ref ax, .int 0 0] }).get? b = some o := fun b o e => Heap.get?_push_of_some _ e
  refine block_U (Walks.tuple hh s₁.heap.objs.size ax (Nat.ne_of_lt hlt) its) hsz (fun i h st => by obtain ⟨o, e, _⟩ := st.1; exact ⟨o, e⟩)
    (fun i h h' o' nw st e e' k N S => ⟨by obtain ⟨o', q, r⟩ := st.1; rw [e] at q; cases q; exact ⟨_, e', r⟩, tuple_of N S hc hd⟩) hcell hkind hx ⟨⟨_, Heap.get?_push_size _ rfl, rfl, rfl⟩, hl.at fun o e => Heap.get?_push_of_some _ e⟩ (fun b hb => ?_)
    (F.keeps up) (N.grown up) (Nat.ne_of_lt F.ns.lt) (next_is_new F) (fun p hp => Nat.ne_of_lt (Heap.lt_size (N p hp).1)) hm (R _ ⟨_, rfl⟩) ?_
  · show b < (s₁.heap.push _).objs.size
    rw [Heap.size_push]
    rcases List.mem_cons.mp hb with rfl | hb
    · exact Nat.lt_succ_self _
    · rw [List.mem_singleton.mp hb]; exact Nat.lt_succ_of_lt hlt
  · intro D C h' tk m' ys news' F' N' o1 hn hC₀ hD₀ hCL hDL hCD offC fin
    show wpAny _ A (assign (.Name y py) env (.ref D)) _ _ _
    refine wpAny_assign_Name (wpAny_storeName_local hy F'.ns (fun h₂ hn₂ hs₂ => ?_) hp)
    have hL₀ : h₀.get? env.locals = none := Heap.get?_none_of_le F'.above
    have F₂ : Fr h₀ env.locals h₂ (fun z => if z = y then some (.ref D) else m z) := ⟨hn₂, fun b o e => hs₂.extBut b o (fun q => by rw [q, hL₀] at e; cases e) (F'.keep b o e), F'.above⟩
    refine ⟨m', hn.sameBut hs₂ hCL, fun h'' hs'' => fin D h'' _ (F₂.change hs'' hCL hC₀) (fun p hp => ?_) o1⟩
    have z : h₂.get? p.1 = some p.2 := hs₂.extBut _ _ (N' p hp).2.1 (N' p hp).1
    refine ⟨hs''.extBut _ _ ?_ z, (N' p hp).2⟩
    rcases List.mem_cons.mp hp with rfl | hp
    · exact Ne.symm hCD
    · exact offC p hp
end
end Mine
end
-- BaseL2
section
open PySem PySem.W PySem.Spec PySem.Calls PyProof.Rows PyProof.Rows.LCg
set_option maxRecDepth 100000
namespace Mine
/-- what a walk has left in the ledger -/
def WalkRes (es : List (Str × Str)) (nw : Led) (R : Addr) : Prop :=
  ∃ da qa σ vd n3 pl n4, (R, tup [.ref da, .ref qa]) ∈ nw ∧ (da, W.listOf vd.toArray n3) ∈ nw ∧ (qa, W.listOf (pl.map Value.ref).toArray n4) ∈ nw ∧ Walked (adjT es) σ ∧ IntsAre vd σ.done ∧ Parts nw pl σ.parts
theorem WalkRes.mono {es : List (Str × Str)} {nw nw' : Led} {R : Addr} (h : WalkRes es nw R) (hs : ∀ p ∈ nw, p ∈ nw') : WalkRes es nw' R := by
  obtain ⟨da, qa, σ, vd, n3, pl, n4, h1, h2, h3, h4, h5, h6⟩ := h
  exact ⟨da, qa, σ, vd, n3, pl, n4, hs _ h1, hs _ h2, hs _ h3, h4, h5, h6.mono hs⟩
/-- the first i walks are gone -/
def WsJ (es : List (Str × Str)) (M : Led) (i : Nat) (ys : List Value) (nw : Led) : Prop := (∀ p ∈ M, p ∈ nw) ∧ ∃ rs : List Addr, ys = rs.map Value.ref ∧ rs.length = i ∧ ∀ R ∈ rs, WalkRes es nw R
theorem walks_step {es : List (Str × Str)} {M nw nw2 : Led} {i : Nat} {ys : List Value} {h₀ h : Heap} {L I C D ax : Addr} {oI oC o : Obj} {m : Str → Option Value} {s₁ : Shared} {r : Value} {tk : Nat}
    (F : Fr h₀ L h m) (N : News h₀ L h nw2) (P : WalkPost2 es ((I, oI) :: (C, oC) :: (D, lst ys) :: nw) r nw2) (off : Off3 I C D nw) (hJ : WsJ es M i ys nw) (hax : (ax, o) ∈ M) :
    CompEnd h₀ L m s₁ I oI C oC D (lst ys) (fun nw => (ax, o) ∈ nw) (fun y nw' => WsJ es M (i + 1) (ys ++ [y]) nw') r { s₁ with heap := h, toks := tk } := by
  obtain ⟨R, da, qa, σ, tl, vd, n3, pl, n4, rfl, rfl, w1, w2, w3, lt, sep⟩ := P
  obtain ⟨hM, rs, hrs, hrl, hR⟩ := hJ
  have old : ∀ p ∈ nw, p ∈ (R, tup [.ref da, .ref qa]) :: (da, W.listOf vd.toArray n3) :: (qa, W.listOf (pl.map Value.ref).toArray n4) :: (tl ++ nw) := fun p hp => by simp [hp]
  refine CompEnd.intro F N ((R, tup [.ref da, .ref qa]) :: (da, W.listOf vd.toArray n3) :: (qa, W.listOf (pl.map Value.ref).toArray n4) :: (tl ++ nw)) ?_ ?_ (old _ (hM _ hax)) ⟨fun p hp => old p (hM p hp), rs ++ [R], by rw [hrs, List.map_append]; rfl, by rw [List.length_append, hrl]; rfl, ?_⟩
  · intro p hp
    simp only [List.mem_cons, List.mem_append] at hp ⊢
    grind
  · have l1 := lt (I, oI) (by simp)
    have l2 := lt (C, oC) (by simp)
    have l3 := lt (D, lst ys) (by simp)
    have s1 := sep (I, oI) (by simp)
    have s2 := sep (C, oC) (by simp)
    have s3 := sep (D, lst ys) (by simp)
    refine Off3.of fun p hp => ?_
    rcases List.mem_cons.mp hp with rfl | hp
    · exact ⟨Nat.ne_of_gt l1, Nat.ne_of_gt l2, Nat.ne_of_gt l3⟩
    · by_cases hq : p ∈ (da, W.listOf vd.toArray n3) :: (qa, W.listOf (pl.map Value.ref).toArray n4) :: tl
      · exact ⟨(s1 p hq).symm, (s2 p hq).symm, (s3 p hq).symm⟩
      · have hp' : p ∈ nw := by
          simp only [List.mem_cons, List.mem_append] at hp hq
          grind
        exact off.mem p hp'
  · intro R' hR'
    rcases List.mem_append.mp hR' with hR' | hR'
    · exact (hR R' hR').mono old
    · rw [List.mem_singleton.mp hR']
      exact ⟨da, qa, σ, vd, n3, pl, n4, by simp, by simp, by simp, w1, w2, w3.mono fun p hp => by simp [hp]⟩
/-- the ledger with what has been reckoned, as one -/
theorem law_more {h₀ h : Heap} {L rl sl c1 c2 De tw1 tw2 : Addr} {n0 rn : Nat} {o7 o5 : Obj} {ys rv : List Value} {pl : List Addr} {M : Led} {ss : List (Int × Int)} {fs bs : List (Str × Str)} (N : News h₀ L h ((rl, W.listOf rv.toArray rn) :: M))
    (m1 : (c2, o7) ∈ M) (m2 : (c1, o5) ∈ M) (m3 : (De, W.listOf ys.toArray ys.length) ∈ M) (m4 : (sl, W.listOf (pl.map Value.ref).toArray n0) ∈ M) (h1 : IPairs M pl ss) (h2 : Town M tw1 fs) (h3 : Town M tw2 bs) :
    ∃ M1 : Led, News h₀ L h M1 ∧ (c2, o7) ∈ M1 ∧ (c1, o5) ∈ M1 ∧ (De, W.listOf ys.toArray ys.length) ∈ M1 ∧ (sl, W.listOf (pl.map Value.ref).toArray n0) ∈ M1 ∧ IPairs M1 pl ss ∧ Town M1 tw1 fs ∧ Town M1 tw2 bs ∧ (rl, W.listOf rv.toArray rn) ∈ M1 :=
  have sub : ∀ p ∈ M, p ∈ (rl, W.listOf rv.toArray rn) :: M := fun p hp => List.mem_cons_of_mem _ hp
  ⟨_, N, sub _ m1, sub _ m2, sub _ m3, sub _ m4, h1.mono sub, h2.mono sub, h3.mono sub, .head _⟩
theorem law_two {a b : Int} {t u : Tok} {i : Nat} {v : Value} (hv : (([Value.int a t, Value.int b u] : List Value).toArray)[i]? = some v) : ∃ c t, v = .int c t := by
  match i, hv with
  | 0, hv | 1, hv => exact ⟨_, _, (Option.some.inj hv).symm⟩
/-- the ledger behind the walks, as one -/
theorem law_walked {h₀ h : Heap} {L Dw rl sl tw2 : Addr} {n0 rn : Nat} {a : Addr × Obj} {yw rv : List Value} {pl : List Addr} {M1 nw : Led} {es bs : List (Str × Str)} {ss : List (Int × Int)} (N : News h₀ L h ((Dw, lst yw) :: nw)) (hJ : WsJ es (a :: M1) 2 yw nw)
    (q4 : (sl, W.listOf (pl.map Value.ref).toArray n0) ∈ M1) (q5 : IPairs M1 pl ss) (q7 : Town M1 tw2 bs) (q8 : (rl, W.listOf rv.toArray rn) ∈ M1) :
    ∃ (M2 : Led) (R0 R1 d0 d1 p0 p1 : Addr) (σ0 σ1 : SS) (v0 v1 : List Value) (k0 k1 j0 j1 nn : Nat) (pl0 pl1 : List Addr), News h₀ L h M2 ∧ (Dw, W.listOf ([.ref R0, .ref R1] : List Value).toArray nn) ∈ M2 ∧
      (R0, tup [.ref d0, .ref p0]) ∈ M2 ∧ (R1, tup [.ref d1, .ref p1]) ∈ M2 ∧ (d0, W.listOf v0.toArray k0) ∈ M2 ∧ (d1, W.listOf v1.toArray k1) ∈ M2 ∧ (p0, W.listOf (pl0.map Value.ref).toArray j0) ∈ M2 ∧ (p1, W.listOf (pl1.map Value.ref).toArray j1) ∈ M2 ∧
      Walked (adjT es) σ0 ∧ Walked (adjT es) σ1 ∧ IntsAre v0 σ0.done ∧ IntsAre v1 σ1.done ∧ Parts M2 pl0 σ0.parts ∧ Parts M2 pl1 σ1.parts ∧
      (sl, W.listOf (pl.map Value.ref).toArray n0) ∈ M2 ∧ IPairs M2 pl ss ∧ Town M2 tw2 bs ∧ (rl, W.listOf rv.toArray rn) ∈ M2 := by
  obtain ⟨hM, rs, e1, e2, hR⟩ := hJ
  match rs, e2 with
  | [R0, R1], _ =>
    have sub : ∀ p ∈ nw, p ∈ (Dw, lst yw) :: nw := fun p hp => List.mem_cons_of_mem _ hp
    have sub1 : ∀ p ∈ M1, p ∈ (Dw, lst yw) :: nw := fun p hp => sub p (hM p (List.mem_cons_of_mem _ hp))
    obtain ⟨d0, p0, σ0, v0, k0, pl0, j0, a1, a2, a3, a4, a5, a6⟩ := (hR R0 (by simp)).mono sub
    obtain ⟨d1, p1, σ1, v1, k1, pl1, j1, b1, b2, b3, b4, b5, b6⟩ := (hR R1 (by simp)).mono sub
    refine ⟨_, R0, R1, d0, d1, p0, p1, σ0, σ1, v0, v1, k0, k1, j0, j1, 2, pl0, pl1, N, ?_, a1, b1, a2, b2, a3, b3, a4, b4, a5, b5, a6, b6, sub1 _ q4, q5.mono sub1, q7.mono sub1, sub1 _ q8⟩
    rw [e1]; exact .head _
theorem sp_useG {w : World} {mean : ExcName → Option Value} {mg mb : Str → Option Value}
    {f : Addr} {n : Nat} {vs : List Value} {kw : List (Str × Value)} {news : Led} {Post : Value → Led → Prop}
    {dp un : Nat} {gd : Option (List Code)} {cn : Str} {cs : Scope} {a : Addr} {ccd : Value} {cl : List (Str × Addr)} {outer : List Env} {A₀ : Around} {base h₀ : Heap} {L : Addr} {m : Str → Option Value} {s : Shared}
    {Q E : Value → Shared → Prop}
    (C : SpG w mean mg mb f n vs kw news Post) (hg : gd = some [])
    (B : Below A₀ base outer h₀) (F : Fr h₀ L s.heap m) (X : (hd.heap_39 w.params).In h₀) (N : News h₀ L s.heap news) (T : Top hd.view_39 LO mean mg mb h₀) (hk : cs.kind = .function) (hd : dp + n < recursionLimit) (hu : un + 8 * n < cLine)
    (ret : ∀ r news' h' tk', Fr h₀ L h' m → News h₀ L h' news' → Post r news' → Q r { s with heap := h', toks := tk' }) :
    wpG (model PySem.Challenge.pw_wo0047_01 w) (ktrTop dp un gd cn cs L a ccd cl outer) (call (.ref f) vs kw) Q E s :=
  C _ _ _ _ _ _ _ _ _ _ _ _ _ _ _ _ _ hg B F X N T hk hd hu ret
theorem walked_in {es : List (Str × Str)} {σ0 σ1 : SS} (w0 : Walked (adjT es) σ0) (w1 : Walked (adjT es) σ1) : ∀ n ∈ σ0.done ++ σ1.done, 0 ≤ n ∧ n < 256 := by
  intro n hn
  rcases List.mem_append.mp hn with hn | hn
  · have := w0.inv.dr n hn; omega
  · have := w1.inv.dr n hn; omega
end Mine
end
-- BaseL3
section
open PySem PySem.W PySem.Spec PySem.Calls PyProof.Rows PyProof.Rows.LCg
set_option maxRecDepth 100000
namespace Mine
theorem ints_dat {news : Led} {vs : List Value} {p : List Int} (h : IntsAre vs p) : DatAll news vs (p.map Dat.int) := by
  induction h with
  | nil => exact .nil
  | cons n t _ ih => exact .cons (.int n t) ih
theorem parts_dat {news : Led} {pl : List Addr} {ps : List (List Int)} (h : Parts news pl ps) : DatAll news (pl.map Value.ref) (ps.map fun p => Dat.list (p.map Dat.int)) := by
  induction h with
  | nil => exact .nil
  | cons hm hi _ ih => exact .cons (.list hm (ints_dat hi)) ih
theorem Parts.rev {news : Led} {pl : List Addr} {ps : List (List Int)} (h : Parts news pl ps) : Parts news pl.reverse ps.reverse := by
  induction h with
  | nil => exact .nil
  | cons hm hi _ ih => rw [List.reverse_cons, List.reverse_cons]; exact ih.snoc hm hi
theorem dat_ok (ps : List (List Int)) : ∀ d ∈ ps.map fun p => Dat.list (p.map Dat.int), kqdOk 8 d = true := by
  intro d hd
  obtain ⟨p, _, rfl⟩ := List.mem_map.mp hd
  rw [kqdOk, List.all_eq_true]
  intro e he
  obtain ⟨x, _, rfl⟩ := List.mem_map.mp he
  rfl
section
variable {prog : Program} {w : World} {A : Around} {E : Value → Shared → Prop} {s : Shared} {h₀ : Heap} {L : Addr} {m : Str → Option Value} {news : Led}
theorem ne_parts {a b : Addr} {pl ql : List Addr} {ps qs : List (List Int)} {ka kb : Nat} {Q : Value → Shared → Prop} (N : News h₀ L s.heap news) (ma : (a, W.listOf (pl.map Value.ref).toArray ka) ∈ news) (ha : Parts news pl ps)
    (mb : (b, W.listOf (ql.map Value.ref).toArray kb) ∈ news) (hb : Parts news ql qs) (e : ps = qs) (hu : A.units + 64 < cLine) (h : Q (.bool false) s) : wpAny (model prog w) A (compareOp .NotEq (.ref a) (.ref b)) Q E s :=
  kqd_ne N ma rfl rfl (parts_dat ha) (fun _ h => h) mb rfl rfl (parts_dat hb) (fun _ h => h) (dat_ok ps) (dat_ok qs) hu (by rw [e]; simpa using h)
/-- a list of parts from behind -/
theorem parts_back {value slice : Expr} {l : Addr} {pl : List Addr} {n : Nat} {t : Tok} {ops : List Value} {Q : Value → Shared → Prop} (F : Fr h₀ L s.heap m) (N : News h₀ L s.heap news) (hm : (l, W.listOf (pl.map Value.ref).toArray n) ∈ news) (hz : pl.length ≤ 1000)
    (h : ∀ D h', Fr h₀ L h' m → News h₀ L h' ((D, W.listOf (pl.reverse.map Value.ref).toArray 0) :: news) → (∀ p ∈ news, p.1 < D) → Q (.ref D) { s with heap := h' })
    (hs : subscripted slice false (.ref l) (.ref s.heap.objs.size) = operate ops (getItem (.ref l) (.ref s.heap.objs.size))) (ht : ∀ r, letTemporaryGo value (.ref l) r = pure ()) :
    wpAny (model prog w) A (subscriptTail value slice (.ref l) (.ref s.heap.objs.size)) Q E { s with heap := s.heap.push { cls := .type "slice", data := .fields #[.none, .none, .int (-1) t] } } :=
  krv_lit (its := (pl.map Value.ref).toArray) (zs := pl.reverse.map Value.ref) F N (News.isList N hm) (.int _ _) (by rw [List.map_reverse]) h hs ht (by rw [List.size_toArray, List.length_map, sizeLine_eq]; omega)
/-- an item of a list of objects -/
theorem item_ref {value slice : PySem.Expr} {l a : Addr} {vs : List Value} {nn : Nat} {i : Nat} {k : Int} {u : Tok} {Q : Value → Shared → Prop} (N : News h₀ L s.heap news) (hm : (l, W.listOf vs.toArray nn) ∈ news) (hz : vs.length ≤ 1000) (hi : vs[i]? = some (.ref a)) (hk : k = (i : Int)) (h : Q (.ref a) s)
    (hs : subscripted slice false (.ref l) (.int k u) = operate [.ref l, .int k u] (getItem (.ref l) (.int k u)) := by with_unfolding_all rfl) : wpAny (model prog w) A (subscriptTail value slice (.ref l) (.int k u)) Q E s := by
  subst hk
  have hl : s.heap.IsList l vs.toArray := News.isList N hm
  have hlt := (List.getElem?_eq_some_iff.mp hi).1
  exact tail_any hl.typeIs slot_list_getitem.lookup (wpAny_getItem_list hl (by omega) (by omega) (by simpa using hi) h) hs
theorem clip_in {n : Nat} {x : Int} {k : Nat} (e : x = (k : Int)) (h : k ≤ n) : clipAt n x = k := by
  subst e
  unfold clipAt
  rw [if_neg (Int.not_lt.mpr (Int.natCast_nonneg k)), Int.min_eq_left (Int.ofNat_le.mpr h), Int.max_eq_right (Int.natCast_nonneg k), Int.toNat_natCast]
/-- one of the two words, cut out -/
theorem slice7 {value slice : PySem.Expr} {b : Array UInt8} {t t1 t2 : Tok} {x y : Int} {ks : List Int} {i : Nat} {Q : Value → Shared → Prop} (hF : Fr h₀ L s.heap m) (hN : News h₀ L s.heap news) (hk : KBw.bInts b = ks) (hl : ks.length = 14) (hi : i < 2) (hx : x = 7 * (i : Int)) (hy : y = 7 * (i : Int) + 7)
    (h : ∀ c h' t' k, Fr h₀ L h' m → News h₀ L h' news → KBw.bInts c = (ks.drop (7 * i)).take 7 → Q (.bytes c t') { s with heap := h', toks := k })
    (hs : subscripted slice false (.bytes b t) (.ref s.heap.objs.size) = operate [.ref s.heap.objs.size, .bytes b t] (getItem (.bytes b t) (.ref s.heap.objs.size)) := by with_unfolding_all rfl)
    (ht : ∀ r, letTemporaryGo value (.bytes b t) r = pure () := by intro _; with_unfolding_all rfl) :
    wpAny (model prog w) A (subscriptTail value slice (.bytes b t) (.ref s.heap.objs.size)) Q E { s with heap := s.heap.push { cls := .type "slice", data := .fields #[.int x t1, .int y t2, .none] } } := by
  refine KBc.slice_K hF hN hk (.int _ _) (.int _ _) (by omega) (fun h' t' k F' N' e => h _ h' t' k F' N' ?_) hs ht
  rw [e]
  have e1 : clipAt ks.length x = 7 * i := clip_in hx (by omega)
  have e2 : clipAt ks.length y = 7 * i + 7 := clip_in hy (by omega)
  show (ks.drop (clipAt ks.length x)).take (clipAt ks.length y - clipAt ks.length x) = _
  rw [e1, e2, Nat.add_sub_cancel_left]
end
/-- the turned words are the rows from behind -/
theorem turned_cut {bs b : Array UInt8} {d0 d1 : List Int} (hT : Turned bs b 2 0) (hb : KBw.bInts bs = d0 ++ d1) (l0 : d0.length = 7) (l1 : d1.length = 7) {i : Nat} (hi : i < 2) {d : List Int} (hd : ([d0, d1] : List (List Int))[i]? = some d) :
    ((KBw.bInts b).drop (7 * i)).take 7 = d.reverse := by
  have hl : (KBw.bInts b).length = 14 := (KBw.ints_length b).trans hT.1
  have ld : d.length = 7 := by
    match i, hd with
    | 0, hd => rw [← Option.some.inj hd]; exact l0
    | 1, hd => rw [← Option.some.inj hd]; exact l1
  refine List.ext_getElem (by rw [List.length_take, List.length_drop, List.length_reverse]; omega) fun j h1 h2 => ?_
  rw [List.length_reverse] at h2
  have hj : j < 7 := by omega
  have key := hT.2 (7 * i + j) (.inl (Nat.div_lt_of_lt_mul (by omega)))
  have es : swapAt (7 * i + j) = 7 * i + (6 - j) := swapAt_row hj
  rw [es, hb] at key
  rw [List.getElem_take, List.getElem_drop, List.getElem_reverse]
  rw [List.getD_eq_getElem?_getD, List.getElem?_eq_getElem (by omega), List.getD_eq_getElem?_getD] at key
  have key : (KBw.bInts b)[7 * i + j] = ((d0 ++ d1)[7 * i + (6 - j)]?).getD 0 := key
  rw [key]
  match i, hd with
  | 0, hd =>
    have hd := Option.some.inj hd
    subst hd
    rw [List.getElem?_append_left (by omega), List.getElem?_eq_getElem (by omega)]
    show d0[7 * 0 + (6 - j)] = _
    congr 1; omega
  | 1, hd =>
    have hd := Option.some.inj hd
    subst hd
    rw [List.getElem?_append_right (by omega), List.getElem?_eq_getElem (by omega)]
    show d1[7 * 1 + (6 - j) - d0.length] = _
    congr 1; omega
/-- what the loop over the two walks keeps -/
def LawJ (Dw tw2 sl rl : Addr) (b : Array UInt8) (tb : Tok) (_ : Nat) (m : Str → Option Value) (nx : Led) : Prop :=
  nx = [] ∧ m (Str.ofString "walks") = some (.ref Dw) ∧ m (Str.ofString "backward") = some (.ref tw2) ∧ m (Str.ofString "streets") = some (.ref sl) ∧ m (Str.ofString "reach") = some (.ref rl) ∧ m (Str.ofString "turned") = some (.bytes b tb)
/-- one of the two walks -/
theorem law_one {M2 : Led} {R0 R1 d0 d1 p0 p1 : Addr} {σ0 σ1 : SS} {j0 j1 : Nat} {pl0 pl1 : List Addr} {es : List (Str × Str)} (z1 : (R0, tup [.ref d0, .ref p0]) ∈ M2) (z2 : (R1, tup [.ref d1, .ref p1]) ∈ M2) (z5 : (p0, W.listOf (pl0.map Value.ref).toArray j0) ∈ M2) (z6 : (p1, W.listOf (pl1.map Value.ref).toArray j1) ∈ M2)
    (w0 : Walked (adjT es) σ0) (w1 : Walked (adjT es) σ1) (ps0 : Parts M2 pl0 σ0.parts) (ps1 : Parts M2 pl1 σ1.parts) {i : Nat} (hi : i < 2) :
    ∃ (R d p : Addr) (σ : SS) (j : Nat) (pl : List Addr), ([.ref R0, .ref R1] : List Value)[i]? = some (.ref R) ∧ (R, tup [.ref d, .ref p]) ∈ M2 ∧ (p, W.listOf (pl.map Value.ref).toArray j) ∈ M2 ∧ Walked (adjT es) σ ∧ Parts M2 pl σ.parts ∧ ([σ0.done, σ1.done] : List (List Int))[i]? = some σ.done := by
  match i, hi with
  | 0, _ => exact ⟨R0, d0, p0, σ0, j0, pl0, rfl, z1, z5, w0, ps0, rfl⟩
  | 1, _ => exact ⟨R1, d1, p1, σ1, j1, pl1, rfl, z2, z6, w1, ps1, rfl⟩
theorem law_pl {cs : List Int} {σ : SS} {news : Led} {pl : List Addr} (W : Walked (adjT (fwdF cs)) σ) (h : Parts news pl σ.parts) : pl.length ≤ 7 := by
  rw [h.length]
  have h7 := (walked_perm W).len
  have : ∀ ps : List (List Int), (∀ P ∈ ps, P ≠ []) → ps.length ≤ ps.flatten.length := by
    intro ps
    induction ps with
    | nil => intro _; simp
    | cons p r ih =>
      intro hne
      have h1 := ih fun P hP => hne P (List.mem_cons_of_mem _ hP)
      have h2 := List.length_pos_iff.mpr (hne p (by simp))
      simp only [List.length_cons, List.flatten_cons, List.length_append]
      omega
  have := this σ.parts W.inv.pne
  omega
theorem law_gathered {h₀ h : Heap} {L ql pp : Addr} {nq jj : Nat} {gpl plx : List Addr} {tlg own : Led} {gps ps : List (List Int)} (N : News h₀ L h ((ql, W.listOf (gpl.map Value.ref).toArray nq) :: (tlg ++ own))) (hgp : Parts tlg gpl gps) (op : (pp, W.listOf (plx.map Value.ref).toArray jj) ∈ own) (ops : Parts own plx ps) :
    ∃ M3 : Led, News h₀ L h M3 ∧ (ql, W.listOf (gpl.map Value.ref).toArray nq) ∈ M3 ∧ Parts M3 gpl gps ∧ (pp, W.listOf (plx.map Value.ref).toArray jj) ∈ M3 ∧ Parts M3 plx.reverse ps.reverse ∧ ∀ p ∈ own, p ∈ M3 :=
  ⟨_, N, .head _, hgp.mono fun p hp => by simp [hp], by simp [op], ops.rev.mono fun p hp => by simp [hp], fun p hp => by simp [hp]⟩
end Mine
end
-- the walks
open PySem PySem.W PySem.Spec PySem.Calls PyProof.Rows
namespace Mine
set_option maxRecDepth 100000
local macro_rules | `(tactic| news_mem) => `(tactic| k_mem)
local macro_rules | `(tactic| k_mem) => `(tactic| first | with_reducible assumption | (refine' memOf ?_; with_reducible assumption))
local macro_rules | `(tactic| walk_at "my look") => `(tactic| first | with_reducible assumption | (refine Eq.trans (if_neg (by decide)) ?_; walk_at "my look"))
local macro_rules | `(tactic| walk_at "eval Name") => `(tactic| (k_here; with_reducible (refine' ld ?k1 ?k2 ?_ ?k3 ?k4); (case k1 => with_reducible assumption); (case k2 => walk_at "my look"); (case k3 => k_dflt (exact rfl)); (case k4 => k_dflt (exact rfl)); k_whole))
local macro_rules | `(tactic| walk_at "exec While Compare cons nil") => `(tactic| (k_here; refine' Stop.out ?_))
local macro_rules | `(tactic| walk_at "exec For Name Name cons nil") => `(tactic| (k_here; refine' Stop.out ?_))
local macro_rules | `(tactic| walk_at "exec For Name Call cons nil") => `(tactic| (k_here; refine' Stop.out ?_))
local macro_rules | `(tactic| walk_at "call builtin:str.lower") => `(tactic| (k_here; (refine' KXw.lower rfl ?k1 ?_; (case k1 => exact low_short _ (by assumption))); intro _ _))
local macro_rules | `(tactic| k_all) => `(tactic| first | with_reducible assumption | exact allNe_eq (by assumption) | exact allNe_1 (by assumption) | exact allNe_2 (by assumption) | (rename _ ∧ _ => hAnd'; (obtain ⟨_, _⟩ := hAnd'); k_all))
local macro_rules | `(tactic| walk_at "eval ListComp") => `(tactic| (k_here; refine' Stop.out ?_))
local macro_rules | `(tactic| walk_at "exec Assign cons ListComp") => `(tactic| (k_here; refine' Stop.out ?_))
local macro_rules | `(tactic| walk_at "CompSrcT") => `(tactic| (refine' Stop.out ?_))
local macro_rules | `(tactic| walk_at "CompSrc") => `(tactic| (refine' Stop.out ?_))
local macro_rules | `(tactic| walk_at "CompEnd") => `(tactic| (refine' Stop.out ?_))
local macro_rules | `(tactic| walk_at "FinE") => `(tactic| (refine' Stop.out ?_))
local macro_rules | `(tactic| walk_at "callWith ref") => `(tactic| (k_here; (with_reducible show wpAny _ _ (callWith _ (Value.ref _) _ (backTo _ _) (backToKw _ _)) _ _ _); k_dflt (refine' callWith_KW ?k1 ?k2 ?k3 ?_; (case k1 => k_asm); (case k2 => k_is); (case k3 => exact rfl); k_whole)))
local macro_rules | `(tactic| walk_at "pyIter ref") => `(tactic| (k_here; refine' Stop.out ?_))
local macro_rules | `(tactic| walk_at "call builtin:list.append") => `(tactic| (k_here; refine' Stop.out ?_))
local macro_rules | `(tactic| walk_at "call builtin:list.pop") => `(tactic| (k_here; refine' Stop.out ?_))
local macro_rules | `(tactic| walk_at "call builtin:list.append") => `(tactic| (k_here; k_dflt (refine' append_P ?k1 ?k2 ?k3 ?k4 ?_; (case k1 => k_asm); (case k2 => k_asm); (case k3 => k_upd); (case k4 => ((try simp only [List.length_append, List.length_cons, List.length_nil]); omega)); k_whole); intro h' F' N'; (try k_sweep)))
local macro_rules | `(tactic| walk_at "my sub1") => `(tactic| first | with_reducible assumption | (refine' List.mem_cons_of_mem _ ?_; walk_at "my sub1") | (refine' List.mem_append_left _ ?_; walk_at "my sub1"))
local macro_rules | `(tactic| walk_at "my sub") => `(tactic| (intro p' hp'; walk_at "my sub1"))
local macro_rules | `(tactic| walk_at "my tups") => `(tactic| first | with_reducible assumption | (refine' Tups.mono ?cm ?cs; (case cm => with_reducible assumption); (case cs => walk_at "my sub")))
local macro_rules | `(tactic| walk_at "call type:int") => `(tactic| (k_here; (refine' int_dig ?k1 ?_; (case k1 => with_reducible assumption); k_whole); intro _ _))
local macro_rules | `(tactic| walk_at "LpEnd") => `(tactic| refine' Stop.out ?_)
local macro_rules | `(tactic| walk_at "call builtin:len") => `(tactic| (k_here; k_dflt (refine' len_led ?k1 ?k2 ?k3 ?k4 ?_; (case k1 => k_asm); (case k2 => k_mem); (case k3 => with_reducible assumption); (case k4 => omega); k_whole); intro _ _))
local macro_rules | `(tactic| walk_at "compareOp Eq ref ref") => `(tactic| (k_here; refine' Stop.out ?_))
local macro_rules | `(tactic| walk_at "call type:str") => `(tactic| (k_here; (refine' str_dig ?k1 ?k2 ?_; (case k1 => first | assumption | omega); (case k2 => first | assumption | omega); k_whole); intro _ _))
local macro_rules | `(tactic| walk_at "my perm") => `(tactic| (intro p hp; simp only [List.mem_cons, List.mem_append] at hp ⊢; grind))
local macro_rules | `(tactic| walk_at "subscriptTail Name Name str int") => `(tactic| (k_here; (first | ((with_reducible show wpAny _ _ (subscriptTail _ _ (Value.str (PySem.Str.ofString "abcdefg") _) _) _ _ _); (with_unfolding_all refine' item_low ?k1 ?k2 ?_ ?k3 ?k4)) | ((with_reducible show wpAny _ _ (subscriptTail _ _ (Value.str (PySem.Str.ofString "ABCDEFG") _) _) _ _ _); (with_unfolding_all refine' item_up ?k1 ?k2 ?_ ?k3 ?k4))); (case k1 => first | assumption | omega); (case k2 => first | assumption | omega); (case k3 => with_unfolding_all rfl); (case k4 => (intro _; with_unfolding_all rfl)); intro _ _))
local macro_rules | `(tactic| walk_at "call ref") => `(tactic| (k_here; refine' Stop.out ?_))
local macro_rules | `(tactic| k_ne) => `(tactic| first | with_reducible assumption | (refine Ne.symm ?_; with_reducible assumption))
section
-- Conv
section
theorem top_off_Conv : True := by
 w_top off
 trivial
local macro_rules | `(tactic| walk_at "getMethod ref") => `(tactic| (k_here; refine' Stop.out ?_))
local macro_rules | `(tactic| walk_at "call builtin:re.Pattern.search") => `(tactic| (k_here; refine' Stop.out ?_))
set_option maxRecDepth 100000 in
set_option maxHeartbeats 8000000 in
set_option pp.deepTerms false in
theorem conv_sp {w : World} {mean : ExcName → Option Value} {mg mb : Str → Option Value} {news : Led} {tw : Value} {x : Str} {t : Tok} (hx : rxIn w.params 64 x) :
   Sp w mean mg mb 99 1 [tw, .str x t] [("name", .bool true)] news (fun r news' => news' = news ∧ r = .str x t) := by
  (have hfill : (fun (_ : OpenLaw) (_ : Params → Frag) => True) PySem.Challenge.rw_wo0047_01 hd.heap_39 := (by k_fill; trivial); clear hfill; intro dp un gd cn cs a ccd cl outer A₀ base h₀ L m s Q E B F X N T hk hd' hu hret; refine wpAny_call ?_)
  w_strict (
  k_dflt (refine' code_def ?zk1 ?zk2 ?zk3 ?zk4 ?zk5 ?zkA ?zkF ?zkK ?zk6 ?zk7 ?zk8 ?zk9 ?zkB ?_ ?zc2 ?zc3 ?zc4 ?zc5; (case zkA => exact rfl); (case zkF => exact rfl); (case zkK => assumption); (case zk1 => k_asm); (case zk2 => k_asm); (case zk3 => k_asm); (case zk4 => k_asm); (case zk5 => k_asm); (case zk6 => k_is); (case zk7 => k_is); (case zk8 => ktr_room); (case zk9 => first | exact BindsTo.of_eq rfl | (refine' kp_binds ?zkx ?zke; (case zkx => k_in); (case zke => exact fun _ => rfl))); (case zc5 => decide); (case zkB => exact locs rfl); (case zc2 => exact rfl); (case zc3 => exact rfl); (case zc4 => exact rfl); k_whole; intro g' L' h' FG' F' N' B' X' T'; (try dsimp only); (refine' tokGen ?_); intro tk0; (try k_fold))
  k_steps
  refine' Stop.mk ?_
  with_reducible (k_here; (with_reducible show wpAny _ _ (getMethod (Value.ref _) (PySem.Str.ofString "search") _) _ _ _); k_dflt (refine' rx_method_K ?k1q1 ?k2q1 ?k3q1 ?k4q1 ?k5q1 ?_; (case k1q1 => k_asm); (case k2q1 => k_asm); (case k3q1 => k_is); (case k4q1 => exact rfl); (case k5q1 => exact rfl); k_whole))
  k_steps
  refine' Stop.mk ?_
  with_reducible (k_here; k_dflt (refine' rx_search_K ?k1q2 ?k2q2 ?k3q2 ?k4q2 ?k5q2 ?_; (case k1q2 => k_asm); (case k2q2 => k_asm); (case k3q2 => k_is); (case k4q2 => exact rfl); (case k5q2 => first | assumption | exact rx_names _ _ (by assumption) | exact rx_vals _ _ (by assumption)); k_whole))
  k_steps
  all_goals (refine' hret _ _ _ _ ?e1 ?e2 ?e3; (case e1 => k_asm); (case e2 => k_asm); (case e3 => exact ⟨rfl, rfl⟩)))
theorem convF_sp {w : World} {mean : ExcName → Option Value} {mg mb : Str → Option Value} {news : Led} {tw : Value} {x : Str} {t : Tok} (hx : rxIn w.params 69 x) :
   Sp w mean mg mb 99 1 [tw, .str x t] [("name", .bool false)] news (fun r news' => news' = news ∧ r = .str x t) := by
  (have hfill : (fun (_ : OpenLaw) (_ : Params → Frag) => True) PySem.Challenge.rw_wo0047_01 hd.heap_39 := (by k_fill; trivial); clear hfill; intro dp un gd cn cs a ccd cl outer A₀ base h₀ L m s Q E B F X N T hk hd' hu hret; refine wpAny_call ?_)
  w_strict (
  k_dflt (refine' code_def ?zk1 ?zk2 ?zk3 ?zk4 ?zk5 ?zkA ?zkF ?zkK ?zk6 ?zk7 ?zk8 ?zk9 ?zkB ?_ ?zc2 ?zc3 ?zc4 ?zc5; (case zkA => exact rfl); (case zkF => exact rfl); (case zkK => assumption); (case zk1 => k_asm); (case zk2 => k_asm); (case zk3 => k_asm); (case zk4 => k_asm); (case zk5 => k_asm); (case zk6 => k_is); (case zk7 => k_is); (case zk8 => ktr_room); (case zk9 => first | exact BindsTo.of_eq rfl | (refine' kp_binds ?zkx ?zke; (case zkx => k_in); (case zke => exact fun _ => rfl))); (case zc5 => decide); (case zkB => exact locs rfl); (case zc2 => exact rfl); (case zc3 => exact rfl); (case zc4 => exact rfl); k_whole; intro g' L' h' FG' F' N' B' X' T'; (try dsimp only); (refine' tokGen ?_); intro tk0; (try k_fold))
  k_steps
  refine' Stop.mk ?_
  with_reducible (k_here; (with_reducible show wpAny _ _ (getMethod (Value.ref _) (PySem.Str.ofString "search") _) _ _ _); k_dflt (refine' rx_method_K ?k1q3 ?k2q3 ?k3q3 ?k4q3 ?k5q3 ?_; (case k1q3 => k_asm); (case k2q3 => k_asm); (case k3q3 => k_is); (case k4q3 => exact rfl); (case k5q3 => exact rfl); k_whole))
  k_steps
  refine' Stop.mk ?_
  with_reducible (k_here; k_dflt (refine' rx_search_K ?k1q4 ?k2q4 ?k3q4 ?k4q4 ?k5q4 ?_; (case k1q4 => k_asm); (case k2q4 => k_asm); (case k3q4 => k_is); (case k4q4 => exact rfl); (case k5q4 => first | assumption | exact rx_names _ _ (by assumption) | exact rx_vals _ _ (by assumption)); k_whole))
  k_steps
  all_goals (refine' hret _ _ _ _ ?e1 ?e2 ?e3; (case e1 => k_asm); (case e2 => k_asm); (case e3 => exact ⟨rfl, rfl⟩)))
end
end
section
-- Add
section
theorem top_off_Add : True := by
 w_top off
 trivial
local macro_rules | `(tactic| walk_at "call builtin:str.join") => `(tactic| (k_here; refine' Stop.out ?_))
set_option maxRecDepth 100000 in
set_option maxHeartbeats 8000000 in
set_option pp.deepTerms false in
theorem add_sp {w : World} {mean : ExcName → Option Value} {mg mb : Str → Option Value} {rest : Led} {tw dx hl : Addr} {hn : Nat} {H : Int} {hkk : Tok} {ts : List Addr} {nm vl : Str} {t u : Tok} (h1 : (tw, instObj 198 dx) ∈ rest) (h2 : (dx, hdict H hkk hl) ∈ rest) (h3 : ∀ p ∈ rest, p.1 ≠ hl) (hnm : rxIn w.params 64 nm) (hvl : rxIn w.params 69 vl) (hts : ts.length ≤ 9) (hvn : vl.length ≤ 1000) :
  Sp w mean mg mb 195 3 [.ref tw, .str nm t, .str vl u] [] ((hl, listOf (ts.map Value.ref).toArray hn) :: rest) (fun r news' => r = .none ∧ ∃ D t', D ≠ hl ∧ OffA D rest ∧ news' = (hl, listOf ((ts ++ [D]).map Value.ref).toArray (hn + 1)) :: (D, tup [.str nm t, .str vl t']) :: rest) := by
  (have hfill : (fun (_ : OpenLaw) (_ : Params → Frag) => True) PySem.Challenge.rw_wo0047_01 hd.heap_39 := (by k_fill; trivial); clear hfill; intro dp un gd cn cs a ccd cl outer A₀ base h₀ L m s Q E B F X N T hk hd' hu hret; refine wpAny_call ?_)
  have htm : (ts.map Value.ref).length = ts.length := List.length_map ..
  have h1' : (tw, instObj 198 dx) ∈ (hl, listOf (ts.map Value.ref).toArray hn) :: rest := List.mem_cons_of_mem _ h1
  have h2' : (dx, hdict H hkk hl) ∈ (hl, listOf (ts.map Value.ref).toArray hn) :: rest := List.mem_cons_of_mem _ h2
  w_strict (
  k_with_none
  k_dflt (refine' kp_more ?zk1 ?zk2 ?zk3 ?zk4 ?zk5 ?zkA ?zkF ?zkK ?zk6 ?zk7 ?zk8 ?zkX ?zkM ?zkN ?zkD ?zkR ?zkP ?zkT ?zkB ?_ ?zc2 ?zc3 ?zc4 ?zc5; (case zkA => exact rfl); (case zkF => exact rfl); (case zkK => assumption); (case zk1 => k_asm); (case zk2 => k_asm); (case zk3 => k_asm); (case zk4 => k_asm); (case zk5 => k_asm); (case zk6 => k_is); (case zk7 => k_is); (case zk8 => ktr_room); (case zkX => kp_lit); (case zkM => exact rfl); (case zkN => exact rfl); (case zkD => kp_flats); (case zkR => exact rfl); (case zkP => exact rfl); (case zkT => exact fun _ => rfl); (case zkB => exact fun _ => locs rfl); (case zc5 => decide); (case zc2 => exact rfl); (case zc3 => exact rfl); (case zc4 => exact rfl); k_whole; intro D' o' g' L' h' tk' l1 lo' hs' fs' FG' F' N' B' X' T'; (try k_lt l1); (try dsimp only); (try k_fold))
  have F0 : Fr g' L' h' (fun y => List.lookup y [(("_params" : Str), Value.ref D'), (("_value" : Str), Value.str vl u), (("_name" : Str), Value.str nm t), (("self" : Str), Value.ref tw)]) := by with_unfolding_all exact F'
  clear F'
  k_steps
  refine' Stop.mk ?_
  with_reducible (k_here; (with_unfolding_all refine' sp_use (convF_sp ?c1q5) ?kBq5 ?kFq5 ?kXq5 ?kNq5 ?kTq5 ?kKq5 ?kDq5 ?kUq5 ?_); (case kBq5 => k_asm); (case kFq5 => k_asm); (case kXq5 => k_asm); (case kNq5 => k_asm); (case kTq5 => k_asm); (case kKq5 => first | exact rfl | assumption); (case kDq5 => ktr_room); (case kUq5 => ktr_units); (case c1q5 => assumption); k_whole; intro r'q5 nw'q5 h'q5 tk'q5 F'q5 N'q5 P'q5; (obtain ⟨e1'q5, e2'q5⟩ := P'q5; subst e1'q5; subst e2'q5); (try dsimp only); (try k_fold); (try k_sweep))
  k_steps
  refine' Stop.mk ?_
  (k_here; (with_unfolding_all refine' sp_use (conv_sp ?c1q6) ?kBq6 ?kFq6 ?kXq6 ?kNq6 ?kTq6 ?kKq6 ?kDq6 ?kUq6 ?_); (case kBq6 => k_asm); (case kFq6 => k_asm); (case kXq6 => k_asm); (case kNq6 => k_asm); (case kTq6 => k_asm); (case kKq6 => first | exact rfl | assumption); (case kDq6 => ktr_room); (case kUq6 => ktr_units); (case c1q6 => assumption); k_whole; intro r'q6 nw'q6 h'q6 tk'q6 F'q6 N'q6 P'q6; (obtain ⟨e1'q6, e2'q6⟩ := P'q6; subst e1'q6; subst e2'q6); (try dsimp only); (try k_fold); (try k_sweep))
  k_steps
  refine' Stop.mk ?_
  with_reducible (k_here; k_dflt (refine' join_1 ?k1q7 ?k2q7 ?k3q7 ?k4q7 ?_; (case k1q7 => is_list); (case k2q7 => kct_strs); (case k3q7 => decide +kernel); (case k4q7 => assumption); k_whole); intro _ _)
  k_steps
  refine' Stop.mk ?_
  rename Fr _ _ _ _ => F9
  rename News _ _ _ ((_, _) :: (_, _) :: (_, _) :: (_, _) :: (hl, _) :: rest) => N9
  rename _ < _ ∧ _ < _ ∧ _ < _ ∧ hl < _ ∧ AllLt _ rest => l9
  have l10 := l9.2.2.2.2
  have l11 := l9.2.2.2.1
  refine' append_P F9 (news_15 N9) (Upd.head ?s2) ?s4 ?s3
  case s4 => (rw [htm]; omega)
  case s2 =>
    intro p hp
    rcases List.mem_cons.mp hp with rfl | hp
    · exact Nat.ne_of_gt l11
    · exact h3 p hp
  intro h8 F8 N8
  dsimp only
  k_steps
  all_goals (refine' hret _ _ _ _ ?y1 ?y2 ⟨rfl, _, _, Nat.ne_of_gt l11, allNe_eq l10, by rw [List.map_append, List.map_cons, List.map_nil]⟩; (case y1 => k_asm); (case y2 => assumption)))
end
end
local macro_rules | `(tactic| walk_at "exec For Tuple Name cons nil") => `(tactic| (k_here; refine' Stop.out ?_))
local macro_rules | `(tactic| walk_at "exec For Tuple Call cons nil") => `(tactic| (k_here; refine' Stop.out ?_))
section
-- GetAll
section
theorem top_off_GetAll : True := by
 w_top off
 trivial
set_option maxRecDepth 100000 in
set_option maxHeartbeats 8000000 in
set_option pp.deepTerms false in
theorem getall_sp {w : World} {mean : ExcName → Option Value} {mg mb : Str → Option Value} {news : Led} {tw dx hl : Addr} {hn : Nat} {H : Int} {hk : Tok} {ts : List Addr} {es : List (Str × Str)} {nm : Str} {t : Tok}
   (h1 : (tw, instObj 198 dx) ∈ news) (h2 : (dx, hdict H hk hl) ∈ news) (h3 : (hl, listOf (ts.map Value.ref).toArray hn) ∈ news) (h4 : Tups news ts es) (hes : ∀ p ∈ es, p.1 ∈ lowL ++ upL) (hlen : ts.length ≤ 9) (hnm : nm ∈ lowL ++ upL) :
   Sp w mean mg mb 137 3 [.ref tw, .str nm t] [] news (fun r news' => ∃ D vs, r = .ref D ∧ news' = (D, LCg.lst vs) :: news ∧ Strs vs (getAll es (Txt.lower nm)) ∧ OffA D news) := by
  (have hfill : (fun (_ : OpenLaw) (_ : Params → Frag) => True) PySem.Challenge.rw_wo0047_01 hd.heap_39 := (by k_fill; trivial); clear hfill; intro dp un gd cn cs a ccd cl outer A₀ base h₀ L m s Q E B F X N T hk hd' hu hret; refine wpAny_call ?_)
  have hrx : rxIn w.params 64 (Txt.lower nm) := rx_names _ _ (List.mem_append_left _ (low_low _ hnm))
  w_strict (
  k_with_none
  k_dflt (refine' code_defC ?zk1 ?zk2 ?zk3 ?zk4 ?zk5 ?zkA ?zkF ?zkK ?zk6 ?zk7 ?zk8 ?zk9 ?zkB ?zkD ?_ ?zc2 ?zc3 ?zc4; (case zkA => exact rfl); (case zkF => exact rfl); (case zkK => assumption); (case zk1 => k_asm); (case zk2 => k_asm); (case zk3 => k_asm); (case zk4 => k_asm); (case zk5 => k_asm); (case zk6 => k_is); (case zk7 => k_is); (case zk8 => ktr_room); (case zk9 => first | exact BindsTo.of_eq rfl | (refine' kp_binds ?zkx ?zke; (case zkx => k_in); (case zke => exact fun _ => rfl))); (case zkB => exact rfl); (case zkD => decide +kernel); (case zc2 => exact rfl); (case zc3 => exact rfl); (case zc4 => exact rfl); k_whole; intro g' L' h' tk' cells' FG' F' N' Y' B' X' T' l1; (replace l1 := allLt_of l1); (try simp only [List.cons_append, List.nil_append] at N'); (try dsimp only); (try k_fold))
  have F0 : Fr g' L' h' (fun y => if y = Str.ofString "self" then some (Value.ref tw) else none) := by with_unfolding_all exact F'
  clear F'
  obtain ⟨o1, hE, d1⟩ := CellsAre.one Y'
  subst hE
  clear Y'
  have d2 : o1.data = .cell (some (.str nm t)) := by with_unfolding_all exact d1
  clear d1
  simp only [List.cons_append, List.nil_append] at N'
  k_steps
  refine' Stop.mk ?_
  with_reducible (k_here; (with_unfolding_all refine' sp_use (conv_sp ?c1q8) ?kBq8 ?kFq8 ?kXq8 ?kNq8 ?kTq8 ?kKq8 ?kDq8 ?kUq8 ?_); (case kBq8 => k_asm); (case kFq8 => k_asm); (case kXq8 => k_asm); (case kNq8 => k_asm); (case kTq8 => k_asm); (case kKq8 => first | exact rfl | assumption); (case kDq8 => ktr_room); (case kUq8 => ktr_units); (case c1q8 => assumption); k_whole; intro r'q8 nw'q8 h'q8 tk'q8 F'q8 N'q8 P'q8; (obtain ⟨e1'q8, e2'q8⟩ := P'q8; subst e1'q8; subst e2'q8); (try dsimp only); (try k_fold); (try k_sweep))
  k_steps
  refine' Stop.mk ?_
  rename Fr _ _ _ _ => F1
  rename News _ _ _ _ => N1
  k_dflt (refine' LCt.ListComp_T F1 (by rfl) (by decide) (by rfl) (by decide) (by rfl) ?_)
  k_steps
  refine' Stop.mk ?_
  refine' LCt.CompSrcT.ledger (by rfl) F1 N1 (List.mem_cons_of_mem _ h3) ?sz ?_
  case sz => rw [List.size_toArray, List.length_map, sizeLine_eq]; omega
  intro g
  refine' restT_ind ts.length (fun i ys nw => nw = _ ∧ Strs ys (getAll (es.take i) (Txt.lower nm))) ?step ?fin _ 0 [] _ (by simp) ⟨rfl, .nil⟩
  case step =>
    rintro i ys nw hi ⟨e, hS⟩ v I oI C oC D m₂ h tk E' hv hC hx F N off ne
    subst e
    obtain ⟨a, ha, rfl⟩ : ∃ a, ts[i]? = some a ∧ v = Value.ref a := by
      rw [List.getElem?_toArray, List.getElem?_map] at hv
      cases hq : ts[i]? with
      | none => rw [hq] at hv; cases hv
      | some a => rw [hq] at hv; exact ⟨a, rfl, (Option.some.inj hv).symm⟩
    obtain ⟨k, x, t1, u1, he, hm⟩ := h4.get ha
    have hk1 : k ∈ lowL ++ upL := hes _ (List.mem_of_getElem? he)
    try k_fold
    k_steps
    · refine' Stop.mk ?_
      refine' LCg.CompEnd.intro F N _ (fun _ h => h) off (.inr ⟨_, List.mem_cons_of_mem _ h3, rfl, _, rfl⟩) ⟨rfl, ?_⟩
      rw [getAll_step he, if_pos (by assumption)]
      exact hS.snoc
    · refine' Stop.mk ?_
      refine' LCg.CompEnd.intro F N _ (fun _ h => h) off (.inr ⟨_, List.mem_cons_of_mem _ h3, rfl, _, rfl⟩) ⟨rfl, ?_⟩
      rw [getAll_step he, if_neg (Bool.not_eq_true _ ▸ (by assumption))]
      exact hS
  case fin =>
    rintro ys nw ⟨e, hS⟩
    subst e
    intro D h tk F2 N2 o2
    rw [h4.length, List.take_length] at hS
    dsimp only
    k_steps
    all_goals (refine' hret _ _ _ _ ?y1 ?y2 ⟨D, ys, rfl, rfl, hS, off1_all o2.2⟩; (case y1 => k_asm); (case y2 => exact news_sub (by assumption) (by intro p hp; simp only [List.mem_cons] at hp ⊢; rcases hp with h | h <;> simp [h]))))
end
end
section
-- Bis
section
theorem top_off_Bis : True := by
 w_top off
 trivial
/-- what bisect_right's loop keeps -/
def BisJ (news : Led) (ba : Addr) (ns : List Int) (x : Int) (t : Tok) (n : Nat) (m : Str → Option Value) (nw : Led) : Prop :=
  nw = news ∧ ∃ lo hi tl th, m (Str.ofString "lo") = some (.int lo tl) ∧ m (Str.ofString "hi") = some (.int hi th) ∧ m (Str.ofString "x") = some (.int x t) ∧ m (Str.ofString "a") = some (.ref ba) ∧
    0 ≤ lo ∧ lo ≤ hi ∧ hi ≤ ns.length ∧ n = (hi - lo).toNat ∧ (∀ i : Nat, (i : Int) < lo → ns.getD i 0 ≤ x) ∧ (∀ i : Nat, hi ≤ i → i < ns.length → x < ns.getD i 0)

set_option maxRecDepth 100000 in
set_option maxHeartbeats 8000000 in
set_option pp.deepTerms false in
theorem bis_sp {w : World} {mean : ExcName → Option Value} {mg mb : Str → Option Value} {news : Led} {ba : Addr} {vs : List Value} {bn : Nat} {ns : List Int} {x : Int} {t : Tok}
   (hb : (ba, listOf vs.toArray bn) ∈ news) (hi : IntsAre vs ns) (hlen : ns.length ≤ 8) (hs : ∀ i j : Nat, i ≤ j → j < ns.length → ns.getD i 0 ≤ ns.getD j 0) :
   Sp w mean mg mb 47 1 [.ref ba, .int x t] [] news (fun r news' => news' = news ∧ ∃ k t', r = .int k t' ∧ 0 ≤ k ∧ k ≤ ns.length ∧ (∀ i : Nat, (i : Int) < k → ns.getD i 0 ≤ x) ∧ (∀ i : Nat, k ≤ i → i < ns.length → x < ns.getD i 0)) := by
  (have hfill : (fun (_ : OpenLaw) (_ : Params → Frag) => True) PySem.Challenge.rw_wo0047_01 hd.heap_39 := (by k_fill; trivial); clear hfill; intro dp un gd cn cs a ccd cl outer A₀ base h₀ L m s Q E B F X N T hk hd' hu hret; refine wpAny_call ?_)
  have hvl := hi.length
  w_strict (
  k_with_none
  k_dflt (refine' code_def ?zk1 ?zk2 ?zk3 ?zk4 ?zk5 ?zkA ?zkF ?zkK ?zk6 ?zk7 ?zk8 ?zk9 ?zkB ?_ ?zc2 ?zc3 ?zc4 ?zc5; (case zkA => exact rfl); (case zkF => exact rfl); (case zkK => assumption); (case zk1 => k_asm); (case zk2 => k_asm); (case zk3 => k_asm); (case zk4 => k_asm); (case zk5 => k_asm); (case zk6 => k_is); (case zk7 => k_is); (case zk8 => ktr_room); (case zk9 => first | exact BindsTo.of_eq rfl | (refine' kp_binds ?zkx ?zke; (case zkx => k_in); (case zke => exact fun _ => rfl))); (case zc5 => decide); (case zkB => exact locs rfl); (case zc2 => exact rfl); (case zc3 => exact rfl); (case zc4 => exact rfl); k_whole; intro g' L' h' FG' F' N' B' X' T'; (try dsimp only); (refine' tokGen ?_); intro tk0; (try k_fold))
  have F0 : Fr g' L' h' (fun y => List.lookup y [(("key" : Str), Value.none), (("hi" : Str), Value.none), (("lo":Str), Value.int 0 291), (("x" : Str), Value.int x t), (("a" : Str), Value.ref ba)]) := by with_unfolding_all exact F'
  clear F'
  k_steps
  refine' (Stop.mk ?_)
  rename Fr _ _ _ _ => lF'
  rename News _ _ _ _ => lN'
  refine' While_inv (BisJ news ba ns x t) lF' lN' ⟨rfl, 0, ns.length, _, _, rfl, rfl, rfl, rfl, by omega, by omega, by omega, rfl, fun i hi => by omega, fun i hi hi' => by omega⟩ ?kt ?ke
  case ke => passes_own
  case kt =>
    intro n m₁ news₁ h₁ tk₁ F₁ N₁ J₁
    clear lF' lN'
    obtain ⟨hnw, lo, hi', tl, th, m1, m2, m3, m4, h0, h1, h2, hn, hlo, hhi⟩ := J₁
    subst hnw
    k_with "my item" => (refine' item_ints (by assumption) (by assumption) (by assumption) ?i0 ?i1 ?i2 ?_; (case i0 => omega); (case i1 => omega); (case i2 => omega); intro t9)
    k_steps
    all_goals (try have hmid : (lo + hi').fdiv 2 = (lo + hi') / 2 := Int.fdiv_eq_ediv_of_nonneg _ (by omega))
    · refine' WhileStep.intro (n' := ((lo + hi').fdiv 2 - lo).toNat) ?e1 ?e2 ?e3 ?e4
      (case e1 => k_asm)
      (case e2 => k_asm)
      (case e3 => rw [hmid, hn]; omega)
      refine' ⟨rfl, lo, (lo + hi').fdiv 2, _, _, m1, rfl, m3, m4, h0, ?_, ?_, rfl, hlo, fun i hi1 hi2 => ?_⟩
      · rw [hmid]; omega
      · rw [hmid]; omega
      · have h9 := hs ((lo + hi').fdiv 2).toNat i (by omega) hi2
        omega
    · refine' WhileStep.intro (n' := (hi' - ((lo + hi').fdiv 2 + 1)).toNat) ?f1 ?f2 ?f3 ?f4
      (case f1 => k_asm)
      (case f2 => k_asm)
      (case f3 => rw [hmid, hn]; omega)
      refine' ⟨rfl, (lo + hi').fdiv 2 + 1, hi', _, _, rfl, m2, m3, m4, ?_, ?_, h2, rfl, fun i hi1 => ?_, hhi⟩
      · rw [hmid]; omega
      · rw [hmid]; omega
      · have h9 := hs i ((lo + hi').fdiv 2).toNat (by omega) (by rw [hmid]; omega)
        omega
    · refine' hret _ _ _ _ ?g1 ?g2 ⟨rfl, lo, tl, rfl, h0, by omega, hlo, fun i hi1 hi2 => hhi i ?_ hi2⟩
      (case g1 => k_asm)
      (case g2 => k_asm)
      omega)
end
end
section
-- New
section
theorem top_off_New : True := by
 w_top off
 trivial
set_option maxRecDepth 100000 in
set_option maxHeartbeats 8000000 in
set_option pp.deepTerms false in
theorem new_sp {w : World} {mean : ExcName → Option Value} {mg mb : Str → Option Value} {rest : Led} :
  Sp w mean mg mb 198 4 [] [] rest (fun r news' => ∃ x dx hl H hkk, r = .ref x ∧ news' = (hl, listOf #[] 0) :: (x, instObj 198 dx) :: (dx, hdict H hkk hl) :: rest ∧ OffA dx rest ∧ OffA x rest ∧ OffA hl rest ∧ dx < x ∧ @Ne Nat hl dx ∧ @Ne Nat hl x) := by
  (have hfill : (fun (_ : OpenLaw) (_ : Params → Frag) => True) PySem.Challenge.rw_wo0047_01 hd.heap_39 := (by k_fill; trivial); clear hfill; intro dp un gd cn cs a ccd cl outer A₀ base h₀ L m s Q E B F X N T hk hd' hu hret)
  w_strict (
  k_with_none
  k_dflt (refine' call_cls ?k1 ?k2 ?k3 ?m1 ?m2 ?m3 ?_; (case k1 => k_asm); (case k2 => k_asm); (case k3 => k_asm); (case m1 => k_is); (case m2 => k_is); (case m3 => k_is); k_whole)
  intro x dx h1 F1 N1 l1 l2
  have l3 := allLt_of l1
  have l4 : @LT.lt Nat _ dx x := l2
  k_dflt (refine' code_def ?zk1 ?zk2 ?zk3 ?zk4 ?zk5 ?zkA ?zkF ?zkK ?zk6 ?zk7 ?zk8 ?zk9 ?zkB ?_ ?zc2 ?zc3 ?zc4 ?zc5; (case zkA => exact rfl); (case zkF => exact rfl); (case zkK => assumption); (case zk1 => k_asm); (case zk2 => k_asm); (case zk3 => k_asm); (case zk4 => k_asm); (case zk5 => k_asm); (case zk6 => k_is); (case zk7 => k_is); (case zk8 => ktr_room); (case zk9 => first | exact BindsTo.of_eq rfl | (refine' kp_binds ?zkx ?zke; (case zkx => k_in); (case zke => exact fun _ => rfl))); (case zc5 => decide); (case zkB => exact locs rfl); (case zc2 => exact rfl); (case zc3 => exact rfl); (case zc4 => exact rfl); k_whole; intro g' L' h' FG' F' N' B' X' T'; (try dsimp only); (refine' tokGen ?_); intro tk0; (try k_fold))
  have F0 : Fr g' L' h' (fun y => List.lookup y [(("headers" : Str), Value.none), (("self" : Str), Value.ref x)]) := by with_unfolding_all exact F'
  clear F'
  k_steps
  refine' Stop.mk ?_
  refine' For_invT g' ?h ?hs ?hE
  case hs => (intro _; rfl)
  case hE => passes_own
  case h =>
    k_steps
    refine' Stop.mk ?_
    rename Fr g' L' _ _ => F9
    rename News g' L' _ _ => N9
    rename x < _ ∧ dx < _ ∧ AllLt _ rest => l9
    have l10 : @LT.lt Nat _ dx _ := l9.2.1
    have l11 : @LT.lt Nat _ x _ := l9.1
    have l12 := allNe_eq l9.2.2
    refine' loop_listK (vs := []) (fun i m nx => nx = _) (by rfl) ?o1 F9 N9 rfl ?turn ?done
    case o1 =>
      intro p hp
      simp only [List.mem_cons] at hp
      rcases hp with rfl | rfl | hp
      · exact Nat.ne_of_lt l11
      · exact Nat.ne_of_lt l10
      · exact l12 p hp
    case turn => intro i v m₁ nx s₁ own hv; simp at hv
    case done =>
      intro h tk m' nx F3 N3 hJ
      subst hJ
      replace F3 : Fr g' L' h m' := F3
      replace N3 : News g' L' h _ := N3
      k_steps
      all_goals (refine' hret _ _ _ _ ?y1 ?y2 ⟨x, dx, _, _, _, rfl, rfl, allNe_eq l3, fun p hp => Nat.ne_of_lt (Nat.lt_trans (l1 p hp) l4), l12, l4, Nat.ne_of_gt l10, Nat.ne_of_gt l11⟩; (case y1 => k_asm); (case y2 => k_asm)))
end
end
section
-- Towns
section
theorem top_off_Towns : True := by
 w_top off
 trivial
set_option maxRecDepth 100000 in
set_option maxHeartbeats 8000000 in
set_option pp.deepTerms false in
theorem towns_sp {w : World} {mean : ExcName → Option Value} {mg mb : Str → Option Value} {rest : Led} {la : Addr} {ln : Nat} {vs : List Value} {cells : List Int} (hi : IntsAre vs cells) (h9 : cells.length = 9) (hla : OffA la rest) :
  Sp w mean mg mb 209 5 [.ref la] [] ((la, listOf vs.toArray ln) :: rest) (TownsPost rest cells) := by
  (have hfill : (fun (_ : OpenLaw) (_ : Params → Frag) => True) PySem.Challenge.rw_wo0047_01 hd.heap_39 := (by k_fill; trivial); clear hfill; intro dp un gd cn cs a ccd cl outer A₀ base h₀ L m s Q E B F X N T hk hd' hu hret; refine wpAny_call ?_)
  w_strict (
  k_with_none
  k_dflt (refine' code_def ?zk1 ?zk2 ?zk3 ?zk4 ?zk5 ?zkA ?zkF ?zkK ?zk6 ?zk7 ?zk8 ?zk9 ?zkB ?_ ?zc2 ?zc3 ?zc4 ?zc5; (case zkA => exact rfl); (case zkF => exact rfl); (case zkK => assumption); (case zk1 => k_asm); (case zk2 => k_asm); (case zk3 => k_asm); (case zk4 => k_asm); (case zk5 => k_asm); (case zk6 => k_is); (case zk7 => k_is); (case zk8 => ktr_room); (case zk9 => first | exact BindsTo.of_eq rfl | (refine' kp_binds ?zkx ?zke; (case zkx => k_in); (case zke => exact fun _ => rfl))); (case zc5 => decide); (case zkB => exact locs rfl); (case zc2 => exact rfl); (case zc3 => exact rfl); (case zc4 => exact rfl); k_whole; intro g' L' h' FG' F' N' B' X' T'; (try dsimp only); (refine' tokGen ?_); intro tk0; (try k_fold))
  have F0 : Fr g' L' h' (fun y => List.lookup y [(("cells" : Str), Value.ref la)]) := by with_unfolding_all exact F'
  clear F'
  k_steps
  refine' Stop.mk ?_
  with_reducible (k_here; (with_unfolding_all refine' sp_use new_sp ?kBq9 ?kFq9 ?kXq9 ?kNq9 ?kTq9 ?kKq9 ?kDq9 ?kUq9 ?_); (case kBq9 => k_asm); (case kFq9 => k_asm); (case kXq9 => k_asm); (case kNq9 => k_asm); (case kTq9 => k_asm); (case kKq9 => first | exact rfl | assumption); (case kDq9 => ktr_room); (case kUq9 => ktr_units); k_whole; intro r'q9 nw'q9 h'q9 tk'q9 F'q9 N'q9 P'q9; (obtain ⟨x'q9, dx'q9, hl'q9, H'q9, hk'q9, e1'q9, e2'q9, o1'q9, o2'q9, o3'q9, o4'q9, o5'q9, o6'q9⟩ := P'q9; subst e1'q9; subst e2'q9); (try dsimp only); (try k_fold); (try k_sweep))
  k_steps
  refine' Stop.mk ?_
  with_reducible (k_here; (with_unfolding_all refine' sp_use new_sp ?kBq10 ?kFq10 ?kXq10 ?kNq10 ?kTq10 ?kKq10 ?kDq10 ?kUq10 ?_); (case kBq10 => k_asm); (case kFq10 => k_asm); (case kXq10 => k_asm); (case kNq10 => k_asm); (case kTq10 => k_asm); (case kKq10 => first | exact rfl | assumption); (case kDq10 => ktr_room); (case kUq10 => ktr_units); k_whole; intro r'q10 nw'q10 h'q10 tk'q10 F'q10 N'q10 P'q10; (obtain ⟨x'q10, dx'q10, hl'q10, H'q10, hk'q10, e1'q10, e2'q10, o1'q10, o2'q10, o3'q10, o4'q10, o5'q10, o6'q10⟩ := P'q10; subst e1'q10; subst e2'q10); (try dsimp only); (try k_fold); (try k_sweep))
  k_steps
  refine' Stop.mk ?_
  refine' For_invT g' ?h ?hs ?hE
  case hs => (intro _; rfl)
  case hE => passes_own
  case h =>
    k_steps
    refine' Stop.mk ?_
    rename Fr g' L' _ _ => F9
    rename News g' L' _ _ => N9
    obtain ⟨sl, hl1, tw1, dx1, H1, k1, hl2, tw2, dx2, H2, k2, m0, nx0, hne, F10, N10, hoff, hTJ⟩ := towns_init F9 N9 rfl rfl rfl hla (by assumption) (by assumption) (by assumption) (by assumption) (by assumption) (by assumption) (by assumption) (by assumption) (by assumption) (by assumption) (by assumption)
    clear F9 N9
    refine' loop_list (TJ rest sl hl1 tw1 dx1 H1 k1 hl2 tw2 dx2 H2 k2 cells) (by rfl) ⟨_, (N10 _ (.head _)).1, rfl, ln, rfl⟩ (N10 _ (.head _)).2.1 hoff F10 (news_sub N10 fun p hp => List.mem_cons_of_mem _ hp) (hTJ cells) ?turn ?done
    case turn =>
      clear F10 N10
      intro i vv m₁ nx s₁ own hv hJ hsep F3 N3
      obtain ⟨pl, n0, ts1, n1, ts2, n2, tl, e, j1, j2, j3, j4, j5, m1, m2, m3⟩ := hJ
      subst e
      obtain ⟨c, tc, hc, rfl⟩ := ints_at hi hv
      have hlen9 : i < 9 := by
        obtain ⟨h, _⟩ := List.getElem?_eq_some_iff.mp hc
        omega
      have hlt : (cells.take i).length ≤ i := by rw [List.length_take]; omega
      have hts1 : ts1.length ≤ 9 := by have := j2.length; unfold fwdF at this; rw [List.length_map] at this; omega
      have hts2 : ts2.length ≤ 9 := by have := j3.length; unfold bwdF at this; rw [List.length_map] at this; omega
      have hpl9 : (pl.map Value.ref).length ≤ 9 := by have := j1.length; unfold strF at this; rw [List.length_map] at this ⊢; omega
      obtain ⟨b0, b1⟩ := cB_rng c
      obtain ⟨e0, e1⟩ := cE_rng c
      unfold cB at b0 b1
      unfold cE at e0 e1
      have hs0 : ∀ p ∈ own, p.1 ≠ sl := fun p hp => hsep p hp _ (.head _)
      have hs1 : ∀ p ∈ own, p.1 ≠ hl1 := fun p hp => hsep p hp _ (.tail _ (.head _))
      have hs2 : ∀ p ∈ own, p.1 ≠ hl2 := fun p hp => hsep p hp _ (.tail _ (.tail _ (.head _)))
      have hz1 : rxIn w.params 69 (digS (c.fmod 7)) := rx_vals _ _ (digS_mem _)
      have hz2 : rxIn w.params 69 (digS ((c.fdiv 7).fmod 7)) := rx_vals _ _ (digS_mem _)
      k_steps
      · refine' Stop.mk ?_
        rename News g' L' _ _ => N5
        refine' sp_use (add_sp (H := H1) (hkk := k1) (tw := tw1) (dx := dx1) (hl := hl1) (hn := n1) (ts := ts1) (rest := TR1 rest own tl sl hl2 tw1 dx1 tw2 dx2 hl1 H1 H2 k1 k2 pl ts2 n0 n2) ?q1a ?q2a (tr1_off hne j4 hs1) ?q3a ?q4a hts1 (dig_len _ (digS_mem _))) (by k_asm) (by k_asm) (by k_asm) (news_sub N5 ?q5a) (by k_asm) (by first | exact rfl | assumption) (by ktr_room) (by ktr_units) ?q6a
        case q1a => simp [TR1]
        case q2a => simp [TR1]
        case q3a => exact rx_names _ _ (List.mem_append_right _ (letU_mem _))
        case q4a => assumption
        case q5a => (intro p hp; simp only [TR1, List.mem_cons, List.mem_append, List.cons_append] at hp ⊢; grind)
        case q6a =>
          rintro r7 nw7 h7 tk7 F7 N7 ⟨e7, D1, u2, d1', d1, e8⟩
          subst e7 e8
          dsimp only
          clear N5
          k_steps
          refine' Stop.mk ?_
          rename News g' L' _ _ => N6
          have hd1 : D1 ≠ hl2 := (d1 _ (.head _)).symm
          refine' sp_use (add_sp (H := H2) (hkk := k2) (tw := tw2) (dx := dx2) (hl := hl2) (hn := n2) (ts := ts2) (rest := TR2 rest own tl sl hl2 tw1 dx1 tw2 dx2 hl1 D1 H1 H2 k1 k2 pl ts1 n0 n1 _) ?p1a ?p2a (tr2_off hne j4 hs2 hd1) ?p3a ?p4a hts2 (dig_len _ (digS_mem _))) (by k_asm) (by k_asm) (by k_asm) (news_t2 N6) (by k_asm) (by first | exact rfl | assumption) (by ktr_room) (by ktr_units) ?p6a
          case p1a => simp [TR2]
          case p2a => simp [TR2]
          case p3a => exact rx_names _ _ (List.mem_append_right _ (letU_mem _))
          case p4a => assumption
          case p6a =>
            rintro r7 nw7 h8 tk8 F8 N8 ⟨e7, D2, u4, d2', d2, e8⟩
            subst e7 e8
            dsimp only
            clear N6
            unfold TR2 at N8
            k_steps
            refine' Stop.mk ?_
            rename News g' L' _ ((_, _) :: (hl2, _) :: _) => N9
            rename Fr g' L' _ _ => F9
            rename hl2 < _ ∧ D2 < _ ∧ _ => l9
            refine' append_P F9 (news_66 N9) (Upd.head (towns_sl hne j4 hs0 d1 d2 l9)) ?w2a ?w3a
            case w2a => omega
            case w3a =>
              intro h10 F10 N10
              dsimp only
              k_steps
              refine' Stop.mk ?_
              obtain ⟨nx', led', y1, y2, y3, y4, y5⟩ := towns_step (c := c) (o2 := listOf #[] 0) N10 hne hc (if_pos (by assumption)).symm (if_pos (by assumption)).symm j1 j2 j3 j4 j5 m1 m2 m3 hsep d1 d1' d2 d2' l9
              exact LpEnd.intro nx' F10 y1 y2 y3 y4 y5
      · refine' Stop.mk ?_
        rename News g' L' _ _ => N5
        refine' sp_use (add_sp (H := H1) (hkk := k1) (tw := tw1) (dx := dx1) (hl := hl1) (hn := n1) (ts := ts1) (rest := TR1 rest own tl sl hl2 tw1 dx1 tw2 dx2 hl1 H1 H2 k1 k2 pl ts2 n0 n2) ?q1b ?q2b (tr1_off hne j4 hs1) ?q3b ?q4b hts1 (dig_len _ (digS_mem _))) (by k_asm) (by k_asm) (by k_asm) (news_sub N5 ?q5b) (by k_asm) (by first | exact rfl | assumption) (by ktr_room) (by ktr_units) ?q6b
        case q1b => simp [TR1]
        case q2b => simp [TR1]
        case q3b => exact rx_names _ _ (List.mem_append_left _ (letL_mem _))
        case q4b => assumption
        case q5b => (intro p hp; simp only [TR1, List.mem_cons, List.mem_append, List.cons_append] at hp ⊢; grind)
        case q6b =>
          rintro r7 nw7 h7 tk7 F7 N7 ⟨e7, D1, u2, d1', d1, e8⟩
          subst e7 e8
          dsimp only
          clear N5
          k_steps
          refine' Stop.mk ?_
          rename News g' L' _ _ => N6
          have hd1 : D1 ≠ hl2 := (d1 _ (.head _)).symm
          refine' sp_use (add_sp (H := H2) (hkk := k2) (tw := tw2) (dx := dx2) (hl := hl2) (hn := n2) (ts := ts2) (rest := TR2 rest own tl sl hl2 tw1 dx1 tw2 dx2 hl1 D1 H1 H2 k1 k2 pl ts1 n0 n1 _) ?p1b ?p2b (tr2_off hne j4 hs2 hd1) ?p3b ?p4b hts2 (dig_len _ (digS_mem _))) (by k_asm) (by k_asm) (by k_asm) (news_t2 N6) (by k_asm) (by first | exact rfl | assumption) (by ktr_room) (by ktr_units) ?p6b
          case p1b => simp [TR2]
          case p2b => simp [TR2]
          case p3b => exact rx_names _ _ (List.mem_append_left _ (letL_mem _))
          case p4b => assumption
          case p6b =>
            rintro r7 nw7 h8 tk8 F8 N8 ⟨e7, D2, u4, d2', d2, e8⟩
            subst e7 e8
            dsimp only
            clear N6
            unfold TR2 at N8
            k_steps
            refine' Stop.mk ?_
            rename News g' L' _ ((_, _) :: (hl2, _) :: _) => N9
            rename Fr g' L' _ _ => F9
            rename hl2 < _ ∧ D2 < _ ∧ _ => l9
            refine' append_P F9 (news_66 N9) (Upd.head (towns_sl hne j4 hs0 d1 d2 l9)) ?w2b ?w3b
            case w2b => omega
            case w3b =>
              intro h10 F10 N10
              dsimp only
              k_steps
              refine' Stop.mk ?_
              obtain ⟨nx', led', y1, y2, y3, y4, y5⟩ := towns_step (c := c) (o2 := listOf #[] 0) N10 hne hc (if_neg (by assumption)).symm (if_neg (by assumption)).symm j1 j2 j3 j4 j5 m1 m2 m3 hsep d1 d1' d2 d2' l9
              exact LpEnd.intro nx' F10 y1 y2 y3 y4 y5
    case done =>
      intro h tk m' nx F3 N3 hJ
      clear F10 N10
      have hvl := hi.length
      have hm : m' (Str.ofString "streets") = some (.ref sl) ∧ m' (Str.ofString "onward") = some (.ref tw1) ∧ m' (Str.ofString "backward") = some (.ref tw2) := by
        obtain ⟨pl, n0, ts1, n1, ts2, n2, tl, e, j1, j2, j3, j4, j5, m1, m2, m3⟩ := hJ
        exact ⟨m1, m2, m3⟩
      obtain ⟨m1, m2, m3⟩ := hm
      replace F3 : Fr g' L' h m' := F3
      replace N3 : News g' L' h _ := N3
      k_steps
      obtain ⟨nw9, hN9, hP9⟩ := towns_done (g := h₀) (L := L) hne hJ (by omega) (by assumption) (by assumption)
      refine' hret _ nw9 _ _ ?x1 hN9 hP9
      (case x1 => k_asm))
end
end
section
-- Reach
section
theorem top_off_Reach : True := by
 w_top off
 trivial
set_option maxRecDepth 100000 in
set_option maxHeartbeats 8000000 in
set_option pp.deepTerms false in
theorem reach_sp {w : World} {mean : ExcName → Option Value} {mg mb : Str → Option Value} {news : Led} {sl : Addr} {sn : Nat} {ts : List Addr} {ss : List (Int × Int)} (hm : (sl, listOf (ts.map Value.ref).toArray sn) ∈ news) (hp : IPairs news ts ss) (hss : ∀ p ∈ ss, (0 ≤ p.1 ∧ p.1 < 7) ∧ (0 ≤ p.2 ∧ p.2 < 7)) :
  Sp w mean mg mb 235 3 [.ref sl] [] news (ReachPost ss news) := by
  (have hfill : (fun (_ : OpenLaw) (_ : Params → Frag) => True) PySem.Challenge.rw_wo0047_01 hd.heap_39 := (by k_fill; trivial); clear hfill; intro dp un gd cn cs a ccd cl outer A₀ base h₀ L m s Q E B F X N T hk hd' hu hret; refine wpAny_call ?_)
  w_strict (
  k_with_none
  k_dflt (refine' code_def ?zk1 ?zk2 ?zk3 ?zk4 ?zk5 ?zkA ?zkF ?zkK ?zk6 ?zk7 ?zk8 ?zk9 ?zkB ?_ ?zc2 ?zc3 ?zc4 ?zc5; (case zkA => exact rfl); (case zkF => exact rfl); (case zkK => assumption); (case zk1 => k_asm); (case zk2 => k_asm); (case zk3 => k_asm); (case zk4 => k_asm); (case zk5 => k_asm); (case zk6 => k_is); (case zk7 => k_is); (case zk8 => ktr_room); (case zk9 => first | exact BindsTo.of_eq rfl | (refine' kp_binds ?zkx ?zke; (case zkx => k_in); (case zke => exact fun _ => rfl))); (case zc5 => decide); (case zkB => exact locs rfl); (case zc2 => exact rfl); (case zc3 => exact rfl); (case zc4 => exact rfl); k_whole; intro g' L' h' FG' F' N' B' X' T'; (try dsimp only); (refine' tokGen ?_); intro tk0; (try k_fold))
  have F0 : Fr g' L' h' (fun y => List.lookup y [(("streets" : Str), Value.ref sl)]) := by with_unfolding_all exact F'
  clear F'
  k_steps
  refine' Stop.mk ?_
  rename Fr g' L' _ _ => F1
  rename News g' L' _ _ => N1
  k_dflt (refine' LCg.Assign_ListComp_U F1 (by rfl) (by with_unfolding_all rfl) (by rfl) (by decide) (by rfl) (by decide) (by rfl) (by rfl) (by rfl) ?_)
  k_steps
  refine' Stop.mk ?_
  rename Fr g' L' _ _ => F2
  rename News g' L' _ _ => N2
  refine' LCg.CompSrc.range (n := 7) (by rfl) F2 N2 (by assumption) (by decide) (by decide) (by decide) ?_
  intro g
  refine' rest_ind 7 (fun i ys nw => nw = _ ∧ IntsAre ys ((List.range i).map fun (k : Nat) => (1 : Int) * 2 ^ k)) ?step ?fin _ 0 [] _ (by simp) ⟨rfl, .nil⟩
  case step =>
    rintro i ys nw hi ⟨e, hS⟩ v I oI C oC D m₂ h tk E' hv hC hx F7 N7 off ne
    replace e := e.symm
    subst e
    obtain ⟨t9, rfl⟩ := hv
    rw [show (0 + (i : Int)) = (i : Int) from Int.zero_add _] at hx
    k_steps
    refine' Stop.mk ?_
    refine' LCg.CompEnd.intro F7 N7 _ (fun _ h => h) off trivial ⟨rfl, ?_⟩
    rw [List.range_succ, List.map_append]
    exact intsAre_append hS (.cons _ _ .nil)
  case fin =>
    rintro ys nw ⟨e, hS⟩
    replace e := e.symm
    subst e
    intro D h tk F3 N3 o3
    dsimp only
    k_steps
    refine' Stop.mk ?_
    refine' For_invT g' ?h ?hs ?hE
    case hs => (intro _; rfl)
    case hE => passes_own
    case h =>
      k_steps
      refine' Stop.mk ?_
      rename Fr g' L' _ _ => F4
      rename News g' L' _ _ => N4
      refine' loop_listC (kc := news) (nx := [(D, _)]) (RJ sl D (fun i a b => a = b ∨ (a, b) ∈ ss.take i)) (by rfl) hm ?s1 F4 (news_sub N4 ?s2) ⟨ys, _, _, rfl, hS, rows_init rfl ss, rfl, rfl⟩ ?turn ?done
      case s1 => exact fun p hp q hq => (List.mem_singleton.mp hq) ▸ (off1_all o3 p hp)
      case s2 => (intro p hp; simp only [List.mem_append, List.mem_cons, List.not_mem_nil, or_false] at hp ⊢; exact hp.symm)
      case turn =>
        intro i vv m₁ nx s₁ own hv hJ hsep hkc F5 N5
        obtain ⟨vs, n, rs, e, hi, hR, m1, m2⟩ := hJ
        subst e
        obtain ⟨a1, b, e, t1, u1, rfl, hse, hmem⟩ := ipairs_at hp hv
        obtain ⟨⟨b0, b1⟩, e0, e1⟩ := hss _ (List.mem_of_getElem? hse)
        have hmem1 := hkc _ hmem
        have hrl := hR.1
        have hsr : ∀ p ∈ own, p.1 ≠ D := fun p hp => hsep p hp _ (.head _)
        simp only [List.cons_append, List.nil_append] at N5
        dsimp only at b0 b1 e0 e1
        k_steps
        refine' Stop.mk ?_
        rename Fr g' L' _ _ => F6
        rename News g' L' _ _ => N6
        rename IntsAre (List.set vs _ _) _ => hi6
        exact LpEnd.intro [(D, _)] F6 N6 (fun p hp => (List.mem_singleton.mp hp) ▸ .head _) (fun p hp => List.mem_cons_of_mem _ hp) (fun p hp q hq => (List.mem_singleton.mp hq) ▸ hsr p hp) ⟨_, _, _, rfl, hi6, rows_more hR hse ⟨b0, b1⟩ ⟨e0, e1⟩, m1, m2⟩
      case done =>
        intro h tk m' nx F3 N3 hJ hks'
        have hJ' : RJ sl D (fun k => War (fun i j => (i, j) ∈ ss) k) 0 m' nx := by
          obtain ⟨vs, n, rs, e, hi, hR, m1, m2⟩ := hJ
          refine ⟨vs, n, rs, e, hi, hR.congr fun i j _ _ => ?_, m1, m2⟩
          dsimp only
          rw [List.take_of_length_le (by rw [List.length_map, hp.length]; exact Nat.le_refl _)]
          exact Iff.rfl
        clear hJ
        replace F3 : Fr g' L' h m' := F3
        replace N3 : News g' L' h _ := N3
        k_steps
        refine' Stop.mk ?_
        refine' For_invT g' ?hA ?hsA ?hEA
        case hsA => (intro _; rfl)
        case hEA => passes_own
        case hA =>
          k_steps
          refine' Stop.mk ?_
          rename Fr g' L' _ _ => F4
          rename News g' L' _ _ => N4
          refine' loop_rangeC (n := 7) (RJ sl D (fun k => War (fun i j => (i, j) ∈ ss) k)) (by rfl) (by assumption) (by decide) (by decide) hks' F4 N4 hJ' ?turnA ?doneA
          case turnA =>
            intro i t9 m₁ nx s₁ own hi7 hJ hsep hkc F5 N5
            rw [show (0 + (i : Int)) = (i : Int) from Int.zero_add _]
            k_steps
            refine' Stop.mk ?_
            refine' For_invT g' ?hB ?hsB ?hEB
            case hsB => (intro _; rfl)
            case hEB => passes_own
            case hB =>
              k_steps
              refine' Stop.mk ?_
              rename Fr g' L' _ _ => F6
              rename News g' L' _ _ => N6
              refine' loop_rangeC (kc := own) (n := 7) (RJ2 sl D i t9 (fun p a b => if a < (p : Int) then War (fun i j => (i, j) ∈ ss) (i + 1) a b else War (fun i j => (i, j) ∈ ss) i a b)) (by rfl) (by assumption) (by decide) (by decide) hsep F6 (news_sub N6 ?u1) ?u2 ?turnB ?doneB
              case u1 => (intro p hp; simp only [List.mem_append] at hp ⊢; exact hp.symm)
              case u2 =>
                obtain ⟨vs, n, rs, e, hi, hR, m1, m2⟩ := hJ
                exact ⟨⟨vs, n, rs, e, hi, rows_first hR, m1, m2⟩, rfl⟩
              case turnB =>
                intro p tp m₂ nx₂ s₂ own₂ hp7 hJ₂ hsep₂ hkc₂ F7 N7
                obtain ⟨⟨vs, n, rs, e, hi, hR, m1, m2⟩, m3⟩ := hJ₂
                subst e
                rw [show (0 + (p : Int)) = (p : Int) from Int.zero_add _]
                have hrl := hR.1
                have hsr : ∀ p ∈ own₂, p.1 ≠ D := fun p hp => hsep₂ p hp _ (.head _)
                simp only [List.cons_append, List.nil_append] at N7
                k_steps
                · refine' Stop.mk ?_
                  rename Fr g' L' _ _ => F8
                  rename News g' L' _ _ => N8
                  rename IntsAre (List.set vs _ _) _ => hi8
                  rename Builtin.bitAnd _ _ ≠ 0 => hb
                  simp only [Int.toNat_natCast] at hb
                  have hR8 := rows_turn hi7 hp7 hR
                  rw [if_pos hb] at hR8
                  exact LpEnd.intro [(D, _)] F8 N8 (fun p hp => (List.mem_singleton.mp hp) ▸ .head _) (fun p hp => List.mem_cons_of_mem _ hp) (fun p hp q hq => (List.mem_singleton.mp hq) ▸ hsr p hp) ⟨⟨_, _, _, rfl, hi8, hR8, m1, m2⟩, m3⟩
                · refine' Stop.mk ?_
                  rename Fr g' L' _ _ => F8
                  rename News g' L' _ _ => N8
                  rename Builtin.bitAnd _ _ = 0 => hb
                  simp only [Int.toNat_natCast] at hb
                  have hR8 := rows_turn hi7 hp7 hR
                  rw [if_neg (fun h => h hb)] at hR8
                  exact LpEnd.intro [(D, listOf vs.toArray n)] F8 N8 (fun p hp => (List.mem_singleton.mp hp) ▸ .head _) (fun p hp => List.mem_cons_of_mem _ hp) (fun p hp q hq => (List.mem_singleton.mp hq) ▸ hsr p hp) ⟨⟨_, _, _, rfl, hi, hR8, m1, m2⟩, m3⟩
              case doneB =>
                intro h tk m' nx F3 N3 hJ₂ hks₂
                replace F3 : Fr g' L' h m' := F3
                replace N3 : News g' L' h _ := N3
                k_steps
                refine' Stop.mk ?_
                obtain ⟨⟨vs, n, rs, e, hi, hR, m1, m2⟩, m3⟩ := hJ₂
                exact LpEnd.intro nx F3 N3 (fun p hp => List.mem_append_right _ hp) (fun p hp => List.mem_append_left _ hp) hks₂ ⟨vs, n, rs, e, hi, rows_next hR, m1, m2⟩
          case doneA =>
            intro h tk m' nx F3 N3 hJ hks'
            obtain ⟨vs, n, rs, e, hi, hR, m1, m2⟩ := hJ
            subst e
            replace F3 : Fr g' L' h m' := F3
            replace N3 : News g' L' h _ := N3
            k_steps
            all_goals (refine' hret _ _ _ _ ?y1 (news_sub (by assumption) ?y2) ⟨D, vs, n, rs, rfl, rfl, hi, hR⟩; (case y1 => k_asm); (case y2 => (intro p hp; simp only [List.mem_append, List.mem_cons, List.not_mem_nil, or_false] at hp ⊢; exact hp.symm))))
end
end
section
-- Gone
section
theorem top_off_Gone : True := by
 w_top off
 trivial
local macro_rules | `(tactic| walk_at "subscriptTail") => `(tactic| (k_here; refine' Stop.out ?_))
local macro_rules | `(tactic| walk_at "call builtin:list.index") => `(tactic| (k_here; refine' Stop.out ?_))
local macro_rules | `(tactic| walk_at "subscriptTail Name Slice ref ref") => `(tactic| (k_here; (with_reducible show wpAny _ _ (subscriptTail _ (PySem.Expr.Slice (some (PySem.Expr.Name _ _)) none none _) _ _) _ _ _); refine' Stop.out ?_))
/-- what the popping of the path keeps -/
def GW2 (D D1 D2 D3 : Addr) (o0 o1 o2 o3 : Obj) (pa ba da qa : Addr) (sp : Nat) (tsp : Tok) (vb : List Value) (n2 : Nat) (vd : List Value) (n3 : Nat) (vq : List Value) (n4 : Nat) (X : Led) (bs : List Int) (n : Nat) (m : Str → Option Value) (nw : Led) : Prop :=
  ∃ vp n1 j, nw = (D, o0) :: (D1, o1) :: (D2, o2) :: (D3, o3) :: (pa, listOf vp.toArray n1) :: (ba, listOf vb.toArray n2) :: (da, listOf vd.toArray n3) :: (qa, listOf vq.toArray n4) :: X ∧ IntsAre vp (bs.take j) ∧ sp ≤ j ∧ j ≤ bs.length ∧ n = j - sp ∧ m (Str.ofString "path") = some (.ref pa) ∧ m (Str.ofString "spot") = some (.int sp tsp)
/-- what the popping of the bounds keeps -/
def GW (tw pa ba da qa : Addr) (v : Int) (t : Tok) (kn : Nat) (tk' : Tok) (sp : Int) (tsp : Tok) (vp : List Value) (n1 : Nat) (vd : List Value) (n3 : Nat) (vq : List Value) (n4 : Nat) (X : Led) (bs : List Int) (n : Nat) (m : Str → Option Value) (nw : Led) : Prop :=
  ∃ vb nb j, nw = GLed pa ba da qa vp n1 vb nb vd n3 vq n4 X ∧ IntsAre vb (bs.take j) ∧ kn ≤ j ∧ j ≤ bs.length ∧ n = j - kn ∧ m (Str.ofString "kept") = some (.int kn tk') ∧ m (Str.ofString "place") = some (.int v t) ∧ m (Str.ofString "town") = some (.ref tw) ∧ m (Str.ofString "path") = some (.ref pa) ∧ m (Str.ofString "bounds") = some (.ref ba) ∧ m (Str.ofString "done") = some (.ref da) ∧ m (Str.ofString "parts") = some (.ref qa) ∧ m (Str.ofString "spot") = some (.int sp tsp)
set_option maxRecDepth 100000 in
set_option maxHeartbeats 8000000 in
set_option pp.deepTerms false in
theorem gone_step {w : World} {mean : ExcName → Option Value} {mg mb : Str → Option Value} {es : List (Str × Str)} (ok : TownOk es) {tw : Addr} {f : Nat}
   (ih : ∀ (v : Int) (t : Tok) (s0 s' : SS) (pa ba da qa : Addr) (rest : Led) (vp vb vd vq : List Value) (n1 n2 n3 n4 : Nat), Pre (adjT es) v s0 → goneS (adjT es) f v s0 = some s' → Town rest tw es → IntsAre vp s0.segs.flatten → IntsAre vb (starts 0 s0.segs) → IntsAre vd s0.done → vq.length = s0.parts.length → Ap4 pa ba da qa rest →
     Sp w mean mg mb 216 (f + 10) [.int v t, .ref tw, .ref pa, .ref ba, .ref da, .ref qa] [] (GLed pa ba da qa vp n1 vb n2 vd n3 vq n4 rest) (GPost pa ba da qa s0 s' vq rest))
   (v : Int) (t : Tok) (s0 s' : SS) (hpre : Pre (adjT es) v s0) (hs' : goneS (adjT es) (f + 1) v s0 = some s')
   (pa ba da qa : Addr) (rest : Led) (vp vb vd vq : List Value) (n1 n2 n3 n4 : Nat) (town : Town rest tw es) (i1 : IntsAre vp s0.segs.flatten) (i2 : IntsAre vb (starts 0 s0.segs)) (i3 : IntsAre vd s0.done) (q4 : vq.length = s0.parts.length) (ap : Ap4 pa ba da qa rest) :
   Sp w mean mg mb 216 (f + 1 + 10) [.int v t, .ref tw, .ref pa, .ref ba, .ref da, .ref qa] [] (GLed pa ba da qa vp n1 vb n2 vd n3 vq n4 rest) (GPost pa ba da qa s0 s' vq rest) := by
  unfold GLed
  obtain ⟨a1, a2, a3, a4, a5, a6, b1, b2, b3, b4⟩ := ap
  (have hfill : (fun (_ : OpenLaw) (_ : Params → Frag) => True) PySem.Challenge.rw_wo0047_01 hd.heap_39 := (by k_fill; trivial); clear hfill; intro dp un gd cn cs a ccd cl outer A₀ base h₀ L m s Q E B F X N T hk hd' hu hret; refine wpAny_call ?_)
  obtain ⟨vr0, vr1⟩ := hpre.rng
  have hpl := hpre.inv.path_len
  have hsl := hpre.inv.segs_len
  have hql := hpre.inv.parts_len
  have hst := starts_length 0 s0.segs
  have hvp := i1.length
  have hvb := i2.length
  obtain ⟨s2, hs2, hs3⟩ : ∃ s2, goneL (goneS (adjT es) f) (adjT es v) { s0 with segs := s0.segs ++ [[v]] } = some s2 ∧ s' = goneEnd v s0 s2 := by
    unfold goneS at hs'
    split at hs'
    · cases hs'
    · rename_i s2 hq
      exact ⟨s2, hq, (Option.some.inj hs').symm⟩
  obtain ⟨dx, hl, hn, H, hkk, ts, t1, t2, t3, t4⟩ := town.out
  have hts := t4.length
  have hlow := letL_mem v
  have hup : letL v ∈ lowL ++ upL := List.mem_append_left _ hlow
  have hok1 := ok.1
  have hts9 : ts.length ≤ 9 := by rw [hts]; exact ok.2.2
  w_strict (
  k_with_none
  k_dflt (refine' code_def ?zk1 ?zk2 ?zk3 ?zk4 ?zk5 ?zkA ?zkF ?zkK ?zk6 ?zk7 ?zk8 ?zk9 ?zkB ?_ ?zc2 ?zc3 ?zc4 ?zc5; (case zkA => exact rfl); (case zkF => exact rfl); (case zkK => assumption); (case zk1 => k_asm); (case zk2 => k_asm); (case zk3 => k_asm); (case zk4 => k_asm); (case zk5 => k_asm); (case zk6 => k_is); (case zk7 => k_is); (case zk8 => ktr_room); (case zk9 => first | exact BindsTo.of_eq rfl | (refine' kp_binds ?zkx ?zke; (case zkx => k_in); (case zke => exact fun _ => rfl))); (case zc5 => decide); (case zkB => exact locs rfl); (case zc2 => exact rfl); (case zc3 => exact rfl); (case zc4 => exact rfl); k_whole; intro g' L' h' FG' F' N' B' X' T'; (try dsimp only); (refine' tokGen ?_); intro tk0; (try k_fold))
  have F0 : Fr g' L' h' (fun y => List.lookup y [(("parts" : Str), Value.ref qa), (("done" : Str), Value.ref da), (("bounds":Str), Value.ref ba), (("path" : Str), Value.ref pa), (("town" : Str), Value.ref tw), (("place" : Str), Value.int v t)]) := by with_unfolding_all exact F'
  clear F'
  k_steps
  refine' Stop.mk ?_
  rename Fr _ _ _ _ => F1
  refine' For_invT g' ?h ?hs ?hE
  case hs => (intro _; rfl)
  case hE => passes_own
  case h =>
    k_steps
    refine' Stop.mk ?_
    with_reducible (k_here; (first | ((with_reducible show wpAny _ _ (subscriptTail _ _ (Value.str (PySem.Str.ofString "abcdefg") _) _) _ _ _); (with_unfolding_all refine' item_low ?k1q11 ?k2q11 ?_ ?k3q11 ?k4q11)) | ((with_reducible show wpAny _ _ (subscriptTail _ _ (Value.str (PySem.Str.ofString "ABCDEFG") _) _) _ _ _); (with_unfolding_all refine' item_up ?k1q11 ?k2q11 ?_ ?k3q11 ?k4q11))); (case k1q11 => first | assumption | omega); (case k2q11 => first | assumption | omega); (case k3q11 => with_unfolding_all rfl); (case k4q11 => (intro _; with_unfolding_all rfl)); intro _ _)
    k_steps
    refine' Stop.mk ?_
    (k_here; (with_unfolding_all refine' sp_use (getall_sp ?c1q12 ?c2q12 ?c3q12 ?c4q12 ?c5q12 ?c6q12 ?c7q12) ?kBq12 ?kFq12 ?kXq12 ?kNq12 ?kTq12 ?kKq12 ?kDq12 ?kUq12 ?_); (case kBq12 => k_asm); (case kFq12 => k_asm); (case kXq12 => k_asm); (case kNq12 => k_asm); (case kTq12 => k_asm); (case kKq12 => first | exact rfl | assumption); (case kDq12 => ktr_room); (case kUq12 => ktr_units); (case c1q12 => k_mem); (case c2q12 => k_mem); (case c3q12 => k_mem); (case c4q12 => walk_at "my tups"); (case c5q12 => with_reducible assumption); (case c6q12 => with_reducible assumption); (case c7q12 => with_reducible assumption); k_whole; intro r'q12 nw'q12 h'q12 tk'q12 F'q12 N'q12 P'q12; (obtain ⟨D'q12, vs'q12, e1'q12, e2'q12, s1'q12, o1'q12⟩ := P'q12; subst e1'q12; subst e2'q12); (try dsimp only); (try k_fold); (try k_sweep))
    k_steps
    refine' Stop.mk ?_
    rename News _ _ _ ((_, LCg.lst _) :: _) => N2
    rename Strs _ _ => s1
    rename OffA _ _ => o1
    rename Fr g' L' _ _ => F2
    refine' loop_list (GJ es f v t _ _ tw pa ba da qa s0 s2 vq rest) (by rfl) ⟨_, (N2 _ (.head _)).1, rfl, _, rfl⟩ (N2 _ (.head _)).2.1 o1 F2 (news_sub N2 fun p hp => List.mem_cons_of_mem _ hp) ?hj ?turn ?done
    case hj =>
      refine' ⟨⟨_, [], _, _, _, _, _, _, [], _, by rw [List.map_nil, List.append_nil, List.nil_append]; rfl, hpre.init, hs2, ⟨?_, ?_, i3, ⟨[], .nil, by simp⟩⟩, ⟨a1, a2, a3, a4, a5, a6, b1, b2, b3, b4⟩, fun _ h => nomatch h⟩, rfl, rfl, rfl, rfl, rfl, rfl, rfl⟩
      · rw [List.flatten_append]; exact intsAre_append i1 (.cons v t .nil)
      · rw [starts_push]; exact intsAre_append i2 (.cons _ _ .nil)
    case turn =>
      intro i vv m₁ nx s₁ own hv hJ hsep F3 N3
      obtain ⟨⟨σ, tl, vp', n1', vb', n2', vd', n3', pl, n4', e, hL, hg, hR, hA, hO⟩, m1, m2, m3, m4, m5, m6, m7⟩ := hJ
      subst e
      unfold GLed at N3 hsep
      obtain ⟨x, tx, hx, rfl⟩ := s1.get hv
      have hxd := getAll_dig ok x (List.mem_of_getElem? hx)
      obtain ⟨hi1, hi2, hi3, ⟨ps, hps, hpe⟩⟩ := hR
      have hpl1 := hL.inv.path_len
      have hsl1 := hL.inv.segs_len
      have hp1000 : ∀ x ∈ σ.segs.flatten, 0 ≤ x ∧ x < 1000 := fun x hx => ⟨(hL.inv.pr x hx).1, by have := (hL.inv.pr x hx).2; omega⟩
      simp only [List.cons_append, List.append_assoc] at N3
      have c1 : ∀ p ∈ tl ++ (rest ++ own), p.1 ≠ pa := by rw [← List.append_assoc]; exact ap_own hA.b1 hsep (.head _)
      have c2 : ∀ p ∈ tl ++ (rest ++ own), p.1 ≠ ba := by rw [← List.append_assoc]; exact ap_own hA.b2 hsep (.tail _ (.head _))
      have c3 : ∀ p ∈ tl ++ (rest ++ own), p.1 ≠ da := by rw [← List.append_assoc]; exact ap_own hA.b3 hsep (.tail _ (.tail _ (.head _)))
      have c4 : ∀ p ∈ tl ++ (rest ++ own), p.1 ≠ qa := by rw [← List.append_assoc]; exact ap_own hA.b4 hsep (.tail _ (.tail _ (.tail _ (.head _))))
      obtain ⟨st1, st2⟩ := adj_step (getAll_adj hx)
      rw [st2] at hg
      have hoadj : ((digL.idxOf x : Nat) : Int) ∈ adjT es v := List.mem_of_getElem? (getAll_adj hx)
      have horng := adjT_rng ok v _ hoadj
      k_steps
      · refine' Stop.mk ?_
        (k_here; (refine' index_led ?k1q13 ?k2q13 ?k3q13 ?k4q13 ?k5q13 ?k6q13 ?_; (case k1q13 => k_asm); (case k2q13 => k_mem); (case k3q13 => with_reducible assumption); (case k4q13 => omega); (case k5q13 => with_reducible assumption); (case k6q13 => with_reducible assumption); k_whole); intro _ _)
        k_steps
        refine' Stop.mk ?_
        have hin := any_in (by assumption)
        refine' sp_use (bis_sp ?q1 hi2 ?q2 (starts_sorted hL.inv.ne)) (by k_asm) (by k_asm) (by k_asm) (by k_asm) (by k_asm) (by first | exact rfl | assumption) (by ktr_room) (by ktr_units) ?q3
        case q1 => k_mem
        case q2 => (rw [starts_length]; omega)
        case q3 =>
          rintro r9 nw9 h9 tk9 F9 N9 ⟨e9, k, tk', e8, k0, k1, k2, k3⟩
          subst e9 e8
          dsimp only
          k_steps
          refine' Stop.mk ?_
          rename Fr g' L' _ _ => F4
          rename News _ _ _ _ => N4
          have hk9 : k ≤ ((starts 0 σ.segs).length : Int) := k1
          obtain ⟨kn, rfl⟩ : ∃ kn : Nat, k = (kn : Int) := ⟨k.toNat, by omega⟩
          refine' While_inv (GW tw pa ba da qa v t kn tk' _ _ vp' n1' vd' n3' (vq ++ pl.map Value.ref) n4' (tl ++ (rest ++ own)) (starts 0 σ.segs)) F4 N4 ⟨_, _, (starts 0 σ.segs).length, rfl, by rw [List.take_length]; exact hi2, by omega, Nat.le_refl _, rfl, rfl, m1, m2, m3, m4, m5, m6, m7⟩ ?wt ?we
          case we => passes_own
          case wt =>
            intro n m₂ news₂ h₂ tk₂ F₂ N₂ J₂
            clear F4 N4
            obtain ⟨vb2, nb2, j, e2, ib2, hj1, hj2, hn2, w0, w1, w2, w3, w4, w5, w6, w7⟩ := J₂
            subst e2
            unfold GLed at N₂
            have hlb2 := ib2.length
            have hss9 := starts_length 0 σ.segs
            have hlt := List.length_take (i := j) (l := starts 0 σ.segs)
            k_steps
            · refine' Stop.mk ?_
              with_reducible (k_here; k_dflt (refine' kpa_pop ?Fq14 ?Nq14 ?Uq14 ?iq14 ?lq14 ?zq14 ?_; (case Fq14 => k_asm); (case Nq14 => k_asm); (case Uq14 => k_upd); (case iq14 => with_reducible assumption); (case lq14 => omega); (case zq14 => (rw [PySem.sizeLine_eq]; omega)); k_whole); (intro h'q14 t'q14 F'q14 N'q14 hI'q14; (try dsimp only [List.nil_append, List.cons_append] at N'q14)))
              k_steps
              rename Fr g' L' _ m₂ => F5
              rename News g' L' _ _ => N5
              rename IntsAre vb2.dropLast _ => hI5
              rw [dropLast_take hj2] at hI5
              refine' WhileStep.intro (n' := j - 1 - kn) ?y1 ?y2 ?y3 ?y4
              (case y1 => exact F5)
              (case y2 => exact N5)
              (case y3 => omega)
              exact ⟨_, _, j - 1, rfl, hI5, by omega, by omega, rfl, w0, w1, w2, w3, w4, w5, w6, w7⟩
            · refine' Stop.mk ?_
              have hkj : j = kn := by omega
              subst hkj
              refine' LpEnd.intro (GLed pa ba da qa vp' n1' vb2 nb2 vd' n3' (vq ++ pl.map Value.ref) n4' (tl ++ rest)) F₂ N₂ ?z1 ?z2 ?z3 ⟨⟨_, tl, _, _, _, _, _, _, _, _, rfl, ?z4, goneL_path hg hin, ⟨?z5, ?z6, hi3, ps, hps, hpe⟩, hA, hO⟩, w1, w2, w3, w4, w5, w6, w7⟩
              case z1 => exact gled_mono rfl (fun p hp => by simp only [List.mem_append] at hp ⊢; rcases hp with h | h <;> simp [h])
              case z2 => exact fun p hp => gled_tail (by simp [hp])
              case z3 => exact sep_gled hsep (fun p hp q hq => hsep p hp q (gled_tail hq))
              case z4 => (rw [st1]; exact hL.path hoadj hin)
              case z5 => (rw [mergeAt_flatten]; exact hi1)
              case z6 => (rw [← merge_starts hin (by omega) (fun i hi => k2 i (by omega)) (fun i hi h' => k3 i (by omega) h')]; exact ib2)
      · refine' Stop.mk ?_
        rename Fr g' L' _ _ => F10
        rename News _ _ _ _ => N10
        refine' LpEnd.intro (GLed pa ba da qa vp' n1' vb' n2' vd' n3' (vq ++ pl.map Value.ref) n4' (tl ++ rest)) F10 N10 ?n1 ?n2 hsep ⟨⟨σ, tl, _, _, _, _, _, _, _, _, rfl, ?n3, goneL_skip hg (any_out (by assumption)) (any_in (by assumption)), ⟨hi1, hi2, hi3, ps, hps, hpe⟩, hA, hO⟩, m1, m2, m3, m4, m5, m6, m7⟩
        case n1 => (intro p hp; unfold GLed at hp; simp only [List.mem_cons, List.mem_append] at hp ⊢; rcases hp with h | h | h | h | h | h <;> simp [h])
        case n2 => (intro p hp; simp [hp])
        case n3 => (rw [st1]; exact hL.skip (any_out (by assumption)) (any_in (by assumption)))
      · refine' Stop.mk ?_
        obtain ⟨s1', hq1, hg1⟩ := goneL_child hg (any_out (by assumption)) (any_out (by assumption))
        have hP1 := hL.pre hoadj horng (any_out (by assumption)) (any_out (by assumption))
        refine' sp_use (ih _ _ σ s1' pa ba da qa (tl ++ (rest ++ own)) vp' vb' vd' (vq ++ pl.map Value.ref) n1' n2' n3' n4' hP1 hq1 (town.mono (fun p hp => by simp [hp])) hi1 hi2 hi3 ?o1 ⟨hA.a1, hA.a2, hA.a3, hA.a4, hA.a5, hA.a6, c1, c2, c3, c4⟩) (by k_asm) (by k_asm) (by k_asm) (by k_asm) (by k_asm) (by first | exact rfl | assumption) (by ktr_room) (by ktr_units) ?o2
        case o1 => rw [List.length_append, List.length_map, hps.length, hpe, List.length_append, q4]
        case o2 =>
          rintro r9 nw9 h9 tk9 F9 N9 ⟨e9, tl2, vp2, n12, vb2, n22, vd2, n32, pl2, n42, e8, hR2, hA2, hO2⟩
          subst e9 e8
          dsimp only
          k_steps
          refine' Stop.mk ?_
          rename Fr g' L' _ _ => F10
          rename News _ _ _ _ => N10
          obtain ⟨j1, j2, j3, ⟨ps2, hps2, hpe2⟩⟩ := hR2
          refine' LpEnd.intro (GLed pa ba da qa vp2 n12 vb2 n22 vd2 n32 (vq ++ (pl ++ pl2).map Value.ref) n42 ((tl2 ++ tl) ++ rest)) F10 N10 ?p1 ?p2 ?p3 ⟨⟨s1', tl2 ++ tl, _, _, _, _, _, _, _, _, rfl, ?p4, hg1, ⟨j1, j2, j3, ps ++ ps2, ?p5, ?p6⟩, ?p7, ?p8⟩, m1, m2, m3, m4, m5, m6, m7⟩
          case p1 => exact gled_mono (by simp) (fun p hp => by simp only [List.mem_append] at hp ⊢; rcases hp with (h | h) | h <;> simp [h])
          case p2 => exact fun p hp => gled_tail (by simp [hp])
          case p3 => exact sep_gled hsep (fun p hp q hq => by
            rcases List.mem_append.mp hq with hq | hq
            · rcases List.mem_append.mp hq with hq | hq
              · exact (hO2 q hq p (by simp [hp])).symm
              · exact hsep p hp q (by simp [hq])
            · exact hsep p hp q (by simp [hq]))
          case p4 => (rw [st1]; exact hL.child (any_out (by assumption)) (goneS_res (adjT_rng ok) f _ _ _ hP1 hq1))
          case p5 => exact (hps.mono (fun p hp => List.mem_append_right _ hp)).append (hps2.mono (fun p hp => List.mem_append_left _ hp))
          case p6 => rw [hpe2, hpe, List.append_assoc]
          case p7 => exact hA2.mono (fun p hp => by simp only [List.mem_append] at hp ⊢; rcases hp with (h | h) | h <;> simp [h])
          case p8 => exact fun p hp q hq => (List.mem_append.mp hp).elim (fun h => hO2 p h q (by simp [hq])) fun h => hO p h q hq
    case done =>
      intro h tk m' nx F3 N3 hJ
      obtain ⟨⟨σ, tl, vp', n1', vb', n2', vd', n3', pl, n4', e, hL, hg, hR, hA, hO⟩, m1, m2, m3, m4, m5, m6, m7⟩ := hJ
      subst e
      unfold GLed at N3
      obtain ⟨hi1, hi2, hi3, ⟨ps, hps, hpe⟩⟩ := hR
      have hpl1 := hL.inv.path_len
      have hsl1 := hL.inv.segs_len
      have hql1 := hL.inv.parts_len
      have hdl1 := hL.inv.done_len
      have hvp1 := hi1.length
      have hvb1 := hi2.length
      have hvd1 := hi3.length
      have hst1 := starts_length 0 σ.segs
      have hc1 := hA.b1
      have hc2 := hA.b2
      have hc3 := hA.b3
      have hc4 := hA.b4
      have hpl3 := hps.length
      have hpe3 : σ.parts.length = s0.parts.length + ps.length := by rw [hpe, List.length_append]
      have hpm3 : (pl.map Value.ref).length = pl.length := List.length_map ..
      obtain ⟨pre, T, z1, z2, z3, z4, z5⟩ := fin_shape hL
      have z6 : vb'.length = (starts 0 pre).length + 1 := by rw [hi2.length, z2, List.length_append]; rfl
      have hs29 : σ = s2 := goneL_nil hg (by rw [← getAll_len]; exact Nat.le_of_eq (s1.length).symm)
      subst hs29
      subst hs3
      replace F3 : Fr g' L' h m' := F3
      replace N3 : News g' L' h _ := N3
      k_steps
      refine' Stop.mk ?_
      with_reducible (k_here; k_dflt (refine' eq_led ?k1q15 ?k2q15 ?k3q15 ?k4q15 ?k5q15 ?k6q15 ?_; (case k1q15 => k_asm); (case k2q15 => k_mem); (case k3q15 => k_mem); (case k4q15 => first | with_reducible assumption | exact .nil | exact .cons _ _ .nil); (case k5q15 => first | with_reducible assumption | exact .nil | exact .cons _ _ .nil); (case k6q15 => ktr_units); k_whole))
      k_steps
      · refine' Stop.mk ?_
        with_reducible (k_here; (with_reducible show wpAny _ _ (subscriptTail _ (PySem.Expr.Slice (some _) none none _) (Value.ref _) (Value.ref _)) _ _ _); k_dflt (refine' kmk_slice_ints ?Fq16 ?Nq16 ?lq16 ?pq16 ?qq16 ?iq16 ?mq16 ?cq16 ?_ ?sq16 ?tq16 ?zq16; (case Fq16 => k_asm); (case Nq16 => k_asm); (case lq16 => kmk_list); (case pq16 => kmk_part); (case qq16 => kmk_part); (case iq16 => with_reducible assumption); (case mq16 => exact kmk_from (by with_reducible assumption) (Int.natCast_nonneg _)); (case cq16 => exact List.length_drop ..); (case sq16 => with_unfolding_all rfl); (case tq16 => kmk_pure); (case zq16 => (rw [List.size_toArray, PySem.sizeLine_eq]; omega))); intro D'q16 ws'q16 h'q16 F'q16 N'q16 l1 hI'q16 hC'q16 hL'q16; (simp only [Int.toNat_natCast] at hI'q16 hC'q16 hL'q16); (try k_lt l1); (try k_sweep))
        k_steps
        refine' Stop.mk ?_
        with_reducible (k_here; k_dflt (refine' kpa_pop ?Fq17 ?Nq17 ?Uq17 ?iq17 ?lq17 ?zq17 ?_; (case Fq17 => k_asm); (case Nq17 => k_asm); (case Uq17 => k_upd); (case iq17 => with_reducible assumption); (case lq17 => omega); (case zq17 => (rw [PySem.sizeLine_eq]; omega)); k_whole); (intro h'q17 t'q17 F'q17 N'q17 hI'q17; (try dsimp only [List.nil_append, List.cons_append] at N'q17)))
        k_steps
        refine' Stop.mk ?_
        have he9 : pre.flatten.length = s0.segs.flatten.length := by
          rename List.drop _ _ = _ => hx9
          rw [z3] at hx9
          have := (List.cons.inj hx9).1
          omega
        rename Fr g' L' _ m' => F6
        rename News g' L' _ ((_, _) :: (_, _) :: (_, _) :: (_, _) :: (pa, _) :: _) => N6
        refine' While_inv (GW2 _ _ _ _ _ _ _ _ pa ba da qa s0.segs.flatten.length _ _ _ _ _ _ _ (tl ++ rest) σ.segs.flatten) F6 N6 ⟨_, _, σ.segs.flatten.length, rfl, by rw [List.take_length]; exact hi1, by rw [z4, List.length_append]; omega, Nat.le_refl _, rfl, m3, m7⟩ ?dwt ?dwe
        case dwe => passes_own
        case dwt =>
          intro n m₂ news₂ h₂ tk₂ F₂ N₂ J₂
          clear F6 N6
          obtain ⟨vp2, np2, j, e2, ip2, hj1, hj2, hn2, w1, w2⟩ := J₂
          subst e2
          have hlp2 := ip2.length
          have hlt := List.length_take (i := j) (l := σ.segs.flatten)
          k_steps
          · refine' Stop.mk ?_
            with_reducible (k_here; k_dflt (refine' kpa_pop ?Fq18 ?Nq18 ?Uq18 ?iq18 ?lq18 ?zq18 ?_; (case Fq18 => k_asm); (case Nq18 => k_asm); (case Uq18 => k_upd); (case iq18 => with_reducible assumption); (case lq18 => omega); (case zq18 => (rw [PySem.sizeLine_eq]; omega)); k_whole); (intro h'q18 t'q18 F'q18 N'q18 hI'q18; (try dsimp only [List.nil_append, List.cons_append] at N'q18)))
            k_steps
            rename Fr g' L' _ m₂ => F5
            rename News g' L' _ _ => N5
            rename IntsAre vp2.dropLast _ => hI5
            rw [dropLast_take hj2] at hI5
            refine' WhileStep.intro (n' := j - 1 - s0.segs.flatten.length) ?yy1 ?yy2 ?yy3 ?yy4
            (case yy1 => exact F5)
            (case yy2 => exact N5)
            (case yy3 => omega)
            exact ⟨_, _, j - 1, rfl, hI5, by omega, by omega, rfl, w1, w2⟩
          · obtain ⟨nw9, hN9, hP9⟩ := gone_end (g := h₀) (L := L) (by assumption) (by assumption) z1 z2 z4 he9 (by assumption) (by assumption) (by assumption) ip2 (by omega) (by assumption) hi3 hps hpe hA hO
            refine' hret _ nw9 _ _ ?x1 hN9 hP9
            (case x1 => k_asm)
      · rename News _ _ _ _ => N9
        have hne9 : pre.flatten.length ≠ s0.segs.flatten.length := by
          rename ¬ (List.drop _ _ = _) => hx9
          rw [z3] at hx9
          intro e
          exact hx9 (by rw [e])
        refine' hret _ (GLed pa ba da qa vp' n1' vb' n2' (vd' ++ [.int v t]) (n3' + 1) (vq ++ pl.map Value.ref) n4' (tl ++ rest)) _ _ ?d1 (news_sub N9 ?d2) ⟨rfl, tl, _, _, _, _, _, _, pl, _, rfl, ?d3, hA, hO⟩
        case d1 => k_asm
        case d2 => exact fun _ h => List.mem_cons_of_mem _ (List.mem_cons_of_mem _ h)
        case d3 =>
          rw [end_no z1 hne9]
          exact ⟨hi1, hi2, intsAre_append hi3 (.cons _ _ .nil), ps, hps, hpe⟩)
theorem gone_sp {w : World} {mean : ExcName → Option Value} {mg mb : Str → Option Value} {es : List (Str × Str)} (ok : TownOk es) {tw : Addr} : ∀ (f : Nat) (v : Int) (t : Tok) (s0 s' : SS) (pa ba da qa : Addr) (rest : Led) (vp vb vd vq : List Value) (n1 n2 n3 n4 : Nat), Pre (adjT es) v s0 → goneS (adjT es) f v s0 = some s' → Town rest tw es → IntsAre vp s0.segs.flatten → IntsAre vb (starts 0 s0.segs) → IntsAre vd s0.done → vq.length = s0.parts.length → Ap4 pa ba da qa rest →
     Sp w mean mg mb 216 (f + 10) [.int v t, .ref tw, .ref pa, .ref ba, .ref da, .ref qa] [] (GLed pa ba da qa vp n1 vb n2 vd n3 vq n4 rest) (GPost pa ba da qa s0 s' vq rest)
  | 0, _, _, _, _, _, _, _, _, _, _, _, _, _, _, _, _, _, _, h, _, _, _, _, _, _ => by simp [goneS] at h
  | f + 1, v, t, s0, s', pa, ba, da, qa, rest, vp, vb, vd, vq, n1, n2, n3, n4, h1, h2, h3, h4, h5, h6, h7, h8 =>
    gone_step ok (gone_sp ok f) v t s0 s' h1 h2 pa ba da qa rest vp vb vd vq n1 n2 n3 n4 h3 h4 h5 h6 h7 h8
end
end
section
-- Walk
section
theorem top_off_Walk : True := by
 w_top off
 trivial
set_option maxRecDepth 100000 in
set_option maxHeartbeats 8000000 in
set_option pp.deepTerms false in
theorem walk_sp {w : World} {mean : ExcName → Option Value} {mg mb : Str → Option Value} {news : Led} {es : List (Str × Str)} (ok : TownOk es) {tw : Addr} (town : Town news tw es) {st : Int} {tst : Tok} (hs0 : 0 ≤ st) (hs1 : st < 7) :
  Sp w mean mg mb 223 20 [.ref tw, .int st tst] [] news (WalkPost2 es news) := by
  (have hfill : (fun (_ : OpenLaw) (_ : Params → Frag) => True) PySem.Challenge.rw_wo0047_01 hd.heap_39 := (by k_fill; trivial); clear hfill; intro dp un gd cn cs a ccd cl outer A₀ base h₀ L m s Q E B F X N T hk hd' hu hret; refine wpAny_call ?_)
  w_strict (
  k_with_none
  k_dflt (refine' code_def ?zk1 ?zk2 ?zk3 ?zk4 ?zk5 ?zkA ?zkF ?zkK ?zk6 ?zk7 ?zk8 ?zk9 ?zkB ?_ ?zc2 ?zc3 ?zc4 ?zc5; (case zkA => exact rfl); (case zkF => exact rfl); (case zkK => assumption); (case zk1 => k_asm); (case zk2 => k_asm); (case zk3 => k_asm); (case zk4 => k_asm); (case zk5 => k_asm); (case zk6 => k_is); (case zk7 => k_is); (case zk8 => ktr_room); (case zk9 => first | exact BindsTo.of_eq rfl | (refine' kp_binds ?zkx ?zke; (case zkx => k_in); (case zke => exact fun _ => rfl))); (case zc5 => decide); (case zkB => exact locs rfl); (case zc2 => exact rfl); (case zc3 => exact rfl); (case zc4 => exact rfl); k_whole; intro g' L' h' FG' F' N' B' X' T'; (try dsimp only); (refine' tokGen ?_); intro tk0; (try k_fold))
  have F0 : Fr g' L' h' (fun y => List.lookup y [(("start" : Str), Value.int st tst), (("town" : Str), Value.ref tw)]) := by with_unfolding_all exact F'
  clear F'
  k_steps
  refine' Stop.mk ?_
  refine' For_invT g' ?h ?hs ?hE
  case hs => (intro _; rfl)
  case hE => passes_own
  case h =>
    k_steps
    refine' Stop.mk ?_
    rename Fr g' L' _ _ => F9
    rename News g' L' _ _ => N9
    obtain ⟨da, qa, m0, nx0, hdq, F10, N10, hks, hJ0⟩ := walk_init (es := es) (tw := tw) F9 N9 (by assumption) (by assumption) rfl rfl rfl rfl
    refine' loop_rangeC (n := 7) (WJ es st tst tw da qa) (by rfl) (by assumption) (by decide) (by decide) hks F10 N10 hJ0 ?turn ?done
    case turn =>
      clear F9 N9 F10 N10 hJ0
      intro i t9 m₁ nx s₁ own hi hJ hsep hkc F3 N3
      obtain ⟨σ, tl, vd, n3, pl, n4, e, I0, hsg, hcov, hi3, hps, hoff, m1, m2, m3, m4⟩ := hJ
      subst e
      rw [show (0 + (i : Int)) = (i : Int) from Int.zero_add _]
      obtain ⟨r0, r1⟩ := fmod7_rng (st + (i : Int))
      k_steps
      · refine' Stop.mk ?_
        rename Fr g' L' _ _ => F8
        rename News g' L' _ _ => N8
        have hin := any_in (by assumption)
        refine' LpEnd.intro ((da, listOf vd.toArray n3) :: (qa, listOf (pl.map Value.ref).toArray n4) :: tl) F8 N8 (fun p hp => List.mem_append_left _ hp) (fun p hp => List.mem_append_right _ hp) hsep ⟨σ, tl, vd, n3, pl, n4, rfl, I0, hsg, fun k hk => ?_, hi3, hps, hoff, m1, m2, m3, m4⟩
        rcases Nat.lt_or_eq_of_le (Nat.le_of_lt_succ hk) with hk | rfl
        · exact hcov k hk
        · exact hin
      · refine' Stop.mk ?_
        have hout := any_out (by assumption)
        obtain ⟨s', hP, hgo, I', hsg', hv', hd'⟩ := walk_step (adjT_rng ok) I0 hsg r0 r1 hout
        rename News g' L' _ ((_, _) :: (_, _) :: _) => N8
        rename _ < _ ∧ AllLt _ (_ ++ own) => l9
        refine' sp_use (gone_sp ok 8 _ _ σ s' _ _ da qa (tl ++ own) [] [] vd (pl.map Value.ref) 0 0 n3 n4 hP hgo (town.mono ?q1) (by rw [hsg]; exact .nil) (by rw [hsg]; exact .nil) hi3 ?q2 (walk_ap hdq hoff hsep (by assumption) l9)) (by k_asm) (by k_asm) (by k_asm) (news_sub N8 ?q3) (by k_asm) (by first | exact rfl | assumption) (by ktr_room) (by ktr_units) ?q4
        case q1 => exact fun p hp => List.mem_append_right _ (hkc p hp)
        case q2 => rw [List.length_map, hps.length]
        case q3 => (intro p hp; unfold GLed at hp; simp only [List.mem_cons, List.mem_append, List.cons_append] at hp ⊢; rcases hp with h | h | h | h | h | h <;> simp [h])
        case q4 =>
          rintro r9 nw9 h9 tk9 F9 N9 ⟨e9, tl2, vp2, n12, vb2, n22, vd2, n32, pl2, n42, e8, hR2, hA2, hO2⟩
          subst e9 e8
          dsimp only
          clear N8
          k_steps
          refine' Stop.mk ?_
          rename Fr g' L' _ _ => F10
          rename News g' L' _ _ => N10
          obtain ⟨nx', y1, y2, y3, y4⟩ := walk_turn (n1 := n12) (n2 := n22) (n3' := n32) (n4' := n42) (tst := tst) (tw := tw) hsep hR2 hA2 hO2 hps I' hsg' hcov hv' hd' m1 m2 m3 m4
          exact LpEnd.intro nx' F10 N10 y1 y2 y3 y4
    case done =>
      intro h tk m' nx F3 N3 hJ hks'
      obtain ⟨σ, tl, vd, n3, pl, n4, e, I0, hsg, hcov, hi3, hps, hoff, m1, m2, m3, m4⟩ := hJ
      subst e
      replace F3 : Fr g' L' h m' := F3
      replace N3 : News g' L' h _ := N3
      k_steps
      rename ∀ (p : Addr × Obj), p ∈ news ++ _ → _ => l9
      all_goals (refine' hret _ ((_, tup [.ref da, .ref qa]) :: (da, listOf vd.toArray n3) :: (qa, listOf (pl.map Value.ref).toArray n4) :: (tl ++ news)) _ _ ?y1 (news_sub (by assumption) ?y2) ⟨_, da, qa, σ, tl, vd, n3, pl, n4, rfl, rfl, ⟨I0, hsg, walk_all hcov⟩, hi3, hps, fun p hp => l9 p (List.mem_append_left _ hp), hks'⟩; (case y1 => k_asm); (case y2 => (intro p hp; simp only [List.mem_cons, List.mem_append] at hp ⊢; grind))))
end
end
section
-- Gath
section
theorem top_off_Gath : True := by
 w_top off
 trivial
local macro_rules | `(tactic| walk_at "subscriptTail") => `(tactic| (k_here; refine' Stop.out ?_))
set_option maxRecDepth 100000 in
set_option maxHeartbeats 8000000 in
set_option pp.deepTerms false in
theorem gath_sp {w : World} {mean : ExcName → Option Value} {mg mb : Str → Option Value} {news : Led} {es : List (Str × Str)} (ok : TownOk es) {tw : Addr} (town : Town news tw es) {bs : Array UInt8} {tb : Tok} (hb7 : ∀ k ∈ KBw.bInts bs, 0 ≤ k ∧ k < 7) (hbl : (KBw.bInts bs).length ≤ 7) :
  Sp w mean mg mb 230 10 [.ref tw, .bytes bs tb] [] news (GathPost es (KBw.bInts bs) news) := by
  (have hfill : (fun (_ : OpenLaw) (_ : Params → Frag) => True) PySem.Challenge.rw_wo0047_01 hd.heap_39 := (by k_fill; trivial); clear hfill; intro dp un gd cn cs a ccd cl outer A₀ base h₀ L m s Q E B F X N T hk hd' hu hret; refine wpAny_call ?_)
  w_strict (
  k_with_none
  k_dflt (refine' code_def ?zk1 ?zk2 ?zk3 ?zk4 ?zk5 ?zkA ?zkF ?zkK ?zk6 ?zk7 ?zk8 ?zk9 ?zkB ?_ ?zc2 ?zc3 ?zc4 ?zc5; (case zkA => exact rfl); (case zkF => exact rfl); (case zkK => assumption); (case zk1 => k_asm); (case zk2 => k_asm); (case zk3 => k_asm); (case zk4 => k_asm); (case zk5 => k_asm); (case zk6 => k_is); (case zk7 => k_is); (case zk8 => ktr_room); (case zk9 => first | exact BindsTo.of_eq rfl | (refine' kp_binds ?zkx ?zke; (case zkx => k_in); (case zke => exact fun _ => rfl))); (case zc5 => decide); (case zkB => exact locs rfl); (case zc2 => exact rfl); (case zc3 => exact rfl); (case zc4 => exact rfl); k_whole; intro g' L' h' FG' F' N' B' X' T'; (try dsimp only); (refine' tokGen ?_); intro tk0; (try k_fold))
  have F0 : Fr g' L' h' (fun y => List.lookup y [(("order" : Str), Value.bytes bs tb), (("town" : Str), Value.ref tw)]) := by with_unfolding_all exact F'
  clear F'
  k_steps
  refine' Stop.mk ?_
  refine' For_invT g' ?h ?hs ?hE
  case hs => (intro _; rfl)
  case hE => passes_own
  case h =>
    k_steps
    rename Fr g' L' _ _ => F9
    rename News g' L' _ _ => N9
    obtain ⟨m0, nx0, F10, N10, hks, hJ0⟩ := gath_init (es := es) (order := KBw.bInts bs) (tw := tw) F9 N9 (by assumption) (by assumption) rfl rfl rfl
    clear F9 N9
    refine' loop_bytesC (AJ es (KBw.bInts bs) tw) (by rfl) hks F10 N10 hJ0 ?turn ?done
    case turn =>
      intro i v tv m₁ nx s₁ own hv hJ hsep hkc F3 N3
      clear F10 N10 hJ0
      obtain ⟨ml, vm, nm, ql, pl, nq, tl, met, ps, e, hi, hG, hps, hmq, hoff, m1, m2, m3⟩ := hJ
      subst e
      simp only [List.cons_append] at N3
      obtain ⟨v0, v1⟩ := hb7 v (List.mem_of_getElem? hv)
      obtain ⟨mnd, mrg⟩ := gath_met hG ⟨by simp, by simp⟩
      have mlen : met.length ≤ 7 := nodup_len mnd mrg
      have hvm := hi.length
      k_steps
      · refine' Stop.mk ?_
        rename Fr g' L' _ _ => F8
        rename News g' L' _ _ => N8
        have hin := any_in (by assumption)
        refine' LpEnd.intro ((ml, listOf vm.toArray nm) :: (ql, listOf (pl.map Value.ref).toArray nq) :: tl) F8 N8 ?z1 ?z2 hsep ⟨ml, vm, nm, ql, pl, nq, tl, met, ps, rfl, hi, ?z3, hps, hmq, hoff, m1, m2, m3⟩
        case z1 => (intro p hp; simp only [List.mem_cons, List.mem_append] at hp ⊢; rcases hp with h | h | h <;> simp [h])
        case z2 => (intro p hp; simp [hp])
        case z3 =>
          rw [take_snoc hv]
          have h9 := Gath.append hG (.skip hin (.nil _))
          rwa [List.append_nil] at h9
      · refine' Stop.mk ?_
        have hout := any_out (by assumption)
        rename Fr g' L' _ _ => F8
        rename News g' L' _ ((_, _) :: (_, _) :: (ml, _) :: _) => N8
        rename ml < _ ∧ ql < _ ∧ AllLt _ (tl ++ own) => l8
        obtain ⟨gl, m5, nw5, hgl, F5, N5, hBJ⟩ := gath_group (es := es) (tw := tw) (ml := ml) (ql := ql) (X := (ml, listOf vm.toArray nm) :: (ql, listOf (pl.map Value.ref).toArray nq) :: (tl ++ own)) F8 N8 l8 ⟨v0, v1⟩ hout rfl rfl m1 m2 m3
        clear F8 N8
        refine' While_inv (BJ es tw gl ml ql met v ((ml, listOf vm.toArray nm) :: (ql, listOf (pl.map Value.ref).toArray nq) :: (tl ++ own))) F5 N5 hBJ ?wt ?we
        case we => passes_own
        case wt =>
          intro n m₂ news₂ h₂ tk₂ F₂ N₂ J₂
          clear F5 N5 hBJ
          obtain ⟨vg, ng, gg, spot, tsp, e2, ig, hGI, hn, w1, w2, w3, w4, w5⟩ := J₂
          subst e2
          have hvg := ig.length
          have hg7 := hGI.len
          k_steps
          · refine' Stop.mk ?_
            have hsp : spot < gg.length := by omega
            have hy := hGI.rng _ (getD_memI hsp)
            obtain ⟨y0, y1⟩ : 0 ≤ gg.getD ((spot : Int)).toNat 0 ∧ gg.getD ((spot : Int)).toNat 0 < 7 := hy
            have hup : letU (gg.getD ((spot : Int)).toNat 0) ∈ lowL ++ upL := List.mem_append_right _ (letU_mem _)
            obtain ⟨dx, hl, hn9, H, hkk, ts, t1, t2, t3, t4⟩ := (town.mono (news' := tl ++ own) fun p hp => List.mem_append_right _ (hkc p hp)).out
            have hts := t4.length
            have hok1 := ok.1
            have hts9 : ts.length ≤ 9 := by rw [hts]; exact ok.2.2
            have hspi : ((spot : Nat) : Int).toNat = spot := Int.toNat_natCast _
            refine' For_invT g' ?hA ?hsA ?hEA
            case hsA => (intro _; rfl)
            case hEA => passes_own
            case hA =>
              k_steps
              refine' Stop.mk ?_
              with_reducible (k_here; (first | ((with_reducible show wpAny _ _ (subscriptTail _ _ (Value.str (PySem.Str.ofString "abcdefg") _) _) _ _ _); (with_unfolding_all refine' item_low ?k1q19 ?k2q19 ?_ ?k3q19 ?k4q19)) | ((with_reducible show wpAny _ _ (subscriptTail _ _ (Value.str (PySem.Str.ofString "ABCDEFG") _) _) _ _ _); (with_unfolding_all refine' item_up ?k1q19 ?k2q19 ?_ ?k3q19 ?k4q19))); (case k1q19 => first | assumption | omega); (case k2q19 => first | assumption | omega); (case k3q19 => with_unfolding_all rfl); (case k4q19 => (intro _; with_unfolding_all rfl)); intro _ _)
              k_steps
              refine' Stop.mk ?_
              (k_here; (with_unfolding_all refine' sp_use (getall_sp ?c1q20 ?c2q20 ?c3q20 ?c4q20 ?c5q20 ?c6q20 ?c7q20) ?kBq20 ?kFq20 ?kXq20 ?kNq20 ?kTq20 ?kKq20 ?kDq20 ?kUq20 ?_); (case kBq20 => k_asm); (case kFq20 => k_asm); (case kXq20 => k_asm); (case kNq20 => k_asm); (case kTq20 => k_asm); (case kKq20 => first | exact rfl | assumption); (case kDq20 => ktr_room); (case kUq20 => ktr_units); (case c1q20 => k_mem); (case c2q20 => k_mem); (case c3q20 => k_mem); (case c4q20 => walk_at "my tups"); (case c5q20 => with_reducible assumption); (case c6q20 => with_reducible assumption); (case c7q20 => with_reducible assumption); k_whole; intro r'q20 nw'q20 h'q20 tk'q20 F'q20 N'q20 P'q20; (obtain ⟨D'q20, vs'q20, e1'q20, e2'q20, s1'q20, o1'q20⟩ := P'q20; subst e1'q20; subst e2'q20); (try dsimp only); (try k_fold); (try k_sweep))
              k_steps
              refine' Stop.mk ?_
              rename News g' L' _ ((_, LCg.lst _) :: _) => N6
              rename Strs _ _ => s1
              rename OffA _ _ => o1
              rename Fr g' L' _ _ => F6
              have hql : ∀ p ∈ own, p.1 ≠ ql := fun p hp => hsep p hp _ (.tail _ (.head _))
              refine' loop_listC (kc := (_, LCg.lst _) :: (ml, listOf vm.toArray nm) :: (ql, listOf (pl.map Value.ref).toArray nq) :: (tl ++ own)) (nx := [(gl, listOf vg.toArray ng)]) (CJ es tw gl ml ql met v spot tsp (gg.getD spot 0)) (by rfl) (.head _) ?b1 F6 (news_ab N6) ⟨vg, ng, gg, rfl, ig, hGI, hsp, rfl, w1, w2, w3, w4, w5⟩ ?turnB ?doneB
              case b1 =>
                intro p hp q hq
                rw [List.mem_singleton.mp hq]
                rcases List.mem_cons.mp hp with rfl | hp
                · exact (o1 _ (.head _)).symm
                · exact hgl p hp
              case turnB =>
                intro k vv m₃ nx₃ s₃ own₃ hv₃ hJ₃ hsep₃ hkc₃ F₃ N₃
                obtain ⟨vg3, ng3, g3, e3, ig3, hGI3, hsp3, hgy3, w31, w32, w33, w34, w35⟩ := hJ₃
                subst e3
                simp only [List.cons_append, List.nil_append] at N₃
                obtain ⟨x, tx, hx, rfl⟩ := s1.get hv₃
                have hxd := getAll_dig ok x (List.mem_of_getElem? hx)
                have hsr : ∀ p ∈ own₃, p.1 ≠ gl := fun p hp => hsep₃ p hp _ (.head _)
                have hml3 : (ml, listOf vm.toArray nm) ∈ own₃ := hkc₃ _ (.tail _ (.head _))
                have hxa := getAllU_adj y0 y1 hx
                have horng := adjT_rng ok _ _ (List.mem_of_getElem? hxa)
                have hg37 := hGI3.len
                have hvg3 := ig3.length
                have hxa' : (adjT es (gg.getD spot 0))[k]? = some ((digL.idxOf x : Nat) : Int) := hxa
                k_steps
                · refine' Stop.mk ?_
                  rename Fr g' L' _ _ => F7
                  rename News g' L' _ _ => N7
                  have hin3 := any_in (by assumption)
                  refine' LpEnd.intro [(gl, listOf vg3.toArray ng3)] F7 N7 (fun p hp => (List.mem_singleton.mp hp) ▸ .tail _ (.head _)) (fun p hp => .tail _ (.tail _ hp)) (fun p hp q hq => (List.mem_singleton.mp hq) ▸ hsr p hp) ⟨vg3, ng3, g3, rfl, ig3, ?v1, hsp3, hgy3, w31, w32, w33, w34, w35⟩
                  case v1 => (rw [take_snoc hxa']; exact hGI3.has hin3)
                · refine' Stop.mk ?_
                  rename Fr g' L' _ _ => F7
                  rename News g' L' _ _ => N7
                  have hout3 := any_out (by assumption)
                  refine' LpEnd.intro [(gl, _)] F7 N7 (fun p hp => (List.mem_singleton.mp hp) ▸ .tail _ (.head _)) (fun p hp => .tail _ (.tail _ hp)) (fun p hp q hq => (List.mem_singleton.mp hq) ▸ hsr p hp) ⟨_, _, g3 ++ [((digL.idxOf x : Nat) : Int)], rfl, intsAre_append ig3 (.cons _ _ .nil), ?v2, ?v3, ?v4, w31, w32, w33, w34, w35⟩
                  case v2 =>
                    rw [take_snoc hxa']
                    exact hGI3.new hsp3 (by rw [hgy3]; exact List.mem_of_getElem? hxa') horng hout3
                  case v3 => (rw [List.length_append]; omega)
                  case v4 => (rw [getD_snoc hsp3]; exact hgy3)
              case doneB =>
                intro h tk m' nx F3 N3 hJ₃ hks₃
                obtain ⟨vg3, ng3, g3, e3, ig3, hGI3, hsp3, hgy3, w31, w32, w33, w34, w35⟩ := hJ₃
                subst e3
                replace F3 : Fr g' L' h m' := F3
                replace N3 : News g' L' h _ := N3
                k_steps
                rename Fr g' L' _ _ => F7
                rename News g' L' _ _ => N7
                refine' WhileStep.intro (n' := 7 - (spot + 1)) F7 (news_ba N7) ?x3 ⟨vg3, ng3, g3, spot + 1, _, rfl, ig3, ?x4, rfl, rfl, w32, w33, w34, w35⟩
                case x3 => omega
                case x4 =>
                  refine' GrpI.next ?_
                  rw [hgy3]
                  rw [List.take_of_length_le (by rw [s1.length]; exact Nat.le_of_eq (getAllU_len (es := es) y0 y1).symm)] at hGI3
                  exact hGI3
          · refine' Stop.mk ?_
            rename News g' L' _ ((_, _) :: (_, _) :: (gl, _) :: _) => N6
            rename Fr g' L' _ _ => F6
            rename gl < _ ∧ ml < _ ∧ ql < _ ∧ AllLt _ (tl ++ own) => l6
            rename _ < _ ∧ gl < _ ∧ ml < _ ∧ ql < _ ∧ AllLt _ (tl ++ own) => l7
            have hql : ∀ p ∈ own, p.1 ≠ ql := fun p hp => hsep p hp _ (.tail _ (.head _))
            have hgq : ql ≠ gl := hgl _ (.tail _ (.head _))
            have hplm : (pl.map Value.ref).length ≤ 7 := by
              have h1 := hps.length
              have h2 := gath_len hG
              rw [List.length_take] at h2
              rw [List.length_map]
              omega
            refine' append_P F6 (news_g6 N6) (Upd.head (gath_q l6 l7 hgq hmq hoff hql)) ?w2 ?w3
            case w2 => omega
            case w3 =>
              intro h10 F10 N10
              dsimp only
              k_steps
              refine' Stop.mk ?_
              obtain ⟨nx', led', y1, y2, y3, y4, y5⟩ := gath_fin (tw := tw) F10 N10 (by assumption) (by assumption) (by assumption) (by assumption) hG hv hout (hGI.fin (by omega)) hps l6 l7 hoff hsep rfl w4 w5
              exact LpEnd.intro nx' F10 y1 y2 y3 y4 y5
    case done =>
      intro h tk m' nx F3 N3 hJ hks'
      obtain ⟨ml, vm, nm, ql, pl, nq, tl, met, ps, e, hi, hG, hps, hmq, hoff, m1, m2, m3⟩ := hJ
      subst e
      rw [List.take_length] at hG
      replace F3 : Fr g' L' h m' := F3
      replace N3 : News g' L' h _ := N3
      k_steps
      all_goals (refine' hret _ ((ql, listOf (pl.map Value.ref).toArray nq) :: (tl ++ news)) _ _ ?y1 (news_sub (by assumption) ?y2) ⟨ql, pl, nq, tl, met, ps, rfl, rfl, hG, hps⟩; (case y1 => k_asm); (case y2 => (intro p hp; simp only [List.mem_cons, List.mem_append] at hp ⊢; rcases hp with h | h | h <;> simp [h]))))
end
end
section
-- Swap
section
theorem top_off_Swap : True := by
 w_top off
 trivial
local macro_rules | `(tactic| walk_at "subscriptTail Name BinOp bytes int") => `(tactic| (k_here; refine' Stop.out ?_))
local macro_rules | `(tactic| walk_at "setItem ref int") => `(tactic| (k_here; refine' Stop.out ?_))
local macro_rules | `(tactic| walk_at "setItem ref") => `(tactic| (k_here; refine' Stop.out ?_))
local macro_rules | `(tactic| walk_at "call type:bytes") => `(tactic| (k_here; refine' Stop.out ?_))
set_option maxRecDepth 100000 in
set_option maxHeartbeats 8000000 in
set_option pp.deepTerms false in
theorem swap_spG {w : World} {mean : ExcName → Option Value} {mg mb : Str → Option Value} {news : Led} {bs : Array UInt8} {t : Tok} {t2 : Tok} (hbs : bs.size = 14) : SpG w mean mg mb 54 3 [.bytes bs t, .int 7 t2] [] news (SwapPost bs news) := by
  (have hfill : (fun (_ : OpenLaw) (_ : Params → Frag) => True) PySem.Challenge.rw_wo0047_01 hd.heap_39 := (by k_fill; trivial); clear hfill; intro dp un gd cn cs a ccd cl outer A₀ base h₀ L m s Q E hgd B F X N T hk hd' hu hret; refine wpG_call ?_)
  w_strict (
  k_with_none
  k_dflt (refine' code_defG' ?zk1 ?zk2 ?zk3 ?zk4 ?zk5 ?zkA ?zkF ?zkK ?zk6 ?zk7 ?zk8 ?zk9 ?zkB ?_ ?zc2 ?zc3 ?zc4 ?zc5; (case zkA => exact rfl); (case zkF => exact rfl); (case zkK => assumption); (case zk1 => k_asm); (case zk2 => k_asm); (case zk3 => k_asm); (case zk4 => k_asm); (case zk5 => k_asm); (case zk6 => k_is); (case zk7 => k_is); (case zk8 => ktr_room); (case zk9 => first | exact BindsTo.of_eq rfl | (refine' kp_binds ?zkx ?zke; (case zkx => k_in); (case zke => exact fun _ => rfl))); (case zc5 => decide); (case zkB => exact locs rfl); (case zc2 => exact rfl); (case zc3 => exact rfl); (case zc4 => exact rfl); k_whole; intro g' L' h' FG' F' N' B' X' T'; (try dsimp only); (refine' tokGenG ?_); intro tk0; (try k_fold))
  have F0 : Fr g' L' h' (fun y => List.lookup y [(("width" : Str), Value.int 7 t2), (("data" : Str), Value.bytes bs t)]) := by with_unfolding_all exact F'
  clear F'
  refine wpG_execs_cons (wpG_Assign_Name (wpG_Call ?_))
  k_steps
  · refine' wpG_callWith_type1 ?_
    k_steps
    have e14 : ((bs.size : Nat) : Int) = 14 := by omega
    rw [e14]
    rename Fr g' L' _ _ => F1
    rename News g' L' _ _ => N1
    refine' ba_made hgd F1 N1 ?_
    intro S h1 hS F2 N2
    clear F1 N1
    dsimp only
    k_steps
    refine' wpG_of ?_
    k_steps
    refine' Stop.mk ?_
    refine' For_invT g' ?hA ?hsA ?hEA
    case hsA => (intro _; rfl)
    case hEA => passes_own
    case hA =>
      k_steps
      refine' Stop.mk ?_
      rename Fr g' L' _ _ => F4
      rename News g' L' _ _ => N4
      refine' loop_rangeS (kc := news) (nx := [(S, baObj (Array.replicate 14 0))]) (n := 2) (SwJ bs t t2 S) (by rfl) (by assumption) (by rw [e14]; decide) (by rw [e14]; decide) (fun p hp q hq => by rw [List.mem_singleton.mp hq]; exact hS p hp) F4 (news_sub N4 ?u1) ?u2 ?turnA ?doneA
      case u1 => (intro p hp; simp only [List.mem_append, List.mem_cons, List.not_mem_nil, or_false] at hp ⊢; grind)
      case u2 => exact ⟨_, rfl, .zero bs, rfl, rfl, rfl⟩
      case turnA =>
        intro i ti m₁ nx s₁ own hi7 hJ hsep hkc F5 N5
        k_steps
        refine' Stop.mk ?_
        refine' For_invT g' ?hB ?hsB ?hEB
        case hsB => (intro _; rfl)
        case hEB => passes_own
        case hB =>
          obtain ⟨b, e, hT, m1, m2, m3⟩ := hJ
          subst e
          k_steps
          refine' Stop.mk ?_
          rename Fr g' L' _ _ => F6
          rename News g' L' _ _ => N6
          refine' loop_rangeS (kc := own) (nx := [(S, baObj b)]) (n := 7) (SwJ2 bs t t2 S i ti) (by rfl) (by assumption) (by decide) (by decide) hsep F6 (news_sub N6 ?u1) ?u2 ?turnB ?doneB
          case u1 => (intro p hp; simp only [List.mem_append, List.mem_cons, List.not_mem_nil, or_false] at hp ⊢; grind)
          case u2 => exact ⟨b, rfl, hT, m1, m2, m3, rfl⟩
          case turnB =>
            intro j tj m₂ nx₂ s₂ own₂ hj7 hJ₂ hsep₂ hkc₂ F7 N7
            obtain ⟨b2, e2, hT2, w1, w2, w3, w4⟩ := hJ₂
            subst e2
            have hsr : ∀ p ∈ own₂, p.1 ≠ S := fun p hp => hsep₂ p hp _ (.head _)
            simp only [List.cons_append, List.nil_append] at N7
            k_steps
            refine' Stop.mk ?_
            with_reducible (k_here; (refine' KBw.item_K rfl ?k1q21 ?k2q21 ?k3q21 ?_; (case k1q21 => (rw [KBw.ints_length]; omega)); (case k2q21 => omega); (case k3q21 => (rw [KBw.ints_length]; omega))); intro _ _ lo'q21 hi'q21)
            k_steps
            · refine' Stop.mk ?_
              rename Fr g' L' _ _ => F8
              rename News g' L' _ _ => N8
              have hb14 := hT2.1
              refine' ba_set_led F8 N8 hsr ?v0 ?v1 ?v2 ?v3 ?v4 ?_
              case v0 => omega
              case v1 => omega
              case v2 => omega
              case v3 => assumption
              case v4 => assumption
              have hT3 := hT2.set (k := (0 + (i : Int) * 7 + 7 - 1 - (0 + (j : Int) * 1)).toNat) (x := (KBw.bInts bs).getD (0 + (i : Int) * 7 + (0 + (j : Int) * 1)).toNat 0) hi7 hj7 (by assumption) (by assumption) (by omega) (by congr 1; omega)
              intro h9 F9 N9
              clear F8 N8
              k_steps
              refine' Stop.mk ?_
              rename Fr g' L' _ _ => F8
              rename News g' L' _ _ => N8
              refine' LpEnd.intro [(S, baObj _)] F8 N8 ?z1 ?z2 (fun p hp q hq => by rw [List.mem_singleton.mp hq]; exact hsr p hp) ⟨_, rfl, hT3, w1, w2, w3, w4⟩
              case z1 => (intro p hp; simp only [List.mem_cons, List.not_mem_nil, or_false] at hp; simp [hp])
              case z2 => (intro p hp; simp [hp])
          case doneB =>
            intro h3 tk3 m3 nx3 F3 N3 J3 hs3
            obtain ⟨b2, e2, hT2, w1, w2, w3, w4⟩ := J3
            subst e2
            replace F3 : Fr g' L' h3 m3 := F3
            replace N3 : News g' L' h3 _ := N3
            k_steps
            refine' Stop.mk ?_
            rename Fr g' L' _ _ => F8
            rename News g' L' _ _ => N8
            refine' LpEnd.intro [(S, baObj b2)] F8 N8 ?z1 ?z2 (fun p hp q hq => by rw [List.mem_singleton.mp hq]; exact hsep p hp (S, baObj b) (.head _)) ⟨_, rfl, hT2.next, w1, w2, w3⟩
            case z1 => (intro p hp; simp only [List.mem_cons, List.not_mem_nil, or_false] at hp; simp [hp])
            case z2 => (intro p hp; simp [hp])
      case doneA =>
        intro h3 tk3 m3 nx3 F3 N3 J3 hs3
        obtain ⟨b2, e2, hT2, w1, w2, w3⟩ := J3
        subst e2
        replace F3 : Fr g' L' h3 m3 := F3
        replace N3 : News g' L' h3 _ := N3
        k_steps
        refine' Stop.mk ?_
        rename Fr g' L' _ _ => F8
        rename News g' L' _ _ => N8
        refine' bytes_of_ba (N8 (S, baObj b2) (by simp)).1 (by rw [hT2.1]; decide) ?_
        intro tb kb
        k_steps
        all_goals first | exact hret _ _ _ _ (by k_asm) (news_sub (by assumption) (fun p hp => List.mem_append_left _ hp)) ⟨b2, _, rfl, rfl, hT2⟩
  all_goals w_report)
end
end
section
local macro_rules | `(tactic| walk_at "eval Name") => `(tactic| (k_here; with_reducible (refine' ldC ?k1 ?k2 ?_ ?k3 ?k4); (case k1 => with_reducible assumption); (case k2 => walk_at "my look"); (case k3 => k_dflt (exact rfl)); (case k4 => k_dflt (exact rfl)); k_whole))
local macro_rules | `(tactic| walk_at "call type:enumerate") => `(tactic| (k_here; refine' Stop.out ?_))
local macro_rules | `(tactic| walk_at "compareOp NotEq ref ref") => `(tactic| (k_here; refine' Stop.out ?_))
-- Parted
section
theorem top_off_Parted : True := by
 w_top off
 trivial
local macro_rules | `(tactic| walk_at "FlatSrc") => `(tactic| (refine' Stop.out ?_))
local macro_rules | `(tactic| walk_at "PairSrc") => `(tactic| (refine' Stop.out ?_))
local macro_rules | `(tactic| walk_at "storeName ref") => `(tactic| (k_here; (with_reducible show wpAny _ _ (storeName _ (PySem.Str.ofString "where") _) _ _ _); refine' Stop.out ?_))
local macro_rules | `(tactic| walk_at "storeName int") => `(tactic| (k_here; (with_reducible show wpAny _ _ (storeName _ (PySem.Str.ofString "place") _) _ _ _); refine' Stop.out ?_))
set_option maxRecDepth 100000 in
set_option maxHeartbeats 8000000 in
set_option pp.deepTerms false in
theorem parted_sp {w : World} {mean : ExcName → Option Value} {mg mb : Str → Option Value} {news : Led} {sl D ql : Addr} {ts pl : List Addr} {ss : List (Int × Int)} {ps : List (List Int)} {n1 n2 n3 : Nat} {rv : List Value} {rs : List Int} {RR : Int → Int → Prop}
    (h1 : (sl, listOf (ts.map Value.ref).toArray n1) ∈ news) (h2 : IPairs news ts ss) (h3 : (D, listOf rv.toArray n2) ∈ news) (h4 : IntsAre rv rs) (h5 : RowsAre rs RR) (h6 : (ql, listOf (pl.map Value.ref).toArray n3) ∈ news) (h7 : Parts news pl ps)
    (zs : ss.length ≤ 1000) (zp : Perm7 ps) (q2 : ∀ p ∈ ps, ∀ x ∈ p, mates RR x 7 = p) (q4 : ∀ p ∈ ss, (0 ≤ p.1 ∧ p.1 < 7) ∧ 0 ≤ p.2 ∧ p.2 < 7)
    (q3 : ∀ b e, (b, e) ∈ ss → ∀ (i j : Nat) (p q : List Int), ps[i]? = some p → ps[j]? = some q → b ∈ p → e ∈ q → ¬ i < j) :
  Sp w mean mg mb 240 12 [.ref sl, .ref D, .ref ql] [] news (fun r nw => r = .bool true ∧ nw = news) := by
  have zl : ps.flatten.length = 7 := zp.len
  (have hfill : (fun (_ : OpenLaw) (_ : Params → Frag) => True) PySem.Challenge.rw_wo0047_01 hd.heap_39 := (by k_fill; trivial); clear hfill; intro dp un gd cn cs a ccd cl outer A₀ base h₀ L m s Q E B F X N T hk hd' hu hret; refine wpAny_call ?_)
  w_strict (
  k_with_none
  k_dflt (refine' code_defC ?zk1 ?zk2 ?zk3 ?zk4 ?zk5 ?zkA ?zkF ?zkK ?zk6 ?zk7 ?zk8 ?zk9 ?zkB ?zkD ?_ ?zc2 ?zc3 ?zc4; (case zkA => exact rfl); (case zkF => exact rfl); (case zkK => assumption); (case zk1 => k_asm); (case zk2 => k_asm); (case zk3 => k_asm); (case zk4 => k_asm); (case zk5 => k_asm); (case zk6 => k_is); (case zk7 => k_is); (case zk8 => ktr_room); (case zk9 => first | exact BindsTo.of_eq rfl | (refine' kp_binds ?zkx ?zke; (case zkx => k_in); (case zke => exact fun _ => rfl))); (case zkB => exact rfl); (case zkD => decide +kernel); (case zc2 => exact rfl); (case zc3 => exact rfl); (case zc4 => exact rfl); k_whole; intro g' L' h' tk' cells' FG' F' N' Y' B' X' T' l1; (replace l1 := allLt_of l1); (try simp only [List.cons_append, List.nil_append] at N'); (try dsimp only); (try k_fold))
  have F0 : Fr g' L' h' (fun y => if y = Str.ofString "parts" then some (Value.ref ql) else if y = Str.ofString "streets" then some (Value.ref sl) else none) := by with_unfolding_all exact F'
  clear F'
  obtain ⟨o1, o2, o3, hE, d1, d2, d3⟩ := CellsAre.three Y'
  subst hE
  clear Y'
  have ce1 : o1.data = .cell none := by with_unfolding_all exact d1
  have ce2 : o2.data = .cell none := by with_unfolding_all exact d2
  have ce3 : o3.data = .cell (some (.ref D)) := by with_unfolding_all exact d3
  clear d1 d2 d3
  simp only [List.cons_append, List.nil_append] at N'
  k_steps
  refine' Stop.mk ?_
  rename Fr g' L' _ _ => F1
  rename News g' L' _ _ => N1
  refine' flat_comp (news := (L' + 1 + 1 + 1, o1) :: (L' + 1 + 1, o2) :: (L' + 1, o3) :: news) (mL := fun y => if y = Str.ofString "parts" then some (Value.ref ql) else if y = Str.ofString "streets" then some (Value.ref sl) else none) (h₀ := g') (L := L') (.tail _ (.tail _ (.tail _ h6))) (h7.mono fun p hp => by simp [hp]) (by rw [zl]; decide) (by rfl) (by decide) (by rfl) (by decide) (by rfl) (by rfl) (by rfl) (by rfl) ?_
  k_steps
  refine' Stop.mk ?_
  refine' ⟨rfl, rfl, F1, N1, ?_⟩
  intro R0 hh2 tk2 ys hys F2 N2 hR0
  k_lt hR0
  clear F1 N1
  k_steps
  refine' Stop.mk ?_
  rename Fr g' L' _ _ => F1
  rename News g' L' _ _ => N1
  refine' ne_led N1 (.tail _ (.head _)) (.head _) (by with_reducible assumption) (.cons _ _ (.cons _ _ (.cons _ _ (.cons _ _ (.cons _ _ (.cons _ _ (.cons _ _ .nil))))))) (by ktr_units) ?_
  k_steps
  rotate_left
  · exfalso
    exact absurd (perm_sorted7 (by with_reducible assumption) zp (by with_reducible assumption)) (by with_reducible assumption)
  refine' Stop.mk ?_
  rename Fr g' L' _ _ => F2
  rename News g' L' _ _ => N2
  have N3 := parted_n0 N2
  refine' storeX_C F2 N3 (c := L' + 1 + 1 + 1) (by rfl) (.head (parted_ne0 (by with_reducible assumption) (by with_reducible assumption))) ce1 ?_ (by rfl) (by rfl)
  intro hh4 o4 F4 N4 e4
  clear F2 N2 N3
  obtain ⟨Wa, nx0, F5, N5, hJ0, hks, hle⟩ := parted_init F4 N4 (by with_reducible assumption) e4 ce2 (by with_reducible assumption) (ps := ps) (sl := sl) (ql := ql) (by with_reducible assumption) (by rfl) (by rfl)
  clear F4 N4
  k_steps
  refine' Stop.mk ?_
  refine' For_pair3F F5 ?hh ?hxi ?hxc ?hp ?hA ?hsA ?hEA
  case hh => rfl
  case hxi => rfl
  case hxc => rfl
  case hp => rfl
  case hsA => (intro _; rfl)
  case hEA => passes_own
  case hA =>
    k_steps
    refine' Stop.mk ?_
    refine' enum_loop (kc := (L' + 1, o3) :: news) (fun i m nx => PJ ps (L' + 1 + 1 + 1) (L' + 1 + 1) Wa sl ql i 0 m nx) (fun i m nx h => PJ.map h) (by rfl) (.tail _ h6) hks F5 N5 hJ0 ?turnA ?doneA
    case turnA =>
      intro i v t m₁ nx s₁ own hv hJ hsep hkc F6 N6
      clear F5 N5 hJ0
      obtain ⟨a, ha, rfl⟩ : ∃ a, pl[i]? = some a ∧ v = Value.ref a := by
        rw [List.getElem?_map] at hv
        cases hq : pl[i]? with
        | none => rw [hq] at hv; cases hv
        | some a => rw [hq] at hv; exact ⟨a, rfl, (Option.some.inj hv).symm⟩
      obtain ⟨pv, pn, p, hpm, hpi, hpp⟩ := h7.get ha
      have hpm' : (a, listOf pv.toArray pn) ∈ own := hkc _ (.tail _ hpm)
      k_steps
      refine' Stop.mk ?_
      refine' For_invT g' ?hB ?hsB ?hEB
      case hsB => (intro _; rfl)
      case hEB => passes_own
      case hB =>
        obtain ⟨o1', o2', v0, wv, n, ws, e, c1d, c2d, hw, hW, m1, m2⟩ := hJ
        subst e
        k_steps
        refine' Stop.mk ?_
        rename Fr g' L' _ _ => F7
        rename News g' L' _ _ => N7
        refine' loop_listC (kc := own) (nx := [(L' + 1 + 1 + 1, o1'), (L' + 1 + 1, o2'), (Wa, listOf wv.toArray n)]) (PJ2 ps (L' + 1 + 1 + 1) (L' + 1 + 1) Wa sl ql i t a) (by rfl) hpm' hsep F7 (news_sub N7 ?u1) ?u2 ?turnB ?doneB
        case u1 => (intro p hp; simp only [List.mem_append, List.mem_cons, List.not_mem_nil, or_false] at hp ⊢; grind)
        case u2 => exact ⟨⟨o1', o2', v0, wv, n, ws, rfl, c1d, c2d, hw, hW, m1, m2⟩, rfl, rfl⟩
        case turnB =>
          intro j v m₂ nx₂ s₂ own₂ hvj hJ₂ hsep₂ hkc₂ F8 N8
          obtain ⟨x, tx, rfl, hxj⟩ := hpi.at j v hvj
          obtain ⟨⟨u1, u2, v1, wv', n', ws', e, b1d, b2d, hw', hW', w1, w2⟩, w3, w4⟩ := hJ₂
          subst e
          have hx7 := zp.rng hpp (List.mem_of_getElem? hxj)
          simp only [List.cons_append, List.nil_append] at N8
          have hsr : ∀ p ∈ own₂, p.1 ≠ Wa := fun p hp => hsep₂ p hp _ (.tail _ (.tail _ (.head _)))
          k_steps
          refine' Stop.mk ?_
          replace F8 : Fr g' L' s₂.heap m₂ := F8
          replace N8 : News g' L' s₂.heap ((L' + 1 + 1 + 1, u1) :: (L' + 1 + 1, u2) :: (Wa, listOf wv'.toArray n') :: own₂) := N8
          refine' storeX_C F8 N8 (c := L' + 1 + 1) (by rfl) (.tail (Nat.ne_of_gt (Nat.lt_succ_self _)) (.head ?v1)) b2d ?_ (by rfl) (by rfl)
          case v1 =>
            intro p hp
            rcases List.mem_cons.mp hp with rfl | hp
            · exact Nat.ne_of_gt (Nat.lt_trans (Nat.lt_succ_self _) hle)
            · exact hsep₂ p hp (L' + 1 + 1, u2) (.tail _ (.head _))
          intro h9 u3 F9 N9 b3d
          try dsimp only at N9
          clear F8 N8 b2d
          have hL9 : ws'.length = 7 := hW'.1
          k_steps
          refine' Stop.mk ?_
          rename Fr g' L' _ _ => F8
          rename News g' L' _ _ => N8
          have hD2 : (D, listOf rv.toArray n2) ∈ own₂ := hkc₂ _ (hkc _ (.tail _ h3))
          have hc3 : (L' + 1, o3) ∈ own₂ := hkc₂ _ (hkc _ (.head _))
          have hp2 : (a, listOf pv.toArray pn) ∈ own₂ := hkc₂ _ hpm'
          have hR7 : rs.length = 7 := h5.1
          have hW3 := hW'.set zp hpp hxj
          k_dflt (refine' LCt.ListComp_T F8 (by rfl) (by decide) (by rfl) (by decide) (by rfl) ?_)
          k_steps
          refine' Stop.mk ?_
          rename Fr g' L' _ _ => F7
          rename News g' L' _ _ => N7
          refine' LCt.CompSrcT.range (n := 7) (by rfl) F7 N7 (by assumption) (by decide) (by decide) (by decide) ?_
          intro g
          refine' restT_ind 7 (fun k ys nw => nw = _ ∧ IntsAre ys (mates RR x k)) ?step ?fin _ 0 [] _ (by simp) ⟨rfl, .nil⟩
          case step =>
            rintro k ys nw hk7 ⟨e, hS⟩ v I oI C oC Dd m₂ h tk E' ⟨tk9, rfl⟩ hC hx F N off ne
            subst e
            rw [Int.zero_add] at hx
            try k_fold
            k_steps
            · refine' Stop.mk ?_
              refine' LCg.CompEnd.intro F N _ (fun _ h => h) off trivial ⟨rfl, ?_⟩
              rw [mates_true h5 hx7 hk7 (by with_reducible assumption)]
              exact hS.append (.cons _ _ .nil)
            · refine' Stop.mk ?_
              refine' LCg.CompEnd.intro F N _ (fun _ h => h) off trivial ⟨rfl, ?_⟩
              rw [mates_false h5 hx7 hk7 (by with_reducible assumption)]
              exact hS
          case fin =>
            rintro ys nw ⟨e, hS⟩
            subst e
            intro De h tk F2 N2 o2
            dsimp only
            k_steps
            refine' Stop.mk ?_
            rename Fr g' L' _ _ => F5
            rename News g' L' _ _ => N5
            refine' ne_led N5 (.head _) (.tail _ (.tail _ (.tail _ (.tail _ hp2)))) hS hpi (by ktr_units) ?_
            k_steps
            · refine' Stop.mk ?_
              rename Fr g' L' _ _ => F1
              rename News g' L' _ _ => N1
              refine' LpEnd.intro [(L' + 1 + 1 + 1, u1), (L' + 1 + 1, u3), (Wa, listOf (wv'.set x.toNat (Value.int (i : Int) t)).toArray n')] F1 N1 ?z1 ?z2 ?z3 ⟨⟨u1, u3, _, _, n', _, rfl, b1d, b3d, by with_reducible assumption, hW3, w1, w2⟩, w3, w4⟩
              case z1 => (intro p hp; simp only [List.mem_cons, List.not_mem_nil, or_false] at hp ⊢; rcases hp with h | h | h <;> simp [h])
              case z2 => (intro p hp; simp [hp])
              case z3 =>
                intro p hp q hq
                simp only [List.mem_cons, List.not_mem_nil, or_false] at hq
                rcases hq with rfl | rfl | rfl
                · exact hsep₂ p hp (L' + 1 + 1 + 1, u1) (.head _)
                · exact hsep₂ p hp (L' + 1 + 1, u2) (.tail _ (.head _))
                · exact hsr p hp
            · exact absurd (q2 p (List.mem_of_getElem? hpp) x (List.mem_of_getElem? hxj)) (by with_reducible assumption)
        case doneB =>
          intro h3 tk3 m3 nx3 F3 N3 J3 hs3
          obtain ⟨⟨u1, u2, v1, wv', n', ws', e, b1d, b2d, hw', hW', w1, w2⟩, w3, w4⟩ := J3
          subst e
          rw [hpi.length] at hW'
          replace F3 : Fr g' L' h3 m3 := F3
          replace N3 : News g' L' h3 _ := N3
          k_steps
          refine' Stop.mk ?_
          rename Fr g' L' _ _ => F1
          rename News g' L' _ _ => N1
          refine' LpEnd.intro [(L' + 1 + 1 + 1, u1), (L' + 1 + 1, u2), (Wa, listOf wv'.toArray n')] F1 N1 ?z1 ?z2 ?z3 ⟨u1, u2, _, _, n', _, rfl, b1d, b2d, hw', hW'.next hpp, w1, w2⟩
          case z1 => (intro p hp; simp only [List.mem_append]; exact .inr hp)
          case z2 => (intro p hp; simp only [List.mem_append]; exact .inl hp)
          case z3 =>
            intro p hp q hq
            simp only [List.mem_cons, List.not_mem_nil, or_false] at hq
            rcases hq with rfl | rfl | rfl
            · exact hsep p hp (L' + 1 + 1 + 1, o1') (.head _)
            · exact hsep p hp (L' + 1 + 1, o2') (.tail _ (.head _))
            · exact hsep p hp (Wa, listOf wv.toArray n) (.tail _ (.tail _ (.head _)))
    case doneA =>
      intro h3 tk3 m3 nx3 F3 N3 J3 hs3
      obtain ⟨u1, u2, v1, wv', n', ws', e, b1d, b2d, hw', hW', w1, w2⟩ := J3
      subst e
      rw [List.length_map] at hW'
      replace F3 : Fr g' L' h3 m3 := F3
      have N4 : News g' L' h3 ((L' + 1 + 1 + 1, u1) :: (Wa, listOf wv'.toArray n') :: news) := news_sub N3 fun p hp => by
        simp only [List.mem_append, List.mem_cons, List.not_mem_nil, or_false] at hp ⊢; rcases hp with h | h | h <;> simp [h]
      clear N3 F5 N5 hJ0
      have hL9 : ws'.length = 7 := hW'.1
      k_steps
      refine' Stop.mk ?_
      rename Fr g' L' _ _ => F1
      rename News g' L' _ _ => N1
      refine' pair_comp (fun _ ys => ys = []) (news := (L' + 1 + 1 + 1, u1) :: (Wa, listOf wv'.toArray n') :: news) (mL := m3) (h₀ := g') (L := L') (.tail _ (.tail _ h1)) (h2.mono fun p hp => .tail _ (.tail _ hp)) (Nat.le_trans zs (by decide)) (by rfl) (by decide) (by rfl) (by decide) (by rfl) (by rfl) (by decide) rfl ?_
      k_steps
      refine' Stop.mk ?_
      refine' ⟨rfl, rfl, F1, N1, ?turnP, ?finP⟩
      case turnP =>
        intro i b e tb te ys I oI C oC Dd m₂ h tk E' hab hK hC hx hy F N off ne
        subst hK
        obtain ⟨⟨hb0, hb1⟩, he0, he1⟩ := q4 _ (List.mem_of_getElem? hab)
        dsimp only at hb0 hb1 he0 he1
        try k_fold
        k_steps
        · exfalso
          obtain ⟨i', j', p', q', z1, z2, z3, z4, z5⟩ := where_lt zp hW' h7.length.symm ⟨hb0, hb1⟩ ⟨he0, he1⟩ (by with_reducible assumption)
          exact q3 b e (List.mem_of_getElem? hab) i' j' p' q' z1 z2 z3 z4 z5
        · refine' Stop.mk ?_
          exact LCg.CompEnd.intro F N _ (fun _ h => h) off rfl rfl
      case finP =>
        intro De h tk ys hK F N hlt
        subst hK
        k_steps
        refine' Stop.mk ?_
        with_reducible (k_here; k_dflt (refine' eq_led ?k1q22 ?k2q22 ?k3q22 ?k4q22 ?k5q22 ?k6q22 ?_; (case k1q22 => k_asm); (case k2q22 => k_mem); (case k3q22 => k_mem); (case k4q22 => first | with_reducible assumption | exact .nil | exact .cons _ _ .nil); (case k5q22 => first | with_reducible assumption | exact .nil | exact .cons _ _ .nil); (case k6q22 => ktr_units); k_whole))
        k_steps
        all_goals exact hret _ news _ _ (by k_asm) (news_sub (by with_reducible assumption) (fun p hp => .tail _ (.tail _ (.tail _ (.tail _ hp))))) ⟨by simp, rfl⟩)
end
-- Law
section
theorem top_off_Law : True := by
 w_top off
 trivial
local macro_rules | `(tactic| walk_at "subscriptTail Name Name ref int") => `(tactic| (k_here; refine' Stop.out ?_))
local macro_rules | `(tactic| walk_at "subscriptTail Name Slice bytes ref") => `(tactic| (k_here; refine' Stop.out ?_))
local macro_rules | `(tactic| walk_at "subscriptTail Name Slice ref ref") => `(tactic| (k_here; (with_reducible show wpAny _ _ (subscriptTail _ (PySem.Expr.Slice _ none (some _) _) _ _) _ _ _); refine' Stop.out ?_))
local macro_rules | `(tactic| walk_at "storeName ref") => `(tactic| (k_here; (with_reducible show wpAny _ _ (storeName _ (PySem.Str.ofString "onward") _) _ _ _); refine' Stop.out ?_))
local macro_rules | `(tactic| walk_at "TSrc") => `(tactic| (refine' Stop.out ?_))
local macro_rules | `(tactic| walk_at "ESrc") => `(tactic| (refine' Stop.out ?_))
set_option maxRecDepth 100000 in
set_option maxHeartbeats 8000000 in
set_option pp.deepTerms false in
theorem law_row : PySem.Challenge.rw_wo0047_01.Holds := by
  refine hd ?_
  w_strict (
  k_fill
  intro w s₀ s₁ mg mb G Y fa o pm cd doc dV kV ho hdf hcd hD hmg hg args vals as hpre hlay hrd hwl hlo
  have KX := kIn_of Y
  have X := (Ground.X G).1
  have V := (Ground.X G).2
  refine Ground.open G ?_
  intro T B D TE TW
  try (refine guard_noD D (by decide +kernel) ?_; clear D)
  obtain ⟨_, _, M⟩ := bmod_of_top T
  have TA := at_of_top T
  try (obtain ⟨_, _, he, B0⟩ := based_of_top T rfl hmg ho hdf; have he' : cd = _ := he; subst he'; clear he)
  clear hmg
  wrow_args hpre hlay hrd hwl hlo
  refine list_names (h := s₁.heap) (by with_reducible assumption) (by with_reducible assumption) fun sc vs ns e1 e2 e3 => ?_
  subst e1
  subst e2
  subst e3
  have hdv : dV = .none := Dflts.none hD rfl
  have hkv : kV = .none := Dflts.noKw hD
  subst hdv
  subst hkv
  refine' wpG_call (callG_cells (binds := [(Str.ofString "script", Value.ref sc)]) (by decide) ho hdf T.nolimit hcd ?hb ?hk ?hn ?hbody (by rfl) (by rfl) (by rfl))
  case hb => exact rfl
  case hk => (intro x hx; rw [List.mem_singleton.mp hx]; exact .inl (by rfl))
  case hn => decide +kernel
  case hbody =>
    intro h₁ tk cells F N Y
    dsimp only at F N Y
    have F0 : Fr s₁.heap s₁.heap.objs.size h₁ (fun y => if y = Str.ofString "script" then some (Value.ref sc) else none) := by with_unfolding_all exact F
    clear F
    obtain ⟨o1, o2, hE, d1, d2⟩ := CellsAre.two Y
    subst hE
    clear Y
    have ce1 : o1.data = .cell none := by with_unfolding_all exact d1
    have ce2 : o2.data = .cell none := by with_unfolding_all exact d2
    clear d1 d2
    refine' wpG_execs_cons (wpG_of ?_)
    k_steps
    refine' Stop.mk ?_
    refine' wpAny_Assign_Name ?_ (by rfl)
    k_steps
    refine' Stop.mk ?_
    k_dflt (refine' LCg.ListComp_U F0 (by rfl) (by decide) (by rfl) (by decide) (by rfl) ?_)
    k_steps
    refine' Stop.mk ?_
    rename Fr s₁.heap s₁.heap.objs.size _ _ => F1
    rename News s₁.heap s₁.heap.objs.size _ _ => N1
    rename IntsAre _ (List.take 60 ns) => hI1
    have hlen1 := hI1.length
    refine' LCg.CompSrc.ledger (by rfl) F1 N1 (.head _) (by rw [List.size_toArray, hlen1, sizeLine_eq]; omega) ?_
    intro g
    refine' rest_ind (List.take 60 ns).length (fun i ys nw => nw = _ ∧ IntsAre ys (((ns.take 60).map fun c => c.fmod (10 ^ 6)).take i)) ?step ?fin _ 0 [] _ (by simp [hlen1]) ⟨rfl, .nil⟩
    case step =>
      rintro i ys nw hi ⟨e, hS⟩ v I oI C oC Dd m₂ h tk E' hv hC hx F N off ne
      subst e
      obtain ⟨c, tc, rfl, hc⟩ := hI1.at i v (by simpa using hv)
      try k_fold
      k_steps
      refine' Stop.mk ?_
      refine' LCg.CompEnd.intro F N _ (fun _ h => h) off (.inr ⟨_, .head _, rfl, _, rfl⟩) ⟨rfl, ?_⟩
      rw [take_snoc (x := c.fmod (10 ^ 6)) (by rw [List.getElem?_map, hc]; rfl)]
      exact hS.append (.cons _ _ .nil)
    case fin =>
      rintro ys nw ⟨e, hS⟩
      subst e
      intro De h tk F2 N2 o2
      dsimp only
      k_steps
      rename Fr s₁.heap s₁.heap.objs.size _ _ => F3
      rename News s₁.heap s₁.heap.objs.size _ _ => N3
      obtain ⟨o5, F4, N4, c5, n1, n2⟩ := law_drawn F3 N3 o2 (by with_reducible assumption)
      clear o2
      clear F3 N3 F1 N1
      refine' wpG_execs_cons (wpG_of ?_)
      k_steps
      refine' Stop.mk ?_
      rw [List.take_of_length_le (by rw [List.length_map]; exact Nat.le_refl _)] at hS
      obtain ⟨dr, hS, hdl, hdb⟩ := law_dr hS
      refine' enum_assign (h₀ := s₁.heap) (mL := fun y => if y = Str.ofString "script" then some (Value.ref sc) else none) (fun i us => ∃ cs : List Int, IntsAre us cs ∧ cs.length = i) (by rfl) (by rfl) (by decide) (by rfl) (by decide) (by rfl) (by rfl) (by decide) (by rfl) (by rfl) ?_
      k_steps
      refine' Stop.mk ?_
      rename Fr s₁.heap s₁.heap.objs.size _ _ => F5
      rename News s₁.heap s₁.heap.objs.size _ _ => N5
      refine' call_enum_tup (items := ([_, _, _, _, _, _, _, _, _] : List Value).toArray) ⟨_, (N5 _ (.head _)).1, rfl, _, rfl⟩ ?_
      intro hh4 hE4 hT4 hz4 hk4
      k_steps
      refine' Stop.mk ?_
      refine' esrc_of (vs := [_, _, _, _, _, _, _, _, _]) (by rfl) F5 N5 hE4 hT4 hk4 (.head _) rfl rfl (show 9 ≤ sizeLine by decide) ⟨[], .nil, rfl⟩ ?turnC ?finC
      case turnC =>
        clear hE4 hT4 hk4 hz4
        rintro i v t us I oI C oC D it oit m₂ h tk2 E' hv ⟨cs, hcs, hcl⟩ hC hx hy F6 N6 off6 ne6
        obtain ⟨c, tc, rfl⟩ := law_seed hv
        clear hv
        replace F6 : Fr s₁.heap s₁.heap.objs.size h _ := F6
        replace N6 : News s₁.heap s₁.heap.objs.size h _ := N6
        clear hI1 hlen1
        have hdr := hS.length
        k_steps
        refine' Stop.mk ?_
        with_reducible (k_here; (with_reducible show wpAny _ _ (subscriptTail _ (PySem.Expr.Slice (some _) none (some _) _) (Value.ref _) (Value.ref _)) _ _ _); k_dflt (refine' slice9 ?Fq23 ?Nq23 ?lq23 ?iq23 ?zq23 ?_ ?sq23 ?tq23; (case Fq23 => k_asm); (case Nq23 => k_asm); (case lq23 => kmk_list); (case iq23 => with_reducible assumption); (case zq23 => omega); (case sq23 => with_unfolding_all rfl); (case tq23 => kmk_pure)); intro D'q23 ws'q23 zs'q23 h'q23 F'q23 N'q23 l1 hI'q23; (try k_lt l1); (try k_sweep))
        k_steps
        refine' Stop.mk ?_
        rename Fr s₁.heap s₁.heap.objs.size _ _ => F7
        rename News s₁.heap s₁.heap.objs.size _ _ => N7
        exact LCg.CompEnd.intro F7 N7 _ (fun p hp => List.mem_cons_of_mem _ hp) off6 rfl ⟨cs ++ [_], hcs.append (.cons _ _ .nil), by rw [List.length_append, hcl]; rfl⟩
      case finC =>
        clear hE4 hT4 hk4 hz4 F5 N5
        rintro Dc h tk2 us ⟨cs, hcs, hcl⟩ F6 N6 lt6
        obtain ⟨F7, N7, of7⟩ := law_cells F6 N6 lt6
        clear F6 N6 lt6
        replace hcl : cs.length = 9 := hcl
        dsimp only
        refine' wpG_execs_cons (wpG_of ?_)
        k_steps
        refine' Stop.mk ?_
        replace F7 : Fr s₁.heap s₁.heap.objs.size h _ := F7
        replace N7 : News s₁.heap s₁.heap.objs.size h _ := N7
        with_unfolding_all refine' sp_use (towns_sp hcs hcl of7) (below_caller _) F7 KX N7 T (by exact rfl) (by ktr_room) (by ktr_units) ?_
        rintro r9 nw9 h9 tk9 F8 N8 P8
        clear F7 N7
        obtain ⟨R, sl, tw1, tw2, pl, n0, tl, e1, e2, hpl, ht1, ht2, os1, os2, os3, os4⟩ := P8
        subst e1
        subst e2
        dsimp only
        k_steps
        refine' Stop.mk ?_
        rename Fr s₁.heap s₁.heap.objs.size _ _ => F7
        rename News s₁.heap s₁.heap.objs.size _ _ => N7
        refine' storeX_C F7 (law_st N7) (c := s₁.heap.objs.size + 1 + 1) (by rfl) (.head (law_st_ne os1 os4 n1 (Nat.ne_of_lt (Nat.lt_succ_self _)))) ce1 ?_ (by rfl) (by rfl)
        intro hh9 o7 F9 N9 c7
        clear F7 N7
        obtain ⟨M, F10, N10, m1, m2, m3, m4, m5, m6, m7⟩ := law_towns F9 N9 hpl ht1 ht2
        clear F9 N9 hpl ht1 ht2 os1 os2 os3 os4 of7 ce1 n1 n2
        k_steps
        refine' wpG_execs_cons (wpG_of ?_)
        k_steps
        refine' Stop.mk ?_
        rename Fr s₁.heap s₁.heap.objs.size _ _ => F11
        rename News s₁.heap s₁.heap.objs.size _ _ => N11
        with_unfolding_all refine' sp_use (reach_sp m4 m5 str_rng) (below_caller _) F11 KX N11 T (by exact rfl) (by ktr_room) (by ktr_units) ?_
        rintro r12 nw12 h12 tk12 F12 N12 ⟨rl, rv, rn, rs, e1, e2, hrs, hrr⟩
        subst e1
        subst e2
        clear F11 N11
        dsimp only
        k_steps
        refine' wpG_execs_cons (wpG_of ?_)
        k_steps
        refine' Stop.mk ?_
        rename Fr s₁.heap s₁.heap.objs.size _ _ => F13
        rename News s₁.heap s₁.heap.objs.size _ _ => N13
        obtain ⟨M1, N14, q1, q2, q3, q4, q5, q6, q7, q8⟩ := law_more N13 m1 m2 m3 m4 m5 m6 m7
        clear N13 m1 m2 m3 m4 m5 m6 m7
        refine' tup_assign (h₀ := s₁.heap) (L := s₁.heap.objs.size) (m := fun y => if y = Str.ofString "reach" then some (Value.ref rl) else if y = Str.ofString "backward" then some (Value.ref tw2) else if y = Str.ofString "streets" then some (Value.ref sl) else if y = Str.ofString "cells" then some (Value.ref Dc) else if y = Str.ofString "script" then some (Value.ref sc) else none) (by rfl) (by rfl) (by rfl) (by decide) (by rfl) (by decide) (by rfl) (by rfl) (by rfl) ?_
        k_steps
        refine' Stop.mk ?_
        rename Fr s₁.heap s₁.heap.objs.size _ _ => F15
        rename News s₁.heap s₁.heap.objs.size _ _ => N15
        refine' ⟨_, ([_, _] : List Value).toArray, _, _, _, rfl, by rfl, F15, N15, .head _, rfl, rfl, show 2 ≤ sizeLine by decide, ?_⟩
        rintro s₂ ⟨g2, rfl⟩
        refine' rest_ind 2 (WsJ (fwdF cs) (_ :: M1)) ?stepW ?finW 2 0 [] _ rfl ⟨fun p hp => hp, [], rfl, rfl, by simp⟩
        case stepW =>
          rintro i yw nw hi hJ v I oI C oC D m₂ h tkw E' hv hC hx F16 N16 off ne
          obtain ⟨c, tc, rfl⟩ := law_two hv
          have hq1 : (s₁.heap.objs.size + 1 + 1, o7) ∈ nw := hJ.1 _ (.tail _ q1)
          have hq6 : Town nw tw1 (fwdF cs) := q6.mono fun p hp => hJ.1 p (.tail _ hp)
          obtain ⟨r0, r1⟩ := fmod7_rng c
          try k_fold
          k_steps
          refine' Stop.mk ?_
          rename Fr s₁.heap s₁.heap.objs.size _ _ => F17
          rename News s₁.heap s₁.heap.objs.size _ _ => N17
          with_unfolding_all refine' sp_use (walk_sp (ok_fwd hcl) (hq6.mono (fun p hp => .tail _ (.tail _ (.tail _ hp)))) r0 r1) (below_caller _) F17 KX N17 T (by exact rfl) (by ktr_room) (by ktr_units) ?_
          rintro r18 nw18 h18 tk18 F18 N18 P18
          dsimp only
          k_steps
          refine' Stop.mk ?_
          exact walks_step (by with_reducible assumption) (by with_reducible assumption) P18 off hJ (.head _)
        case finW =>
          rintro yw nw hJ Dw h20 tk20 F20 N20 o20
          obtain ⟨M2, R0, R1, d0, d1, p0, p1, σ0, σ1, v0, v1, k0, k1, j0, j1, nn, pl0, pl1, N21, z0, z1, z2, z3, z4, z5, z6, w0, w1, i0, i1, ps0, ps1, q4', q5', q7', q8'⟩ := law_walked N20 hJ q4 q5 q7 q8
          clear N20 hJ o20 q1 q2 q3 q4 q5 q6 q7 q8 F15 N15
          dsimp only
          replace F20 : Fr s₁.heap s₁.heap.objs.size h20 (fun y => if y = Str.ofString "walks" then some (Value.ref Dw) else if y = Str.ofString "reach" then some (Value.ref rl) else if y = Str.ofString "backward" then some (Value.ref tw2) else if y = Str.ofString "streets" then some (Value.ref sl) else if y = Str.ofString "cells" then some (Value.ref Dc) else if y = Str.ofString "script" then some (Value.ref sc) else none) := F20
          clear hI1 hlen1 hS hdl hdb hcs c7 c5
          have hd0 := walked_done w0
          have hd1 := walked_done w1
          refine' wpG_execs_cons (wpG_Assign_Name (wpG_Call ?_))
          k_steps
          refine' wpG_callWith_K (K := hd.heap_39 w.params) (by k_is) ?_
          k_steps
          rename Fr s₁.heap s₁.heap.objs.size _ _ => F22
          rename News s₁.heap s₁.heap.objs.size _ (_ :: M2) => N22
          rename IntsAre _ (σ0.done ++ σ1.done) => i2
          refine' KBa.make_K F22 N22 (by rfl) (by is_list) i2 (walked_in w0 w1) (by rw [List.length_append]; omega) ?_
          intro h23 t23 k23 F23 N23 in23
          clear F22 N22 i2
          have b23 := KBa.ints_make in23
          k_steps
          have h14 : (byteArr (σ0.done ++ σ1.done)).size = 14 := by rw [← KBw.ints_length, b23, List.length_append]; omega
          clear in23
          generalize byteArr (σ0.done ++ σ1.done) = bs at b23 h14 ⊢
          with_unfolding_all refine' sp_useG (swap_spG h14) (by exact rfl) (below_caller _) F23 KX N23 T (by exact rfl) (by ktr_room) (by ktr_units) ?_
          rintro r24 nw24 h24 tk24 F24 N24 ⟨b, tb, e1, e2, hT⟩
          subst e1
          subst e2
          clear F23 N23
          have N25 : News s₁.heap s₁.heap.objs.size h24 M2 := news_sub N24 fun p hp => List.mem_cons_of_mem _ hp
          clear N24
          dsimp only
          k_steps
          refine' wpG_of ?_
          k_steps
          refine' Stop.mk ?_
          refine' For_invT s₁.heap ?hA ?hsA ?hEA
          case hsA => (intro _; rfl)
          case hEA => passes_own
          case hA =>
            k_steps
            refine' Stop.mk ?_
            rename Fr s₁.heap s₁.heap.objs.size _ _ => F26
            rename News s₁.heap s₁.heap.objs.size _ _ => N26
            refine' loop_rangeC (kc := M2) (nx := []) (n := 2) (LawJ Dw tw2 sl rl b tb) (by rfl) (by assumption) (by decide) (by decide) (fun _ _ _ h => nomatch h) F26 (by rw [List.append_nil]; exact N26) ⟨rfl, rfl, rfl, rfl, rfl, rfl⟩ ?turnA ?doneA
            case turnA =>
              intro i ti m₁ nx s₃ own hi2 hJ hsep hkc F27 N27
              clear F26
              obtain ⟨e, y1, y2, y3, y4, y5⟩ := hJ
              subst e
              replace F27 : Fr s₁.heap s₁.heap.objs.size s₃.heap m₁ := F27
              replace N27 : News s₁.heap s₁.heap.objs.size s₃.heap own := N27
              rw [Int.zero_add]
              obtain ⟨R, dd, pp, σ, jj, plx, hR, zR, zp, wσ, psσ, hd⟩ := law_one z1 z2 z5 z6 w0 w1 ps0 ps1 hi2
              have oDw := hkc _ z0
              have oR := hkc _ zR
              have op := hkc _ zp
              have osl := hkc _ q4'
              have orl := hkc _ q8'
              have opl := q5'.mono hkc
              have otw := q7'.mono hkc
              have ops := psσ.mono hkc
              have hcut := turned_cut hT b23 hd0 hd1 hi2 hd
              have hbl : (KBw.bInts b).length = 14 := (KBw.ints_length b).trans hT.1
              have hpl : plx.length ≤ 7 := law_pl wσ psσ
              clear z0 z1 z2 z3 z4 z5 z6 w0 w1 i0 i1 ps0 ps1 q4' q5' q7' q8' zR zp psσ hd b23 hsep hkc N26
              k_steps
              refine' Stop.mk ?_
              (k_here; (with_unfolding_all refine' item_ref ?k1q24 ?k2q24 ?k3q24 ?k4q24 ?k5q24 ?_); (case k1q24 => k_asm); (case k2q24 => with_reducible assumption); (case k3q24 => exact (by decide : 2 ≤ 1000)); (case k4q24 => with_reducible assumption); (case k5q24 => rfl); k_whole)
              k_steps
              refine' Stop.mk ?_
              with_reducible (k_here; (with_reducible show wpAny _ _ (subscriptTail _ (Expr.Slice _ _ none _) (Value.bytes _ _) (Value.ref _)) _ _ _); (refine' slice7 (s := ⟨_, _, _, _, _⟩) ?Fq25 ?Nq25 ?kq25 ?lq25 ?iq25 ?xq25 ?yq25 ?_; (case Fq25 => k_asm); (case Nq25 => k_asm); (case kq25 => rfl); (case lq25 => with_reducible assumption); (case iq25 => with_reducible assumption); (case xq25 => omega); (case yq25 => omega)); intro c'q25 h'q25 t'q25 k'q25 F'q25 N'q25 hb'q25)
              k_steps
              refine' Stop.mk ?_
              rename Fr s₁.heap s₁.heap.objs.size _ _ => F28
              rename News s₁.heap s₁.heap.objs.size _ own => N28
              rename KBw.bInts _ = List.take 7 _ => hb28
              rw [hcut] at hb28
              with_unfolding_all refine' sp_use (gath_sp (ok_bwd hcl) otw (by rw [hb28]; exact fun k hk => wσ.inv.dr k (List.mem_reverse.mp hk)) (by rw [hb28, List.length_reverse, walked_done wσ]; exact Nat.le_refl _)) (below_caller _) F28 KX N28 T (by exact rfl) (by ktr_room) (by ktr_units) ?_
              rintro r29 nw29 h29 tk29 F29 N29 ⟨ql, gpl, nq, tlg, met, gps, e1, e2, hG, hgp⟩
              rw [hb28] at hG
              have heq : gps = σ.parts.reverse := walked_gath wσ hG
              subst e1
              subst e2
              clear F28 N28 hG hcut hb28
              obtain ⟨M3, N34, u1, u2, u3, u4, u5⟩ := law_gathered N29 hgp op ops
              clear N29 hgp
              dsimp only
              k_steps
              refine' Stop.mk ?_
              with_reducible (k_here; (with_reducible show wpAny _ _ (subscriptTail _ (PySem.Expr.Slice none none (some _) _) (Value.ref _) (Value.ref _)) _ _ _); k_dflt (refine' parts_back ?Fq26 ?Nq26 ?mq26 ?zq26 ?_ ?sq26 ?tq26; (case Fq26 => k_asm); (case Nq26 => k_asm); (case mq26 => k_mem); (case zq26 => omega); (case sq26 => with_unfolding_all rfl); (case tq26 => kmk_pure)); intro D'q26 h'q26 F'q26 N'q26 l1; (try k_lt l1); (try k_sweep))
              k_steps
              refine' Stop.mk ?_
              rename Fr s₁.heap s₁.heap.objs.size _ _ => F30
              rename News s₁.heap s₁.heap.objs.size _ _ => N30
              refine' ne_parts N30 (.tail _ u1) (u2.mono fun p hp => .tail _ hp) (.head _) (u4.mono fun p hp => .tail _ hp) heq (by ktr_units) ?_
              replace N30 : News s₁.heap s₁.heap.objs.size _ own := news_sub N30 fun p hp => .tail _ (u5 p hp)
              k_steps
              refine' Stop.mk ?_
              rename Fr s₁.heap s₁.heap.objs.size _ _ => F31
              rename News s₁.heap s₁.heap.objs.size _ _ => N31
              with_unfolding_all refine' sp_use (parted_sp osl opl orl hrs hrr op ops (by rw [strF, List.length_map]; omega) (walked_perm wσ) (walked_mates wσ) str_rng (walked_order wσ)) (below_caller _) F31 KX N31 T (by exact rfl) (by ktr_room) (by ktr_units) ?_
              rintro r32 nw32 h32 tk32 F32 N32 ⟨e1, e2⟩
              subst e1
              subst e2
              clear F31 N31
              dsimp only
              k_steps
              refine' Stop.mk ?_
              rename Fr s₁.heap s₁.heap.objs.size _ _ => F33
              rename News s₁.heap s₁.heap.objs.size _ _ => N33
              refine' LpEnd.intro [] F33 N33 (fun _ h => nomatch h) (fun _ h => h) (fun _ _ _ h => nomatch h) ⟨rfl, y1, y2, y3, y4, y5⟩
            case doneA =>
              intro h3 tk3 m3 nx3 F3 N3 J3 hs3
              obtain ⟨e, y1, y2, y3, y4, y5⟩ := J3
              subst e
              replace F3 : Fr s₁.heap s₁.heap.objs.size h3 m3 := F3
              replace N3 : News s₁.heap s₁.heap.objs.size h3 M2 := news_sub N3 fun p hp => by simp [hp]
              k_steps
              dsimp only
              refine' GoodW.toG ?_
              refine' goodW_bool F3 hg (raisesW_false ?hn) ?hp
              case hn => wrow_none_raised
              case hp => wrow_post)
end
end
end Mine
set_option maxRecDepth 100000 in
set_option maxHeartbeats 8000000 in
theorem PySem.Challenge.cw_wo0047_01_holds : PySem.Challenge.rw_wo0047_01.Holds := by
  exact Mine.law_row
