import PyProof.Rows.All
import Wide.All
import OpenK.AllK
import Wide.FinOn
import PySem.Challenge.RW_fb5007_01
set_option Elab.async false
section
open PySem PySem.W PySem.W.X
set_option maxRecDepth 100000
namespace Mine

/-- own objects: a binary trie, low bit first -/
inductive PT where
  | nil
  | leaf (o : Obj)
  | node (l r : PT)
namespace PT
noncomputable def get (d : Nat) : PT → Nat → Option Obj :=
  @Nat.rec (fun _ => PT → Nat → Option Obj) (fun t _ => @PT.rec (fun _ => Option Obj) none (fun o => some o) (fun _ _ _ _ => none) t)
    (fun _ ih t i => @PT.rec (fun _ => Option Obj) none (fun _ => none) (fun l r _ _ => @Bool.rec (fun _ => Option Obj) (ih r (Nat.div i 2)) (ih l (Nat.div i 2)) (Nat.beq (Nat.mod i 2) 0)) t) d
noncomputable def left (t : PT) : PT := @PT.rec (fun _ => PT) .nil (fun _ => .nil) (fun l _ _ _ => l) t
noncomputable def right (t : PT) : PT := @PT.rec (fun _ => PT) .nil (fun _ => .nil) (fun _ r _ _ => r) t
noncomputable def ins (d : Nat) : PT → Nat → PT → PT :=
  @Nat.rec (fun _ => PT → Nat → PT → PT) (fun _ _ o => o)
    (fun _ ih t i o => @Bool.rec (fun _ => PT) (.node t.left (ih t.right (Nat.div i 2) o)) (.node (ih t.left (Nat.div i 2) o) t.right) (Nat.beq (Nat.mod i 2) 0)) d
noncomputable def put (d : Nat) (t : PT) (i : Nat) (o : Obj) : PT := ins d t i (.leaf o)
noncomputable def del (d : Nat) (t : PT) (i : Nat) : PT := ins d t i .nil

theorem get_succ (d : Nat) (t : PT) (i : Nat) : get (d + 1) t i = if i % 2 = 0 then get d t.left (i / 2) else get d t.right (i / 2) := by
  have hb : Nat.beq (Nat.mod i 2) 0 = decide (i % 2 = 0) := BT.beq_eq _ _
  have hn : ∀ d j, get d .nil j = none := fun d j => by cases d <;> rfl
  cases t with
  | nil =>
    show none = _
    split
    · exact (hn d _).symm
    · exact (hn d _).symm
  | leaf o =>
    show none = _
    split
    · exact (hn d _).symm
    · exact (hn d _).symm
  | node l r =>
    show @Bool.rec (fun _ => Option Obj) (get d r (Nat.div i 2)) (get d l (Nat.div i 2)) (Nat.beq (Nat.mod i 2) 0) = _
    rw [hb]
    by_cases h : i % 2 = 0
    · rw [if_pos h, decide_eq_true h]; rfl
    · rw [if_neg h, decide_eq_false h]; rfl
theorem ins_succ (d : Nat) (t : PT) (i : Nat) (o : PT) : ins (d + 1) t i o = if i % 2 = 0 then .node (ins d t.left (i / 2) o) t.right else .node t.left (ins d t.right (i / 2) o) := by
  have hb : Nat.beq (Nat.mod i 2) 0 = decide (i % 2 = 0) := BT.beq_eq _ _
  show @Bool.rec (fun _ => PT) (PT.node t.left (ins d t.right (Nat.div i 2) o)) (.node (ins d t.left (Nat.div i 2) o) t.right) (Nat.beq (Nat.mod i 2) 0) = _
  rw [hb]
  by_cases h : i % 2 = 0
  · rw [if_pos h, decide_eq_true h]; rfl
  · rw [if_neg h, decide_eq_false h]; rfl
theorem get_ins (o : PT) : ∀ (d : Nat) (t : PT) (i j : Nat), i < 2 ^ d → j < 2 ^ d → get d (ins d t i o) j = if j = i then get 0 o 0 else get d t j
  | 0, t, i, j, hi, hj => by
    have h1 : i = 0 := by simp at hi; exact hi
    have h2 : j = 0 := by simp at hj; exact hj
    rw [if_pos (by omega), h2]; rfl
  | d + 1, t, i, j, hi, hj => by
    have hi2 : i / 2 < 2 ^ d := by rw [Nat.pow_succ] at hi; omega
    have hj2 : j / 2 < 2 ^ d := by rw [Nat.pow_succ] at hj; omega
    rw [get_succ, get_succ, ins_succ]
    by_cases h : i % 2 = 0
    · rw [if_pos h]
      by_cases h' : j % 2 = 0
      · rw [if_pos h', if_pos h']
        show get d (ins d t.left (i / 2) o) (j / 2) = _
        rw [get_ins o d _ _ _ hi2 hj2]
        by_cases e : j = i
        · rw [if_pos e, if_pos (by omega)]
        · rw [if_neg e, if_neg (by omega)]
      · rw [if_neg h', if_neg h', if_neg (by omega)]; rfl
    · rw [if_neg h]
      by_cases h' : j % 2 = 0
      · rw [if_pos h', if_pos h', if_neg (by omega)]; rfl
      · rw [if_neg h', if_neg h']
        show get d (ins d t.right (i / 2) o) (j / 2) = _
        rw [get_ins o d _ _ _ hi2 hj2]
        by_cases e : j = i
        · rw [if_pos e, if_pos (by omega)]
        · rw [if_neg e, if_neg (by omega)]
theorem get_put (o : Obj) (d : Nat) (t : PT) (i j : Nat) (hi : i < 2 ^ d) (hj : j < 2 ^ d) : get d (put d t i o) j = if j = i then some o else get d t j := get_ins (.leaf o) d t i j hi hj
theorem get_del (d : Nat) (t : PT) (i j : Nat) (hi : i < 2 ^ d) (hj : j < 2 ^ d) : get d (del d t i) j = if j = i then none else get d t j := get_ins .nil d t i j hi hj
end PT
abbrev DP : Nat := 12

/-- what is noted on the way -/
inductive Note where
  | ask (t f : Sem PySem.Fin)
  | val (v : Value) (b : Bool)
  | int (x y : Int)
  | bytes (xs : List Int)
  | lists (xs ys : List Int) (b : Bool)
/-- an answer, given ahead: a comparison's bool, or an int in the form in which it is to be carried on -/
inductive Ora where
  | b (o : Bool)
  | i (x : Int)

abbrev Go (R : Type) := PT → Nat → Nat → List Ora → List Note → R

structure Cfg where
  prog : Program
  Pt : Params
  Pf : Params
  n1 : Nat
  old : Nat → Option Obj
  t0 : Nat

section
variable {R : Type} (bad : Nat → Nat → R) (V : Cfg)
abbrev RunTy (R : Type) := Code → List (Code × Pos) → Option Value → (Result → Go R) → Pos → Go R

noncomputable def ownO (T : PT) (a : Nat) : Option Obj :=
  @Bool.rec (fun _ => Option Obj) none (T.get DP (Nat.sub a V.n1)) (Nat.blt (Nat.sub a V.n1) 4096)
noncomputable def lookO (T : PT) (a : Nat) : Option Obj :=
  @Bool.rec (fun _ => Option Obj) (ownO V T a) (V.old a) (Nat.blt a V.n1)
noncomputable def pass (v : Value) : Bool := @Value.rec (fun _ => Bool) true true false (fun _ => true) (fun _ _ => true) (fun _ _ => true) (fun _ _ => true) (fun _ _ => true) (fun _ => true) (fun _ => true) (fun _ => true) v

noncomputable def walkQ (run : RunTy R) (agn : Code → Pos → Go R) (c : Code) (below : List (Code × Pos)) (hd : Option Value) (ret : Result → Go R) (t : Sem PySem.Fin) : Pos → Go R :=
  @Sem.rec PySem.Fin (fun _ => Pos → Go R)
    (fun fin p => @PySem.Fin.rec (fun _ => Go R) (fun f => ret (.ok f)) (fun c' => @Bool.rec (fun _ => Go R) (fun _ _ _ _ _ => bad 5 0) (agn c' p) c'.quiet) fin)
    (fun e _ => ret (.error e))
    (fun _ _ _ _ _ _ _ => bad 29 0)
    (fun _ _ _ _ _ _ _ => bad 30 0)
    (fun _ _ ih p => ih () p)
    (fun q _ ih _ => ih () q)
    (fun a _ _ ih p T m i b n => @Option.rec Obj (fun _ => R) (bad 1 a) (fun o => ih o p T m i b n) (lookO V T a))
    (fun a _ f _ ih p T m i b n => @Bool.rec (fun _ => R) (@Option.rec Obj (fun _ => R) (bad 3 a) (fun o => @Bool.rec (fun _ => R) (ih () p (T.put DP (Nat.sub a V.n1) (f o)) m i b n) (bad 2 a) (f o).isFreed) (ownO V T a)) (bad 6 a) (Nat.blt a V.n1))
    (fun o _ ih p T m i b n => @Bool.rec (fun _ => R) (bad 8 m) (@Bool.rec (fun _ => R) (ih (Nat.add V.n1 m) p (T.put DP m o) (Nat.succ m) i b n) (bad 2 m) o.isFreed) (Nat.blt m 4096))
    (fun a _ ih p T m i b n => @Option.rec Obj (fun _ => R) (bad 1 a) (fun o => ih (some o) p T m i b n) (lookO V T a))
    (fun _ _ ih p => ih () p)
    (fun _ _ _ _ _ _ _ _ _ => bad 31 0)
    (fun _ ih p T m i => ih (Nat.add V.t0 i) p T m (Nat.succ i))
    (fun k ih p T m i b n => ih ⟨V.prog, V.Pt⟩ p T m i b (.ask (k ⟨V.prog, V.Pt⟩) (k ⟨V.prog, V.Pf⟩) :: n))
    (fun _ _ _ _ _ _ _ _ _ _ => bad 32 0)
    (fun _ _ _ _ _ _ _ _ _ _ => bad 33 0)
    (fun c' h _ _ _ ih p => @Option.rec Value (fun _ => Go R) (run c' ((c, p) :: below) hd (fun r => ih r p) p) (fun e => @Bool.rec (fun _ => Go R) (fun _ _ _ _ _ => bad 9 0) (run c' ((c, p) :: below) (some e) (fun r => ih r p) p) (pass e)) h)
    (fun own _ ih p => @Bool.rec (fun _ => Go R) (ih hd p) (fun _ _ _ _ _ => bad 7 0) own)
    (fun _ _ _ _ _ _ _ _ _ => bad 34 0)
    (fun _ _ _ _ _ _ _ _ _ => bad 35 0)
    (fun _ _ _ _ _ _ _ _ _ _ _ => bad 36 0)
    (fun _ _ _ _ _ _ _ _ _ _ _ => bad 37 0)
    (fun _ ih p => ih ((c, p) :: below) p)
    (fun _ _ _ _ _ _ _ _ _ => bad 38 0)
    (fun _ _ _ _ _ _ _ _ => bad 39 0)
    (fun _ _ _ _ _ _ _ _ _ _ _ _ => bad 40 0)
    t
end
end Mine

end
section
open PySem PySem.W PySem.W.X
set_option maxRecDepth 100000
namespace Mine

def intPart : Value → Int
  | .int i _ => i
  | _ => 0
def NoteOk : Note → Prop
  | .ask t f => t = f
  | .val v b => v = .bool b
  | .int x y => x = y
  | .bytes xs => ∀ x ∈ xs, 0 ≤ x ∧ x < 256
  | .lists xs ys b => b = !decide (xs = ys)
def NotesOk (n : List Note) : Prop := ∀ x ∈ n, NoteOk x
theorem NotesOk.tail {x : Note} {n : List Note} (h : NotesOk (x :: n)) : NotesOk n := fun y hy => h y (.tail _ hy)
theorem NotesOk.head {x : Note} {n : List Note} (h : NotesOk (x :: n)) : NoteOk x := h x (.head _)

/-- what the simulator's state says of the machine's -/
structure Rel (V : Cfg) (s₀ : Shared) (T : PT) (m i : Nat) (s : Shared) : Prop where
  size : s.heap.objs.size = V.n1 + m
  toks : s.toks = V.t0 + i
  gens : s.gens = s₀.gens
  os : s.os = s₀.os
  old : ∀ b o, s₀.heap.get? b = some o → s.heap.get? b = some o
  own : ∀ j o, j < 4096 → T.get DP j = some o → s.heap.get? (V.n1 + j) = some o
structure Base (V : Cfg) (w : World) (s₀ : Shared) : Prop where
  size : s₀.heap.objs.size = V.n1
  old : ∀ a o, V.old a = some o → s₀.heap.get? a = some o
  row : w.params = V.Pt ∨ w.params = V.Pf

section
variable {V : Cfg} {w : World} {s₀ s : Shared} {T : PT} {m i : Nat}
theorem Base.lt (B : Base V w s₀) {b : Addr} {o : Obj} (e : s₀.heap.get? b = some o) : b < V.n1 := B.size ▸ Heap.lt_size e
theorem blt_dec (a b : Nat) : Nat.blt a b = decide (a < b) := by
  cases h : Nat.blt a b with
  | true => exact (decide_eq_true (X.blt_true h)).symm
  | false => exact (decide_eq_false (Nat.not_lt.mpr (X.blt_false h))).symm
theorem own_of {a : Nat} {o : Obj} (D : Rel V s₀ T m i s) (ha : V.n1 ≤ a) (e : ownO V T a = some o) : a - V.n1 < 4096 ∧ T.get DP (a - V.n1) = some o ∧ s.heap.get? a = some o := by
  unfold ownO at e
  cases q : Nat.blt (Nat.sub a V.n1) 4096 with
  | false => rw [q] at e; cases e
  | true =>
    rw [q] at e
    have h1 : a - V.n1 < 4096 := X.blt_true q
    have h2 : T.get DP (a - V.n1) = some o := e
    have h3 := D.own _ _ h1 h2
    rw [Nat.add_sub_cancel' ha] at h3
    exact ⟨h1, h2, h3⟩
theorem look_of {a : Nat} {o : Obj} (B : Base V w s₀) (D : Rel V s₀ T m i s) (e : lookO V T a = some o) : s.heap.get? a = some o := by
  unfold lookO at e
  cases q : Nat.blt a V.n1 with
  | true => rw [q] at e; exact D.old _ _ (B.old _ _ e)
  | false => rw [q] at e; exact (own_of D (X.blt_false q) e).2.2
theorem Rel.update (B : Base V w s₀) (D : Rel V s₀ T m i s) {a : Nat} {o : Obj} {f : Obj → Obj} (ha : V.n1 ≤ a) (e : ownO V T a = some o) (hf : (f o).isFreed = false) :
    Rel V s₀ (T.put DP (a - V.n1) (f o)) m i { s with heap := s.heap.update a f } := by
  obtain ⟨h1, h2, h3⟩ := own_of D ha e
  refine ⟨by rw [Heap.size_after_update]; exact D.size, D.toks, D.gens, D.os, fun b o' e' => ?_, fun j o' hj e' => ?_⟩
  · have hb := B.lt e'
    exact (Heap.get?_update_other _ f (Nat.ne_of_gt (Nat.lt_of_lt_of_le hb ha))).trans (D.old _ _ e')
  · rw [PT.get_put _ _ _ _ _ h1 hj] at e'
    by_cases hjk : j = a - V.n1
    · rw [if_pos hjk] at e'
      cases e'
      subst hjk
      rw [Nat.add_sub_cancel' ha]
      exact Heap.get?_update_self f h3 hf
    · rw [if_neg hjk] at e'
      exact (Heap.get?_update_other _ f (fun e => hjk (by rw [e]; exact (Nat.add_sub_cancel_left ..).symm))).trans (D.own _ _ hj e')
theorem Rel.set (B : Base V w s₀) (D : Rel V s₀ T m i s) {a : Nat} {o : Obj} {h' : Heap} (ha : V.n1 ≤ a) (ha' : a - V.n1 < 4096) (hs : Heap.SameBut a s.heap h') (hg : h'.get? a = some o) :
    Rel V s₀ (T.put DP (a - V.n1) o) m i { s with heap := h' } := by
  refine ⟨hs.1.trans D.size, D.toks, D.gens, D.os, fun b o' e' => ?_, fun j o' hj e' => ?_⟩
  · have hb := B.lt e'
    exact (hs.2 b (Nat.ne_of_lt (Nat.lt_of_lt_of_le hb ha))).trans (D.old _ _ e')
  · rw [PT.get_put _ _ _ _ _ ha' hj] at e'
    by_cases hjk : j = a - V.n1
    · rw [if_pos hjk] at e'
      cases e'
      subst hjk
      rw [Nat.add_sub_cancel' ha]
      exact hg
    · rw [if_neg hjk] at e'
      exact (hs.2 _ (fun e => hjk (by rw [← e]; exact (Nat.add_sub_cancel_left ..).symm))).trans (D.own _ _ hj e')
theorem Rel.alloc (D : Rel V s₀ T m i s) {o : Obj} (hm : m < 4096) (hf : o.isFreed = false) : Rel V s₀ (T.put DP m o) (m + 1) i { s with heap := s.heap.push o } := by
  refine ⟨by rw [Heap.size_push, D.size, Nat.add_assoc], D.toks, D.gens, D.os, fun b o' e' => Heap.get?_push_of_some _ (D.old _ _ e'), fun j o' hj e' => ?_⟩
  rw [PT.get_put _ _ _ _ _ hm hj] at e'
  by_cases hjk : j = m
  · rw [if_pos hjk] at e'
    cases e'
    subst hjk
    rw [← D.size]
    exact Heap.get?_push_size _ hf
  · rw [if_neg hjk] at e'
    exact Heap.get?_push_of_some _ (D.own _ _ hj e')
theorem Rel.fresh (D : Rel V s₀ T m i s) : Rel V s₀ T m (i + 1) { s with toks := s.toks + 1 } :=
  ⟨D.size, by show s.toks + 1 = _; rw [D.toks, Nat.add_assoc], D.gens, D.os, D.old, D.own⟩
theorem pass_ne {v : Value} (h : pass v = true) : v ≠ byPass := by
  rintro rfl
  cases h
end

/-- a run of a code, told by what the simulator gives back -/
def CodeSays {R : Type} (Good : R → Prop) (V : Cfg) (w : World) (s₀ : Shared) (c : Code) (below : List (Code × Pos)) (hd : Option Value) (p : Pos) (Post : Result → Shared → Prop) (x : PT → Nat → Nat → List Ora → List Note → R) : Prop :=
  ∀ T m i b n, Good (x T m i b n) → NotesOk n ∧ ∀ s, Rel V s₀ T m i s → ∀ Γ : PySem.Ctx, Γ.code = c → Γ.handled = hd → Γ.below = below → wpCode (model V.prog w) Γ Post p s
def RetSays {R : Type} (Good : R → Prop) (V : Cfg) (s₀ : Shared) (Post : Result → Shared → Prop) (ret : Result → Go R) : Prop :=
  ∀ r T m i b n, Good (ret r T m i b n) → NotesOk n ∧ ∀ s, Rel V s₀ T m i s → Post r s
def RunSays {R : Type} (Good : R → Prop) (V : Cfg) (w : World) (s₀ : Shared) (run : RunTy R) : Prop :=
  ∀ c below hd ret p Post, RetSays Good V s₀ Post ret → CodeSays Good V w s₀ c below hd p Post (run c below hd ret p)

theorem walk_says {R : Type} {Good : R → Prop} {bad : Nat → Nat → R} (hbad : ∀ a b, ¬ Good (bad a b)) {V : Cfg} {w : World} {s₀ : Shared} (B : Base V w s₀) {run : RunTy R} (HR : RunSays Good V w s₀ run)
    {agn : Code → Pos → Go R} {c : Code} {below : List (Code × Pos)} {hd : Option Value} {ret : Result → Go R} {Post : Result → Shared → Prop}
    (Hret : RetSays Good V s₀ Post ret) (Hagn : ∀ c' p, CodeSays Good V w s₀ c' below hd p Post (agn c' p)) (t : Sem PySem.Fin) :
    ∀ p T m i b n, Good (walkQ bad V run agn c below hd ret t p T m i b n) → NotesOk n ∧ ∀ s, Rel V s₀ T m i s → ∀ Γ : PySem.Ctx, Γ.code = c → Γ.handled = hd → Γ.below = below →
      Sem.wp (model V.prog w) Γ t (Sem.finPost (model V.prog w) Γ Post) (fun e _ s' => Post (.error e) s') p s := by
  induction t with
  | pure fin =>
    intro p T m i b n G
    cases fin with
    | done f =>
      have := Hret _ _ _ _ _ _ G
      exact ⟨this.1, fun s D Γ _ _ _ => this.2 s D⟩
    | again c' =>
      have G' : Good (@Bool.rec (fun _ => Go R) (fun _ _ _ _ _ => bad 5 0) (agn c' p) c'.quiet T m i b n) := G
      cases q : c'.quiet with
      | false => rw [q] at G'; exact absurd G' (hbad _ _)
      | true =>
        rw [q] at G'
        have := Hagn _ _ _ _ _ _ _ G'
        exact ⟨this.1, fun s D Γ h1 h2 h3 => ⟨q, this.2 s D _ rfl h2 h3⟩⟩
  | raise e =>
    intro p T m i b n G
    have := Hret _ _ _ _ _ _ G
    exact ⟨this.1, fun s D Γ _ _ _ => this.2 s D⟩
  | unsupported => intro p T m i b n G; exact absurd G (hbad _ _)
  | finish => intro p T m i b n G; exact absurd G (hbad _ _)
  | rule tag k ih => intro p T m i b n G; exact ih () p T m i b n G
  | «at» q k ih => intro p T m i b n G; exact ih () q T m i b n G
  | load a part k ih =>
    intro p T m i b n G
    have G' : Good (@Option.rec Obj (fun _ => R) (bad 1 a) (fun o => walkQ bad V run agn c below hd ret (k o) p T m i b n) (lookO V T a)) := G
    cases q : lookO V T a with
    | none => rw [q] at G'; exact absurd G' (hbad _ _)
    | some o =>
      rw [q] at G'
      have := ih o p T m i b n G'
      exact ⟨this.1, fun s D Γ h1 h2 h3 => ⟨o, look_of B D q, this.2 s D Γ h1 h2 h3⟩⟩
  | update a part f k ih =>
    intro p T m i b n G
    have G' : Good (@Bool.rec (fun _ => R) (@Option.rec Obj (fun _ => R) (bad 3 a) (fun o => @Bool.rec (fun _ => R) (walkQ bad V run agn c below hd ret (k ()) p (T.put DP (Nat.sub a V.n1) (f o)) m i b n) (bad 2 a) (f o).isFreed) (ownO V T a)) (bad 6 a) (Nat.blt a V.n1)) := G
    cases q : Nat.blt a V.n1 with
    | true => rw [q] at G'; exact absurd G' (hbad _ _)
    | false =>
      rw [q] at G'
      cases q2 : ownO V T a with
      | none => rw [q2] at G'; exact absurd G' (hbad _ _)
      | some o =>
        rw [q2] at G'
        have G'' : Good (@Bool.rec (fun _ => R) (walkQ bad V run agn c below hd ret (k ()) p (T.put DP (Nat.sub a V.n1) (f o)) m i b n) (bad 2 a) (f o).isFreed) := G'
        cases q3 : (f o).isFreed with
        | true => rw [q3] at G''; exact absurd G'' (hbad _ _)
        | false =>
          rw [q3] at G''
          have := ih () p _ m i b n G''
          refine ⟨this.1, fun s D Γ h1 h2 h3 => ⟨?_, this.2 _ (D.update B (X.blt_false q) q2 q3) Γ h1 h2 h3⟩⟩
          rw [(own_of D (X.blt_false q) q2).2.2]; rfl
  | alloc o k ih =>
    intro p T m i b n G
    have G' : Good (@Bool.rec (fun _ => R) (bad 8 m) (@Bool.rec (fun _ => R) (walkQ bad V run agn c below hd ret (k (Nat.add V.n1 m)) p (T.put DP m o) (Nat.succ m) i b n) (bad 2 m) o.isFreed) (Nat.blt m 4096)) := G
    cases q : Nat.blt m 4096 with
    | false => rw [q] at G'; exact absurd G' (hbad _ _)
    | true =>
      rw [q] at G'
      have G'' : Good (@Bool.rec (fun _ => R) (walkQ bad V run agn c below hd ret (k (Nat.add V.n1 m)) p (T.put DP m o) (Nat.succ m) i b n) (bad 2 m) o.isFreed) := G'
      cases q3 : o.isFreed with
      | true => rw [q3] at G''; exact absurd G'' (hbad _ _)
      | false =>
        rw [q3] at G''
        have := ih _ p _ _ i b n G''
        refine ⟨this.1, fun s D Γ h1 h2 h3 => ?_⟩
        have hz := this.2 _ (D.alloc (X.blt_true q) q3) Γ h1 h2 h3
        show Sem.wp _ Γ (k s.heap.objs.size) _ _ p _
        rw [D.size]; exact hz
  | loadIfAlive a k ih =>
    intro p T m i b n G
    have G' : Good (@Option.rec Obj (fun _ => R) (bad 1 a) (fun o => walkQ bad V run agn c below hd ret (k (some o)) p T m i b n) (lookO V T a)) := G
    cases q : lookO V T a with
    | none => rw [q] at G'; exact absurd G' (hbad _ _)
    | some o =>
      rw [q] at G'
      have := ih (some o) p T m i b n G'
      refine ⟨this.1, fun s D Γ h1 h2 h3 => ?_⟩
      show Sem.wp _ Γ (k (s.heap.get? a)) _ _ p s
      rw [look_of B D q]
      exact this.2 s D Γ h1 h2 h3
  | point l k ih => intro p T m i b n G; exact ih () p T m i b n G
  | register => intro p T m i b n G; exact absurd G (hbad _ _)
  | fresh k ih =>
    intro p T m i b n G
    have := ih (V.t0 + i) p T m (i + 1) b n G
    refine ⟨this.1, fun s D Γ h1 h2 h3 => ?_⟩
    have hz := this.2 _ D.fresh Γ h1 h2 h3
    rw [← D.toks] at hz
    exact hz
  | ask k ih =>
    intro p T m i b n G
    have := ih ⟨V.prog, V.Pt⟩ p T m i b _ G
    refine ⟨this.1.tail, fun s D Γ h1 h2 h3 => ?_⟩
    have hz := this.2 s D Γ h1 h2 h3
    have e : k ⟨V.prog, V.Pt⟩ = k ⟨V.prog, V.Pf⟩ := this.1.head
    show Sem.wp _ Γ (k ⟨V.prog, w.params⟩) _ _ p s
    rcases B.row with r | r
    · rw [r]; exact hz
    · rw [r, ← e]; exact hz
  | choose => intro p T m i b n G; exact absurd G (hbad _ _)
  | os => intro p T m i b n G; exact absurd G (hbad _ _)
  | call c' h g l k ih =>
    intro p T m i b n G
    have Hk : RetSays Good V s₀ (fun r s' => ∀ Γ : PySem.Ctx, Γ.code = c → Γ.handled = hd → Γ.below = below → Sem.wp (model V.prog w) Γ (k r) (Sem.finPost (model V.prog w) Γ Post) (fun e _ s' => Post (.error e) s') p s') (fun r => walkQ bad V run agn c below hd ret (k r) p) :=
      fun r T m i b n G => ih r p T m i b n G
    cases h with
    | none =>
      have := HR c' ((c, p) :: below) hd _ p _ Hk T m i b n G
      refine ⟨this.1, fun s D Γ h1 h2 h3 => ?_⟩
      have hz := this.2 s D (Γ.enter c' none p) rfl h2 (by show (Γ.code, p) :: Γ.below = _; rw [h1, h3])
      exact wpCode_mono (fun r s' hr => hr Γ h1 h2 h3) hz
    | some e =>
      have G' : Good (@Bool.rec (fun _ => Go R) (fun _ _ _ _ _ => bad 9 0) (run c' ((c, p) :: below) (some e) (fun r => walkQ bad V run agn c below hd ret (k r) p) p) (pass e) T m i b n) := G
      cases q : pass e with
      | false => rw [q] at G'; exact absurd G' (hbad _ _)
      | true =>
        rw [q] at G'
        have := HR c' ((c, p) :: below) (some e) _ p _ Hk T m i b n G'
        refine ⟨this.1, fun s D Γ h1 h2 h3 => ?_⟩
        have hne : (e == byPass) = false := by
          cases hb : e == byPass with
          | false => rfl
          | true => exact absurd (eq_of_beq hb) (pass_ne q)
        have hz := this.2 s D (Γ.enter c' (some e) p) rfl (by simp [PySem.Ctx.enter, markOver, hne]) (by show (Γ.code, p) :: Γ.below = _; rw [h1, h3])
        exact wpCode_mono (fun r s' hr => hr Γ h1 h2 h3) hz
  | handled own k ih =>
    intro p T m i b n G
    cases own with
    | true => exact absurd G (hbad _ _)
    | false =>
      have := ih hd p T m i b n G
      refine ⟨this.1, fun s D Γ h1 h2 h3 => ?_⟩
      show Sem.wp _ Γ (k Γ.handled) _ _ p s
      rw [h2]
      exact this.2 s D Γ h1 h2 h3
  | genState => intro p T m i b n G; exact absurd G (hbad _ _)
  | newGen => intro p T m i b n G; exact absurd G (hbad _ _)
  | resume => intro p T m i b n G; exact absurd G (hbad _ _)
  | yield => intro p T m i b n G; exact absurd G (hbad _ _)
  | stack k ih =>
    intro p T m i b n G
    have := ih ((c, p) :: below) p T m i b n G
    refine ⟨this.1, fun s D Γ h1 h2 h3 => ?_⟩
    show Sem.wp _ Γ (k ((Γ.code, p) :: Γ.below)) _ _ p s
    rw [h1, h3]
    exact this.2 s D Γ h1 h2 h3
  | fork => intro p T m i b n G; exact absurd G (hbad _ _)
  | thread => intro p T m i b n G; exact absurd G (hbad _ _)
  | await => intro p T m i b n G; exact absurd G (hbad _ _)
end Mine

end
section
open PySem PySem.W PySem.W.X
open PyProof.Rows (IntsAre)
set_option maxRecDepth 100000
namespace Mine

def aroundOfCtx (Γ : PySem.Ctx) : Around := { handled := Γ.handled, depth := frameCount Γ.below, frames := none, guards := none, units := unitsOf Γ.below }
theorem below_of (Γ : PySem.Ctx) : Γ.Below (aroundOfCtx Γ) := ⟨rfl, Nat.le_refl _, nofun, nofun, Nat.le_refl _⟩
theorem wpCode_of_any {M : Model} {Γ : PySem.Ctx} {c : Code} {R : Result → Shared → Prop} {p : Pos} {s : Shared} (hc : Γ.code = c) (h : ∀ A : Around, A.handled = Γ.handled → codeAny M A c R s) : wpCode M Γ R p s :=
  h (aroundOfCtx Γ) rfl Γ p hc (below_of Γ)

section
variable {prog : Program} {w : World} {A : Around} {s : Shared}

/-- the list of ints compared by != -/
theorem lne_any {R : Result → Shared → Prop} {a d : Addr} {xs ys : List Value} {n1 n2 : Nat} {d1 d2 : Option Addr} {s1 s2 : Array (Option Value)}
    (ha : s.heap.get? a = some { cls := .type "list", dict := d1, data := .seq xs.toArray n1, slots := s1 }) (hd : s.heap.get? d = some { cls := .type "list", dict := d2, data := .seq ys.toArray n2, slots := s2 })
    (hx : ∀ v ∈ xs, ∃ i t, v = .int i t) (hy : ∀ v ∈ ys, ∃ i t, v = .int i t) (h : R (.ok (.ret (.bool (!decide (xs.map intPart = ys.map intPart))))) s) :
    codeAny (model prog w) A (.builtin "list.__ne__" ⟨[.ref a, .ref d], []⟩) R s := by
  refine codeAny_builtin F.entry_list_ne ?_
  rw [Around.under_plainId (by decide +kernel) _]
  by_cases hl : xs.length = ys.length
  · refine SeqAt.list_neAt a d xs.toArray ys.toArray n1 n2 d1 d2 s1 s2 (by simpa using hl) (fun j => intPart (xs.getD j .none) == intPart (ys.getD j .none)) prog w A R s ⟨ha, hd, fun j h1 h2 => ?_, ?_⟩
    · have h1' : j < xs.length := by simpa using h1
      have h2' : j < ys.length := by simpa using h2
      obtain ⟨i, t, e1⟩ := hx xs[j] (List.getElem_mem h1')
      obtain ⟨k, u, e2⟩ := hy ys[j] (List.getElem_mem h2')
      have g1 : xs.getD j .none = .int i t := by rw [List.getD_eq_getElem?_getD, List.getElem?_eq_getElem h1', e1]; rfl
      have g2 : ys.getD j .none = .int k u := by rw [List.getD_eq_getElem?_getD, List.getElem?_eq_getElem h2', e2]; rfl
      rw [g1, g2]
      have q1 : xs.toArray[j] = .int i t := by simpa using e1
      have q2 : ys.toArray[j] = .int k u := by simpa using e2
      rw [q1, q2]
      exact SeqAt.EqAt.int_int i t k u
    · have e : (List.range xs.toArray.size).all (fun j => intPart (xs.getD j .none) == intPart (ys.getD j .none)) = decide (xs.map intPart = ys.map intPart) := by
        rw [Bool.eq_iff_iff, List.all_eq_true, decide_eq_true_iff]
        constructor
        · intro q
          apply List.ext_getElem
          · simpa using hl
          · intro j h1 h2
            have h1' : j < xs.length := by simpa using h1
            have h2' : j < ys.length := by simpa using h2
            have := q j (by simpa using h1')
            rw [beq_iff_eq, List.getD_eq_getElem?_getD, List.getElem?_eq_getElem h1', List.getD_eq_getElem?_getD, List.getElem?_eq_getElem h2'] at this
            simpa using this
        · intro q j hj
          have h1' : j < xs.length := by simpa using hj
          have h2' : j < ys.length := hl ▸ h1'
          rw [beq_iff_eq, List.getD_eq_getElem?_getD, List.getElem?_eq_getElem h1', List.getD_eq_getElem?_getD, List.getElem?_eq_getElem h2']
          have := congrArg (fun l => l[j]?) q
          simpa [h1', h2'] using this
      rw [e]; exact h
  · refine SeqAt.list_ne_lengthsAt a d xs.toArray ys.toArray n1 n2 d1 d2 s1 s2 (by simpa using hl) prog w A R s ⟨ha, hd, ?_⟩
    have e : decide (xs.map intPart = ys.map intPart) = false := decide_eq_false fun q => hl (by simpa using congrArg List.length q)
    rw [e] at h; exact h
end
end Mine

end
section
open PySem PySem.W PySem.W.X
open PyProof.Rows (IntsAre)
set_option maxRecDepth 100000
namespace Mine
/-- the trees of the codes, by the library's own quick twins -/
noncomputable def den : Code → Sem PySem.Fin := PySem.W.Fast.tw11892475500146522536 PySem.W.Fast.tw14364793385576792824
theorem den_eq : denote table = den := by
  unfold den
  rw [table_eq_tree]
  exact (congrFun PySem.W.Fast.te11892475500146522536 treeTable).trans (congrArg _ PySem.W.Fast.te14364793385576792824)

def packArgs (tf tk : Tok) (k : Int) : Code := .builtin "_struct.pack" ⟨[.str ⟨#[66]⟩ tf, .int k tk], []⟩
def packTree (k : Int) : Sem PySem.Fin := .fresh fun t => .pure (.done (.ret (.bytes #[k.toNat.toUInt8] t)))
theorem pack_all (tf tk : Tok) : (List.range 256).map (fun j => den (packArgs tf tk (Int.ofNat j))) = (List.range 256).map (fun j => packTree (Int.ofNat j)) := by kernel_rfl
theorem pack_tree {tf tk : Tok} {k : Int} (h0 : 0 ≤ k) (h1 : k < 256) : den (packArgs tf tk k) = packTree k := by
  obtain ⟨j, rfl⟩ := Int.eq_ofNat_of_zero_le h0
  have hj : j < 256 := by omega
  have := congrArg (fun l => l[j]?) (pack_all tf tk)
  simpa [hj] using this
end Mine

end
section
open PySem PySem.W PySem.W.X
open PyProof.Rows (IntsAre)
set_option maxRecDepth 100000
namespace Mine
section
variable {prog : Program} {w : World} {A : Around} {E : Value → Shared → Prop} {s : Shared}

/-- the end of a list's iterator: two new objects (the StopIteration and its arguments) -/
theorem next_end {it l : Addr} {i : Nat} {items : Array Value} {Q : Option Value → Shared → Prop} (hh : A.handled = none) (hit : s.heap.IsListIter it l i) (hl : s.heap.IsList l items) (hx : items[i]? = none)
    (hQ : ∀ h', h'.objs.size = s.heap.objs.size + 2 → Heap.ExtBut it s.heap h' → Q none { s with heap := h' }) : wpAny (model prog w) A (pyNext (.ref it)) Q E s := by
  have ⟨o, ho, hc, hd⟩ := hit
  have ⟨ol, hol, _, nl, hdl⟩ := hl
  refine wpAny_bind (wpAny_attempt (wpAny_callSpecial?_slot (name := Str.ofString "__next__") hit.typeIs slot_listiter_next
    (wpAny_call_entry slot_listiter_next hit.typeIs entry_listiter_next ?_ (args_listiter_next _))))
  show wpAny _ _ (field (.ref it) 0 >>= _) _ _ s
  refine wpAny_bind (wpAny_field ho hd (x := .ref l) rfl ?_)
  show wpAny _ _ (if (Value.ref l == Value.none) = true then _ else _) _ _ s
  rw [if_neg (show ¬ ((Value.ref l == Value.none) = true) from Bool.false_ne_true)]
  show wpAny _ _ (field (.ref it) 1 >>= _) _ _ s
  refine wpAny_bind (wpAny_field ho hd (x := .int i 0) rfl ?_)
  show wpAny _ _ (seqItems? (.ref l) >>= _) _ _ s
  refine wpAny_bind (wpAny_seqItems hol hdl ?_)
  simp only [Int.toNat_natCast, hx]
  refine wpAny_bind (wpAny_rule (wpAny_bind (wpAny_setField ho hd (by simp) ?_)))
  show wpAny _ _ (newExc (.type "StopIteration") [] >>= _) _ _ _
  refine wpAny_bind ?_
  simp only [newExc, newTuple]
  refine wpAny_bind (wpAny_newObj_type ?_ (by size_fits))
  refine wpAny_bind (m := firstArgMember _ _) (wpAny_of_eq (a := Value.none) (by first | rfl | (simp only [firstArgMember]; rfl)) ?_)
  refine wpAny_newObj_type ?_ (by size_fits)
  simp only [raiseNew]
  refine wpAny_bind (wpAny_handled ?_)
  rw [show A.in1.handled = none from hh]
  refine wpAny_bind (wpAny_pure (wpAny_throw ?_))
  refine wpAny_bind (wpAny_isInstance (T := "StopIteration") (b := true) ⟨_, Heap.get?_push_size _ rfl, rfl⟩ isSubtype_stop ?_)
  refine wpAny_pure (hQ _ ?_ (((Heap.SameBut.update ..).extBut.push _).push _))
  rw [Heap.size_push, Heap.size_push, Heap.size_after_update]

def bytesOfInts (xs : List Value) : Array UInt8 := (xs.map fun v => (intPart v).toNat.toUInt8).toArray

theorem loop_any {R : Result → Shared → Prop} {I S l : Addr} {items : Array Value} (hh : A.handled = none) (hIS : I ≠ S) (hlI : l ≠ I) (hlS : l ≠ S) :
    ∀ (xs : List Value) (i : Nat) (bs : Array UInt8) (ex : Nat) (s : Shared), items.toList.drop i = xs → (∀ v ∈ xs, ∃ x t, v = .int x t ∧ 0 ≤ x ∧ x < 256) → bs.size + xs.length ≤ sizeLine → s.heap.IsList l items → s.heap.IsListIter I l i →
      s.heap.get? S = some { cls := .type "bytearray", data := .bytearray bs ex } →
      (∀ h', h'.objs.size = s.heap.objs.size + 2 → (∀ b o, b ≠ I → b ≠ S → s.heap.get? b = some o → h'.get? b = some o) → R (.ok (.ret (.bytes (bs ++ bytesOfInts xs) s.toks))) { s with heap := h', toks := s.toks + 1 }) →
      codeAny (model prog w) A (.builtin "bytes.__new__.loop" ⟨[.type "bytes", .ref I, .ref S], []⟩) R s := by
  intro xs
  induction xs with
  | nil =>
    intro i bs ex s hd _ hz hl hit hS hR
    refine codeAny_builtin F.bm_entry_loop ?_
    rw [Around.under_plainId F.bm_plain_loop _]
    have hx : items[i]? = none := by
      rw [← Array.getElem?_toList]
      have := congrArg List.length hd
      simp only [List.length_drop, List.length_nil] at this
      exact List.getElem?_eq_none (by omega)
    show wpAny _ A.in1 (pyNext (.ref I) >>= _) _ _ s
    refine wpAny_bind (next_end hh hit hl hx fun h' hs he => ?_)
    have hS' := he S _ (Ne.symm hIS) hS
    refine wpAny_bind ?_
    unfold Builtin.Bytes.payload Builtin.Bytes.payload?
    refine wpAny_bind (wpAny_bind (wpAny_load hS' ?_))
    refine wpAny_pure (wpAny_pure ?_)
    refine wpAny_bind (wpAny_mkBytes ?_ (by simpa using hz))
    show wpAny _ _ (if (Value.type "bytes" == Value.type "bytes") = true then _ else _) _ _ _
    rw [if_pos (by decide)]
    have hfin := hR h' hs fun b o hb _ e => he b o hb e
    have eb : bs ++ bytesOfInts [] = bs := by simp [bytesOfInts]
    rw [eb] at hfin
    first
      | exact wpAny_pure hfin
      | exact wpAny_bind (wpAny_pure (wpAny_pure hfin))
  | cons v xs ih =>
    intro i bs ex s hd hv hz hl hit hS hR
    obtain ⟨x, t, rfl, h0, h1⟩ := hv v (.head _)
    have hi : i < items.toList.length := by
      have := congrArg List.length hd
      simp only [List.length_drop, List.length_cons] at this
      omega
    have hdrop := List.drop_eq_getElem_cons hi
    rw [hd] at hdrop
    injection hdrop with e1 e2
    have hx : items[i]? = some (.int x t) := by
      rw [← Array.getElem?_toList, List.getElem?_eq_getElem hi, ← e1]
    refine codeAny_builtin F.bm_entry_loop ?_
    rw [Around.under_plainId F.bm_plain_loop _]
    show wpAny _ A.in1 (pyNext (.ref I) >>= _) _ _ s
    refine wpAny_bind (wpAny_pyNext_list_item (x := .int x t) hit hl hx fun h' hit' hs => ?_)
    have hS' := (hs.2 S (Ne.symm hIS)).trans hS
    refine wpAny_bind (wpAny_holding (wpAny_of_eq (rfl : asIndex (.int x t) = pure x) ?_))
    refine wpAny_bind (wpAny_letGo ?_)
    have hno : (decide (x < 0) || decide (x ≥ 256)) = false := by simp only [Bool.or_eq_false_iff, decide_eq_false_iff_not]; omega
    show wpAny _ _ (if (decide (x < 0) || decide (x ≥ 256)) = true then _ else _) _ _ _
    rw [hno, if_neg Bool.false_ne_true]
    refine wpAny_bind ?_
    show wpAny _ _ (updateBytearray S (·.push x.toNat.toUInt8)) _ _ _
    unfold updateBytearray
    refine wpAny_bind (wpAny_load hS' ?_)
    show wpAny _ _ (update S (Obj.mapBytearray (·.push x.toNat.toUInt8)) >>= fun _ => lookBehind S) _ _ _
    refine wpAny_bind (wpAny_update hS' ?_)
    have hS₂ : (h'.update S (Obj.mapBytearray (·.push x.toNat.toUInt8))).get? S = some { cls := .type "bytearray", data := .bytearray (bs.push x.toNat.toUInt8) ex } :=
      Heap.get?_update_self (Obj.mapBytearray (·.push x.toNat.toUInt8)) hS' rfl
    simp only [List.length_cons] at hz
    refine wpAny_lookBehind hS₂ ?_ ?_
    · show (if (bs.push x.toNat.toUInt8).size > sizeLine then some "bytearray:memory" else none) = none
      rw [if_neg]
      rw [Array.size_push]; omega
    · refine wpAny_pure ⟨plainId_quiet F.bm_plain_loop _, ih (i + 1) (bs.push x.toNat.toUInt8) ex { s with heap := h'.update S (Obj.mapBytearray (·.push x.toNat.toUInt8)) } e2.symm (fun v hm => hv v (.tail _ hm)) (by rw [Array.size_push]; omega) ?_ ?_ hS₂ fun h3 hs3 hk3 => ?_⟩
      · exact (hl.extBut hs.extBut hlI).extBut (Heap.SameBut.update ..).extBut hlS
      · exact hit'.extBut (Heap.SameBut.update ..).extBut hIS
      · have q := hR h3 (by rw [hs3]; show (h'.update S _).objs.size + 2 = _; rw [Heap.size_after_update, hs.1]) fun b o hbI hbS e => hk3 b o hbI hbS ((Heap.get?_update_other _ _ (Ne.symm hbS)).trans (hs.extBut b o hbI e))
        have eb : bs ++ bytesOfInts (.int x t :: xs) = bs.push x.toNat.toUInt8 ++ bytesOfInts xs := by
          apply Array.ext'
          simp [bytesOfInts, intPart]
        rw [eb] at q
        exact q
end
end Mine

end
section
open PySem PySem.W PySem.W.X
open PyProof.Rows (IntsAre)
set_option maxRecDepth 100000
namespace Mine

noncomputable def idIs (n : Nat) (a : String) : Bool := Nat.beq (PySem.W.S.codeS a) n
theorem idIs_eq {n : Nat} {b : String} (h : PySem.code b = n) {a : String} (e : idIs n a = true) : a = b :=
  PySem.code_inj _ _ (((PySem.W.S.code_S a).trans (Nat.eq_of_beq_eq_true e)).trans h.symm)
def cLt : Nat := 455126531311803185852266
def cGe : Nat := 455125449040517733379946
def cEq : Nat := 455126313168696235093866
def cAdd : Nat := 116512096292018843154739050
def cMod : Nat := 116512097088030077292474218
def cBne : Nat := 29827101557446578686309792355
def cPack : Nat := 33545738522483881846121002080
def cLoop : Nat := 9881949375840847480939150339697687676680803
def cLne : Nat := 116512115458775698011089517
def cBytes : Nat := 499935181411
def cList : Nat := 1970563693
def cListIt : Nat := 9146042919481958196396663532141
def cBa : Nat := 2257596917697066924643
def cRangeIt : Nat := 2341386987387381298277481238717043
theorem code_pack : PySem.code "_struct.pack" = cPack := by decide +kernel
theorem code_loop : PySem.code "bytes.__new__.loop" = cLoop := by decide +kernel
theorem code_lne : PySem.code "list.__ne__" = cLne := by decide +kernel
theorem code_bytes : PySem.code "bytes" = cBytes := by decide +kernel
theorem code_list : PySem.code "list" = cList := by decide +kernel
theorem code_listIt : PySem.code "list_iterator" = cListIt := by decide +kernel
theorem code_ba : PySem.code "bytearray" = cBa := by decide +kernel
theorem code_rangeIt : PySem.code "range_iterator" = cRangeIt := by decide +kernel

noncomputable def isCmp (id : String) : Bool := match idIs cEq id with
  | true => true
  | false => match idIs cLt id with
    | true => true
    | false => idIs cGe id

noncomputable def isArith (id : String) : Bool := match idIs cAdd id with
  | true => true
  | false => idIs cMod id

inductive Kind where
  | plain
  | norm
  | arith
  | pack (k : Int)
  | loop (I S : Addr)
  | lne (a d : Addr)
  | comp (it : Addr) (c' : Code)

noncomputable def kindOf (c : Code) : Kind := match c with
  | .builtin id ⟨pos, kw⟩ => match kw with
    | [] => match pos with
      | x :: rest => match x with
        | .int _ _ => match isArith id with
          | true => .arith
          | false => match isCmp id with
            | true => .norm
            | false => .plain
        | .bytes _ _ => match idIs cBne id with
          | true => .norm
          | false => .plain
        | .str f _ => match idIs cPack id with
          | true => match rest with
            | [.int k _] => match f with
              | ⟨⟨[ch]⟩⟩ => match Nat.beq ch 66 with
                | true => .pack k
                | false => .plain
              | _ => .plain
            | _ => .plain
          | false => .plain
        | .type t => match idIs cLoop id with
          | true => match rest with
            | [.ref I, .ref S] => match idIs cBytes t with
              | true => .loop I S
              | false => .plain
            | _ => .plain
          | false => .plain
        | .ref a => match idIs cLne id with
          | true => match rest with
            | [.ref d] => .lne a d
            | _ => .plain
          | false => .plain
        | _ => .plain
      | [] => .plain
    | _ :: _ => .plain
  | .compStart e d it acc env => match e with
    | .ListComp elt gens scope pos => match d with
      | 0 => match gens with
        | [⟨target, iter, ifs, a⟩] => match ifs with
          | [] => match a with
            | .ofNat n => match Nat.beq n 0 with
              | true => match it with
                | .ref I => .comp I (.compLoop (.ListComp elt [⟨target, iter, [], 0⟩] scope pos) 0 (.ref I) acc env)
                | _ => .plain
              | false => .plain
            | _ => .plain
          | _ :: _ => .plain
        | _ => .plain
      | _ + 1 => .plain
    | _ => .plain
  | _ => .plain

section
variable {R : Type} (bad : Nat → Nat → R) (V : Cfg)

/-- a bool that comes back is noted and read off the oracle -/
def normB (ret : Result → Go R) (r : Result) : Go R := fun T m i b n => match r with
  | .ok f => match f with
    | .ret v => match b with
      | o :: b' => match o with
        | .b o => ret (.ok (.ret (.bool o))) T m i b' (.val v o :: n)
        | .i _ => bad 53 0
      | [] => bad 50 0
    | _ => bad 51 0
  | .error _ => bad 52 0
/-- an int that comes back is carried on in the oracle's form -/
def normI (ret : Result → Go R) (r : Result) : Go R := fun T m i b n => match r with
  | .ok f => match f with
    | .ret v => match v with
      | .int x t => match b with
        | o :: b' => match o with
          | .i y => ret (.ok (.ret (.int y t))) T m i b' (.int x y :: n)
          | .b _ => bad 54 0
        | [] => bad 55 0
      | _ => bad 56 0
    | _ => bad 57 0
  | .error _ => bad 58 0

/-- the ints of a list -/
def intsOf : List Value → Option (List Value)
  | [] => some []
  | v :: r => match v with
    | .int x t => match intsOf r with
      | some l => some (.int x t :: l)
      | none => none
    | _ => none

/-- an object that is surely an own one -/
noncomputable def own2 (T : PT) (a : Addr) : Option Obj := match Nat.blt a V.n1 with
  | true => none
  | false => ownO V T a
noncomputable def listAt (T : PT) (a : Addr) : Option (Array Value) := match own2 V T a with
  | some ⟨.type t, _, .seq items _, _⟩ => match idIs cList t with
    | true => some items
    | false => none
  | _ => none
noncomputable def iterAt (T : PT) (I : Addr) : Option Addr := match own2 V T I with
  | some ⟨.type t, _, .fields ⟨[.ref l, .int (.ofNat j) tj]⟩, _⟩ => match idIs cListIt t with
    | true => match Nat.beq j 0 with
      | true => match Nat.beq tj 0 with
        | true => some l
        | false => none
      | false => none
    | false => none
  | _ => none
noncomputable def newAt (T : PT) (S : Addr) : Bool := match own2 V T S with
  | some ⟨.type t, none, .bytearray ⟨[]⟩ _, ⟨[]⟩⟩ => idIs cBa t
  | _ => false
noncomputable def rangeAt (T : PT) (I : Addr) : Bool := match own2 V T I with
  | some ⟨.type t, none, .fields ⟨[.int _ t1, .int _ t2, .int _ t3]⟩, ⟨[]⟩⟩ => match idIs cRangeIt t with
    | true => match Nat.beq t1 0 with
      | true => match Nat.beq t2 0 with
        | true => Nat.beq t3 0
        | false => false
      | false => false
    | false => false
  | _ => false

noncomputable def loopQ (I S : Addr) (hd : Option Value) (plain : Go R) (ret : Result → Go R) : Go R := fun T m i b n => match hd with
  | none => match newAt V T S with
    | true => match iterAt V T I with
      | some l => match listAt V T l with
        | some items => match intsOf items.toList with
          | some xs => match Nat.ble xs.length 1000 with
            | true => ret (.ok (.ret (.bytes (bytesOfInts xs) (Nat.add V.t0 i)))) ((T.del DP (Nat.sub I V.n1)).del DP (Nat.sub S V.n1)) (Nat.add m 2) (Nat.succ i) b (.bytes (xs.map intPart) :: n)
            | false => bad 60 0
          | none => bad 61 0
        | none => bad 62 0
      | none => plain T m i b n
    | false => plain T m i b n
  | some _ => plain T m i b n
noncomputable def lneQ (a d : Addr) (plain : Go R) (ret : Result → Go R) : Go R := fun T m i b n => match listAt V T a with
  | some xs => match listAt V T d with
    | some ys => match intsOf xs.toList with
      | some xs => match intsOf ys.toList with
        | some ys => match b with
          | o :: b' => match o with
            | .b o => ret (.ok (.ret (.bool o))) T m i b' (.lists (xs.map intPart) (ys.map intPart) o :: n)
            | .i _ => bad 59 0
          | [] => bad 50 0
        | none => plain T m i b n
      | none => plain T m i b n
    | none => plain T m i b n
  | none => plain T m i b n
noncomputable def compQ (I : Addr) (plain : Go R) (go : Go R) : Go R := fun T m i b n => match rangeAt V T I with
  | true => go T m i b n
  | false => plain T m i b n

noncomputable def stepQ (run : RunTy R) : RunTy R := fun c below hd ret p => match kindOf c with
  | .plain => walkQ bad V run (fun c' p => run c' below hd ret p) c below hd ret (den c) p
  | .norm => walkQ bad V run (fun c' p => run c' below hd (normB bad ret) p) c below hd (normB bad ret) (den c) p
  | .arith => walkQ bad V run (fun c' p => run c' below hd (normI bad ret) p) c below hd (normI bad ret) (den c) p
  | .pack k => fun T m i b n => ret (.ok (.ret (.bytes #[k.toNat.toUInt8] (Nat.add V.t0 i)))) T m (Nat.succ i) b (.bytes [k] :: n)
  | .loop I S => loopQ bad V I S hd (walkQ bad V run (fun c' p => run c' below hd ret p) c below hd ret (den c) p) ret
  | .lne a d => lneQ bad V a d (walkQ bad V run (fun c' p => run c' below hd ret p) c below hd ret (den c) p) ret
  | .comp I c' => compQ V I (walkQ bad V run (fun c' p => run c' below hd ret p) c below hd ret (den c) p) (run c' below hd ret p)
noncomputable def runQ (n : Nat) : RunTy R :=
  @Nat.rec (fun _ => RunTy R) (fun _ _ _ _ _ _ _ _ _ _ => bad 99 0) (fun _ run => stepQ bad V run) n
end
end Mine

end
section
open PySem PySem.W PySem.W.X
open PyProof.Rows (IntsAre)
set_option maxRecDepth 100000
namespace Mine

section
variable {V : Cfg} {w : World} {s₀ s : Shared} {T : PT} {m i : Nat}
theorem own2_of {a : Addr} {o : Obj} (D : Rel V s₀ T m i s) (e : own2 V T a = some o) : V.n1 ≤ a ∧ a - V.n1 < 4096 ∧ s.heap.get? a = some o := by
  unfold own2 at e
  split at e
  · cases e
  · rename_i q
    have := own_of D (X.blt_false q) e
    exact ⟨X.blt_false q, this.1, this.2.2⟩
theorem intsOf_some : ∀ {l xs : List Value}, intsOf l = some xs → xs = l ∧ ∀ v ∈ l, ∃ x t, v = .int x t
  | [], xs, e => by cases e; exact ⟨rfl, fun _ h => nomatch h⟩
  | v :: r, xs, e => by
    unfold intsOf at e
    split at e
    · rename_i x t
      split at e
      · rename_i l q
        cases e
        obtain ⟨h1, h2⟩ := intsOf_some q
        subst h1
        exact ⟨rfl, fun u hu => by
          rcases List.mem_cons.mp hu with rfl | hu
          · exact ⟨_, _, rfl⟩
          · exact h2 u hu⟩
      · cases e
    · cases e
theorem listAt_of {a : Addr} {items : Array Value} (D : Rel V s₀ T m i s) (e : listAt V T a = some items) :
    ∃ dd ep sl, s.heap.get? a = some { cls := .type "list", dict := dd, data := .seq items ep, slots := sl } := by
  unfold listAt at e
  split at e
  · rename_i t dd its ep sl q
    split at e
    · rename_i q2
      cases e
      have ht := idIs_eq code_list q2
      subst ht
      exact ⟨dd, ep, sl, (own2_of D q).2.2⟩
    · cases e
  · cases e
theorem iterAt_of {I l : Addr} (D : Rel V s₀ T m i s) (e : iterAt V T I = some l) : V.n1 ≤ I ∧ I - V.n1 < 4096 ∧ s.heap.IsListIter I l 0 := by
  unfold iterAt at e
  split at e
  · rename_i t dd l' j tj sl q
    split at e
    · rename_i q2
      split at e
      · rename_i q3
        split at e
        · rename_i q4
          cases e
          have ht := idIs_eq code_listIt q2
          have hj := Nat.eq_of_beq_eq_true q3
          have htj := Nat.eq_of_beq_eq_true q4
          subst ht hj htj
          obtain ⟨a1, a2, a3⟩ := own2_of D q
          exact ⟨a1, a2, _, a3, rfl, rfl⟩
        · cases e
      · cases e
    · cases e
  · cases e
theorem newAt_of {S : Addr} (D : Rel V s₀ T m i s) (e : newAt V T S = true) : V.n1 ≤ S ∧ S - V.n1 < 4096 ∧ ∃ ex, s.heap.get? S = some { cls := .type "bytearray", data := .bytearray #[] ex } := by
  unfold newAt at e
  split at e
  · rename_i t ex q
    have ht := idIs_eq code_ba e
    subst ht
    obtain ⟨a1, a2, a3⟩ := own2_of D q
    exact ⟨a1, a2, ex, a3⟩
  · cases e
theorem rangeAt_of {I : Addr} (D : Rel V s₀ T m i s) (e : rangeAt V T I = true) : ∃ x left step, IsRangeIter s.heap I x left step := by
  unfold rangeAt at e
  split at e
  · rename_i t x t1 left t2 step t3 q
    split at e
    · rename_i q2
      split at e
      · rename_i q3
        split at e
        · rename_i q4
          have ht := idIs_eq code_rangeIt q2
          have h1 := Nat.eq_of_beq_eq_true q3
          have h2 := Nat.eq_of_beq_eq_true q4
          have h3 := Nat.eq_of_beq_eq_true e
          subst ht h1 h2 h3
          exact ⟨x, left, step, (own2_of D q).2.2⟩
        · cases e
      · cases e
    · cases e
  · cases e
theorem Rel.two (B : Base V w s₀) (D : Rel V s₀ T m i s) {I S : Addr} {h' : Heap} (hI : V.n1 ≤ I) (hI' : I - V.n1 < 4096) (hS : V.n1 ≤ S) (hS' : S - V.n1 < 4096) (hsz : h'.objs.size = s.heap.objs.size + 2)
    (hk : ∀ b o, b ≠ I → b ≠ S → s.heap.get? b = some o → h'.get? b = some o) :
    Rel V s₀ ((T.del DP (I - V.n1)).del DP (S - V.n1)) (m + 2) (i + 1) { s with heap := h', toks := s.toks + 1 } := by
  refine ⟨by show h'.objs.size = _; rw [hsz, D.size, Nat.add_assoc], by show s.toks + 1 = _; rw [D.toks, Nat.add_assoc], D.gens, D.os, fun b o e => ?_, fun j o hj e => ?_⟩
  · have hb := B.lt e
    exact hk b o (Nat.ne_of_lt (Nat.lt_of_lt_of_le hb hI)) (Nat.ne_of_lt (Nat.lt_of_lt_of_le hb hS)) (D.old _ _ e)
  · rw [PT.get_del _ _ _ _ hS' hj] at e
    split at e
    · cases e
    · rename_i q1
      rw [PT.get_del _ _ _ _ hI' hj] at e
      split at e
      · cases e
      · rename_i q2
        exact hk _ o (fun z => q2 (by rw [← z]; exact (Nat.add_sub_cancel_left ..).symm)) (fun z => q1 (by rw [← z]; exact (Nat.add_sub_cancel_left ..).symm)) (D.own _ _ hj e)
end

/-- where the tree of compLoop begins does not matter: it sets its place first -/
theorem comp_pos {M : Model} (hM : M.den = denote table) {Γ : PySem.Ctx} {R : Result → Shared → Prop} {p p' : Pos} {s : Shared} {elt target iter : Expr} {scope : Scope} {pos : Pos} {it acc : Value} {env : Env}
    (hc : Γ.code = .compLoop (.ListComp elt [⟨target, iter, [], 0⟩] scope pos) 0 it acc env) (h : wpCode M Γ R p s) : wpCode M Γ R p' s := by
  rw [wpCode_iff_wp, hM, hc] at h ⊢
  exact h
end Mine

end
section
open PySem PySem.W PySem.W.X
open PyProof.Rows (IntsAre)
set_option maxRecDepth 100000
namespace Mine

section
variable {R : Type} {Good : R → Prop} {bad : Nat → Nat → R} (hbad : ∀ a b, ¬ Good (bad a b)) {V : Cfg} {w : World} {s₀ : Shared} (B : Base V w s₀)

theorem model_den (prog : Program) (w : World) : (model prog w).den = den := den_eq
include hbad in
theorem norm_says {ret : Result → Go R} {Post : Result → Shared → Prop} (H : RetSays Good V s₀ Post ret) : RetSays Good V s₀ Post (normB bad ret) := by
  intro r T m i b n G
  unfold normB at G
  split at G
  · rename_i f
    split at G
    · rename_i v
      split at G
      · split at G
        · have := H _ _ _ _ _ _ G
          refine ⟨this.1.tail, fun s D => ?_⟩
          have e := this.1.head
          simp only [NoteOk] at e
          subst e
          exact this.2 s D
        · exact absurd G (hbad _ _)
      · exact absurd G (hbad _ _)
    · exact absurd G (hbad _ _)
  · exact absurd G (hbad _ _)
include hbad in
theorem arith_says {ret : Result → Go R} {Post : Result → Shared → Prop} (H : RetSays Good V s₀ Post ret) : RetSays Good V s₀ Post (normI bad ret) := by
  intro r T m i b n G
  unfold normI at G
  split at G
  · split at G
    · split at G
      · split at G
        · split at G
          · have := H _ _ _ _ _ _ G
            refine ⟨this.1.tail, fun s D => ?_⟩
            have e := this.1.head
            simp only [NoteOk] at e
            subst e
            exact this.2 s D
          · exact absurd G (hbad _ _)
        · exact absurd G (hbad _ _)
      · exact absurd G (hbad _ _)
    · exact absurd G (hbad _ _)
  · exact absurd G (hbad _ _)
include hbad B in
theorem plain_says {run : RunTy R} (HR : RunSays Good V w s₀ run) {c : Code} {below : List (Code × Pos)} {hd : Option Value} {ret : Result → Go R} {p : Pos} {Post : Result → Shared → Prop} (H : RetSays Good V s₀ Post ret) :
    CodeSays Good V w s₀ c below hd p Post (walkQ bad V run (fun c' p => run c' below hd ret p) c below hd ret (den c) p) := by
  intro T m i b n G
  have := walk_says hbad B HR H (fun c' p => HR c' below hd ret p Post H) (den c) p T m i b n G
  refine ⟨this.1, fun s D Γ h1 h2 h3 => ?_⟩
  rw [wpCode_iff_wp, model_den, h1]
  exact this.2 s D Γ h1 h2 h3

theorem kind_pack {c : Code} {k : Int} (e : kindOf c = .pack k) : ∃ tf tk, c = packArgs tf tk k := by
  unfold kindOf at e
  split at e
  · rename_i id pos kw
    split at e
    · split at e
      · rename_i x rest
        split at e
        · split at e
          · cases e
          · split at e <;> cases e
        · split at e <;> cases e
        · rename_i f tf
          split at e
          · rename_i q
            split at e
            · rename_i k' tk
              split at e
              · rename_i ch
                split at e
                · rename_i q2
                  cases e
                  have h1 := idIs_eq code_pack q
                  have h2 := Nat.eq_of_beq_eq_true q2
                  subst h1 h2
                  exact ⟨_, _, rfl⟩
                · cases e
              · cases e
            · cases e
          · cases e
        · split at e
          · split at e
            · split at e <;> cases e
            · cases e
          · cases e
        · split at e
          · split at e <;> cases e
          · cases e
        · cases e
      · cases e
    · cases e
  · split at e
    · split at e
      · split at e
        · split at e
          · split at e
            · split at e
              · split at e <;> cases e
              · cases e
            · cases e
          · cases e
        · cases e
      · cases e
    · cases e
  · cases e
theorem kind_loop {c : Code} {I S : Addr} (e : kindOf c = .loop I S) : c = .builtin "bytes.__new__.loop" ⟨[.type "bytes", .ref I, .ref S], []⟩ := by
  unfold kindOf at e
  split at e
  · split at e
    · split at e
      · split at e
        · split at e
          · cases e
          · split at e <;> cases e
        · split at e <;> cases e
        · split at e
          · split at e
            · split at e
              · split at e <;> cases e
              · cases e
            · cases e
          · cases e
        · rename_i t
          split at e
          · rename_i q
            split at e
            · rename_i I' S'
              split at e
              · rename_i q2
                cases e
                have h1 := idIs_eq code_loop q
                have h2 := idIs_eq code_bytes q2
                subst h1 h2
                rfl
              · cases e
            · cases e
          · cases e
        · split at e
          · split at e <;> cases e
          · cases e
        · cases e
      · cases e
    · cases e
  · split at e
    · split at e
      · split at e
        · split at e
          · split at e
            · split at e
              · split at e <;> cases e
              · cases e
            · cases e
          · cases e
        · cases e
      · cases e
    · cases e
  · cases e
theorem kind_lne {c : Code} {a d : Addr} (e : kindOf c = .lne a d) : c = .builtin "list.__ne__" ⟨[.ref a, .ref d], []⟩ := by
  unfold kindOf at e
  split at e
  · split at e
    · split at e
      · split at e
        · split at e
          · cases e
          · split at e <;> cases e
        · split at e <;> cases e
        · split at e
          · split at e
            · split at e
              · split at e <;> cases e
              · cases e
            · cases e
          · cases e
        · split at e
          · split at e
            · split at e <;> cases e
            · cases e
          · cases e
        · split at e
          · rename_i q
            split at e
            · cases e
              have h1 := idIs_eq code_lne q
              subst h1
              rfl
            · cases e
          · cases e
        · cases e
      · cases e
    · cases e
  · split at e
    · split at e
      · split at e
        · split at e
          · split at e
            · split at e
              · split at e <;> cases e
              · cases e
            · cases e
          · cases e
        · cases e
      · cases e
    · cases e
  · cases e
theorem kind_comp {c c' : Code} {I : Addr} (e : kindOf c = .comp I c') : ∃ elt target iter scope pos acc env,
    c = .compStart (.ListComp elt [⟨target, iter, [], 0⟩] scope pos) 0 (.ref I) acc env ∧ c' = .compLoop (.ListComp elt [⟨target, iter, [], 0⟩] scope pos) 0 (.ref I) acc env := by
  unfold kindOf at e
  split at e
  · split at e
    · split at e
      · split at e
        · split at e
          · cases e
          · split at e <;> cases e
        · split at e <;> cases e
        · split at e
          · split at e
            · split at e
              · split at e <;> cases e
              · cases e
            · cases e
          · cases e
        · split at e
          · split at e
            · split at e <;> cases e
            · cases e
          · cases e
        · split at e
          · split at e <;> cases e
          · cases e
        · cases e
      · cases e
    · cases e
  · split at e
    · split at e
      · split at e
        · split at e
          · split at e
            · rename_i n
              split at e
              · rename_i q
                split at e
                · cases e
                  have h1 := Nat.eq_of_beq_eq_true q
                  subst h1
                  exact ⟨_, _, _, _, _, _, _, rfl, rfl⟩
                · cases e
              · cases e
            · cases e
          · cases e
        · cases e
      · cases e
    · cases e
  · cases e

include hbad B in
theorem step_says {run : RunTy R} (HR : RunSays Good V w s₀ run) : RunSays Good V w s₀ (stepQ bad V run) := by
  intro c below hd ret p Post H
  unfold stepQ
  have HP := plain_says hbad B HR (c := c) (below := below) (hd := hd) (p := p) H
  split
  · exact HP
  · -- a bool by the oracle
    have HN := norm_says hbad H
    intro T m i b n G
    have := walk_says hbad B HR HN (fun c' p => HR c' below hd _ p Post HN) (den c) p T m i b n G
    refine ⟨this.1, fun s D Γ h1 h2 h3 => ?_⟩
    rw [wpCode_iff_wp, model_den, h1]
    exact this.2 s D Γ h1 h2 h3
  · -- an int in the oracle's form
    have HN := arith_says hbad H
    intro T m i b n G
    have := walk_says hbad B HR HN (fun c' p => HR c' below hd _ p Post HN) (den c) p T m i b n G
    refine ⟨this.1, fun s D Γ h1 h2 h3 => ?_⟩
    rw [wpCode_iff_wp, model_den, h1]
    exact this.2 s D Γ h1 h2 h3
  · -- pack
    rename_i k q
    obtain ⟨tf, tk, rfl⟩ := kind_pack q
    intro T m i b n G
    have := H _ _ _ _ _ _ G
    refine ⟨this.1.tail, fun s D Γ h1 h2 h3 => ?_⟩
    obtain ⟨h0, h9⟩ := this.1.head k (.head _)
    rw [wpCode_iff_wp, model_den, h1, pack_tree h0 h9]
    have hz := this.2 _ D.fresh
    show Post (.ok (.ret (.bytes #[k.toNat.toUInt8] s.toks))) _
    rw [D.toks]
    rw [D.toks] at hz
    exact hz
  · -- the loop of bytes(list)
    rename_i I S q
    have hc := kind_loop q
    subst hc
    intro T m i b n G
    unfold loopQ at G
    split at G
    · split at G
      · rename_i qn
        split at G
        · rename_i l qi
          split at G
          · rename_i items ql
            split at G
            · rename_i xs qx
              split at G
              · rename_i qz
                have := H _ _ _ _ _ _ G
                refine ⟨this.1.tail, fun s D Γ h1 h2 h3 => ?_⟩
                obtain ⟨hS, hS', ex, gS⟩ := newAt_of D qn
                obtain ⟨hI, hI', gI⟩ := iterAt_of D qi
                obtain ⟨dd, ep, sl, gl⟩ := listAt_of D ql
                obtain ⟨hxs, hxi⟩ := intsOf_some qx
                subst hxs
                have hok : ∀ v ∈ items.toList, ∃ x t, v = .int x t ∧ 0 ≤ x ∧ x < 256 := fun v hv => by
                  obtain ⟨x, t, rfl⟩ := hxi v hv
                  have := this.1.head x (List.mem_map.mpr ⟨_, hv, rfl⟩)
                  exact ⟨x, t, rfl, this⟩
                obtain ⟨oI, g1, g2, _⟩ := id gI
                have n1 : I ≠ S := by rintro rfl; rw [gS] at g1; cases g1; exact absurd g2 (by simp)
                have n2 : l ≠ I := by rintro rfl; rw [gl] at g1; cases g1; exact absurd g2 (by simp)
                have n3 : l ≠ S := by rintro rfl; rw [gl] at gS; exact absurd (congrArg (Option.map Obj.cls) gS) (by simp)
                refine wpCode_of_any h1 fun A hA => loop_any (hA.trans h2) n1 n2 n3 items.toList 0 #[] ex s rfl hok ?_ ⟨_, gl, rfl, _, rfl⟩ gI gS fun h' hs hk => ?_
                · have := Nat.le_of_ble_eq_true qz
                  show 0 + items.toList.length ≤ sizeLine
                  unfold sizeLine; omega
                · have hz := this.2 _ (D.two B hI hI' hS hS' hs hk)
                  have e : (#[] : Array UInt8) ++ bytesOfInts items.toList = bytesOfInts items.toList := by simp
                  rw [e, D.toks]
                  rw [D.toks] at hz
                  exact hz
              · exact absurd G (hbad _ _)
            · exact absurd G (hbad _ _)
          · exact absurd G (hbad _ _)
        · exact HP T m i b n G
      · exact HP T m i b n G
    · exact HP T m i b n G
  · -- two lists of ints by !=
    rename_i a d q
    have hc := kind_lne q
    subst hc
    intro T m i b n G
    unfold lneQ at G
    split at G
    · rename_i xs qa
      split at G
      · rename_i ys qd
        split at G
        · rename_i xs' qx
          split at G
          · rename_i ys' qy
            split at G
            · split at G
              · rename_i o
                have := H _ _ _ _ _ _ G
                refine ⟨this.1.tail, fun s D Γ h1 h2 h3 => ?_⟩
                obtain ⟨d1, e1, s1, g1⟩ := listAt_of D qa
                obtain ⟨d2, e2, s2, g2⟩ := listAt_of D qd
                obtain ⟨hx, hx'⟩ := intsOf_some qx
                obtain ⟨hy, hy'⟩ := intsOf_some qy
                subst hx hy
                have ho : o = !decide (xs.toList.map intPart = ys.toList.map intPart) := this.1.head
                have hz := this.2 s D
                rw [ho] at hz
                exact wpCode_of_any h1 fun A hA => lne_any (xs := xs.toList) (ys := ys.toList) (by rw [g1]) (by rw [g2]) hx' hy' hz
              · exact absurd G (hbad _ _)
            · exact absurd G (hbad _ _)
          · exact HP T m i b n G
        · exact HP T m i b n G
      · exact HP T m i b n G
    · exact HP T m i b n G
  · -- a list comprehension over a range
    rename_i I c' q
    obtain ⟨elt, target, iter, scope, pos, acc, env, rfl, rfl⟩ := kind_comp q
    intro T m i b n G
    unfold compQ at G
    split at G
    · rename_i qr
      have := HR _ below hd ret p Post H T m i b n G
      refine ⟨this.1, fun s D Γ h1 h2 h3 => ?_⟩
      obtain ⟨x, left, step, hit⟩ := rangeAt_of D qr
      have hz : ∀ p', wpCode (model V.prog w) (Γ.goto (.compLoop (.ListComp elt [⟨target, iter, [], 0⟩] scope pos) 0 (.ref I) acc env)) Post p' s := fun p' => comp_pos rfl rfl (this.2 s D _ rfl h2 h3)
      rw [wpCode_iff_wp, h1]
      show Sem.wp _ Γ ((compStart (.ListComp elt [⟨target, iter, [], 0⟩] scope pos) 0 (.ref I) acc env).onRaise (fun x => do noteFrame x env; standAt theWindowsPlace)) _ _ p s
      rw [Sem.wp_onRaise]
      have hi : wpAny (model V.prog w) (aroundOfCtx Γ |>.under Γ.code) (pyIter (.ref I)) (fun it s' => it = .ref I ∧ s' = s) (fun _ _ => False) s := wpAny_pyIter_rangeiter hit ⟨rfl, rfl⟩
      unfold compStart
      show Sem.wp _ Γ (ask >>= _) _ _ p s
      rw [Sem.wp_bind']
      show Sem.wp _ Γ (if w.params.followText "comprehension-iter-twice" = true then _ else _) _ _ p s
      split
      · exact ⟨rfl, hz p⟩
      · have hi' := hi Γ iter.pos (below_of Γ).in
        show Sem.wp _ Γ (pyIter (.ref I) >>= fun it' => again _) _ _ iter.pos s
        rw [Sem.wp_bind']
        refine Sem.wp_mono _ Γ _ (fun it' p' s' h' => ?_) (fun _ _ _ h' => h'.elim) _ _ hi'
        obtain ⟨rfl, rfl⟩ := h'
        exact ⟨rfl, hz p'⟩
    · exact HP T m i b n G

include hbad B in
theorem run_says : ∀ n, RunSays Good V w s₀ (runQ bad V n)
  | 0 => fun _ _ _ _ _ _ _ _ _ _ _ _ G => absurd G (hbad _ _)
  | n + 1 => step_says hbad B (run_says n)
end
end Mine

end
section
open PySem PySem.Spec PySem.Calls PyProof.Rows PySem.W PySem.W.X
set_option maxRecDepth 100000
namespace Mine

/-- the one context of the claim's call: nothing stands below it -/
def callerΓ : PySem.Ctx := ⟨.builtin "claim.caller" {}, none, none, [], none⟩

theorem ends_real {prog : Program} {w : World} {t : Sem PySem.Fin} {s : Shared} {R : Result → Shared → Prop} (hz : s.asleep)
    (h : Sem.wp (model prog w) callerΓ t (fun fin _ s' => ∃ f, fin = .done f ∧ (R (.ok f) s' ∧ leftWithCleanup s'.gens = false)) (fun e _ s' => R (.error e) s' ∧ leftWithCleanup s'.gens = false) default s) :
    ∃ n r s' s'', runN (denote table) prog w n s ⟨t, .builtin "claim.caller" {}, default, []⟩ = .halted (outcomeOf r) s' ∧
      schedN (denote table) prog w n (.single s ⟨t, .builtin "claim.caller" {}, default, []⟩) = .halted (outcomeOf r) s' ∧ s'.forget = s''.forget ∧ R r s'' := by
  have h2 : Sem.wp (model prog w) callerΓ t (Sem.finPost (model prog w) callerΓ fun r s' => R r s' ∧ leftWithCleanup s'.gens = false) (fun e _ s' => R (.error e) s' ∧ leftWithCleanup s'.gens = false) default s := by
    refine Sem.wp_mono _ _ _ (fun fin p' s' h' => ?_) (fun _ _ _ h' => h') _ _ h
    obtain ⟨f, rfl, hf⟩ := h'
    exact hf
  obtain ⟨n, r, s₁, s₂, hs, hn, hf, hR⟩ := wp_halts_full (M := model prog w) (R := R) hz h2
  exact ⟨n, r, s₂, s₁, hn, hs, hf, hR⟩

theorem call_real {c : ClaimW} {tree : List Value → Sem PySem.Fin} {w : World} {s : Shared} {free : Addr → Prop} {gens : Prop} {kept : Heap → Prop} (hz : s.asleep) (hgens : s.gens = #[])
    (spec : ∀ args, c.pre args = true → WData.layableAll args = true → ∀ ord : List DictEntry → List DictEntry, (∀ l, (ord l).Perm l) →
      ∃ vs s₁, layAllW c.records (classAt s.heap) w.params ord args s = some (vs, s₁) ∧
        Sem.wp (model c.prog w) callerΓ (tree vs) (fun fin _ s' => ∃ f, fin = .done f ∧ (c.Ends s args vs s₁ (.ok f) s' ∧ s'.os = s.os ∧ AllBare s'.gens ∧ kept s'.heap))
          (fun e _ s' => c.Ends s args vs s₁ (.error e) s' ∧ s'.os = s.os ∧ AllBare s'.gens ∧ kept s'.heap) default s₁) :
    c.CallFrom (fun vs => ⟨tree vs, .builtin "claim.caller" {}, default, []⟩) w free gens kept s := by
  intro args hpre hlay ord hord
  obtain ⟨vs, s₁, hl, hwp⟩ := spec args hpre hlay ord hord
  have rest := layAllW_rest _ _ _ hl
  have hwp' := Sem.wp_mono (post' := fun fin _ s' => ∃ f, fin = .done f ∧ ((c.Ends s args vs s₁ (.ok f) s' ∧ s'.os = s.os ∧ kept s'.heap) ∧ leftWithCleanup s'.gens = false))
    (exc' := fun e _ s' => (c.Ends s args vs s₁ (.error e) s' ∧ s'.os = s.os ∧ kept s'.heap) ∧ leftWithCleanup s'.gens = false) _ _ _
    (by rintro fin _ s' ⟨f, e, h1, h2, h3, h4⟩; exact ⟨f, e, ⟨h1, h2, h4⟩, leftWithCleanup_false_of_bare h3⟩)
    (by rintro e _ s' ⟨h1, h2, h3, h4⟩; exact ⟨⟨h1, h2, h4⟩, leftWithCleanup_false_of_bare h3⟩) _ _ hwp
  obtain ⟨n, r, s', s'', hrun, hsched, hfo, hcase, hos, hkp⟩ := ends_real (R := fun r s' => c.Ends s args vs s₁ r s' ∧ s'.os = s.os ∧ kept s'.heap) (Shared.asleep_of_life rest.2.2.2 hz) hwp'
  obtain ⟨eh, _, _, eo, _⟩ := Shared.forget_eq hfo
  have hcase := hcase.congr eh
  have hkp : kept s'.heap := by first | exact eh ▸ hkp | (rw [eh] at hkp; exact hkp) | (rw [← eh] at hkp; exact hkp)
  rw [← eo] at hos
  have hlife : s'.heap.life = s.heap.life := (runN_life _ _ _ hrun).trans rest.2.2.2
  refine ⟨vs, s₁, hl, n, _, s', hsched, ?_, (fun _ i x hx => by rw [hgens] at hx; simp at hx), hkp, by rw [hlife], Shared.rest_eq hos⟩
  rcases hcase with ⟨v, rfl, d1, d2, d3, d4, d5⟩ | ⟨e, ob, cls, rfl, d1, d2, d3, d4, d5⟩
  · exact .inl ⟨v, rfl, d1, d2, d3, fun b o y _ => d4 b o y, d5⟩
  · exact .inr ⟨e, ob, cls, rfl, d1, d2, d3, d4, fun b o y _ => d5 b o y⟩

/-- what is left when the head is done: the call's run in the one real context -/
abbrev WalkR (q : Program) (loose : List Str) (XP : (Str → Option Value) → Heap → Prop) {α : Type} (Yf : Shared → α) (Ya : World → α) (r : RowW) (d : DefRec) (kwd : List (Str × PySem.Expr)) : Prop :=
  ∀ (w : World) (s₀ s₁ : Shared) (mg mb : Str → Option Value), Ground q loose r.records XP w s₀ mg mb s₁.heap → Yf s₀ = Ya w → ∀ (a : Addr) (o : Obj) (pm cd doc dV kV : Value), s₁.heap.get? a = some o →
    o.data = .func { docDef d.name d.params d.body d.scope pm cd doc with defaults := dV, kwdefaults := kV } → s₁.heap.CodeRec cd d.name → Dflts mg s₁.heap d.params kwd dV kV → mg d.name = some (.ref a) → s₁.gens = #[] →
    ∀ (args : List WData) (vals : List Value) (as : List Addr), Laid r.records w s₀ s₁ args vals as → r.claim.pre args = true → WData.layableAll args = true → ReadsAllW r.records (classAt s₀.heap) s₁.heap vals args as →
      ∀ p, Sem.wp (model r.prog w) callerΓ (PySem.call (.ref a) vals) (fun v _ s' => GoodWG r.claim (classAt s₀.heap) (ExcName.means s₀.heap) args s₁ (.ok (.ret v)) s')
        (fun e _ s' => GoodWG r.claim (classAt s₀.heap) (ExcName.means s₀.heap) args s₁ (.error e) s') p s₁

theorem tree_real {prog : Program} {w : World} {name : Str} {s : Shared} {mg : Str → Option Value} {f : Value} {vs : List Value} {Q : PySem.Fin → Shared → Prop} {E : Value → Shared → Prop} (hg : s.heap.Ns mainGlobals mg) (hf : mg name = some f)
    (h : ∀ p, Sem.wp (model prog w) callerΓ (PySem.call f vs) (fun v _ s' => Q (.done (.ret v)) s') (fun e _ s' => E e s') p s) (p : Pos) :
    Sem.wp (model prog w) callerΓ (do match ← nsGet mainNs name with
      | some f => do ret (← PySem.call f vs)
      | none => unsupported "claim.caller:no-such-global") (fun fin _ s' => Q fin s') (fun e _ s' => E e s') p s := by
  rw [Sem.wp_bind']
  have hn : wpAny (model prog w) callerA (nsGet mainNs name) (fun o s' => o = mg name ∧ s' = s) (fun _ _ => False) s := wpAny_nsGet hg ⟨rfl, rfl⟩
  refine Sem.wp_mono _ _ _ (fun o p' s' h' => ?_) (fun _ _ _ h' => h'.elim) _ _ (hn callerΓ p caller_in)
  obtain ⟨rfl, rfl⟩ := h'
  rw [hf]
  show Sem.wp _ _ (PySem.call f vs >>= fun v => ret v) _ _ p' s'
  rw [Sem.wp_bind']
  exact Sem.wp_mono _ _ _ (fun v p'' s'' h'' => h'') (fun _ _ _ h'' => h'') _ _ (h p')

theorem open_real {r : RowW} {q : Program} {loose defs kps : List Str} {writes : Bool} {Xt : Shared → Bool} {XP : (Str → Option Value) → Heap → Prop} {α : Type} {Yf : Shared → α} {Ya : World → α} {N : Nat} {d : DefRec} {kwd : List (Str × PySem.Expr)}
    (left : LeftO r.prog q loose Xt Yf Ya N) (hX : ∀ s, Xt s = true → XP (s.heap.nsMap mainGlobals) s.heap) (hXk : ∀ mg h h', XP mg h → (∀ b o, h.get? b = some o → h'.get? b = some o) → XP mg h')
    (hdef : defOf q r.name = some (d, kwd)) (hRf : ∀ s, Xt s = true → RecFacts r.records s.heap) (hwr : (!writes || r.records.isEmpty) = true) (ok : (chainsOk q && opensWell r.prog && (frees r && r.within.isEmpty)) = true) (hb : r.prog.bare) (hw : r.promised)
    (pin : ∀ w s, s.heap.isNs mainGlobals = true → Ground q loose [] XP w s (s.heap.nsMap mainGlobals) (s.heap.nsMap builtinsNs) s.heap → ∀ n ∈ defs, isTheDefsW r.prog s.heap n)
    (walk : WalkR q loose XP Yf Ya r d kwd) :
    r.claim.HoldsOpenBy (fun vs => ⟨do match ← nsGet mainNs r.name with
      | some f => do ret (← PySem.call f vs)
      | none => unsupported "claim.caller:no-such-global", .builtin "claim.caller" {}, default, []⟩) defs kps writes := by
  obtain ⟨ok1, ok2⟩ := Bool.and_eq_true_iff.mp ok
  obtain ⟨hch, hop⟩ := Bool.and_eq_true_iff.mp ok1
  obtain ⟨hfr, hwin⟩ := Bool.and_eq_true_iff.mp ok2
  obtain ⟨hsame, hu, ha, hap, hm⟩ := frees_parts hfr
  refine ⟨⟨hb, hop, by show r.makers.map _ = []; rw [hm]; rfl⟩, hw.witness, fun w => ⟨(left.behind hX hch w).1, fun s' hs' => ?_⟩⟩
  obtain ⟨s₀, hf, hg0, s, hT, hz, hgens, hg, G', y⟩ := (left.behind (XP := fun mg h => XP mg h ∧ RecFacts r.records h) (fun s hs => ⟨hX s hs, hRf s hs⟩) hch w).2 s' hs'
  have RF := G'.X.2
  have G0 : Ground q loose [] XP w s (s.heap.nsMap mainGlobals) (s.heap.nsMap builtinsNs) s.heap := ⟨G'.T, G'.B, G'.D, G'.TE, G'.TD, G'.W, G'.X.1, G'.cls, G'.has, G'.apart, G'.once, G'.K⟩
  refine ⟨s₀, hf, hg0, s, hT, pin w s hg G0, RF.1, RF.2.1, ?_⟩
  have hgens : s.gens = #[] := Array.eq_empty_of_size_eq_zero (beq_iff_eq.mp hgens)
  have G : Ground q loose r.records XP w s _ _ s.heap := RF.ground G0
  refine call_real (c := r.claim) hz hgens fun args hpre hlay ord hord => ?_
  obtain ⟨⟨vs, s₁⟩, hlaid⟩ := Option.isSome_iff_exists.mp (layAllW_isSome (P := w.params) (ord := ord) G.has args r.args s (pre_splitW hpre).1)
  have keeps := layAllW_keeps _ _ _ hlaid
  have rest := layAllW_rest _ _ _ hlaid
  obtain ⟨as, hrd, hin, hold⟩ := reads_layAllW hord _ _ _ hlaid hlay s₁.heap (fun _ _ e => e)
  have L : Laid r.records w s s₁ args vs as := ⟨⟨ord, hord, hlaid⟩, hrd, hin, hold, keeps, rest.1.trans hgens, rest.2.2.1⟩
  have G₁ := G.keeps hXk keeps
  obtain ⟨a, o, pm, cd, doc, dV, kV, h1, h2, h3, h4, h5⟩ := G₁.fn hdef
  have hi := ident_freeW hu ha hap
  have hwi : r.claim.within = [] := List.isEmpty_iff.mp hwin
  refine ⟨vs, s₁, hlaid, tree_real (Q := fun fin s' => ∃ f, fin = .done f ∧ _) (E := fun e s' => _) G₁.T.g h1 (fun p => ?_) default⟩
  refine Sem.wp_mono _ _ _ (fun v _ s' g => ⟨_, rfl, ?_⟩) (fun e _ s' g => ?_) _ _ (walk w s s₁ _ _ G₁ y a o pm cd doc dV kV h2 h3 h4 h5 (defOf_name hdef ▸ h1) L.gens args vs as L hpre hlay L.reads p)
  · have z := g.laid (c := r.claim) hsame hwi hi L
    exact ⟨z.1, z.2.1, z.2.2, fun q => ⟨namesKept_of hT hg kps keeps g.2.1.old, noTable hwr q⟩⟩
  · have z := g.laid (c := r.claim) hsame hwi hi L
    exact ⟨z.1, z.2.1, z.2.2, fun q => ⟨namesKept_of hT hg kps keeps g.2.1.old, noTable hwr q⟩⟩

theorem PySem.W.holds_openX {r : OpenRow} {q : Program} {loose : List Str} {Xt : Shared → Bool} {XP : (Str → Option Value) → Heap → Prop} {α : Type} {Yf : Shared → α} {Ya : World → α} {d : DefRec} {kwd : List (Str × PySem.Expr)} {N : Nat}
    (left : LeftO r.prog q loose Xt Yf Ya N)
    (hX : ∀ s, Xt s = true → XP (s.heap.nsMap mainGlobals) s.heap) (hXk : ∀ mg h h', XP mg h → (∀ b o, h.get? b = some o → h'.get? b = some o) → XP mg h')
    (hdef : defOf q r.name = some (d, kwd)) (hp : r.prog.theDef r.name = some (d.params, d.body, d.scope)) (hk : kwWritten? d.params.kwonlyargs d.params.kw_defaults = some kwd) (hRf : ∀ s, Xt s = true → RecFacts r.records s.heap) (hwr : (!r.writes || r.records.isEmpty) = true)
    {H : Prop} (k1 : r.wellSaid = true ∧ H) (ok : (chainsOk q && opensWell r.prog && (frees r.toRowW && r.within.isEmpty)) = true) (hb : r.prog.bare) (hw : r.toRowW.promised)
    (walk : H → WalkR q loose XP Yf Ya r.toRowW d kwd) : r.Holds := by
  have walk := walk k1.2
  refine ⟨k1.1, hw, open_real (r := r.toRowW) left hX hXk hdef hRf hwr ok hb hw (fun w s hg G n hn => ?_) walk⟩
  obtain rfl : n = r.name := by split at hn <;> simp_all
  exact pinned_of_view hg G hdef hp hk
end Mine

end
section
open PySem PySem.W PySem.W.X PyProof.Rows
set_option Elab.async false
namespace Mine
set_option maxRecDepth 100000
theorem args_of {w : World} {h : Heap} {cl : Str → Option Addr} {args : List WData} {vals : List Value} {as : List Addr} (hpre : PySem.Challenge.rw_fb5007_01.row.toRowW.claim.pre args = true) (hlay : WData.layableAll args = true)
    (hrd : ReadsAllW PySem.Challenge.rw_fb5007_01.row.toRowW.records cl h vals args as) (hwl : WellAll w.params h vals args) (hlo : ∀ a ∈ as, (a == sysModules) = false) :
    ∃ ns vs a, args = [ofPy (PyData.list (ns.map PyData.int))] ∧ vals = [.ref a] ∧ IntsAre vs ns ∧ ns.length ≤ 63 ∧ h.IsList a vs.toArray := by
  have hsh := (pre_splitW hpre).1
  have hcond := (pre_splitW hpre).2
  wrow_hasAll hsh hlay
  wrow_readAll hrd hwl hlo
  clear hpre
  w_cond hcond
  exact ⟨_, _, _, rfl, rfl, by assumption, by omega, by assumption⟩
theorem obj_of {w : World} {s₀ s₁ : Shared} {ns : List Int} {vs : List Value} {a : Addr} {as : List Addr} (L : Laid PySem.Challenge.rw_fb5007_01.row.toRowW.records w s₀ s₁ [ofPy (PyData.list (ns.map PyData.int))] [.ref a] as) (hL : s₁.heap.IsList a vs.toArray) :
    s₁.heap.get? a = some { cls := .type "list", data := .seq vs.toArray } := script_obj L hL
theorem good_of {w : World} {s₀ s₁ s' : Shared} {args : List WData} {v : Value} (hv : v = .bool true) (hk : ∀ b o, s₁.heap.get? b = some o → s'.heap.get? b = some o) (ho : s'.os = s₁.os) (hg : s'.gens = s₁.gens) (hg1 : s₁.gens = #[]) :
    GoodWG PySem.Challenge.rw_fb5007_01.row.toRowW.claim (classAt s₀.heap) (ExcName.means s₀.heap) args s₁ (.ok (.ret v)) s' := by
  subst hv
  refine ⟨.inl ⟨_, _, [], rfl, fun _ => rfl, ReadsW.bool true, (by first | wrow_post | kernel_rfl), fun _ => ⟨List.nodup_nil, nofun⟩⟩, OldK.of_keep hk, ho, ?_⟩
  rw [hg, hg1]
  intro i hi
  exact absurd hi (by simp)
end Mine

end
section
open PySem PySem.W PySem.W.X PyProof.Rows
set_option Elab.async false
namespace Mine
set_option maxRecDepth 100000 in
set_option maxHeartbeats 0 in
noncomputable def hd0 : { W : Prop // W → PySem.Challenge.rw_fb5007_01.Holds } := by
  apply Subtype.mk
  intro h
  w_on; o_law
  rename_i said
  have h9 := And.intro said h
  z_head; (case hw => w_witness2)
  exact id
end Mine

end
section
open PySem PySem.W PySem.W.X PyProof.Rows
set_option Elab.async false
namespace Mine
set_option maxRecDepth 100000
set_option maxHeartbeats 0
theorem top_kt (P : Params) : KT.of (Mine.hd0.heap_562 P) = Mine.hd0.ktop_1209 P := by kernel_rfl
theorem holds_gen {h h' : Heap} {K : Frag} {t : KT} (e : KT.of K = t) (A : AllIn h K) (k : ∀ b o, h.get? b = some o → h'.get? b = some o) : KT.Holds h' 1 0 t := e ▸ KT.Holds.keeps k (holds_of A)
theorem walk_of (law : ∀ (w : World) (s₁ : Shared) (ns : List Int) (vs : List Value) (t0 : Nat) (_ : KT.Holds s₁.heap 1 0 (Mine.hd0.ktop_1209 w.params)) (_ : s₁.heap.objs.size = 687) (_ : s₁.heap.get? 686 = some { cls := .type "list", data := .seq vs.toArray })
    (_ : PyProof.Rows.IntsAre vs ns) (_ : ns.length ≤ 63) (_ : s₁.toks = t0 + 1) (p : Pos),
    Sem.wp (model PySem.Challenge.pw_fb5007_01 w) callerΓ (PySem.call (.ref 685) [.ref 686]) (fun v _ s' => v = .bool true ∧ ((∀ b o, s₁.heap.get? b = some o → s'.heap.get? b = some o) ∧ s'.os = s₁.os ∧ s'.gens = s₁.gens)) (fun _ _ _ => False) p s₁) : hd0.1 := by
  intro w s₀ s₁ mg mb G y a o pm cd doc dV kV ho hd hcd hD hmg hg args vals as L hpre hlay hrd p
  clear ho hd hcd hD
  have yy := z_facts (K := Mine.hd0.heap_562) (fun P => by kernel_rfl) y
  clear y
  have ZA := yy.1
  have ZI := yy.2.1
  have ZN := yy.2.2.1
  have ZT := yy.2.2.2
  clear yy
  have hlow : sysModules < s₀.heap.objs.size := by rw [ZN]; decide
  obtain ⟨ns, vs, b, rfl, rfl, hi, h63, hL⟩ := args_of hpre hlay hrd L.well (L.low hlow)
  clear hpre hlay hrd
  have KX : Frag.In (Mine.hd0.heap_562 w.params) s₁.heap := InK.keeps w s₀.heap s₁.heap ZI L.keeps
  have T := G.T
  have hobj := obj_of L hL
  obtain ⟨hat, hsz⟩ := script_at L
  have htk := script_toks L ZT
  rw [ZN] at hat hsz
  subst hat
  clear ZI G hL ZN ZT
  x_fa T KX hmg
  obtain ⟨t0, ht0⟩ : ∃ t0, s₁.toks = t0 + 1 := ⟨s₁.toks - 1, (Nat.sub_add_cancel (Nat.le_trans (by decide : 1 ≤ 1896) htk)).symm⟩
  refine Sem.wp_mono _ _ _ (fun v p' s' h' => ?_) (fun _ _ _ h' => h'.elim) _ _ (law w s₁ ns vs t0 (holds_gen (top_kt w.params) ZA L.keeps) hsz hobj hi h63 ht0 p)
  exact good_of (w := w) h'.1 h'.2.1 h'.2.2.1 h'.2.2.2 hg
end Mine

end
section
open PySem PySem.W PySem.W.X
set_option maxRecDepth 100000
namespace Mine

inductive Out where
  | bad (why a : Nat)
  | fin (r : Result) (T : PT) (m i : Nat) (b : List Ora) (n : List Note)

/-- a tree run from a state, with answers given ahead -/
noncomputable def go (V : Cfg) (c : Code) (below : List (Code × Pos)) (t : Sem PySem.Fin) (p : Pos) (T : PT) (m i : Nat) (b : List Ora) : Out :=
  walkQ Out.bad V (runQ Out.bad V 400) (fun _ _ _ _ _ _ _ => Out.bad 77 0) c below none (fun r => Out.fin r) t p T m i b []

def nVals : List Note → List (Value × Bool)
  | [] => []
  | x :: r => match x with
    | .val v b => (v, b) :: nVals r
    | _ => nVals r
def nIntX : List Note → List Int
  | [] => []
  | x :: r => match x with
    | .int x _ => x :: nIntX r
    | _ => nIntX r
def nIntY : List Note → List Int
  | [] => []
  | x :: r => match x with
    | .int _ y => y :: nIntY r
    | _ => nIntY r
def nBytes : List Note → List (List Int)
  | [] => []
  | x :: r => match x with
    | .bytes l => l :: nBytes r
    | _ => nBytes r
def nLists : List Note → List (List Int × List Int × Bool)
  | [] => []
  | x :: r => match x with
    | .lists xs ys b => (xs, ys, b) :: nLists r
    | _ => nLists r
def nAskT : List Note → List (Sem PySem.Fin)
  | [] => []
  | x :: r => match x with
    | .ask t _ => t :: nAskT r
    | _ => nAskT r
def nAskF : List Note → List (Sem PySem.Fin)
  | [] => []
  | x :: r => match x with
    | .ask _ f => f :: nAskF r
    | _ => nAskF r
/-- what is read off at the end -/
structure Sm where
  ok : Bool
  res : Option Result
  m : Nat
  i : Nat
  left : List Ora
  objs : List (Option Obj)
  vals : List (Value × Bool)
  nums : List Int
  byts : List (List Int)
  lsts : List (List Int × List Int × Bool)
  asks : List (Sem PySem.Fin)
noncomputable def smL (idx : List Nat) (x : Out) : Sm := match x with
  | .fin r T m i b n => ⟨true, some r, m, i, b, idx.map (T.get DP ·), nVals n, nIntX n, nBytes n, nLists n, nAskT n⟩
  | .bad _ _ => ⟨false, none, 0, 0, [], [], [], [], [], [], []⟩
def outY (x : Out) : List Int := match x with
  | .fin _ _ _ _ _ n => nIntY n
  | .bad _ _ => []
def outF (x : Out) : List (Sem PySem.Fin) := match x with
  | .fin _ _ _ _ _ n => nAskF n
  | .bad _ _ => []

noncomputable def mkT : List (Nat × Obj) → PT
  | [] => .nil
  | (j, o) :: r => (mkT r).put DP j o
theorem mkT_get : ∀ {l : List (Nat × Obj)}, (∀ x ∈ l, x.1 < 4096) → ∀ {j : Nat} {o : Obj}, j < 4096 → (mkT l).get DP j = some o → (j, o) ∈ l
  | [], _, j, o, _, e => by cases e
  | (k, q) :: r, hl, j, o, hj, e => by
    have hk := hl (k, q) (.head _)
    unfold mkT at e
    rw [PT.get_put _ _ _ _ _ hk hj] at e
    split at e
    · rename_i h
      cases e
      subst h
      exact .head _
    · exact .tail _ (mkT_get (fun x hx => hl x (.tail _ hx)) hj e)

theorem notes_ok : ∀ {n : List Note}, (∀ x ∈ nVals n, x.1 = .bool x.2) → nIntX n = nIntY n → (∀ l ∈ nBytes n, ∀ x ∈ l, 0 ≤ x ∧ x < 256) → (∀ x ∈ nLists n, x.2.2 = !decide (x.1 = x.2.1)) → nAskT n = nAskF n → NotesOk n
  | [], _, _, _, _, _ => fun _ h => nomatch h
  | x :: r, h1, h2, h3, h4, h5 => by
    have key : NoteOk x ∧ NotesOk r := by
      cases x with
      | ask t f =>
        simp only [nAskT, nAskF, List.cons.injEq] at h5
        exact ⟨h5.1, notes_ok h1 h2 h3 h4 h5.2⟩
      | val v b => exact ⟨h1 (v, b) (.head _), notes_ok (fun y hy => h1 y (.tail _ hy)) h2 h3 h4 h5⟩
      | int a b =>
        simp only [nIntX, nIntY, List.cons.injEq] at h2
        exact ⟨h2.1, notes_ok h1 h2.2 h3 h4 h5⟩
      | bytes l => exact ⟨h3 l (.head _), notes_ok h1 h2 (fun y hy => h3 y (.tail _ hy)) h4 h5⟩
      | lists xs ys b => exact ⟨h4 (xs, ys, b) (.head _), notes_ok h1 h2 h3 (fun y hy => h4 y (.tail _ hy)) h5⟩
    intro y hy
    rcases List.mem_cons.mp hy with rfl | hy
    · exact key.1
    · exact key.2 y hy

theorem go_says {V : Cfg} {w : World} {s₀ : Shared} (B : Base V w s₀) {c : Code} {below : List (Code × Pos)} {t : Sem PySem.Fin} {p : Pos} {T : PT} {m i : Nat} {b : List Ora} {m' i' : Nat} {left : List Ora} {r : Result}
    {l : List (Nat × Obj)} {vals : List (Value × Bool)} {byts : List (List Int)} {lsts : List (List Int × List Int × Bool)}
    (h : smL (l.map (·.1)) (go V c below t p T m i b) = ⟨true, some r, m', i', left, l.map (fun x => some x.2), vals, outY (go V c below t p T m i b), byts, lsts, outF (go V c below t p T m i b)⟩)
    (hl : ∀ x ∈ l, x.1 < 4096) (hv : ∀ x ∈ vals, x.1 = .bool x.2) (hb : ∀ l ∈ byts, ∀ x ∈ l, 0 ≤ x ∧ x < 256) (hs : ∀ x ∈ lsts, x.2.2 = !decide (x.1 = x.2.1)) {s : Shared} (D : Rel V s₀ T m i s)
    {Γ : PySem.Ctx} (h1 : Γ.code = c) (h2 : Γ.handled = none) (h3 : Γ.below = below) :
    Sem.wp (model V.prog w) Γ t (Sem.finPost (model V.prog w) Γ fun r' s' => r' = r ∧ Rel V s₀ (mkT l) m' i' s') (fun e _ s' => .error e = r ∧ Rel V s₀ (mkT l) m' i' s') p s := by
  let X := go V c below t p T m i b
  have key : ∃ T' n', X = .fin r T' m' i' left n' ∧ NotesOk n' ∧ ∀ x ∈ l, T'.get DP x.1 = some x.2 := by
    show ∃ T' n', go V c below t p T m i b = .fin r T' m' i' left n' ∧ NotesOk n' ∧ ∀ x ∈ l, T'.get DP x.1 = some x.2
    cases hX : go V c below t p T m i b with
    | bad a b => rw [hX] at h; simp only [smL, Sm.mk.injEq] at h; exact absurd h.1 Bool.false_ne_true
    | fin r' T' m'' i'' b'' n'' =>
      rw [hX] at h
      simp only [smL, outY, outF, Sm.mk.injEq, Option.some.injEq, true_and] at h
      obtain ⟨rfl, rfl, rfl, rfl, e1, e2, e3, e4, e5, e6⟩ := h
      refine ⟨T', n'', rfl, notes_ok (by rw [e2]; exact hv) e3 (by rw [e4]; exact hb) (by rw [e5]; exact hs) e6, fun x hx => ?_⟩
      rw [List.map_map] at e1
      obtain ⟨k, hk, rfl⟩ := List.getElem_of_mem hx
      have := congrArg (fun l => l[k]?) e1
      simpa [hk] using this
  obtain ⟨T', n', eX, hn, hT⟩ := key
  have G : (fun x => x = X) (go V c below t p T m i b) := rfl
  have := (walk_says (Good := fun x => x = X) (bad := Out.bad) (fun a b e => by rw [eX] at e; cases e) B (run_says (fun a b e => by rw [eX] at e; cases e) B 400)
    (agn := fun _ _ _ _ _ _ _ => Out.bad 77 0) (c := c) (below := below) (hd := none) (ret := fun r => Out.fin r) (Post := fun r' s' => r' = r ∧ Rel V s₀ (mkT l) m' i' s')
    (fun r' T'' m'' i'' b'' n'' e => by
      rw [eX] at e
      cases e
      refine ⟨hn, fun s' D' => ⟨rfl, ⟨D'.size, D'.toks, D'.gens, D'.os, D'.old, fun j o hj e => ?_⟩⟩⟩
      exact D'.own j o hj (hT _ (mkT_get hl hj e)))
    (fun c' p' T'' m'' i'' b'' n'' e => by rw [eX] at e; cases e) t p T m i b [] G).2 s D Γ h1 h2 h3
  refine Sem.wp_mono _ _ _ (fun _ _ _ x => x) (fun e p' s' x => ⟨x.1, x.2⟩) _ _ this
end Mine

end
section
open PySem PySem.W PySem.W.X
set_option maxRecDepth 100000
namespace Mine

/-- a run that halts at the loop of the law -/
inductive OutH where
  | bad (why a : Nat)
  | fin (r : Result) (T : PT) (m i : Nat) (b : List Ora) (n : List Note)
  | loop (c : Code) (below : List (Code × Pos)) (hd : Option Value) (p : Pos) (T : PT) (m i : Nat) (b : List Ora) (n : List Note) (k : PT → Nat → Nat → List Ora → List Note → OutH)

section
variable (V : Cfg)
noncomputable def stepH (run : RunTy OutH) : RunTy OutH := fun c below hd ret p => match c with
  | .forLoop a b d e f => fun T m i b' n => .loop (.forLoop a b d e f) below hd p T m i b' n (ret (.ok .next))
  | c => stepQ OutH.bad V run c below hd ret p
noncomputable def runH (n : Nat) : RunTy OutH :=
  @Nat.rec (fun _ => RunTy OutH) (fun _ _ _ _ _ _ _ _ _ _ => OutH.bad 99 0) (fun _ run => stepH V run) n
noncomputable def goH (c : Code) (below : List (Code × Pos)) (t : Sem PySem.Fin) (p : Pos) (T : PT) (m i : Nat) (b : List Ora) : OutH :=
  walkQ OutH.bad V (runH V 400) (fun _ _ _ _ _ _ _ => OutH.bad 77 0) c below none (fun r => OutH.fin r) t p T m i b []

/-- what the loop is to do -/
def LoopDoes (w : World) (s₀ : Shared) (c : Code) (below : List (Code × Pos)) (hd : Option Value) (p : Pos) (T : PT) (m i : Nat) (T' : PT) (m' i' : Nat) : Prop :=
  ∀ s, Rel V s₀ T m i s → ∀ Γ : PySem.Ctx, Γ.code = c → Γ.handled = hd → Γ.below = below → wpCode (model V.prog w) Γ (fun r s' => r = .ok .next ∧ Rel V s₀ T' m' i' s') p s

def GoodH (w : World) (s₀ : Shared) (FinP : Result → PT → Nat → Nat → Prop) : OutH → Prop
  | .bad _ _ => False
  | .fin r T m i _ n => FinP r T m i ∧ NotesOk n
  | .loop c below hd p T m i b n k => ∃ T' m' i', LoopDoes V w s₀ c below hd p T m i T' m' i' ∧ NotesOk n ∧ GoodH w s₀ FinP (k T' m' i' [] [])

theorem runH_says {w : World} {s₀ : Shared} {FinP : Result → PT → Nat → Nat → Prop} (B : Base V w s₀) : ∀ n, RunSays (GoodH V w s₀ FinP) V w s₀ (runH V n)
  | 0 => fun _ _ _ _ _ _ _ _ _ _ _ _ G => G.elim
  | n + 1 => fun c below hd ret p Post H => by
    have hs := step_says (Good := GoodH V w s₀ FinP) (bad := OutH.bad) (fun _ _ h => h) B (runH_says B n) c below hd ret p Post H
    show CodeSays (GoodH V w s₀ FinP) V w s₀ c below hd p Post (stepH V (runH V n) c below hd ret p)
    unfold stepH
    split
    · intro T m i b' n' G
      obtain ⟨T', m', i', hL, hn, hG⟩ := G
      have hz := H _ _ _ _ _ _ hG
      refine ⟨hn, fun s D Γ h1 h2 h3 => ?_⟩
      obtain ⟨r, s', hret, rfl, D'⟩ := hL s D Γ h1 h2 h3
      exact ⟨_, s', hret, hz.2 s' D'⟩
    · exact hs

theorem goH_says {w : World} {s₀ : Shared} {FinP : Result → PT → Nat → Nat → Prop} (B : Base V w s₀) {c : Code} {below : List (Code × Pos)} {t : Sem PySem.Fin} {p : Pos} {T : PT} {m i : Nat} {b : List Ora}
    (G : GoodH V w s₀ FinP (goH V c below t p T m i b)) {s : Shared} (D : Rel V s₀ T m i s) {Γ : PySem.Ctx} (h1 : Γ.code = c) (h2 : Γ.handled = none) (h3 : Γ.below = below) :
    Sem.wp (model V.prog w) Γ t (Sem.finPost (model V.prog w) Γ fun r' s' => ∃ T' m' i', FinP r' T' m' i' ∧ Rel V s₀ T' m' i' s') (fun e _ s' => ∃ T' m' i', FinP (.error e) T' m' i' ∧ Rel V s₀ T' m' i' s') p s :=
  (walk_says (Good := GoodH V w s₀ FinP) (bad := OutH.bad) (fun _ _ h => h) B (runH_says V B 400)
    (agn := fun _ _ _ _ _ _ _ => OutH.bad 77 0) (c := c) (below := below) (hd := none) (ret := fun r => OutH.fin r) (Post := fun r' s' => ∃ T' m' i', FinP r' T' m' i' ∧ Rel V s₀ T' m' i' s')
    (fun r' T'' m'' i'' b'' n'' e => ⟨e.2, fun s' D' => ⟨T'', m'', i'', e.1, D'⟩⟩)
    (fun c' p' T'' m'' i'' b'' n'' e => e.elim) t p T m i b [] G).2 s D Γ h1 h2 h3
end

/-- what is read off at the loop -/
structure SmH where
  c : Code
  below : List (Code × Pos)
  hd : Option Value
  p : Pos
  m : Nat
  i : Nat
  b : List Ora
  vals : List (Value × Bool)
  nums : List Int
  byts : List (List Int)
  lsts : List (List Int × List Int × Bool)
  asks : List (Sem PySem.Fin)
  objs : List (Option Obj)
noncomputable def smH (idx : List Nat) (x : OutH) : Option SmH := match x with
  | .loop c below hd p T m i b n _ => some ⟨c, below, hd, p, m, i, b, nVals n, nIntX n, nBytes n, nLists n, nAskT n, idx.map (T.get DP ·)⟩
  | .fin _ _ _ _ _ _ => none
  | .bad _ _ => none
def outK (x : OutH) : PT → Nat → Nat → List Ora → List Note → OutH := match x with
  | .loop _ _ _ _ _ _ _ _ _ k => k
  | .fin _ _ _ _ _ _ => fun _ _ _ _ _ => .bad 0 0
  | .bad _ _ => fun _ _ _ _ _ => .bad 0 0
def outHF (x : OutH) : List (Sem PySem.Fin) := match x with
  | .loop _ _ _ _ _ _ _ _ n _ => nAskF n
  | .fin _ _ _ _ _ _ => []
  | .bad _ _ => []
def outR (x : OutH) : Option (Result × Nat × Nat × List Note) := match x with
  | .loop _ _ _ _ _ _ _ _ _ _ => none
  | .fin r _ m i _ n => some (r, m, i, n)
  | .bad _ _ => none
theorem Rel.less {V : Cfg} {s₀ s : Shared} {T : PT} {m i : Nat} {l : List (Nat × Obj)} (D : Rel V s₀ T m i s) (hl : ∀ x ∈ l, x.1 < 4096) (h : (l.map (·.1)).map (T.get DP ·) = l.map (fun x => some x.2)) : Rel V s₀ (mkT l) m i s := by
  refine ⟨D.size, D.toks, D.gens, D.os, D.old, fun j o hj e => ?_⟩
  have hm := mkT_get hl hj e
  obtain ⟨k, hk, e2⟩ := List.getElem_of_mem hm
  have := congrArg (fun l => l[k]?) h
  rw [List.map_map] at this
  simp [hk, e2] at this
  exact D.own j o hj this

theorem nInt_nil : ∀ {n : List Note}, nIntX n = [] → nIntX n = nIntY n
  | [], _ => rfl
  | x :: r, h => by
    cases x with
    | int a b => exact nomatch h
    | ask => exact nInt_nil (n := r) h
    | val => exact nInt_nil (n := r) h
    | bytes => exact nInt_nil (n := r) h
    | lists => exact nInt_nil (n := r) h
/-- the whole run with a loop in its midst -/
theorem whole_says {V : Cfg} {w : World} {s₀ : Shared} (B : Base V w s₀) {c : Code} {below : List (Code × Pos)} {t : Sem PySem.Fin} {p : Pos} {T : PT} {m i : Nat} {b : List Ora}
    {cl : Code} {bl : List (Code × Pos)} {pl : Pos} {m1 i1 : Nat} {l : List (Nat × Obj)} {T2 : PT} {m2 i2 : Nat} {r : Result} {m3 i3 : Nat}
    (h : smH (l.map (·.1)) (goH V c below t p T m i b) = some ⟨cl, bl, none, pl, m1, i1, [], [], [], [], [], outHF (goH V c below t p T m i b), l.map (fun x => some x.2)⟩) (hl : ∀ x ∈ l, x.1 < 4096)
    (hL : LoopDoes V w s₀ cl bl none pl (mkT l) m1 i1 T2 m2 i2) (hK : outR (outK (goH V c below t p T m i b) T2 m2 i2 [] []) = some (r, m3, i3, []))
    {s : Shared} (D : Rel V s₀ T m i s) {Γ : PySem.Ctx} (h1 : Γ.code = c) (h2 : Γ.handled = none) (h3 : Γ.below = below) :
    Sem.wp (model V.prog w) Γ t (Sem.finPost (model V.prog w) Γ fun r' s' => r' = r ∧ ∃ T', Rel V s₀ T' m3 i3 s') (fun e _ s' => .error e = r ∧ ∃ T', Rel V s₀ T' m3 i3 s') p s := by
  have G : GoodH V w s₀ (fun r' _ m' i' => r' = r ∧ m' = m3 ∧ i' = i3) (goH V c below t p T m i b) := by
    revert h hK
    cases goH V c below t p T m i b with
    | bad a a2 => intro h; cases h
    | fin r T m i b2 n => intro h; cases h
    | loop c' below' hd' p' T' m' i' b' n' k' =>
      intro h hK
      simp only [smH, Option.some.injEq, SmH.mk.injEq] at h
      obtain ⟨rfl, rfl, rfl, rfl, rfl, rfl, rfl, e2, e3, e4, e5, e6, ho⟩ := h
      refine ⟨T2, m2, i2, fun s D Γ h1 h2 h3 => hL s (D.less hl ho) Γ h1 h2 h3, notes_ok (by rw [e2]; exact fun _ h => nomatch h) (nInt_nil e3) (by rw [e4]; exact fun _ h => nomatch h) (by rw [e5]; exact fun _ h => nomatch h) e6, ?_⟩
      have hK : outR (k' T2 m2 i2 [] []) = some (r, m3, i3, []) := hK
      cases hx : k' T2 m2 i2 [] [] with
      | bad a b => rw [hx] at hK; cases hK
      | loop => rw [hx] at hK; cases hK
      | fin r T m i b n =>
        rw [hx] at hK
        simp only [outR, Option.some.injEq, Prod.mk.injEq] at hK
        obtain ⟨rfl, rfl, rfl, rfl⟩ := hK
        exact ⟨⟨rfl, rfl, rfl⟩, fun _ h => nomatch h⟩
  refine Sem.wp_mono _ _ _ (fun fin p' s' h => ?_) (fun e p' s' h => ?_) _ _ (goH_says V B G D h1 h2 h3)
  · exact finPost_mono (fun r' s' hh => by obtain ⟨T', m', i', ⟨rfl, rfl, rfl⟩, D'⟩ := hh; exact ⟨rfl, T', D'⟩) h
  · obtain ⟨T', m', i', ⟨e1, rfl, rfl⟩, D'⟩ := h
    exact ⟨e1, T', D'⟩
end Mine

end
section
open PySem PySem.W PySem.W.X
set_option maxRecDepth 100000
namespace Mine
noncomputable def ktT : Params → KT := Mine.hd0.ktop_1209
def cRow : Nat := 10139888712337904147300001983332972444938612
theorem code_row : PySem.code "special-get-raises" = cRow := by decide +kernel
noncomputable def getK (t : KT) : Nat → Option Obj :=
  @KT.rec (fun _ => Nat → Option Obj) (fun _ => none) (fun v _ _ ihl ihr i => @Bool.rec (fun _ => Option Obj) (@Bool.rec (fun _ => Option Obj) (ihr (Nat.sub (Nat.div i 2) 1)) (ihl (Nat.div i 2)) (Nat.beq (Nat.mod i 2) 1)) v (Nat.beq i 0)) t
theorem getK_eq : ∀ (t : KT) (i : Nat), getK t i = t.get i
  | .nil, _ => rfl
  | .node v l r, i => by
    have h1 : Nat.beq i 0 = decide (i = 0) := BT.beq_eq _ _
    have h2 : Nat.beq (Nat.mod i 2) 1 = decide (i % 2 = 1) := BT.beq_eq _ _
    rw [KT.get_node, ← getK_eq l, ← getK_eq r]
    show @Bool.rec (fun _ => Option Obj) (@Bool.rec (fun _ => Option Obj) (getK r (Nat.sub (Nat.div i 2) 1)) (getK l (Nat.div i 2)) (Nat.beq (Nat.mod i 2) 1)) v (Nat.beq i 0) = _
    rw [h1, h2]
    by_cases e : i = 0
    · rw [if_pos e, decide_eq_true e]
    · rw [if_neg e, decide_eq_false e]
      by_cases e' : i % 2 = 1
      · rw [if_pos e', decide_eq_true e']; rfl
      · rw [if_neg e', decide_eq_false e']; rfl
noncomputable def oldK (kt : KT) (o : Obj) (a : Nat) : Option Obj := @Bool.rec (fun _ => Option Obj) (getK kt a) (some o) (Nat.beq a 686)
noncomputable def withRow (P : Params) (b : Bool) : Params := { P with followText := fun r => @Bool.rec (fun _ => Bool) (P.followText r) b (idIs cRow r) }
noncomputable def scriptO (vs : List Value) : Obj := { cls := .type "list", data := .seq vs.toArray }
noncomputable def cfg (P : Params) (vs : List Value) (t0 : Nat) : Cfg :=
  { prog := PySem.Challenge.pw_fb5007_01, Pt := withRow P true, Pf := withRow P false, n1 := 687, old := oldK (ktT P) (scriptO vs), t0 := t0 }
theorem withRow_eq (P : Params) : P = withRow P (P.followText "special-get-raises") := by
  have h : (fun r => @Bool.rec (fun _ => Bool) (P.followText r) (P.followText "special-get-raises") (idIs cRow r)) = P.followText := by
    funext r
    cases q : idIs cRow r with
    | false => rfl
    | true => rw [idIs_eq code_row q]
  unfold withRow
  rw [h]
theorem row_cases (P : Params) : P = withRow P true ∨ P = withRow P false := by
  have h := withRow_eq P
  cases q : P.followText "special-get-raises" with
  | true => rw [q] at h; exact .inl h
  | false => rw [q] at h; exact .inr h
def claimCode : Code := .builtin "claim.caller" {}
/-- the claim's call, by the library's quick twin of call -/
noncomputable def lawTree : Sem PySem.Fin := PySem.W.R.bindR (PySem.W.Fast.tw11478286150595567475 (.ref 685) [.ref 686]) fun v => .pure (.done (.ret v))
theorem bindR_at {α β : Type} (t : Sem α) (f : α → Sem β) : PySem.W.R.bindR t f = (t >>= f) := (congrFun (congrFun (congrFun (congrFun PySem.W.R.bindR_eq α) β) t) f).symm
theorem lawTree_eq : lawTree = (PySem.call (.ref 685) [.ref 686] >>= fun v => .pure (.done (.ret v))) := by
  unfold lawTree
  rw [bindR_at, ← PySem.W.Fast.te11478286150595567475]

def lastS : List Stmt → Stmt → Stmt
  | [], d => d
  | s :: r, _ => lastS r s
def lawDef : Stmt := lastS PySem.Challenge.pw_fb5007_01.main.body (.Pass default)
def bodyOf : Stmt → List Stmt
  | .FunctionDef _ _ b _ _ _ _ _ _ _ => b
  | .For _ _ b _ _ => b
  | _ => []
def scopeOf : Stmt → Scope
  | .FunctionDef _ _ _ _ _ _ s _ _ _ => s
  | _ => default
def targetOf : Stmt → PySem.Expr
  | .For t _ _ _ _ => t
  | _ => .Constant .none 0 default
def lawBody : List Stmt := bodyOf lawDef
def lawFor : Stmt := lastS (lawBody.take 1) (.Pass default)
def loopBody : List Stmt := bodyOf lawFor
def lawEnv : Env := { scope := scopeOf lawDef, locals := 687, globals := 3, cells := [], qual := ⟨#[108, 97, 119, 46, 60, 108, 111, 99, 97, 108, 115, 62, 46]⟩, func := some 685, code := .ref 684, frame := some 687, builtins := 0 }
def loopC (it : Nat) : Code := .forLoop (targetOf lawFor) (.ref it) loopBody [] lawEnv
def lawBelow (p : Pos) : List (Code × Pos) := [(.func lawBody lawEnv, ⟨563, 13, 563, 60⟩), (claimCode, p)]
/-- the loop's next item -/
noncomputable def nextT (it : Nat) : Sem PySem.Fin := do
  standAt (targetOf lawFor).pos
  match ← (PySem.W.Fast.tw9404975358583537561 (.ref it)).onRaise (fun _ => standAt { (targetOf lawFor).pos with line := 0 }) with
  | none => pure (.done .brk)
  | some v =>
    letOwnedTupleGo (targetOf lawFor) (.ref it) v
    PySem.W.Fast.tw17772580674575903948 (targetOf lawFor) lawEnv v
    pure (.done .next)
noncomputable def bodyT (a k : Nat) : Sem PySem.Fin := PySem.W.R.bindR (PySem.W.Fast.tw12563942051412417395 ((loopBody.drop a).take k) lawEnv) fun f => .pure (.done f)
theorem bodyT_eq (a k : Nat) : bodyT a k = (execs ((loopBody.drop a).take k) lawEnv >>= fun f => .pure (.done f)) := by
  unfold bodyT
  rw [bindR_at, ← PySem.W.Fast.te12563942051412417395]
/-- the sums and rests -/
def pl (v : Int) (k : Nat) : Int := Int.add v (Int.ofNat k)
def md (v : Int) (k : Nat) : Int := Int.fmod v (Int.ofNat k)
def adds (v : Int) (a : Nat) : Nat → List Ora
  | 0 => []
  | k + 1 => .i (pl v a) :: adds v (a + 1) k
def bs (x : Bool) : Nat → List Ora
  | 0 => []
  | k + 1 => .b x :: bs x k
def headO (V : Int) : List Ora := .i (md V 256) :: .b false :: .b false :: .i (md V 65535) :: .i (pl V 1) :: .i (md (pl V 1) 256) :: .b false :: .b false :: .b false :: .b false :: .i (pl V 1) :: .i (pl V 2) :: []
/-- the answers of one statement of the loop -/
def oraS (n v : Int) : Nat → List Ora
  | 0 => .i (md n 1000) :: .i (pl (md n 1000) 1) :: []
  | 1 => .i (pl v 100) :: []
  | 2 => .i (md v 256) :: .i (md (pl v 100) 256) :: []
  | 4 => headO v
  | 5 => adds v 3 13
  | 7 => .i (pl v 1) :: headO (pl v 1)
  | 8 => .i (pl v 1) :: adds (pl v 1) 3 7
  | 10 => .i (pl v 2) :: headO (pl v 2)
  | 11 => .i (pl v 2) :: adds (pl v 2) 3 3
  | 14 | 19 | 24 | 29 | 34 | 39 => headO (pl v 100)
  | 15 | 30 => adds (pl v 100) 3 13
  | 20 | 35 => adds (pl v 100) 3 7
  | 25 | 40 => adds (pl v 100) 3 3
  | 17 => bs true 2 ++ adds v 3 13 ++ bs false 2
  | 22 => bs true 2 ++ .i (pl v 1) :: adds (pl v 1) 3 13 ++ bs false 2
  | 27 => bs true 2 ++ .i (pl v 2) :: adds (pl v 2) 3 13 ++ bs false 2
  | 32 | 37 | 42 => bs true 2 ++ adds (pl v 100) 3 13 ++ bs false 2
  | 43 => bs true 6
  | 44 => adds v 3 13 ++ .b false :: .i (pl v 1) :: adds (pl v 1) 3 13 ++ .b false :: .i (pl v 2) :: adds (pl v 2) 3 13 ++ .b false :: []
  | _ => []
def oraR (n v : Int) (a : Nat) : Nat → List Ora
  | 0 => []
  | k + 1 => oraS n v a ++ oraR n v (a + 1) k
end Mine

end
section
open PySem PySem.W PySem.W.X
set_option maxRecDepth 100000
namespace Mine
noncomputable def firstT (it a k : Nat) : Sem PySem.Fin := nextT it >>= fun fin => match fin with
  | .done .next => bodyT a k
  | f => .pure f

section
variable {M : Model} {Γ : PySem.Ctx}
theorem execs_app {env : Env} {ys : List Stmt} {Q : Flow → Pos → Shared → Prop} {E : Value → Pos → Shared → Prop} : ∀ {xs : List Stmt} {p : Pos} {s : Shared},
    Sem.wp M Γ (execs xs env) (fun f p s => f = .next ∧ Sem.wp M Γ (execs ys env) Q E p s) E p s → Sem.wp M Γ (execs (xs ++ ys) env) Q E p s
  | [], p, s, h => by
    have h : Flow.next = .next ∧ Sem.wp M Γ (execs ys env) Q E p s := h
    exact h.2
  | x :: xs, p, s, h => by
    have e1 : execs (x :: xs ++ ys) env = (exec x env >>= fun f => match f with | .next => execs (xs ++ ys) env | f => pure f) := by
      show execs (x :: (xs ++ ys)) env = _
      rw [execs]
      congr 1
    have e2 : execs (x :: xs) env = (exec x env >>= fun f => match f with | .next => execs xs env | f => pure f) := by
      rw [execs]
      congr 1
    rw [e2, Sem.wp_bind'] at h
    rw [e1, Sem.wp_bind']
    refine Sem.wp_mono _ _ _ (fun f p' s' h' => ?_) (fun _ _ _ h' => h') _ _ h
    cases f with
    | next => exact execs_app h'
    | cont => exact absurd h'.1 (by intro h; cases h)
    | brk => exact absurd h'.1 (by intro h; cases h)
    | ret v => exact absurd h'.1 (by intro h; cases h)

theorem rest_step {a k : Nat} {S : Shared → Prop} {Q : Flow → Pos → Shared → Prop} {p : Pos} {s : Shared}
    (h : Sem.wp M Γ (bodyT a k) (Sem.finPost M Γ fun r s' => r = .ok .next ∧ S s') (fun e _ s' => Except.error e = (.ok .next : Result) ∧ S s') p s)
    (hn : ∀ p s', S s' → Sem.wp M Γ (execs (loopBody.drop (a + k)) lawEnv) Q (fun _ _ _ => False) p s') : Sem.wp M Γ (execs (loopBody.drop a) lawEnv) Q (fun _ _ _ => False) p s := by
  have e : loopBody.drop a = (loopBody.drop a).take k ++ loopBody.drop (a + k) := by rw [← List.drop_drop, List.take_append_drop]
  rw [e]
  refine execs_app ?_
  rw [bodyT_eq] at h
  rw [Sem.wp_bind'] at h
  refine Sem.wp_mono _ _ _ (fun f p' s' h' => ?_) (fun _ _ _ h' => nomatch h'.1) _ _ h
  have h' : (.ok f : Result) = .ok .next ∧ S s' := h'
  obtain ⟨e, hS⟩ := h'
  cases e
  exact ⟨rfl, hn _ _ hS⟩

theorem turn_step {prog : Program} {w : World} {it : Nat} {k : Nat} {S : Shared → Prop} {R : Result → Shared → Prop} {p : Pos} {s : Shared} (hc : Γ.code = loopC it)
    (h : Sem.wp (model prog w) Γ (firstT it 0 k) (Sem.finPost (model prog w) Γ fun r s' => r = .ok .next ∧ S s') (fun e _ s' => Except.error e = (.ok .next : Result) ∧ S s') p s)
    (hn : ∀ p s', S s' → Sem.wp (model prog w) Γ (execs (loopBody.drop k) lawEnv) (fun f p'' s'' => f = .next ∧ wpCode (model prog w) Γ R p'' s'') (fun _ _ _ => False) p s') : wpCode (model prog w) Γ R p s := by
  rw [wpCode_iff_wp, hc]
  show Sem.wp _ Γ ((forTurn (targetOf lawFor) (.ref it) loopBody [] lawEnv).onRaise _) _ _ p s
  rw [Sem.wp_onRaise]
  refine Sem.wp_mono _ _ _ (fun _ _ _ h' => h') (fun e p' s' h' => h'.elim) _ _ (?_ : Sem.wp (model prog w) Γ _ _ (fun _ _ _ => False) p s)
  unfold forTurn
  unfold firstT nextT at h
  rw [← PySem.W.Fast.te9404975358583537561, ← PySem.W.Fast.te17772580674575903948] at h
  simp only [Sem.wp_bind', bind_assoc] at h ⊢
  refine Sem.wp_mono _ _ _ (fun _ p' s' h' => ?_) (fun _ _ _ h' => nomatch h'.1) _ _ h
  refine Sem.wp_mono _ _ _ (fun o p' s' h' => ?_) (fun _ _ _ h' => nomatch h'.1) _ _ h'
  cases o with
  | none =>
    have h' : (.ok .brk : Result) = .ok .next ∧ S s' := h'
    cases h'.1
  | some v =>
    simp only [Sem.wp_bind'] at h' ⊢
    refine Sem.wp_mono _ _ _ (fun _ p' s' h' => ?_) (fun _ _ _ h' => nomatch h'.1) _ _ h'
    refine Sem.wp_mono _ _ _ (fun _ p' s' h' => ?_) (fun _ _ _ h' => nomatch h'.1) _ _ h'
    have h' : Sem.wp (model prog w) Γ (bodyT 0 k) (Sem.finPost (model prog w) Γ fun r s' => r = .ok .next ∧ S s') (fun e _ s' => Except.error e = (.ok .next : Result) ∧ S s') p' s' := h'
    have hz := rest_step (Q := fun f p'' s'' => f = .next ∧ wpCode (model prog w) Γ R p'' s'') h' (fun p s' hS => by rw [Nat.zero_add]; exact hn p s' hS)
    refine Sem.wp_mono _ _ _ (fun f p' s' h' => ?_) (fun _ _ _ h' => h') _ _ hz
    obtain ⟨rfl, hw⟩ := h'
    exact ⟨rfl, by have e : Γ.goto (loopC it) = Γ := (by rw [← hc]; rfl); show wpCode _ (Γ.goto (loopC it)) R p' s'; rw [e]; exact hw⟩
end

noncomputable def goC (V : Cfg) (c : Code) (below : List (Code × Pos)) (p : Pos) (T : PT) (m i : Nat) (b : List Ora) : Out :=
  runQ Out.bad V 400 c below none (fun r => Out.fin r) p T m i b []

theorem sm_key {X : Out} {m' i' : Nat} {left : List Ora} {r : Result} {l : List (Nat × Obj)} {vals : List (Value × Bool)} {byts : List (List Int)} {lsts : List (List Int × List Int × Bool)}
    (h : smL (l.map (·.1)) X = ⟨true, some r, m', i', left, l.map (fun x => some x.2), vals, outY X, byts, lsts, outF X⟩)
    (hv : ∀ x ∈ vals, x.1 = .bool x.2) (hb : ∀ l ∈ byts, ∀ x ∈ l, 0 ≤ x ∧ x < 256) (hs : ∀ x ∈ lsts, x.2.2 = !decide (x.1 = x.2.1)) : ∃ T' n', X = .fin r T' m' i' left n' ∧ NotesOk n' ∧ ∀ x ∈ l, T'.get DP x.1 = some x.2 := by
  cases hX : X with
  | bad a b => rw [hX] at h; simp only [smL, Sm.mk.injEq] at h; exact absurd h.1 Bool.false_ne_true
  | fin r' T' m'' i'' b'' n'' =>
    rw [hX] at h
    simp only [smL, outY, outF, Sm.mk.injEq, Option.some.injEq, true_and] at h
    obtain ⟨rfl, rfl, rfl, rfl, e1, e2, e3, e4, e5, e6⟩ := h
    refine ⟨T', n'', rfl, notes_ok (by rw [e2]; exact hv) e3 (by rw [e4]; exact hb) (by rw [e5]; exact hs) e6, fun x hx => ?_⟩
    rw [List.map_map] at e1
    obtain ⟨k, hk, rfl⟩ := List.getElem_of_mem hx
    have := congrArg (fun l => l[k]?) e1
    simpa [hk] using this
theorem goC_says {V : Cfg} {w : World} {s₀ : Shared} (B : Base V w s₀) {c : Code} {below : List (Code × Pos)} {p : Pos} {T : PT} {m i : Nat} {b : List Ora} {m' i' : Nat} {left : List Ora} {r : Result}
    {l : List (Nat × Obj)} {vals : List (Value × Bool)} {byts : List (List Int)} {lsts : List (List Int × List Int × Bool)}
    (h : smL (l.map (·.1)) (goC V c below p T m i b) = ⟨true, some r, m', i', left, l.map (fun x => some x.2), vals, outY (goC V c below p T m i b), byts, lsts, outF (goC V c below p T m i b)⟩)
    (hl : ∀ x ∈ l, x.1 < 4096) (hv : ∀ x ∈ vals, x.1 = .bool x.2) (hb : ∀ l ∈ byts, ∀ x ∈ l, 0 ≤ x ∧ x < 256) (hs : ∀ x ∈ lsts, x.2.2 = !decide (x.1 = x.2.1)) {s : Shared} (D : Rel V s₀ T m i s)
    {Γ : PySem.Ctx} (h1 : Γ.code = c) (h2 : Γ.handled = none) (h3 : Γ.below = below) : wpCode (model V.prog w) Γ (fun r' s' => r' = r ∧ Rel V s₀ (mkT l) m' i' s') p s := by
  obtain ⟨T', n', eX, hn, hT⟩ := sm_key h hv hb hs
  let X := goC V c below p T m i b
  exact (run_says (Good := fun x => x = X) (bad := Out.bad) (fun a b e => by have e : Out.bad a b = goC V _ _ _ _ _ _ _ := e; rw [eX] at e; cases e) B 400 c below none (fun r => Out.fin r) p _
    (fun r' T'' m'' i'' b'' n'' e => by
      have e : Out.fin r' T'' m'' i'' b'' n'' = goC V _ _ _ _ _ _ _ := e
      rw [eX] at e
      cases e
      refine ⟨hn, fun s' D' => ⟨rfl, ⟨D'.size, D'.toks, D'.gens, D'.os, D'.old, fun j o hj e => ?_⟩⟩⟩
      exact D'.own j o hj (hT _ (mkT_get hl hj e))) T m i b [] rfl).2 s D Γ h1 h2 h3
/-- the same list, read from a state that knows more -/
theorem Rel.mkT {V : Cfg} {s₀ s : Shared} {m i : Nat} {l l' : List (Nat × Obj)} (D : Rel V s₀ (mkT l) m i s) (hl : ∀ x ∈ l', x.1 < 4096) (h : (l'.map (·.1)).map ((Mine.mkT l).get DP ·) = l'.map (fun x => some x.2)) : Rel V s₀ (Mine.mkT l') m i s := D.less hl h
end Mine

end
section
open PySem PySem.W PySem.W.X
set_option maxRecDepth 100000
set_option maxHeartbeats 0
set_option Elab.async false
namespace Mine
noncomputable def hsh (P : Params) (c : Array Nat) : Int := reduceHash (P.strHash c)
noncomputable def en (P : Params) (k : Str) (t : Tok) (v : Value) : DictEntry := DictEntry.mk (hsh P k.cps) (.str k t) v
noncomputable def tk (a b : Nat) : Nat := Nat.add a b
noncomputable def u8 (x : Int) : UInt8 := x.toNat.toUInt8
noncomputable def vlt (x k : Int) : Value × Bool := (.bool (decide (x < k)), false)
noncomputable def veq (x y : Int) : Value × Bool := (.bool (x == y), true)
noncomputable def vbn (a b : UInt8) : Value × Bool := (.bool (PySem.Builtin.Bytes.holds "__ne__" (PySem.Builtin.Bytes.order [a, b, UInt8.ofNat 7] [a, b, UInt8.ofNat 7])), false)
noncomputable def vge (x k : Int) : Value × Bool := (.bool (decide (x ≥ k)), false)
noncomputable def yFrame : Value := .type PySem.W.SL.s658472552662922059x5
noncomputable def yList : Value := .type PySem.W.SL.s9222952809800978799x4
noncomputable def yIter : Value := .type PySem.W.SL.s3492446563574874994x13
noncomputable def yDict : Value := .type PySem.W.SL.s14018661285674007319x4
noncomputable def yTuple : Value := .type PySem.W.SL.s2766695959194262286x5
noncomputable def ys9501651726347032510x9 : Value := .type PySem.W.SL.s9501651726347032510x9
noncomputable def k_script : Str := ⟨⟨[115, 99, 114, 105, 112, 116]⟩⟩
noncomputable def k_n : Str := ⟨⟨[110]⟩⟩
noncomputable def k_v : Str := ⟨⟨[118]⟩⟩
noncomputable def k_w : Str := ⟨⟨[119]⟩⟩
noncomputable def k_text : Str := ⟨⟨[116, 101, 120, 116]⟩⟩
noncomputable def k_header : Str := ⟨⟨[104, 101, 97, 100, 101, 114]⟩⟩
noncomputable def k_other : Str := ⟨⟨[111, 116, 104, 101, 114]⟩⟩
noncomputable def k_link : Str := ⟨⟨[108, 105, 110, 107]⟩⟩
noncomputable def k_rows : Str := ⟨⟨[114, 111, 119, 115]⟩⟩
noncomputable def k_pduUserData : Str := ⟨⟨[112, 100, 117, 85, 115, 101, 114, 68, 97, 116, 97]⟩⟩
noncomputable def k_pduSource : Str := ⟨⟨[112, 100, 117, 83, 111, 117, 114, 99, 101]⟩⟩
noncomputable def k_pduDestination : Str := ⟨⟨[112, 100, 117, 68, 101, 115, 116, 105, 110, 97, 116, 105, 111, 110]⟩⟩
noncomputable def k_pduExpectingReply : Str := ⟨⟨[112, 100, 117, 69, 120, 112, 101, 99, 116, 105, 110, 103, 82, 101, 112, 108, 121]⟩⟩
noncomputable def k_pduNetworkPriority : Str := ⟨⟨[112, 100, 117, 78, 101, 116, 119, 111, 114, 107, 80, 114, 105, 111, 114, 105, 116, 121]⟩⟩
noncomputable def k_apduType : Str := ⟨⟨[97, 112, 100, 117, 84, 121, 112, 101]⟩⟩
noncomputable def k_apduSeg : Str := ⟨⟨[97, 112, 100, 117, 83, 101, 103]⟩⟩
noncomputable def k_apduMor : Str := ⟨⟨[97, 112, 100, 117, 77, 111, 114]⟩⟩
noncomputable def k_apduSA : Str := ⟨⟨[97, 112, 100, 117, 83, 65]⟩⟩
noncomputable def k_apduSrv : Str := ⟨⟨[97, 112, 100, 117, 83, 114, 118]⟩⟩
noncomputable def k_apduNak : Str := ⟨⟨[97, 112, 100, 117, 78, 97, 107]⟩⟩
noncomputable def k_apduSeq : Str := ⟨⟨[97, 112, 100, 117, 83, 101, 113]⟩⟩
noncomputable def k_apduWin : Str := ⟨⟨[97, 112, 100, 117, 87, 105, 110]⟩⟩
noncomputable def k_apduMaxSegs : Str := ⟨⟨[97, 112, 100, 117, 77, 97, 120, 83, 101, 103, 115]⟩⟩
noncomputable def k_apduMaxResp : Str := ⟨⟨[97, 112, 100, 117, 77, 97, 120, 82, 101, 115, 112]⟩⟩
noncomputable def k_apduService : Str := ⟨⟨[97, 112, 100, 117, 83, 101, 114, 118, 105, 99, 101]⟩⟩
noncomputable def k_apduInvokeID : Str := ⟨⟨[97, 112, 100, 117, 73, 110, 118, 111, 107, 101, 73, 68]⟩⟩
noncomputable def k_apduAbortRejectReason : Str := ⟨⟨[97, 112, 100, 117, 65, 98, 111, 114, 116, 82, 101, 106, 101, 99, 116, 82, 101, 97, 115, 111, 110]⟩⟩
noncomputable def k_addrType : Str := ⟨⟨[97, 100, 100, 114, 84, 121, 112, 101]⟩⟩
noncomputable def k_addrNet : Str := ⟨⟨[97, 100, 100, 114, 78, 101, 116]⟩⟩
noncomputable def k_addrRoute : Str := ⟨⟨[97, 100, 100, 114, 82, 111, 117, 116, 101]⟩⟩
noncomputable def k_addrAddr : Str := ⟨⟨[97, 100, 100, 114, 65, 100, 100, 114]⟩⟩
noncomputable def k_addrLen : Str := ⟨⟨[97, 100, 100, 114, 76, 101, 110]⟩⟩
noncomputable def k_npduVersion : Str := ⟨⟨[110, 112, 100, 117, 86, 101, 114, 115, 105, 111, 110]⟩⟩
noncomputable def k_npduControl : Str := ⟨⟨[110, 112, 100, 117, 67, 111, 110, 116, 114, 111, 108]⟩⟩
noncomputable def k_npduDADR : Str := ⟨⟨[110, 112, 100, 117, 68, 65, 68, 82]⟩⟩
noncomputable def k_npduSADR : Str := ⟨⟨[110, 112, 100, 117, 83, 65, 68, 82]⟩⟩
noncomputable def k_npduHopCount : Str := ⟨⟨[110, 112, 100, 117, 72, 111, 112, 67, 111, 117, 110, 116]⟩⟩
noncomputable def k_npduNetMessage : Str := ⟨⟨[110, 112, 100, 117, 78, 101, 116, 77, 101, 115, 115, 97, 103, 101]⟩⟩
noncomputable def k_npduVendorID : Str := ⟨⟨[110, 112, 100, 117, 86, 101, 110, 100, 111, 114, 73, 68]⟩⟩
noncomputable def k_bvlciType : Str := ⟨⟨[98, 118, 108, 99, 105, 84, 121, 112, 101]⟩⟩
noncomputable def k_bvlciFunction : Str := ⟨⟨[98, 118, 108, 99, 105, 70, 117, 110, 99, 116, 105, 111, 110]⟩⟩
noncomputable def k_bvlciLength : Str := ⟨⟨[98, 118, 108, 99, 105, 76, 101, 110, 103, 116, 104]⟩⟩
noncomputable def k_message : Str := ⟨⟨[109, 101, 115, 115, 97, 103, 101]⟩⟩
noncomputable def k_pduData : Str := ⟨⟨[112, 100, 117, 68, 97, 116, 97]⟩⟩
noncomputable def L0_1_0 (P : Params) (t0 : Nat) (xs : List Value) (n : Int) (u : Tok) (v : Int) : List (Nat × Obj) := [
(0, (Obj.mk yFrame none (Data.dict (Array.mk [(en P k_script (tk t0 1) (Value.ref 686))]) 1) (Array.mk []))),
(2, (Obj.mk yList none (Data.seq (Array.mk xs) 0) (Array.mk []))),
(3, (Obj.mk yIter none (Data.fields (Array.mk [(Value.ref 689), (Value.int (0 : Int) 0)])) (Array.mk [])))]
noncomputable def L0_1_1 (P : Params) (t0 : Nat) (xs : List Value) (n : Int) (u : Tok) (v : Int) : List (Nat × Obj) := [
(0, (Obj.mk yFrame none (Data.dict (Array.mk [(en P k_script (tk t0 1) (Value.ref 686)), (en P k_n (tk t0 5) (Value.int n u)), (en P k_v (tk t0 10) (Value.int v (tk t0 9))), (en P k_w (tk t0 13) (Value.int (pl v 100) (tk t0 12))), (en P k_text (tk t0 20) (Value.bytes (Array.mk [(u8 (md v 256)), (u8 (md (pl v 100) 256)), (UInt8.ofNat 7)]) (tk t0 19))), (en P k_header (tk t0 100) (Value.ref 697)), (en P k_other (tk t0 288) (Value.ref 747)), (en P k_link (tk t0 448) (Value.ref 797)), (en P k_rows (tk t0 550) (Value.ref 852))]) 9) (Array.mk []))),
(2, (Obj.mk yList none (Data.seq (Array.mk xs) 0) (Array.mk []))),
(3, (Obj.mk yIter none (Data.fields (Array.mk [(Value.ref 689), (Value.int (1 : Int) 0)])) (Array.mk []))),
(9, (Obj.mk yDict none (Data.dict (Array.mk [(en P k_pduUserData (tk t0 55) (Value.ref 738)), (en P k_pduSource (tk t0 59) (Value.ref 740)), (en P k_pduDestination (tk t0 63) (Value.ref 743)), (en P k_pduExpectingReply (tk t0 68) (Value.int (pl v 1) (tk t0 159))), (en P k_pduNetworkPriority (tk t0 73) (Value.int (pl v 2) (tk t0 163))), (en P k_apduType (tk t0 75) (Value.int (pl v 3) (tk t0 169))), (en P k_apduSeg (tk t0 77) (Value.int (pl v 4) (tk t0 173))), (en P k_apduMor (tk t0 79) (Value.int (pl v 5) (tk t0 177))), (en P k_apduSA (tk t0 81) (Value.int (pl v 6) (tk t0 181))), (en P k_apduSrv (tk t0 83) (Value.int (pl v 7) (tk t0 185))), (en P k_apduNak (tk t0 85) (Value.int (pl v 8) (tk t0 189))), (en P k_apduSeq (tk t0 87) (Value.int (pl v 9) (tk t0 193))), (en P k_apduWin (tk t0 89) (Value.int (pl v 10) (tk t0 197))), (en P k_apduMaxSegs (tk t0 91) (Value.int (pl v 11) (tk t0 201))), (en P k_apduMaxResp (tk t0 93) (Value.int (pl v 12) (tk t0 205))), (en P k_apduService (tk t0 95) (Value.int (pl v 13) (tk t0 209))), (en P k_apduInvokeID (tk t0 97) (Value.int (pl v 14) (tk t0 213))), (en P k_apduAbortRejectReason (tk t0 99) (Value.int (pl v 15) (tk t0 217)))]) 18) (Array.mk []))),
(10, (Obj.mk (Value.ref 417) (some 696) Data.plain (Array.mk []))),
(51, (Obj.mk yList none (Data.seq (Array.mk [(Value.int v (tk t0 9))]) 0) (Array.mk []))),
(52, (Obj.mk yDict none (Data.dict (Array.mk [(en P k_addrType (tk t0 112) (Value.int (2 : Int) 1193)), (en P k_addrNet (tk t0 114) Value.none), (en P k_addrRoute (tk t0 116) Value.none), (en P k_addrAddr (tk t0 122) (Value.bytes (Array.mk [(u8 (md v 256))]) (tk t0 120))), (en P k_addrLen (tk t0 125) (Value.int (1 : Int) (tk t0 123)))]) 5) (Array.mk []))),
(53, (Obj.mk (Value.ref 325) (some 739) Data.plain (Array.mk []))),
(55, (Obj.mk yDict none (Data.dict (Array.mk [(en P k_addrType (tk t0 142) (Value.int (4 : Int) 1197)), (en P k_addrNet (tk t0 144) (Value.int (md v 65535) (tk t0 129))), (en P k_addrRoute (tk t0 146) Value.none), (en P k_addrAddr (tk t0 152) (Value.bytes (Array.mk [(u8 (md (pl v 1) 256))]) (tk t0 150))), (en P k_addrLen (tk t0 155) (Value.int (1 : Int) (tk t0 153)))]) 5) (Array.mk []))),
(56, (Obj.mk (Value.ref 345) (some 742) Data.plain (Array.mk []))),
(59, (Obj.mk yDict none (Data.dict (Array.mk [(en P k_pduUserData (tk t0 254) (Value.ref 788)), (en P k_pduSource (tk t0 258) (Value.ref 790)), (en P k_pduDestination (tk t0 262) (Value.ref 793)), (en P k_pduExpectingReply (tk t0 267) (Value.int (pl (pl v 1) 1) (tk t0 349))), (en P k_pduNetworkPriority (tk t0 272) (Value.int (pl (pl v 1) 2) (tk t0 353))), (en P k_npduVersion (tk t0 275) (Value.int (pl (pl v 1) 3) (tk t0 361))), (en P k_npduControl (tk t0 277) (Value.int (pl (pl v 1) 4) (tk t0 365))), (en P k_npduDADR (tk t0 279) (Value.int (pl (pl v 1) 5) (tk t0 369))), (en P k_npduSADR (tk t0 281) (Value.int (pl (pl v 1) 6) (tk t0 373))), (en P k_npduHopCount (tk t0 283) (Value.int (pl (pl v 1) 7) (tk t0 377))), (en P k_npduNetMessage (tk t0 285) (Value.int (pl (pl v 1) 8) (tk t0 381))), (en P k_npduVendorID (tk t0 287) (Value.int (pl (pl v 1) 9) (tk t0 385)))]) 12) (Array.mk []))),
(60, (Obj.mk (Value.ref 573) (some 746) Data.plain (Array.mk []))),
(101, (Obj.mk yList none (Data.seq (Array.mk [(Value.int (pl v 1) (tk t0 290))]) 0) (Array.mk []))),
(102, (Obj.mk yDict none (Data.dict (Array.mk [(en P k_addrType (tk t0 302) (Value.int (2 : Int) 1193)), (en P k_addrNet (tk t0 304) Value.none), (en P k_addrRoute (tk t0 306) Value.none), (en P k_addrAddr (tk t0 312) (Value.bytes (Array.mk [(u8 (md (pl v 1) 256))]) (tk t0 310))), (en P k_addrLen (tk t0 315) (Value.int (1 : Int) (tk t0 313)))]) 5) (Array.mk []))),
(103, (Obj.mk (Value.ref 325) (some 789) Data.plain (Array.mk []))),
(105, (Obj.mk yDict none (Data.dict (Array.mk [(en P k_addrType (tk t0 332) (Value.int (4 : Int) 1197)), (en P k_addrNet (tk t0 334) (Value.int (md (pl v 1) 65535) (tk t0 319))), (en P k_addrRoute (tk t0 336) Value.none), (en P k_addrAddr (tk t0 342) (Value.bytes (Array.mk [(u8 (md (pl (pl v 1) 1) 256))]) (tk t0 340))), (en P k_addrLen (tk t0 345) (Value.int (1 : Int) (tk t0 343)))]) 5) (Array.mk []))),
(106, (Obj.mk (Value.ref 345) (some 792) Data.plain (Array.mk []))),
(109, (Obj.mk yDict none (Data.dict (Array.mk [(en P k_pduUserData (tk t0 422) (Value.ref 838)), (en P k_pduSource (tk t0 426) (Value.ref 840)), (en P k_pduDestination (tk t0 430) (Value.ref 843)), (en P k_pduExpectingReply (tk t0 435) (Value.int (pl (pl v 2) 1) (tk t0 509))), (en P k_pduNetworkPriority (tk t0 440) (Value.int (pl (pl v 2) 2) (tk t0 513))), (en P k_bvlciType (tk t0 443) (Value.int (pl (pl v 2) 3) (tk t0 521))), (en P k_bvlciFunction (tk t0 445) (Value.int (pl (pl v 2) 4) (tk t0 525))), (en P k_bvlciLength (tk t0 447) (Value.int (pl (pl v 2) 5) (tk t0 529)))]) 8) (Array.mk []))),
(110, (Obj.mk (Value.ref 495) (some 796) Data.plain (Array.mk []))),
(151, (Obj.mk yList none (Data.seq (Array.mk [(Value.int (pl v 2) (tk t0 450))]) 0) (Array.mk []))),
(152, (Obj.mk yDict none (Data.dict (Array.mk [(en P k_addrType (tk t0 462) (Value.int (2 : Int) 1193)), (en P k_addrNet (tk t0 464) Value.none), (en P k_addrRoute (tk t0 466) Value.none), (en P k_addrAddr (tk t0 472) (Value.bytes (Array.mk [(u8 (md (pl v 2) 256))]) (tk t0 470))), (en P k_addrLen (tk t0 475) (Value.int (1 : Int) (tk t0 473)))]) 5) (Array.mk []))),
(153, (Obj.mk (Value.ref 325) (some 839) Data.plain (Array.mk []))),
(155, (Obj.mk yDict none (Data.dict (Array.mk [(en P k_addrType (tk t0 492) (Value.int (4 : Int) 1197)), (en P k_addrNet (tk t0 494) (Value.int (md (pl v 2) 65535) (tk t0 479))), (en P k_addrRoute (tk t0 496) Value.none), (en P k_addrAddr (tk t0 502) (Value.bytes (Array.mk [(u8 (md (pl (pl v 2) 1) 256))]) (tk t0 500))), (en P k_addrLen (tk t0 505) (Value.int (1 : Int) (tk t0 503)))]) 5) (Array.mk []))),
(156, (Obj.mk (Value.ref 345) (some 842) Data.plain (Array.mk []))),
(160, (Obj.mk yTuple none (Data.seq (Array.mk [(Value.ref 738), (Value.ref 740), (Value.ref 743), (Value.int (pl v 1) (tk t0 159)), (Value.int (pl v 2) (tk t0 163))]) 0) (Array.mk []))),
(162, (Obj.mk yTuple none (Data.seq (Array.mk [(Value.ref 788), (Value.ref 790), (Value.ref 793), (Value.int (pl (pl v 1) 1) (tk t0 349)), (Value.int (pl (pl v 1) 2) (tk t0 353))]) 0) (Array.mk []))),
(164, (Obj.mk yTuple none (Data.seq (Array.mk [(Value.ref 838), (Value.ref 840), (Value.ref 843), (Value.int (pl (pl v 2) 1) (tk t0 509)), (Value.int (pl (pl v 2) 2) (tk t0 513))]) 0) (Array.mk []))),
(165, (Obj.mk yList none (Data.seq (Array.mk [(Value.ref 847), (Value.ref 849), (Value.ref 851)]) 0) (Array.mk [])))]
noncomputable def L0_1_2 (P : Params) (t0 : Nat) (xs : List Value) (n : Int) (u : Tok) (v : Int) : List (Nat × Obj) := [
(0, (Obj.mk yFrame none (Data.dict (Array.mk [(en P k_script (tk t0 1) (Value.ref 686)), (en P k_n (tk t0 5) (Value.int n u)), (en P k_v (tk t0 10) (Value.int v (tk t0 9))), (en P k_w (tk t0 13) (Value.int (pl v 100) (tk t0 12))), (en P k_text (tk t0 20) (Value.bytes (Array.mk [(@Mine.u8 (md v 256)), (@Mine.u8 (md (pl v 100) 256)), (UInt8.ofNat 7)]) (tk t0 19))), (en P k_header (tk t0 100) (Value.ref 697)), (en P k_other (tk t0 288) (Value.ref 747)), (en P k_link (tk t0 448) (Value.ref 797)), (en P k_rows (tk t0 550) (Value.ref 852)), (en P k_message (tk t0 641) (Value.ref 936))]) 10) (Array.mk []))),
(2, (Obj.mk yList none (Data.seq (Array.mk xs) 0) (Array.mk []))),
(3, (Obj.mk yIter none (Data.fields (Array.mk [(Value.ref 689), (Value.int (1 : Int) 0)])) (Array.mk []))),
(9, (Obj.mk yDict none (Data.dict (Array.mk [(en P k_pduUserData (tk t0 55) (Value.ref 738)), (en P k_pduSource (tk t0 59) (Value.ref 740)), (en P k_pduDestination (tk t0 63) (Value.ref 743)), (en P k_pduExpectingReply (tk t0 68) (Value.int (pl v 1) (tk t0 159))), (en P k_pduNetworkPriority (tk t0 73) (Value.int (pl v 2) (tk t0 163))), (en P k_apduType (tk t0 75) (Value.int (pl v 3) (tk t0 169))), (en P k_apduSeg (tk t0 77) (Value.int (pl v 4) (tk t0 173))), (en P k_apduMor (tk t0 79) (Value.int (pl v 5) (tk t0 177))), (en P k_apduSA (tk t0 81) (Value.int (pl v 6) (tk t0 181))), (en P k_apduSrv (tk t0 83) (Value.int (pl v 7) (tk t0 185))), (en P k_apduNak (tk t0 85) (Value.int (pl v 8) (tk t0 189))), (en P k_apduSeq (tk t0 87) (Value.int (pl v 9) (tk t0 193))), (en P k_apduWin (tk t0 89) (Value.int (pl v 10) (tk t0 197))), (en P k_apduMaxSegs (tk t0 91) (Value.int (pl v 11) (tk t0 201))), (en P k_apduMaxResp (tk t0 93) (Value.int (pl v 12) (tk t0 205))), (en P k_apduService (tk t0 95) (Value.int (pl v 13) (tk t0 209))), (en P k_apduInvokeID (tk t0 97) (Value.int (pl v 14) (tk t0 213))), (en P k_apduAbortRejectReason (tk t0 99) (Value.int (pl v 15) (tk t0 217)))]) 18) (Array.mk []))),
(10, (Obj.mk (Value.ref 417) (some 696) Data.plain (Array.mk []))),
(51, (Obj.mk yList none (Data.seq (Array.mk [(Value.int v (tk t0 9))]) 0) (Array.mk []))),
(52, (Obj.mk yDict none (Data.dict (Array.mk [(en P k_addrType (tk t0 112) (Value.int (2 : Int) 1193)), (en P k_addrNet (tk t0 114) Value.none), (en P k_addrRoute (tk t0 116) Value.none), (en P k_addrAddr (tk t0 122) (Value.bytes (Array.mk [(@Mine.u8 (md v 256))]) (tk t0 120))), (en P k_addrLen (tk t0 125) (Value.int (1 : Int) (tk t0 123)))]) 5) (Array.mk []))),
(53, (Obj.mk (Value.ref 325) (some 739) Data.plain (Array.mk []))),
(55, (Obj.mk yDict none (Data.dict (Array.mk [(en P k_addrType (tk t0 142) (Value.int (4 : Int) 1197)), (en P k_addrNet (tk t0 144) (Value.int (md v 65535) (tk t0 129))), (en P k_addrRoute (tk t0 146) Value.none), (en P k_addrAddr (tk t0 152) (Value.bytes (Array.mk [(@Mine.u8 (md (pl v 1) 256))]) (tk t0 150))), (en P k_addrLen (tk t0 155) (Value.int (1 : Int) (tk t0 153)))]) 5) (Array.mk []))),
(56, (Obj.mk (Value.ref 345) (some 742) Data.plain (Array.mk []))),
(59, (Obj.mk yDict none (Data.dict (Array.mk [(en P k_pduUserData (tk t0 254) (Value.ref 788)), (en P k_pduSource (tk t0 258) (Value.ref 790)), (en P k_pduDestination (tk t0 262) (Value.ref 793)), (en P k_pduExpectingReply (tk t0 267) (Value.int (pl (pl v 1) 1) (tk t0 349))), (en P k_pduNetworkPriority (tk t0 272) (Value.int (pl (pl v 1) 2) (tk t0 353))), (en P k_npduVersion (tk t0 275) (Value.int (pl (pl v 1) 3) (tk t0 361))), (en P k_npduControl (tk t0 277) (Value.int (pl (pl v 1) 4) (tk t0 365))), (en P k_npduDADR (tk t0 279) (Value.int (pl (pl v 1) 5) (tk t0 369))), (en P k_npduSADR (tk t0 281) (Value.int (pl (pl v 1) 6) (tk t0 373))), (en P k_npduHopCount (tk t0 283) (Value.int (pl (pl v 1) 7) (tk t0 377))), (en P k_npduNetMessage (tk t0 285) (Value.int (pl (pl v 1) 8) (tk t0 381))), (en P k_npduVendorID (tk t0 287) (Value.int (pl (pl v 1) 9) (tk t0 385)))]) 12) (Array.mk []))),
(60, (Obj.mk (Value.ref 573) (some 746) Data.plain (Array.mk []))),
(101, (Obj.mk yList none (Data.seq (Array.mk [(Value.int (pl v 1) (tk t0 290))]) 0) (Array.mk []))),
(102, (Obj.mk yDict none (Data.dict (Array.mk [(en P k_addrType (tk t0 302) (Value.int (2 : Int) 1193)), (en P k_addrNet (tk t0 304) Value.none), (en P k_addrRoute (tk t0 306) Value.none), (en P k_addrAddr (tk t0 312) (Value.bytes (Array.mk [(@Mine.u8 (md (pl v 1) 256))]) (tk t0 310))), (en P k_addrLen (tk t0 315) (Value.int (1 : Int) (tk t0 313)))]) 5) (Array.mk []))),
(103, (Obj.mk (Value.ref 325) (some 789) Data.plain (Array.mk []))),
(105, (Obj.mk yDict none (Data.dict (Array.mk [(en P k_addrType (tk t0 332) (Value.int (4 : Int) 1197)), (en P k_addrNet (tk t0 334) (Value.int (md (pl v 1) 65535) (tk t0 319))), (en P k_addrRoute (tk t0 336) Value.none), (en P k_addrAddr (tk t0 342) (Value.bytes (Array.mk [(@Mine.u8 (md (pl (pl v 1) 1) 256))]) (tk t0 340))), (en P k_addrLen (tk t0 345) (Value.int (1 : Int) (tk t0 343)))]) 5) (Array.mk []))),
(106, (Obj.mk (Value.ref 345) (some 792) Data.plain (Array.mk []))),
(109, (Obj.mk yDict none (Data.dict (Array.mk [(en P k_pduUserData (tk t0 422) (Value.ref 838)), (en P k_pduSource (tk t0 426) (Value.ref 840)), (en P k_pduDestination (tk t0 430) (Value.ref 843)), (en P k_pduExpectingReply (tk t0 435) (Value.int (pl (pl v 2) 1) (tk t0 509))), (en P k_pduNetworkPriority (tk t0 440) (Value.int (pl (pl v 2) 2) (tk t0 513))), (en P k_bvlciType (tk t0 443) (Value.int (pl (pl v 2) 3) (tk t0 521))), (en P k_bvlciFunction (tk t0 445) (Value.int (pl (pl v 2) 4) (tk t0 525))), (en P k_bvlciLength (tk t0 447) (Value.int (pl (pl v 2) 5) (tk t0 529)))]) 8) (Array.mk []))),
(110, (Obj.mk (Value.ref 495) (some 796) Data.plain (Array.mk []))),
(151, (Obj.mk yList none (Data.seq (Array.mk [(Value.int (pl v 2) (tk t0 450))]) 0) (Array.mk []))),
(152, (Obj.mk yDict none (Data.dict (Array.mk [(en P k_addrType (tk t0 462) (Value.int (2 : Int) 1193)), (en P k_addrNet (tk t0 464) Value.none), (en P k_addrRoute (tk t0 466) Value.none), (en P k_addrAddr (tk t0 472) (Value.bytes (Array.mk [(@Mine.u8 (md (pl v 2) 256))]) (tk t0 470))), (en P k_addrLen (tk t0 475) (Value.int (1 : Int) (tk t0 473)))]) 5) (Array.mk []))),
(153, (Obj.mk (Value.ref 325) (some 839) Data.plain (Array.mk []))),
(155, (Obj.mk yDict none (Data.dict (Array.mk [(en P k_addrType (tk t0 492) (Value.int (4 : Int) 1197)), (en P k_addrNet (tk t0 494) (Value.int (md (pl v 2) 65535) (tk t0 479))), (en P k_addrRoute (tk t0 496) Value.none), (en P k_addrAddr (tk t0 502) (Value.bytes (Array.mk [(@Mine.u8 (md (pl (pl v 2) 1) 256))]) (tk t0 500))), (en P k_addrLen (tk t0 505) (Value.int (1 : Int) (tk t0 503)))]) 5) (Array.mk []))),
(156, (Obj.mk (Value.ref 345) (some 842) Data.plain (Array.mk []))),
(160, (Obj.mk yTuple none (Data.seq (Array.mk [(Value.ref 738), (Value.ref 740), (Value.ref 743), (Value.int (pl v 1) (tk t0 159)), (Value.int (pl v 2) (tk t0 163))]) 0) (Array.mk []))),
(162, (Obj.mk yTuple none (Data.seq (Array.mk [(Value.ref 788), (Value.ref 790), (Value.ref 793), (Value.int (pl (pl v 1) 1) (tk t0 349)), (Value.int (pl (pl v 1) 2) (tk t0 353))]) 0) (Array.mk []))),
(164, (Obj.mk yTuple none (Data.seq (Array.mk [(Value.ref 838), (Value.ref 840), (Value.ref 843), (Value.int (pl (pl v 2) 1) (tk t0 509)), (Value.int (pl (pl v 2) 2) (tk t0 513))]) 0) (Array.mk []))),
(165, (Obj.mk yList none (Data.seq (Array.mk [(Value.ref 847), (Value.ref 849), (Value.ref 851)]) 0) (Array.mk []))),
(248, (Obj.mk yDict none (Data.dict (Array.mk [(en P k_pduData (tk t0 941) (Value.ref 991)), (en P k_pduUserData (tk t0 945) (Value.ref 788)), (en P k_pduSource (tk t0 949) (Value.ref 790)), (en P k_pduDestination (tk t0 953) (Value.ref 793)), (en P k_pduExpectingReply (tk t0 958) (Value.int (pl (pl v 1) 1) (tk t0 349))), (en P k_pduNetworkPriority (tk t0 963) (Value.int (pl (pl v 1) 2) (tk t0 353))), (en P k_npduVersion (tk t0 966) (Value.int (pl (pl v 1) 3) (tk t0 361))), (en P k_npduControl (tk t0 968) (Value.int (pl (pl v 1) 4) (tk t0 365))), (en P k_npduDADR (tk t0 970) (Value.int (pl (pl v 1) 5) (tk t0 369))), (en P k_npduSADR (tk t0 972) (Value.int (pl (pl v 1) 6) (tk t0 373))), (en P k_npduHopCount (tk t0 974) (Value.int (pl (pl v 1) 7) (tk t0 377))), (en P k_npduNetMessage (tk t0 976) (Value.int (pl (pl v 1) 8) (tk t0 381))), (en P k_npduVendorID (tk t0 978) (Value.int (pl (pl v 1) 9) (tk t0 385)))]) 13) (Array.mk []))),
(249, (Obj.mk (Value.ref 608) (some 935) Data.plain (Array.mk []))),
(304, (Obj.mk ys9501651726347032510x9 none (Data.bytearray (Array.mk [(@Mine.u8 (md v 256)), (@Mine.u8 (md (pl v 100) 256)), (UInt8.ofNat 7)]) 0) (Array.mk [])))]
noncomputable def L0_1_3 (P : Params) (t0 : Nat) (xs : List Value) (n : Int) (u : Tok) (v : Int) : List (Nat × Obj) := [
(0, (Obj.mk yFrame none (Data.dict (Array.mk [(en P k_script (tk t0 1) (Value.ref 686)), (en P k_n (tk t0 5) (Value.int n u)), (en P k_v (tk t0 10) (Value.int v (tk t0 9))), (en P k_w (tk t0 13) (Value.int (pl v 100) (tk t0 12))), (en P k_text (tk t0 20) (Value.bytes (Array.mk [(@Mine.u8 (md v 256)), (@Mine.u8 (md (pl v 100) 256)), (UInt8.ofNat 7)]) (tk t0 19))), (en P k_header (tk t0 100) (Value.ref 697)), (en P k_other (tk t0 288) (Value.ref 747)), (en P k_link (tk t0 448) (Value.ref 797)), (en P k_rows (tk t0 550) (Value.ref 852)), (en P k_message (tk t0 641) (Value.ref 1104))]) 10) (Array.mk []))),
(2, (Obj.mk yList none (Data.seq (Array.mk xs) 0) (Array.mk []))),
(3, (Obj.mk yIter none (Data.fields (Array.mk [(Value.ref 689), (Value.int (1 : Int) 0)])) (Array.mk []))),
(9, (Obj.mk yDict none (Data.dict (Array.mk [(en P k_pduUserData (tk t0 55) (Value.ref 738)), (en P k_pduSource (tk t0 59) (Value.ref 740)), (en P k_pduDestination (tk t0 63) (Value.ref 743)), (en P k_pduExpectingReply (tk t0 68) (Value.int (pl v 1) (tk t0 159))), (en P k_pduNetworkPriority (tk t0 73) (Value.int (pl v 2) (tk t0 163))), (en P k_apduType (tk t0 75) (Value.int (pl v 3) (tk t0 169))), (en P k_apduSeg (tk t0 77) (Value.int (pl v 4) (tk t0 173))), (en P k_apduMor (tk t0 79) (Value.int (pl v 5) (tk t0 177))), (en P k_apduSA (tk t0 81) (Value.int (pl v 6) (tk t0 181))), (en P k_apduSrv (tk t0 83) (Value.int (pl v 7) (tk t0 185))), (en P k_apduNak (tk t0 85) (Value.int (pl v 8) (tk t0 189))), (en P k_apduSeq (tk t0 87) (Value.int (pl v 9) (tk t0 193))), (en P k_apduWin (tk t0 89) (Value.int (pl v 10) (tk t0 197))), (en P k_apduMaxSegs (tk t0 91) (Value.int (pl v 11) (tk t0 201))), (en P k_apduMaxResp (tk t0 93) (Value.int (pl v 12) (tk t0 205))), (en P k_apduService (tk t0 95) (Value.int (pl v 13) (tk t0 209))), (en P k_apduInvokeID (tk t0 97) (Value.int (pl v 14) (tk t0 213))), (en P k_apduAbortRejectReason (tk t0 99) (Value.int (pl v 15) (tk t0 217)))]) 18) (Array.mk []))),
(10, (Obj.mk (Value.ref 417) (some 696) Data.plain (Array.mk []))),
(51, (Obj.mk yList none (Data.seq (Array.mk [(Value.int v (tk t0 9))]) 0) (Array.mk []))),
(52, (Obj.mk yDict none (Data.dict (Array.mk [(en P k_addrType (tk t0 112) (Value.int (2 : Int) 1193)), (en P k_addrNet (tk t0 114) Value.none), (en P k_addrRoute (tk t0 116) Value.none), (en P k_addrAddr (tk t0 122) (Value.bytes (Array.mk [(@Mine.u8 (md v 256))]) (tk t0 120))), (en P k_addrLen (tk t0 125) (Value.int (1 : Int) (tk t0 123)))]) 5) (Array.mk []))),
(53, (Obj.mk (Value.ref 325) (some 739) Data.plain (Array.mk []))),
(55, (Obj.mk yDict none (Data.dict (Array.mk [(en P k_addrType (tk t0 142) (Value.int (4 : Int) 1197)), (en P k_addrNet (tk t0 144) (Value.int (md v 65535) (tk t0 129))), (en P k_addrRoute (tk t0 146) Value.none), (en P k_addrAddr (tk t0 152) (Value.bytes (Array.mk [(@Mine.u8 (md (pl v 1) 256))]) (tk t0 150))), (en P k_addrLen (tk t0 155) (Value.int (1 : Int) (tk t0 153)))]) 5) (Array.mk []))),
(56, (Obj.mk (Value.ref 345) (some 742) Data.plain (Array.mk []))),
(59, (Obj.mk yDict none (Data.dict (Array.mk [(en P k_pduUserData (tk t0 254) (Value.ref 788)), (en P k_pduSource (tk t0 258) (Value.ref 790)), (en P k_pduDestination (tk t0 262) (Value.ref 793)), (en P k_pduExpectingReply (tk t0 267) (Value.int (pl (pl v 1) 1) (tk t0 349))), (en P k_pduNetworkPriority (tk t0 272) (Value.int (pl (pl v 1) 2) (tk t0 353))), (en P k_npduVersion (tk t0 275) (Value.int (pl (pl v 1) 3) (tk t0 361))), (en P k_npduControl (tk t0 277) (Value.int (pl (pl v 1) 4) (tk t0 365))), (en P k_npduDADR (tk t0 279) (Value.int (pl (pl v 1) 5) (tk t0 369))), (en P k_npduSADR (tk t0 281) (Value.int (pl (pl v 1) 6) (tk t0 373))), (en P k_npduHopCount (tk t0 283) (Value.int (pl (pl v 1) 7) (tk t0 377))), (en P k_npduNetMessage (tk t0 285) (Value.int (pl (pl v 1) 8) (tk t0 381))), (en P k_npduVendorID (tk t0 287) (Value.int (pl (pl v 1) 9) (tk t0 385)))]) 12) (Array.mk []))),
(60, (Obj.mk (Value.ref 573) (some 746) Data.plain (Array.mk []))),
(101, (Obj.mk yList none (Data.seq (Array.mk [(Value.int (pl v 1) (tk t0 290))]) 0) (Array.mk []))),
(102, (Obj.mk yDict none (Data.dict (Array.mk [(en P k_addrType (tk t0 302) (Value.int (2 : Int) 1193)), (en P k_addrNet (tk t0 304) Value.none), (en P k_addrRoute (tk t0 306) Value.none), (en P k_addrAddr (tk t0 312) (Value.bytes (Array.mk [(@Mine.u8 (md (pl v 1) 256))]) (tk t0 310))), (en P k_addrLen (tk t0 315) (Value.int (1 : Int) (tk t0 313)))]) 5) (Array.mk []))),
(103, (Obj.mk (Value.ref 325) (some 789) Data.plain (Array.mk []))),
(105, (Obj.mk yDict none (Data.dict (Array.mk [(en P k_addrType (tk t0 332) (Value.int (4 : Int) 1197)), (en P k_addrNet (tk t0 334) (Value.int (md (pl v 1) 65535) (tk t0 319))), (en P k_addrRoute (tk t0 336) Value.none), (en P k_addrAddr (tk t0 342) (Value.bytes (Array.mk [(@Mine.u8 (md (pl (pl v 1) 1) 256))]) (tk t0 340))), (en P k_addrLen (tk t0 345) (Value.int (1 : Int) (tk t0 343)))]) 5) (Array.mk []))),
(106, (Obj.mk (Value.ref 345) (some 792) Data.plain (Array.mk []))),
(109, (Obj.mk yDict none (Data.dict (Array.mk [(en P k_pduUserData (tk t0 422) (Value.ref 838)), (en P k_pduSource (tk t0 426) (Value.ref 840)), (en P k_pduDestination (tk t0 430) (Value.ref 843)), (en P k_pduExpectingReply (tk t0 435) (Value.int (pl (pl v 2) 1) (tk t0 509))), (en P k_pduNetworkPriority (tk t0 440) (Value.int (pl (pl v 2) 2) (tk t0 513))), (en P k_bvlciType (tk t0 443) (Value.int (pl (pl v 2) 3) (tk t0 521))), (en P k_bvlciFunction (tk t0 445) (Value.int (pl (pl v 2) 4) (tk t0 525))), (en P k_bvlciLength (tk t0 447) (Value.int (pl (pl v 2) 5) (tk t0 529)))]) 8) (Array.mk []))),
(110, (Obj.mk (Value.ref 495) (some 796) Data.plain (Array.mk []))),
(151, (Obj.mk yList none (Data.seq (Array.mk [(Value.int (pl v 2) (tk t0 450))]) 0) (Array.mk []))),
(152, (Obj.mk yDict none (Data.dict (Array.mk [(en P k_addrType (tk t0 462) (Value.int (2 : Int) 1193)), (en P k_addrNet (tk t0 464) Value.none), (en P k_addrRoute (tk t0 466) Value.none), (en P k_addrAddr (tk t0 472) (Value.bytes (Array.mk [(@Mine.u8 (md (pl v 2) 256))]) (tk t0 470))), (en P k_addrLen (tk t0 475) (Value.int (1 : Int) (tk t0 473)))]) 5) (Array.mk []))),
(153, (Obj.mk (Value.ref 325) (some 839) Data.plain (Array.mk []))),
(155, (Obj.mk yDict none (Data.dict (Array.mk [(en P k_addrType (tk t0 492) (Value.int (4 : Int) 1197)), (en P k_addrNet (tk t0 494) (Value.int (md (pl v 2) 65535) (tk t0 479))), (en P k_addrRoute (tk t0 496) Value.none), (en P k_addrAddr (tk t0 502) (Value.bytes (Array.mk [(@Mine.u8 (md (pl (pl v 2) 1) 256))]) (tk t0 500))), (en P k_addrLen (tk t0 505) (Value.int (1 : Int) (tk t0 503)))]) 5) (Array.mk []))),
(156, (Obj.mk (Value.ref 345) (some 842) Data.plain (Array.mk []))),
(160, (Obj.mk yTuple none (Data.seq (Array.mk [(Value.ref 738), (Value.ref 740), (Value.ref 743), (Value.int (pl v 1) (tk t0 159)), (Value.int (pl v 2) (tk t0 163))]) 0) (Array.mk []))),
(162, (Obj.mk yTuple none (Data.seq (Array.mk [(Value.ref 788), (Value.ref 790), (Value.ref 793), (Value.int (pl (pl v 1) 1) (tk t0 349)), (Value.int (pl (pl v 1) 2) (tk t0 353))]) 0) (Array.mk []))),
(164, (Obj.mk yTuple none (Data.seq (Array.mk [(Value.ref 838), (Value.ref 840), (Value.ref 843), (Value.int (pl (pl v 2) 1) (tk t0 509)), (Value.int (pl (pl v 2) 2) (tk t0 513))]) 0) (Array.mk []))),
(165, (Obj.mk yList none (Data.seq (Array.mk [(Value.ref 847), (Value.ref 849), (Value.ref 851)]) 0) (Array.mk []))),
(416, (Obj.mk yDict none (Data.dict (Array.mk [(en P k_pduData (tk t0 1487) (Value.ref 1159)), (en P k_pduUserData (tk t0 1491) (Value.ref 788)), (en P k_pduSource (tk t0 1495) (Value.ref 790)), (en P k_pduDestination (tk t0 1499) (Value.ref 793)), (en P k_pduExpectingReply (tk t0 1504) (Value.int (pl (pl v 1) 1) (tk t0 349))), (en P k_pduNetworkPriority (tk t0 1509) (Value.int (pl (pl v 1) 2) (tk t0 353))), (en P k_apduType (tk t0 1511) (Value.int (pl (pl v 100) 3) (tk t0 1605))), (en P k_apduSeg (tk t0 1513) (Value.int (pl (pl v 100) 4) (tk t0 1609))), (en P k_apduMor (tk t0 1515) (Value.int (pl (pl v 100) 5) (tk t0 1613))), (en P k_apduSA (tk t0 1517) (Value.int (pl (pl v 100) 6) (tk t0 1617))), (en P k_apduSrv (tk t0 1519) (Value.int (pl (pl v 100) 7) (tk t0 1621))), (en P k_apduNak (tk t0 1521) (Value.int (pl (pl v 100) 8) (tk t0 1625))), (en P k_apduSeq (tk t0 1523) (Value.int (pl (pl v 100) 9) (tk t0 1629))), (en P k_apduWin (tk t0 1525) (Value.int (pl (pl v 100) 10) (tk t0 1633))), (en P k_apduMaxSegs (tk t0 1527) (Value.int (pl (pl v 100) 11) (tk t0 1637))), (en P k_apduMaxResp (tk t0 1529) (Value.int (pl (pl v 100) 12) (tk t0 1641))), (en P k_apduService (tk t0 1531) (Value.int (pl (pl v 100) 13) (tk t0 1645))), (en P k_apduInvokeID (tk t0 1533) (Value.int (pl (pl v 100) 14) (tk t0 1649))), (en P k_apduAbortRejectReason (tk t0 1535) (Value.int (pl (pl v 100) 15) (tk t0 1653)))]) 19) (Array.mk []))),
(417, (Obj.mk (Value.ref 452) (some 1103) Data.plain (Array.mk []))),
(472, (Obj.mk ys9501651726347032510x9 none (Data.bytearray (Array.mk [(@Mine.u8 (md v 256)), (@Mine.u8 (md (pl v 100) 256)), (UInt8.ofNat 7)]) 0) (Array.mk [])))]
noncomputable def L0_1_4 (P : Params) (t0 : Nat) (xs : List Value) (n : Int) (u : Tok) (v : Int) : List (Nat × Obj) := [
(0, (Obj.mk yFrame none (Data.dict (Array.mk [(en P k_script (tk t0 1) (Value.ref 686)), (en P k_n (tk t0 5) (Value.int n u)), (en P k_v (tk t0 10) (Value.int v (tk t0 9))), (en P k_w (tk t0 13) (Value.int (pl v 100) (tk t0 12))), (en P k_text (tk t0 20) (Value.bytes (Array.mk [(@Mine.u8 (md v 256)), (@Mine.u8 (md (pl v 100) 256)), (UInt8.ofNat 7)]) (tk t0 19))), (en P k_header (tk t0 100) (Value.ref 697)), (en P k_other (tk t0 288) (Value.ref 747)), (en P k_link (tk t0 448) (Value.ref 797)), (en P k_rows (tk t0 550) (Value.ref 852)), (en P k_message (tk t0 641) (Value.ref 1268))]) 10) (Array.mk []))),
(2, (Obj.mk yList none (Data.seq (Array.mk xs) 0) (Array.mk []))),
(3, (Obj.mk yIter none (Data.fields (Array.mk [(Value.ref 689), (Value.int (1 : Int) 0)])) (Array.mk [])))]
noncomputable def L0_2_1 (P : Params) (t0 : Nat) (xs : List Value) (n : Int) (u : Tok) (v : Int) : List (Nat × Obj) := [
(0, (Obj.mk yFrame none (Data.dict (Array.mk [(en P k_script (tk t0 1) (Value.ref 686)), (en P k_n (tk t0 5) (Value.int n u)), (en P k_v (tk t0 10) (Value.int v (tk t0 2481))), (en P k_w (tk t0 13) (Value.int (pl v 100) (tk t0 2484))), (en P k_text (tk t0 20) (Value.bytes (Array.mk [(u8 (md v 256)), (u8 (md (pl v 100) 256)), (UInt8.ofNat 7)]) (tk t0 2491))), (en P k_header (tk t0 100) (Value.ref 1399)), (en P k_other (tk t0 288) (Value.ref 1449)), (en P k_link (tk t0 448) (Value.ref 1499)), (en P k_rows (tk t0 550) (Value.ref 1554)), (en P k_message (tk t0 641) (Value.ref 1268))]) 10) (Array.mk []))),
(2, (Obj.mk yList none (Data.seq (Array.mk xs) 0) (Array.mk []))),
(3, (Obj.mk yIter none (Data.fields (Array.mk [(Value.ref 689), (Value.int (2 : Int) 0)])) (Array.mk []))),
(711, (Obj.mk yDict none (Data.dict (Array.mk [(en P k_pduUserData (tk t0 2527) (Value.ref 1440)), (en P k_pduSource (tk t0 2531) (Value.ref 1442)), (en P k_pduDestination (tk t0 2535) (Value.ref 1445)), (en P k_pduExpectingReply (tk t0 2540) (Value.int (pl v 1) (tk t0 2631))), (en P k_pduNetworkPriority (tk t0 2545) (Value.int (pl v 2) (tk t0 2635))), (en P k_apduType (tk t0 2547) (Value.int (pl v 3) (tk t0 2641))), (en P k_apduSeg (tk t0 2549) (Value.int (pl v 4) (tk t0 2645))), (en P k_apduMor (tk t0 2551) (Value.int (pl v 5) (tk t0 2649))), (en P k_apduSA (tk t0 2553) (Value.int (pl v 6) (tk t0 2653))), (en P k_apduSrv (tk t0 2555) (Value.int (pl v 7) (tk t0 2657))), (en P k_apduNak (tk t0 2557) (Value.int (pl v 8) (tk t0 2661))), (en P k_apduSeq (tk t0 2559) (Value.int (pl v 9) (tk t0 2665))), (en P k_apduWin (tk t0 2561) (Value.int (pl v 10) (tk t0 2669))), (en P k_apduMaxSegs (tk t0 2563) (Value.int (pl v 11) (tk t0 2673))), (en P k_apduMaxResp (tk t0 2565) (Value.int (pl v 12) (tk t0 2677))), (en P k_apduService (tk t0 2567) (Value.int (pl v 13) (tk t0 2681))), (en P k_apduInvokeID (tk t0 2569) (Value.int (pl v 14) (tk t0 2685))), (en P k_apduAbortRejectReason (tk t0 2571) (Value.int (pl v 15) (tk t0 2689)))]) 18) (Array.mk []))),
(712, (Obj.mk (Value.ref 417) (some 1398) Data.plain (Array.mk []))),
(753, (Obj.mk yList none (Data.seq (Array.mk [(Value.int v (tk t0 2481))]) 0) (Array.mk []))),
(754, (Obj.mk yDict none (Data.dict (Array.mk [(en P k_addrType (tk t0 2584) (Value.int (2 : Int) 1193)), (en P k_addrNet (tk t0 2586) Value.none), (en P k_addrRoute (tk t0 2588) Value.none), (en P k_addrAddr (tk t0 2594) (Value.bytes (Array.mk [(u8 (md v 256))]) (tk t0 2592))), (en P k_addrLen (tk t0 2597) (Value.int (1 : Int) (tk t0 2595)))]) 5) (Array.mk []))),
(755, (Obj.mk (Value.ref 325) (some 1441) Data.plain (Array.mk []))),
(757, (Obj.mk yDict none (Data.dict (Array.mk [(en P k_addrType (tk t0 2614) (Value.int (4 : Int) 1197)), (en P k_addrNet (tk t0 2616) (Value.int (md v 65535) (tk t0 2601))), (en P k_addrRoute (tk t0 2618) Value.none), (en P k_addrAddr (tk t0 2624) (Value.bytes (Array.mk [(u8 (md (pl v 1) 256))]) (tk t0 2622))), (en P k_addrLen (tk t0 2627) (Value.int (1 : Int) (tk t0 2625)))]) 5) (Array.mk []))),
(758, (Obj.mk (Value.ref 345) (some 1444) Data.plain (Array.mk []))),
(761, (Obj.mk yDict none (Data.dict (Array.mk [(en P k_pduUserData (tk t0 2726) (Value.ref 1490)), (en P k_pduSource (tk t0 2730) (Value.ref 1492)), (en P k_pduDestination (tk t0 2734) (Value.ref 1495)), (en P k_pduExpectingReply (tk t0 2739) (Value.int (pl (pl v 1) 1) (tk t0 2821))), (en P k_pduNetworkPriority (tk t0 2744) (Value.int (pl (pl v 1) 2) (tk t0 2825))), (en P k_npduVersion (tk t0 2747) (Value.int (pl (pl v 1) 3) (tk t0 2833))), (en P k_npduControl (tk t0 2749) (Value.int (pl (pl v 1) 4) (tk t0 2837))), (en P k_npduDADR (tk t0 2751) (Value.int (pl (pl v 1) 5) (tk t0 2841))), (en P k_npduSADR (tk t0 2753) (Value.int (pl (pl v 1) 6) (tk t0 2845))), (en P k_npduHopCount (tk t0 2755) (Value.int (pl (pl v 1) 7) (tk t0 2849))), (en P k_npduNetMessage (tk t0 2757) (Value.int (pl (pl v 1) 8) (tk t0 2853))), (en P k_npduVendorID (tk t0 2759) (Value.int (pl (pl v 1) 9) (tk t0 2857)))]) 12) (Array.mk []))),
(762, (Obj.mk (Value.ref 573) (some 1448) Data.plain (Array.mk []))),
(803, (Obj.mk yList none (Data.seq (Array.mk [(Value.int (pl v 1) (tk t0 2762))]) 0) (Array.mk []))),
(804, (Obj.mk yDict none (Data.dict (Array.mk [(en P k_addrType (tk t0 2774) (Value.int (2 : Int) 1193)), (en P k_addrNet (tk t0 2776) Value.none), (en P k_addrRoute (tk t0 2778) Value.none), (en P k_addrAddr (tk t0 2784) (Value.bytes (Array.mk [(u8 (md (pl v 1) 256))]) (tk t0 2782))), (en P k_addrLen (tk t0 2787) (Value.int (1 : Int) (tk t0 2785)))]) 5) (Array.mk []))),
(805, (Obj.mk (Value.ref 325) (some 1491) Data.plain (Array.mk []))),
(807, (Obj.mk yDict none (Data.dict (Array.mk [(en P k_addrType (tk t0 2804) (Value.int (4 : Int) 1197)), (en P k_addrNet (tk t0 2806) (Value.int (md (pl v 1) 65535) (tk t0 2791))), (en P k_addrRoute (tk t0 2808) Value.none), (en P k_addrAddr (tk t0 2814) (Value.bytes (Array.mk [(u8 (md (pl (pl v 1) 1) 256))]) (tk t0 2812))), (en P k_addrLen (tk t0 2817) (Value.int (1 : Int) (tk t0 2815)))]) 5) (Array.mk []))),
(808, (Obj.mk (Value.ref 345) (some 1494) Data.plain (Array.mk []))),
(811, (Obj.mk yDict none (Data.dict (Array.mk [(en P k_pduUserData (tk t0 2894) (Value.ref 1540)), (en P k_pduSource (tk t0 2898) (Value.ref 1542)), (en P k_pduDestination (tk t0 2902) (Value.ref 1545)), (en P k_pduExpectingReply (tk t0 2907) (Value.int (pl (pl v 2) 1) (tk t0 2981))), (en P k_pduNetworkPriority (tk t0 2912) (Value.int (pl (pl v 2) 2) (tk t0 2985))), (en P k_bvlciType (tk t0 2915) (Value.int (pl (pl v 2) 3) (tk t0 2993))), (en P k_bvlciFunction (tk t0 2917) (Value.int (pl (pl v 2) 4) (tk t0 2997))), (en P k_bvlciLength (tk t0 2919) (Value.int (pl (pl v 2) 5) (tk t0 3001)))]) 8) (Array.mk []))),
(812, (Obj.mk (Value.ref 495) (some 1498) Data.plain (Array.mk []))),
(853, (Obj.mk yList none (Data.seq (Array.mk [(Value.int (pl v 2) (tk t0 2922))]) 0) (Array.mk []))),
(854, (Obj.mk yDict none (Data.dict (Array.mk [(en P k_addrType (tk t0 2934) (Value.int (2 : Int) 1193)), (en P k_addrNet (tk t0 2936) Value.none), (en P k_addrRoute (tk t0 2938) Value.none), (en P k_addrAddr (tk t0 2944) (Value.bytes (Array.mk [(u8 (md (pl v 2) 256))]) (tk t0 2942))), (en P k_addrLen (tk t0 2947) (Value.int (1 : Int) (tk t0 2945)))]) 5) (Array.mk []))),
(855, (Obj.mk (Value.ref 325) (some 1541) Data.plain (Array.mk []))),
(857, (Obj.mk yDict none (Data.dict (Array.mk [(en P k_addrType (tk t0 2964) (Value.int (4 : Int) 1197)), (en P k_addrNet (tk t0 2966) (Value.int (md (pl v 2) 65535) (tk t0 2951))), (en P k_addrRoute (tk t0 2968) Value.none), (en P k_addrAddr (tk t0 2974) (Value.bytes (Array.mk [(u8 (md (pl (pl v 2) 1) 256))]) (tk t0 2972))), (en P k_addrLen (tk t0 2977) (Value.int (1 : Int) (tk t0 2975)))]) 5) (Array.mk []))),
(858, (Obj.mk (Value.ref 345) (some 1544) Data.plain (Array.mk []))),
(862, (Obj.mk yTuple none (Data.seq (Array.mk [(Value.ref 1440), (Value.ref 1442), (Value.ref 1445), (Value.int (pl v 1) (tk t0 2631)), (Value.int (pl v 2) (tk t0 2635))]) 0) (Array.mk []))),
(864, (Obj.mk yTuple none (Data.seq (Array.mk [(Value.ref 1490), (Value.ref 1492), (Value.ref 1495), (Value.int (pl (pl v 1) 1) (tk t0 2821)), (Value.int (pl (pl v 1) 2) (tk t0 2825))]) 0) (Array.mk []))),
(866, (Obj.mk yTuple none (Data.seq (Array.mk [(Value.ref 1540), (Value.ref 1542), (Value.ref 1545), (Value.int (pl (pl v 2) 1) (tk t0 2981)), (Value.int (pl (pl v 2) 2) (tk t0 2985))]) 0) (Array.mk []))),
(867, (Obj.mk yList none (Data.seq (Array.mk [(Value.ref 1549), (Value.ref 1551), (Value.ref 1553)]) 0) (Array.mk [])))]
noncomputable def L0_2_2 (P : Params) (t0 : Nat) (xs : List Value) (n : Int) (u : Tok) (v : Int) : List (Nat × Obj) := [
(0, (Obj.mk yFrame none (Data.dict (Array.mk [(en P k_script (tk t0 1) (Value.ref 686)), (en P k_n (tk t0 5) (Value.int n u)), (en P k_v (tk t0 10) (Value.int v (tk t0 2481))), (en P k_w (tk t0 13) (Value.int (pl v 100) (tk t0 2484))), (en P k_text (tk t0 20) (Value.bytes (Array.mk [(@Mine.u8 (md v 256)), (@Mine.u8 (md (pl v 100) 256)), (UInt8.ofNat 7)]) (tk t0 2491))), (en P k_header (tk t0 100) (Value.ref 1399)), (en P k_other (tk t0 288) (Value.ref 1449)), (en P k_link (tk t0 448) (Value.ref 1499)), (en P k_rows (tk t0 550) (Value.ref 1554)), (en P k_message (tk t0 641) (Value.ref 1638))]) 10) (Array.mk []))),
(2, (Obj.mk yList none (Data.seq (Array.mk xs) 0) (Array.mk []))),
(3, (Obj.mk yIter none (Data.fields (Array.mk [(Value.ref 689), (Value.int (2 : Int) 0)])) (Array.mk []))),
(711, (Obj.mk yDict none (Data.dict (Array.mk [(en P k_pduUserData (tk t0 2527) (Value.ref 1440)), (en P k_pduSource (tk t0 2531) (Value.ref 1442)), (en P k_pduDestination (tk t0 2535) (Value.ref 1445)), (en P k_pduExpectingReply (tk t0 2540) (Value.int (pl v 1) (tk t0 2631))), (en P k_pduNetworkPriority (tk t0 2545) (Value.int (pl v 2) (tk t0 2635))), (en P k_apduType (tk t0 2547) (Value.int (pl v 3) (tk t0 2641))), (en P k_apduSeg (tk t0 2549) (Value.int (pl v 4) (tk t0 2645))), (en P k_apduMor (tk t0 2551) (Value.int (pl v 5) (tk t0 2649))), (en P k_apduSA (tk t0 2553) (Value.int (pl v 6) (tk t0 2653))), (en P k_apduSrv (tk t0 2555) (Value.int (pl v 7) (tk t0 2657))), (en P k_apduNak (tk t0 2557) (Value.int (pl v 8) (tk t0 2661))), (en P k_apduSeq (tk t0 2559) (Value.int (pl v 9) (tk t0 2665))), (en P k_apduWin (tk t0 2561) (Value.int (pl v 10) (tk t0 2669))), (en P k_apduMaxSegs (tk t0 2563) (Value.int (pl v 11) (tk t0 2673))), (en P k_apduMaxResp (tk t0 2565) (Value.int (pl v 12) (tk t0 2677))), (en P k_apduService (tk t0 2567) (Value.int (pl v 13) (tk t0 2681))), (en P k_apduInvokeID (tk t0 2569) (Value.int (pl v 14) (tk t0 2685))), (en P k_apduAbortRejectReason (tk t0 2571) (Value.int (pl v 15) (tk t0 2689)))]) 18) (Array.mk []))),
(712, (Obj.mk (Value.ref 417) (some 1398) Data.plain (Array.mk []))),
(753, (Obj.mk yList none (Data.seq (Array.mk [(Value.int v (tk t0 2481))]) 0) (Array.mk []))),
(754, (Obj.mk yDict none (Data.dict (Array.mk [(en P k_addrType (tk t0 2584) (Value.int (2 : Int) 1193)), (en P k_addrNet (tk t0 2586) Value.none), (en P k_addrRoute (tk t0 2588) Value.none), (en P k_addrAddr (tk t0 2594) (Value.bytes (Array.mk [(@Mine.u8 (md v 256))]) (tk t0 2592))), (en P k_addrLen (tk t0 2597) (Value.int (1 : Int) (tk t0 2595)))]) 5) (Array.mk []))),
(755, (Obj.mk (Value.ref 325) (some 1441) Data.plain (Array.mk []))),
(757, (Obj.mk yDict none (Data.dict (Array.mk [(en P k_addrType (tk t0 2614) (Value.int (4 : Int) 1197)), (en P k_addrNet (tk t0 2616) (Value.int (md v 65535) (tk t0 2601))), (en P k_addrRoute (tk t0 2618) Value.none), (en P k_addrAddr (tk t0 2624) (Value.bytes (Array.mk [(@Mine.u8 (md (pl v 1) 256))]) (tk t0 2622))), (en P k_addrLen (tk t0 2627) (Value.int (1 : Int) (tk t0 2625)))]) 5) (Array.mk []))),
(758, (Obj.mk (Value.ref 345) (some 1444) Data.plain (Array.mk []))),
(761, (Obj.mk yDict none (Data.dict (Array.mk [(en P k_pduUserData (tk t0 2726) (Value.ref 1490)), (en P k_pduSource (tk t0 2730) (Value.ref 1492)), (en P k_pduDestination (tk t0 2734) (Value.ref 1495)), (en P k_pduExpectingReply (tk t0 2739) (Value.int (pl (pl v 1) 1) (tk t0 2821))), (en P k_pduNetworkPriority (tk t0 2744) (Value.int (pl (pl v 1) 2) (tk t0 2825))), (en P k_npduVersion (tk t0 2747) (Value.int (pl (pl v 1) 3) (tk t0 2833))), (en P k_npduControl (tk t0 2749) (Value.int (pl (pl v 1) 4) (tk t0 2837))), (en P k_npduDADR (tk t0 2751) (Value.int (pl (pl v 1) 5) (tk t0 2841))), (en P k_npduSADR (tk t0 2753) (Value.int (pl (pl v 1) 6) (tk t0 2845))), (en P k_npduHopCount (tk t0 2755) (Value.int (pl (pl v 1) 7) (tk t0 2849))), (en P k_npduNetMessage (tk t0 2757) (Value.int (pl (pl v 1) 8) (tk t0 2853))), (en P k_npduVendorID (tk t0 2759) (Value.int (pl (pl v 1) 9) (tk t0 2857)))]) 12) (Array.mk []))),
(762, (Obj.mk (Value.ref 573) (some 1448) Data.plain (Array.mk []))),
(803, (Obj.mk yList none (Data.seq (Array.mk [(Value.int (pl v 1) (tk t0 2762))]) 0) (Array.mk []))),
(804, (Obj.mk yDict none (Data.dict (Array.mk [(en P k_addrType (tk t0 2774) (Value.int (2 : Int) 1193)), (en P k_addrNet (tk t0 2776) Value.none), (en P k_addrRoute (tk t0 2778) Value.none), (en P k_addrAddr (tk t0 2784) (Value.bytes (Array.mk [(@Mine.u8 (md (pl v 1) 256))]) (tk t0 2782))), (en P k_addrLen (tk t0 2787) (Value.int (1 : Int) (tk t0 2785)))]) 5) (Array.mk []))),
(805, (Obj.mk (Value.ref 325) (some 1491) Data.plain (Array.mk []))),
(807, (Obj.mk yDict none (Data.dict (Array.mk [(en P k_addrType (tk t0 2804) (Value.int (4 : Int) 1197)), (en P k_addrNet (tk t0 2806) (Value.int (md (pl v 1) 65535) (tk t0 2791))), (en P k_addrRoute (tk t0 2808) Value.none), (en P k_addrAddr (tk t0 2814) (Value.bytes (Array.mk [(@Mine.u8 (md (pl (pl v 1) 1) 256))]) (tk t0 2812))), (en P k_addrLen (tk t0 2817) (Value.int (1 : Int) (tk t0 2815)))]) 5) (Array.mk []))),
(808, (Obj.mk (Value.ref 345) (some 1494) Data.plain (Array.mk []))),
(811, (Obj.mk yDict none (Data.dict (Array.mk [(en P k_pduUserData (tk t0 2894) (Value.ref 1540)), (en P k_pduSource (tk t0 2898) (Value.ref 1542)), (en P k_pduDestination (tk t0 2902) (Value.ref 1545)), (en P k_pduExpectingReply (tk t0 2907) (Value.int (pl (pl v 2) 1) (tk t0 2981))), (en P k_pduNetworkPriority (tk t0 2912) (Value.int (pl (pl v 2) 2) (tk t0 2985))), (en P k_bvlciType (tk t0 2915) (Value.int (pl (pl v 2) 3) (tk t0 2993))), (en P k_bvlciFunction (tk t0 2917) (Value.int (pl (pl v 2) 4) (tk t0 2997))), (en P k_bvlciLength (tk t0 2919) (Value.int (pl (pl v 2) 5) (tk t0 3001)))]) 8) (Array.mk []))),
(812, (Obj.mk (Value.ref 495) (some 1498) Data.plain (Array.mk []))),
(853, (Obj.mk yList none (Data.seq (Array.mk [(Value.int (pl v 2) (tk t0 2922))]) 0) (Array.mk []))),
(854, (Obj.mk yDict none (Data.dict (Array.mk [(en P k_addrType (tk t0 2934) (Value.int (2 : Int) 1193)), (en P k_addrNet (tk t0 2936) Value.none), (en P k_addrRoute (tk t0 2938) Value.none), (en P k_addrAddr (tk t0 2944) (Value.bytes (Array.mk [(@Mine.u8 (md (pl v 2) 256))]) (tk t0 2942))), (en P k_addrLen (tk t0 2947) (Value.int (1 : Int) (tk t0 2945)))]) 5) (Array.mk []))),
(855, (Obj.mk (Value.ref 325) (some 1541) Data.plain (Array.mk []))),
(857, (Obj.mk yDict none (Data.dict (Array.mk [(en P k_addrType (tk t0 2964) (Value.int (4 : Int) 1197)), (en P k_addrNet (tk t0 2966) (Value.int (md (pl v 2) 65535) (tk t0 2951))), (en P k_addrRoute (tk t0 2968) Value.none), (en P k_addrAddr (tk t0 2974) (Value.bytes (Array.mk [(@Mine.u8 (md (pl (pl v 2) 1) 256))]) (tk t0 2972))), (en P k_addrLen (tk t0 2977) (Value.int (1 : Int) (tk t0 2975)))]) 5) (Array.mk []))),
(858, (Obj.mk (Value.ref 345) (some 1544) Data.plain (Array.mk []))),
(862, (Obj.mk yTuple none (Data.seq (Array.mk [(Value.ref 1440), (Value.ref 1442), (Value.ref 1445), (Value.int (pl v 1) (tk t0 2631)), (Value.int (pl v 2) (tk t0 2635))]) 0) (Array.mk []))),
(864, (Obj.mk yTuple none (Data.seq (Array.mk [(Value.ref 1490), (Value.ref 1492), (Value.ref 1495), (Value.int (pl (pl v 1) 1) (tk t0 2821)), (Value.int (pl (pl v 1) 2) (tk t0 2825))]) 0) (Array.mk []))),
(866, (Obj.mk yTuple none (Data.seq (Array.mk [(Value.ref 1540), (Value.ref 1542), (Value.ref 1545), (Value.int (pl (pl v 2) 1) (tk t0 2981)), (Value.int (pl (pl v 2) 2) (tk t0 2985))]) 0) (Array.mk []))),
(867, (Obj.mk yList none (Data.seq (Array.mk [(Value.ref 1549), (Value.ref 1551), (Value.ref 1553)]) 0) (Array.mk []))),
(950, (Obj.mk yDict none (Data.dict (Array.mk [(en P k_pduData (tk t0 3413) (Value.ref 1693)), (en P k_pduUserData (tk t0 3417) (Value.ref 1490)), (en P k_pduSource (tk t0 3421) (Value.ref 1492)), (en P k_pduDestination (tk t0 3425) (Value.ref 1495)), (en P k_pduExpectingReply (tk t0 3430) (Value.int (pl (pl v 1) 1) (tk t0 2821))), (en P k_pduNetworkPriority (tk t0 3435) (Value.int (pl (pl v 1) 2) (tk t0 2825))), (en P k_npduVersion (tk t0 3438) (Value.int (pl (pl v 1) 3) (tk t0 2833))), (en P k_npduControl (tk t0 3440) (Value.int (pl (pl v 1) 4) (tk t0 2837))), (en P k_npduDADR (tk t0 3442) (Value.int (pl (pl v 1) 5) (tk t0 2841))), (en P k_npduSADR (tk t0 3444) (Value.int (pl (pl v 1) 6) (tk t0 2845))), (en P k_npduHopCount (tk t0 3446) (Value.int (pl (pl v 1) 7) (tk t0 2849))), (en P k_npduNetMessage (tk t0 3448) (Value.int (pl (pl v 1) 8) (tk t0 2853))), (en P k_npduVendorID (tk t0 3450) (Value.int (pl (pl v 1) 9) (tk t0 2857)))]) 13) (Array.mk []))),
(951, (Obj.mk (Value.ref 608) (some 1637) Data.plain (Array.mk []))),
(1006, (Obj.mk ys9501651726347032510x9 none (Data.bytearray (Array.mk [(@Mine.u8 (md v 256)), (@Mine.u8 (md (pl v 100) 256)), (UInt8.ofNat 7)]) 0) (Array.mk [])))]
noncomputable def L0_2_3 (P : Params) (t0 : Nat) (xs : List Value) (n : Int) (u : Tok) (v : Int) : List (Nat × Obj) := [
(0, (Obj.mk yFrame none (Data.dict (Array.mk [(en P k_script (tk t0 1) (Value.ref 686)), (en P k_n (tk t0 5) (Value.int n u)), (en P k_v (tk t0 10) (Value.int v (tk t0 2481))), (en P k_w (tk t0 13) (Value.int (pl v 100) (tk t0 2484))), (en P k_text (tk t0 20) (Value.bytes (Array.mk [(@Mine.u8 (md v 256)), (@Mine.u8 (md (pl v 100) 256)), (UInt8.ofNat 7)]) (tk t0 2491))), (en P k_header (tk t0 100) (Value.ref 1399)), (en P k_other (tk t0 288) (Value.ref 1449)), (en P k_link (tk t0 448) (Value.ref 1499)), (en P k_rows (tk t0 550) (Value.ref 1554)), (en P k_message (tk t0 641) (Value.ref 1806))]) 10) (Array.mk []))),
(2, (Obj.mk yList none (Data.seq (Array.mk xs) 0) (Array.mk []))),
(3, (Obj.mk yIter none (Data.fields (Array.mk [(Value.ref 689), (Value.int (2 : Int) 0)])) (Array.mk []))),
(711, (Obj.mk yDict none (Data.dict (Array.mk [(en P k_pduUserData (tk t0 2527) (Value.ref 1440)), (en P k_pduSource (tk t0 2531) (Value.ref 1442)), (en P k_pduDestination (tk t0 2535) (Value.ref 1445)), (en P k_pduExpectingReply (tk t0 2540) (Value.int (pl v 1) (tk t0 2631))), (en P k_pduNetworkPriority (tk t0 2545) (Value.int (pl v 2) (tk t0 2635))), (en P k_apduType (tk t0 2547) (Value.int (pl v 3) (tk t0 2641))), (en P k_apduSeg (tk t0 2549) (Value.int (pl v 4) (tk t0 2645))), (en P k_apduMor (tk t0 2551) (Value.int (pl v 5) (tk t0 2649))), (en P k_apduSA (tk t0 2553) (Value.int (pl v 6) (tk t0 2653))), (en P k_apduSrv (tk t0 2555) (Value.int (pl v 7) (tk t0 2657))), (en P k_apduNak (tk t0 2557) (Value.int (pl v 8) (tk t0 2661))), (en P k_apduSeq (tk t0 2559) (Value.int (pl v 9) (tk t0 2665))), (en P k_apduWin (tk t0 2561) (Value.int (pl v 10) (tk t0 2669))), (en P k_apduMaxSegs (tk t0 2563) (Value.int (pl v 11) (tk t0 2673))), (en P k_apduMaxResp (tk t0 2565) (Value.int (pl v 12) (tk t0 2677))), (en P k_apduService (tk t0 2567) (Value.int (pl v 13) (tk t0 2681))), (en P k_apduInvokeID (tk t0 2569) (Value.int (pl v 14) (tk t0 2685))), (en P k_apduAbortRejectReason (tk t0 2571) (Value.int (pl v 15) (tk t0 2689)))]) 18) (Array.mk []))),
(712, (Obj.mk (Value.ref 417) (some 1398) Data.plain (Array.mk []))),
(753, (Obj.mk yList none (Data.seq (Array.mk [(Value.int v (tk t0 2481))]) 0) (Array.mk []))),
(754, (Obj.mk yDict none (Data.dict (Array.mk [(en P k_addrType (tk t0 2584) (Value.int (2 : Int) 1193)), (en P k_addrNet (tk t0 2586) Value.none), (en P k_addrRoute (tk t0 2588) Value.none), (en P k_addrAddr (tk t0 2594) (Value.bytes (Array.mk [(@Mine.u8 (md v 256))]) (tk t0 2592))), (en P k_addrLen (tk t0 2597) (Value.int (1 : Int) (tk t0 2595)))]) 5) (Array.mk []))),
(755, (Obj.mk (Value.ref 325) (some 1441) Data.plain (Array.mk []))),
(757, (Obj.mk yDict none (Data.dict (Array.mk [(en P k_addrType (tk t0 2614) (Value.int (4 : Int) 1197)), (en P k_addrNet (tk t0 2616) (Value.int (md v 65535) (tk t0 2601))), (en P k_addrRoute (tk t0 2618) Value.none), (en P k_addrAddr (tk t0 2624) (Value.bytes (Array.mk [(@Mine.u8 (md (pl v 1) 256))]) (tk t0 2622))), (en P k_addrLen (tk t0 2627) (Value.int (1 : Int) (tk t0 2625)))]) 5) (Array.mk []))),
(758, (Obj.mk (Value.ref 345) (some 1444) Data.plain (Array.mk []))),
(761, (Obj.mk yDict none (Data.dict (Array.mk [(en P k_pduUserData (tk t0 2726) (Value.ref 1490)), (en P k_pduSource (tk t0 2730) (Value.ref 1492)), (en P k_pduDestination (tk t0 2734) (Value.ref 1495)), (en P k_pduExpectingReply (tk t0 2739) (Value.int (pl (pl v 1) 1) (tk t0 2821))), (en P k_pduNetworkPriority (tk t0 2744) (Value.int (pl (pl v 1) 2) (tk t0 2825))), (en P k_npduVersion (tk t0 2747) (Value.int (pl (pl v 1) 3) (tk t0 2833))), (en P k_npduControl (tk t0 2749) (Value.int (pl (pl v 1) 4) (tk t0 2837))), (en P k_npduDADR (tk t0 2751) (Value.int (pl (pl v 1) 5) (tk t0 2841))), (en P k_npduSADR (tk t0 2753) (Value.int (pl (pl v 1) 6) (tk t0 2845))), (en P k_npduHopCount (tk t0 2755) (Value.int (pl (pl v 1) 7) (tk t0 2849))), (en P k_npduNetMessage (tk t0 2757) (Value.int (pl (pl v 1) 8) (tk t0 2853))), (en P k_npduVendorID (tk t0 2759) (Value.int (pl (pl v 1) 9) (tk t0 2857)))]) 12) (Array.mk []))),
(762, (Obj.mk (Value.ref 573) (some 1448) Data.plain (Array.mk []))),
(803, (Obj.mk yList none (Data.seq (Array.mk [(Value.int (pl v 1) (tk t0 2762))]) 0) (Array.mk []))),
(804, (Obj.mk yDict none (Data.dict (Array.mk [(en P k_addrType (tk t0 2774) (Value.int (2 : Int) 1193)), (en P k_addrNet (tk t0 2776) Value.none), (en P k_addrRoute (tk t0 2778) Value.none), (en P k_addrAddr (tk t0 2784) (Value.bytes (Array.mk [(@Mine.u8 (md (pl v 1) 256))]) (tk t0 2782))), (en P k_addrLen (tk t0 2787) (Value.int (1 : Int) (tk t0 2785)))]) 5) (Array.mk []))),
(805, (Obj.mk (Value.ref 325) (some 1491) Data.plain (Array.mk []))),
(807, (Obj.mk yDict none (Data.dict (Array.mk [(en P k_addrType (tk t0 2804) (Value.int (4 : Int) 1197)), (en P k_addrNet (tk t0 2806) (Value.int (md (pl v 1) 65535) (tk t0 2791))), (en P k_addrRoute (tk t0 2808) Value.none), (en P k_addrAddr (tk t0 2814) (Value.bytes (Array.mk [(@Mine.u8 (md (pl (pl v 1) 1) 256))]) (tk t0 2812))), (en P k_addrLen (tk t0 2817) (Value.int (1 : Int) (tk t0 2815)))]) 5) (Array.mk []))),
(808, (Obj.mk (Value.ref 345) (some 1494) Data.plain (Array.mk []))),
(811, (Obj.mk yDict none (Data.dict (Array.mk [(en P k_pduUserData (tk t0 2894) (Value.ref 1540)), (en P k_pduSource (tk t0 2898) (Value.ref 1542)), (en P k_pduDestination (tk t0 2902) (Value.ref 1545)), (en P k_pduExpectingReply (tk t0 2907) (Value.int (pl (pl v 2) 1) (tk t0 2981))), (en P k_pduNetworkPriority (tk t0 2912) (Value.int (pl (pl v 2) 2) (tk t0 2985))), (en P k_bvlciType (tk t0 2915) (Value.int (pl (pl v 2) 3) (tk t0 2993))), (en P k_bvlciFunction (tk t0 2917) (Value.int (pl (pl v 2) 4) (tk t0 2997))), (en P k_bvlciLength (tk t0 2919) (Value.int (pl (pl v 2) 5) (tk t0 3001)))]) 8) (Array.mk []))),
(812, (Obj.mk (Value.ref 495) (some 1498) Data.plain (Array.mk []))),
(853, (Obj.mk yList none (Data.seq (Array.mk [(Value.int (pl v 2) (tk t0 2922))]) 0) (Array.mk []))),
(854, (Obj.mk yDict none (Data.dict (Array.mk [(en P k_addrType (tk t0 2934) (Value.int (2 : Int) 1193)), (en P k_addrNet (tk t0 2936) Value.none), (en P k_addrRoute (tk t0 2938) Value.none), (en P k_addrAddr (tk t0 2944) (Value.bytes (Array.mk [(@Mine.u8 (md (pl v 2) 256))]) (tk t0 2942))), (en P k_addrLen (tk t0 2947) (Value.int (1 : Int) (tk t0 2945)))]) 5) (Array.mk []))),
(855, (Obj.mk (Value.ref 325) (some 1541) Data.plain (Array.mk []))),
(857, (Obj.mk yDict none (Data.dict (Array.mk [(en P k_addrType (tk t0 2964) (Value.int (4 : Int) 1197)), (en P k_addrNet (tk t0 2966) (Value.int (md (pl v 2) 65535) (tk t0 2951))), (en P k_addrRoute (tk t0 2968) Value.none), (en P k_addrAddr (tk t0 2974) (Value.bytes (Array.mk [(@Mine.u8 (md (pl (pl v 2) 1) 256))]) (tk t0 2972))), (en P k_addrLen (tk t0 2977) (Value.int (1 : Int) (tk t0 2975)))]) 5) (Array.mk []))),
(858, (Obj.mk (Value.ref 345) (some 1544) Data.plain (Array.mk []))),
(862, (Obj.mk yTuple none (Data.seq (Array.mk [(Value.ref 1440), (Value.ref 1442), (Value.ref 1445), (Value.int (pl v 1) (tk t0 2631)), (Value.int (pl v 2) (tk t0 2635))]) 0) (Array.mk []))),
(864, (Obj.mk yTuple none (Data.seq (Array.mk [(Value.ref 1490), (Value.ref 1492), (Value.ref 1495), (Value.int (pl (pl v 1) 1) (tk t0 2821)), (Value.int (pl (pl v 1) 2) (tk t0 2825))]) 0) (Array.mk []))),
(866, (Obj.mk yTuple none (Data.seq (Array.mk [(Value.ref 1540), (Value.ref 1542), (Value.ref 1545), (Value.int (pl (pl v 2) 1) (tk t0 2981)), (Value.int (pl (pl v 2) 2) (tk t0 2985))]) 0) (Array.mk []))),
(867, (Obj.mk yList none (Data.seq (Array.mk [(Value.ref 1549), (Value.ref 1551), (Value.ref 1553)]) 0) (Array.mk []))),
(1118, (Obj.mk yDict none (Data.dict (Array.mk [(en P k_pduData (tk t0 3959) (Value.ref 1861)), (en P k_pduUserData (tk t0 3963) (Value.ref 1490)), (en P k_pduSource (tk t0 3967) (Value.ref 1492)), (en P k_pduDestination (tk t0 3971) (Value.ref 1495)), (en P k_pduExpectingReply (tk t0 3976) (Value.int (pl (pl v 1) 1) (tk t0 2821))), (en P k_pduNetworkPriority (tk t0 3981) (Value.int (pl (pl v 1) 2) (tk t0 2825))), (en P k_apduType (tk t0 3983) (Value.int (pl (pl v 100) 3) (tk t0 4077))), (en P k_apduSeg (tk t0 3985) (Value.int (pl (pl v 100) 4) (tk t0 4081))), (en P k_apduMor (tk t0 3987) (Value.int (pl (pl v 100) 5) (tk t0 4085))), (en P k_apduSA (tk t0 3989) (Value.int (pl (pl v 100) 6) (tk t0 4089))), (en P k_apduSrv (tk t0 3991) (Value.int (pl (pl v 100) 7) (tk t0 4093))), (en P k_apduNak (tk t0 3993) (Value.int (pl (pl v 100) 8) (tk t0 4097))), (en P k_apduSeq (tk t0 3995) (Value.int (pl (pl v 100) 9) (tk t0 4101))), (en P k_apduWin (tk t0 3997) (Value.int (pl (pl v 100) 10) (tk t0 4105))), (en P k_apduMaxSegs (tk t0 3999) (Value.int (pl (pl v 100) 11) (tk t0 4109))), (en P k_apduMaxResp (tk t0 4001) (Value.int (pl (pl v 100) 12) (tk t0 4113))), (en P k_apduService (tk t0 4003) (Value.int (pl (pl v 100) 13) (tk t0 4117))), (en P k_apduInvokeID (tk t0 4005) (Value.int (pl (pl v 100) 14) (tk t0 4121))), (en P k_apduAbortRejectReason (tk t0 4007) (Value.int (pl (pl v 100) 15) (tk t0 4125)))]) 19) (Array.mk []))),
(1119, (Obj.mk (Value.ref 452) (some 1805) Data.plain (Array.mk []))),
(1174, (Obj.mk ys9501651726347032510x9 none (Data.bytearray (Array.mk [(@Mine.u8 (md v 256)), (@Mine.u8 (md (pl v 100) 256)), (UInt8.ofNat 7)]) 0) (Array.mk [])))]
noncomputable def L0_2_4 (P : Params) (t0 : Nat) (xs : List Value) (n : Int) (u : Tok) (v : Int) : List (Nat × Obj) := [
(0, (Obj.mk yFrame none (Data.dict (Array.mk [(en P k_script (tk t0 1) (Value.ref 686)), (en P k_n (tk t0 5) (Value.int n u)), (en P k_v (tk t0 10) (Value.int v (tk t0 2481))), (en P k_w (tk t0 13) (Value.int (pl v 100) (tk t0 2484))), (en P k_text (tk t0 20) (Value.bytes (Array.mk [(@Mine.u8 (md v 256)), (@Mine.u8 (md (pl v 100) 256)), (UInt8.ofNat 7)]) (tk t0 2491))), (en P k_header (tk t0 100) (Value.ref 1399)), (en P k_other (tk t0 288) (Value.ref 1449)), (en P k_link (tk t0 448) (Value.ref 1499)), (en P k_rows (tk t0 550) (Value.ref 1554)), (en P k_message (tk t0 641) (Value.ref 1970))]) 10) (Array.mk []))),
(2, (Obj.mk yList none (Data.seq (Array.mk xs) 0) (Array.mk []))),
(3, (Obj.mk yIter none (Data.fields (Array.mk [(Value.ref 689), (Value.int (2 : Int) 0)])) (Array.mk [])))]
noncomputable def L0_3_1 (P : Params) (t0 : Nat) (xs : List Value) (n : Int) (u : Tok) (v : Int) : List (Nat × Obj) := [
(0, (Obj.mk yFrame none (Data.dict (Array.mk [(en P k_script (tk t0 1) (Value.ref 686)), (en P k_n (tk t0 5) (Value.int n u)), (en P k_v (tk t0 10) (Value.int v (tk t0 4953))), (en P k_w (tk t0 13) (Value.int (pl v 100) (tk t0 4956))), (en P k_text (tk t0 20) (Value.bytes (Array.mk [(u8 (md v 256)), (u8 (md (pl v 100) 256)), (UInt8.ofNat 7)]) (tk t0 4963))), (en P k_header (tk t0 100) (Value.ref 2101)), (en P k_other (tk t0 288) (Value.ref 2151)), (en P k_link (tk t0 448) (Value.ref 2201)), (en P k_rows (tk t0 550) (Value.ref 2256)), (en P k_message (tk t0 641) (Value.ref 1970))]) 10) (Array.mk []))),
(2, (Obj.mk yList none (Data.seq (Array.mk xs) 0) (Array.mk []))),
(3, (Obj.mk yIter none (Data.fields (Array.mk [(Value.ref 689), (Value.int (3 : Int) 0)])) (Array.mk []))),
(1413, (Obj.mk yDict none (Data.dict (Array.mk [(en P k_pduUserData (tk t0 4999) (Value.ref 2142)), (en P k_pduSource (tk t0 5003) (Value.ref 2144)), (en P k_pduDestination (tk t0 5007) (Value.ref 2147)), (en P k_pduExpectingReply (tk t0 5012) (Value.int (pl v 1) (tk t0 5103))), (en P k_pduNetworkPriority (tk t0 5017) (Value.int (pl v 2) (tk t0 5107))), (en P k_apduType (tk t0 5019) (Value.int (pl v 3) (tk t0 5113))), (en P k_apduSeg (tk t0 5021) (Value.int (pl v 4) (tk t0 5117))), (en P k_apduMor (tk t0 5023) (Value.int (pl v 5) (tk t0 5121))), (en P k_apduSA (tk t0 5025) (Value.int (pl v 6) (tk t0 5125))), (en P k_apduSrv (tk t0 5027) (Value.int (pl v 7) (tk t0 5129))), (en P k_apduNak (tk t0 5029) (Value.int (pl v 8) (tk t0 5133))), (en P k_apduSeq (tk t0 5031) (Value.int (pl v 9) (tk t0 5137))), (en P k_apduWin (tk t0 5033) (Value.int (pl v 10) (tk t0 5141))), (en P k_apduMaxSegs (tk t0 5035) (Value.int (pl v 11) (tk t0 5145))), (en P k_apduMaxResp (tk t0 5037) (Value.int (pl v 12) (tk t0 5149))), (en P k_apduService (tk t0 5039) (Value.int (pl v 13) (tk t0 5153))), (en P k_apduInvokeID (tk t0 5041) (Value.int (pl v 14) (tk t0 5157))), (en P k_apduAbortRejectReason (tk t0 5043) (Value.int (pl v 15) (tk t0 5161)))]) 18) (Array.mk []))),
(1414, (Obj.mk (Value.ref 417) (some 2100) Data.plain (Array.mk []))),
(1455, (Obj.mk yList none (Data.seq (Array.mk [(Value.int v (tk t0 4953))]) 0) (Array.mk []))),
(1456, (Obj.mk yDict none (Data.dict (Array.mk [(en P k_addrType (tk t0 5056) (Value.int (2 : Int) 1193)), (en P k_addrNet (tk t0 5058) Value.none), (en P k_addrRoute (tk t0 5060) Value.none), (en P k_addrAddr (tk t0 5066) (Value.bytes (Array.mk [(u8 (md v 256))]) (tk t0 5064))), (en P k_addrLen (tk t0 5069) (Value.int (1 : Int) (tk t0 5067)))]) 5) (Array.mk []))),
(1457, (Obj.mk (Value.ref 325) (some 2143) Data.plain (Array.mk []))),
(1459, (Obj.mk yDict none (Data.dict (Array.mk [(en P k_addrType (tk t0 5086) (Value.int (4 : Int) 1197)), (en P k_addrNet (tk t0 5088) (Value.int (md v 65535) (tk t0 5073))), (en P k_addrRoute (tk t0 5090) Value.none), (en P k_addrAddr (tk t0 5096) (Value.bytes (Array.mk [(u8 (md (pl v 1) 256))]) (tk t0 5094))), (en P k_addrLen (tk t0 5099) (Value.int (1 : Int) (tk t0 5097)))]) 5) (Array.mk []))),
(1460, (Obj.mk (Value.ref 345) (some 2146) Data.plain (Array.mk []))),
(1463, (Obj.mk yDict none (Data.dict (Array.mk [(en P k_pduUserData (tk t0 5198) (Value.ref 2192)), (en P k_pduSource (tk t0 5202) (Value.ref 2194)), (en P k_pduDestination (tk t0 5206) (Value.ref 2197)), (en P k_pduExpectingReply (tk t0 5211) (Value.int (pl (pl v 1) 1) (tk t0 5293))), (en P k_pduNetworkPriority (tk t0 5216) (Value.int (pl (pl v 1) 2) (tk t0 5297))), (en P k_npduVersion (tk t0 5219) (Value.int (pl (pl v 1) 3) (tk t0 5305))), (en P k_npduControl (tk t0 5221) (Value.int (pl (pl v 1) 4) (tk t0 5309))), (en P k_npduDADR (tk t0 5223) (Value.int (pl (pl v 1) 5) (tk t0 5313))), (en P k_npduSADR (tk t0 5225) (Value.int (pl (pl v 1) 6) (tk t0 5317))), (en P k_npduHopCount (tk t0 5227) (Value.int (pl (pl v 1) 7) (tk t0 5321))), (en P k_npduNetMessage (tk t0 5229) (Value.int (pl (pl v 1) 8) (tk t0 5325))), (en P k_npduVendorID (tk t0 5231) (Value.int (pl (pl v 1) 9) (tk t0 5329)))]) 12) (Array.mk []))),
(1464, (Obj.mk (Value.ref 573) (some 2150) Data.plain (Array.mk []))),
(1505, (Obj.mk yList none (Data.seq (Array.mk [(Value.int (pl v 1) (tk t0 5234))]) 0) (Array.mk []))),
(1506, (Obj.mk yDict none (Data.dict (Array.mk [(en P k_addrType (tk t0 5246) (Value.int (2 : Int) 1193)), (en P k_addrNet (tk t0 5248) Value.none), (en P k_addrRoute (tk t0 5250) Value.none), (en P k_addrAddr (tk t0 5256) (Value.bytes (Array.mk [(u8 (md (pl v 1) 256))]) (tk t0 5254))), (en P k_addrLen (tk t0 5259) (Value.int (1 : Int) (tk t0 5257)))]) 5) (Array.mk []))),
(1507, (Obj.mk (Value.ref 325) (some 2193) Data.plain (Array.mk []))),
(1509, (Obj.mk yDict none (Data.dict (Array.mk [(en P k_addrType (tk t0 5276) (Value.int (4 : Int) 1197)), (en P k_addrNet (tk t0 5278) (Value.int (md (pl v 1) 65535) (tk t0 5263))), (en P k_addrRoute (tk t0 5280) Value.none), (en P k_addrAddr (tk t0 5286) (Value.bytes (Array.mk [(u8 (md (pl (pl v 1) 1) 256))]) (tk t0 5284))), (en P k_addrLen (tk t0 5289) (Value.int (1 : Int) (tk t0 5287)))]) 5) (Array.mk []))),
(1510, (Obj.mk (Value.ref 345) (some 2196) Data.plain (Array.mk []))),
(1513, (Obj.mk yDict none (Data.dict (Array.mk [(en P k_pduUserData (tk t0 5366) (Value.ref 2242)), (en P k_pduSource (tk t0 5370) (Value.ref 2244)), (en P k_pduDestination (tk t0 5374) (Value.ref 2247)), (en P k_pduExpectingReply (tk t0 5379) (Value.int (pl (pl v 2) 1) (tk t0 5453))), (en P k_pduNetworkPriority (tk t0 5384) (Value.int (pl (pl v 2) 2) (tk t0 5457))), (en P k_bvlciType (tk t0 5387) (Value.int (pl (pl v 2) 3) (tk t0 5465))), (en P k_bvlciFunction (tk t0 5389) (Value.int (pl (pl v 2) 4) (tk t0 5469))), (en P k_bvlciLength (tk t0 5391) (Value.int (pl (pl v 2) 5) (tk t0 5473)))]) 8) (Array.mk []))),
(1514, (Obj.mk (Value.ref 495) (some 2200) Data.plain (Array.mk []))),
(1555, (Obj.mk yList none (Data.seq (Array.mk [(Value.int (pl v 2) (tk t0 5394))]) 0) (Array.mk []))),
(1556, (Obj.mk yDict none (Data.dict (Array.mk [(en P k_addrType (tk t0 5406) (Value.int (2 : Int) 1193)), (en P k_addrNet (tk t0 5408) Value.none), (en P k_addrRoute (tk t0 5410) Value.none), (en P k_addrAddr (tk t0 5416) (Value.bytes (Array.mk [(u8 (md (pl v 2) 256))]) (tk t0 5414))), (en P k_addrLen (tk t0 5419) (Value.int (1 : Int) (tk t0 5417)))]) 5) (Array.mk []))),
(1557, (Obj.mk (Value.ref 325) (some 2243) Data.plain (Array.mk []))),
(1559, (Obj.mk yDict none (Data.dict (Array.mk [(en P k_addrType (tk t0 5436) (Value.int (4 : Int) 1197)), (en P k_addrNet (tk t0 5438) (Value.int (md (pl v 2) 65535) (tk t0 5423))), (en P k_addrRoute (tk t0 5440) Value.none), (en P k_addrAddr (tk t0 5446) (Value.bytes (Array.mk [(u8 (md (pl (pl v 2) 1) 256))]) (tk t0 5444))), (en P k_addrLen (tk t0 5449) (Value.int (1 : Int) (tk t0 5447)))]) 5) (Array.mk []))),
(1560, (Obj.mk (Value.ref 345) (some 2246) Data.plain (Array.mk []))),
(1564, (Obj.mk yTuple none (Data.seq (Array.mk [(Value.ref 2142), (Value.ref 2144), (Value.ref 2147), (Value.int (pl v 1) (tk t0 5103)), (Value.int (pl v 2) (tk t0 5107))]) 0) (Array.mk []))),
(1566, (Obj.mk yTuple none (Data.seq (Array.mk [(Value.ref 2192), (Value.ref 2194), (Value.ref 2197), (Value.int (pl (pl v 1) 1) (tk t0 5293)), (Value.int (pl (pl v 1) 2) (tk t0 5297))]) 0) (Array.mk []))),
(1568, (Obj.mk yTuple none (Data.seq (Array.mk [(Value.ref 2242), (Value.ref 2244), (Value.ref 2247), (Value.int (pl (pl v 2) 1) (tk t0 5453)), (Value.int (pl (pl v 2) 2) (tk t0 5457))]) 0) (Array.mk []))),
(1569, (Obj.mk yList none (Data.seq (Array.mk [(Value.ref 2251), (Value.ref 2253), (Value.ref 2255)]) 0) (Array.mk [])))]
noncomputable def L0_3_2 (P : Params) (t0 : Nat) (xs : List Value) (n : Int) (u : Tok) (v : Int) : List (Nat × Obj) := [
(0, (Obj.mk yFrame none (Data.dict (Array.mk [(en P k_script (tk t0 1) (Value.ref 686)), (en P k_n (tk t0 5) (Value.int n u)), (en P k_v (tk t0 10) (Value.int v (tk t0 4953))), (en P k_w (tk t0 13) (Value.int (pl v 100) (tk t0 4956))), (en P k_text (tk t0 20) (Value.bytes (Array.mk [(@Mine.u8 (md v 256)), (@Mine.u8 (md (pl v 100) 256)), (UInt8.ofNat 7)]) (tk t0 4963))), (en P k_header (tk t0 100) (Value.ref 2101)), (en P k_other (tk t0 288) (Value.ref 2151)), (en P k_link (tk t0 448) (Value.ref 2201)), (en P k_rows (tk t0 550) (Value.ref 2256)), (en P k_message (tk t0 641) (Value.ref 2340))]) 10) (Array.mk []))),
(2, (Obj.mk yList none (Data.seq (Array.mk xs) 0) (Array.mk []))),
(3, (Obj.mk yIter none (Data.fields (Array.mk [(Value.ref 689), (Value.int (3 : Int) 0)])) (Array.mk []))),
(1413, (Obj.mk yDict none (Data.dict (Array.mk [(en P k_pduUserData (tk t0 4999) (Value.ref 2142)), (en P k_pduSource (tk t0 5003) (Value.ref 2144)), (en P k_pduDestination (tk t0 5007) (Value.ref 2147)), (en P k_pduExpectingReply (tk t0 5012) (Value.int (pl v 1) (tk t0 5103))), (en P k_pduNetworkPriority (tk t0 5017) (Value.int (pl v 2) (tk t0 5107))), (en P k_apduType (tk t0 5019) (Value.int (pl v 3) (tk t0 5113))), (en P k_apduSeg (tk t0 5021) (Value.int (pl v 4) (tk t0 5117))), (en P k_apduMor (tk t0 5023) (Value.int (pl v 5) (tk t0 5121))), (en P k_apduSA (tk t0 5025) (Value.int (pl v 6) (tk t0 5125))), (en P k_apduSrv (tk t0 5027) (Value.int (pl v 7) (tk t0 5129))), (en P k_apduNak (tk t0 5029) (Value.int (pl v 8) (tk t0 5133))), (en P k_apduSeq (tk t0 5031) (Value.int (pl v 9) (tk t0 5137))), (en P k_apduWin (tk t0 5033) (Value.int (pl v 10) (tk t0 5141))), (en P k_apduMaxSegs (tk t0 5035) (Value.int (pl v 11) (tk t0 5145))), (en P k_apduMaxResp (tk t0 5037) (Value.int (pl v 12) (tk t0 5149))), (en P k_apduService (tk t0 5039) (Value.int (pl v 13) (tk t0 5153))), (en P k_apduInvokeID (tk t0 5041) (Value.int (pl v 14) (tk t0 5157))), (en P k_apduAbortRejectReason (tk t0 5043) (Value.int (pl v 15) (tk t0 5161)))]) 18) (Array.mk []))),
(1414, (Obj.mk (Value.ref 417) (some 2100) Data.plain (Array.mk []))),
(1455, (Obj.mk yList none (Data.seq (Array.mk [(Value.int v (tk t0 4953))]) 0) (Array.mk []))),
(1456, (Obj.mk yDict none (Data.dict (Array.mk [(en P k_addrType (tk t0 5056) (Value.int (2 : Int) 1193)), (en P k_addrNet (tk t0 5058) Value.none), (en P k_addrRoute (tk t0 5060) Value.none), (en P k_addrAddr (tk t0 5066) (Value.bytes (Array.mk [(@Mine.u8 (md v 256))]) (tk t0 5064))), (en P k_addrLen (tk t0 5069) (Value.int (1 : Int) (tk t0 5067)))]) 5) (Array.mk []))),
(1457, (Obj.mk (Value.ref 325) (some 2143) Data.plain (Array.mk []))),
(1459, (Obj.mk yDict none (Data.dict (Array.mk [(en P k_addrType (tk t0 5086) (Value.int (4 : Int) 1197)), (en P k_addrNet (tk t0 5088) (Value.int (md v 65535) (tk t0 5073))), (en P k_addrRoute (tk t0 5090) Value.none), (en P k_addrAddr (tk t0 5096) (Value.bytes (Array.mk [(@Mine.u8 (md (pl v 1) 256))]) (tk t0 5094))), (en P k_addrLen (tk t0 5099) (Value.int (1 : Int) (tk t0 5097)))]) 5) (Array.mk []))),
(1460, (Obj.mk (Value.ref 345) (some 2146) Data.plain (Array.mk []))),
(1463, (Obj.mk yDict none (Data.dict (Array.mk [(en P k_pduUserData (tk t0 5198) (Value.ref 2192)), (en P k_pduSource (tk t0 5202) (Value.ref 2194)), (en P k_pduDestination (tk t0 5206) (Value.ref 2197)), (en P k_pduExpectingReply (tk t0 5211) (Value.int (pl (pl v 1) 1) (tk t0 5293))), (en P k_pduNetworkPriority (tk t0 5216) (Value.int (pl (pl v 1) 2) (tk t0 5297))), (en P k_npduVersion (tk t0 5219) (Value.int (pl (pl v 1) 3) (tk t0 5305))), (en P k_npduControl (tk t0 5221) (Value.int (pl (pl v 1) 4) (tk t0 5309))), (en P k_npduDADR (tk t0 5223) (Value.int (pl (pl v 1) 5) (tk t0 5313))), (en P k_npduSADR (tk t0 5225) (Value.int (pl (pl v 1) 6) (tk t0 5317))), (en P k_npduHopCount (tk t0 5227) (Value.int (pl (pl v 1) 7) (tk t0 5321))), (en P k_npduNetMessage (tk t0 5229) (Value.int (pl (pl v 1) 8) (tk t0 5325))), (en P k_npduVendorID (tk t0 5231) (Value.int (pl (pl v 1) 9) (tk t0 5329)))]) 12) (Array.mk []))),
(1464, (Obj.mk (Value.ref 573) (some 2150) Data.plain (Array.mk []))),
(1505, (Obj.mk yList none (Data.seq (Array.mk [(Value.int (pl v 1) (tk t0 5234))]) 0) (Array.mk []))),
(1506, (Obj.mk yDict none (Data.dict (Array.mk [(en P k_addrType (tk t0 5246) (Value.int (2 : Int) 1193)), (en P k_addrNet (tk t0 5248) Value.none), (en P k_addrRoute (tk t0 5250) Value.none), (en P k_addrAddr (tk t0 5256) (Value.bytes (Array.mk [(@Mine.u8 (md (pl v 1) 256))]) (tk t0 5254))), (en P k_addrLen (tk t0 5259) (Value.int (1 : Int) (tk t0 5257)))]) 5) (Array.mk []))),
(1507, (Obj.mk (Value.ref 325) (some 2193) Data.plain (Array.mk []))),
(1509, (Obj.mk yDict none (Data.dict (Array.mk [(en P k_addrType (tk t0 5276) (Value.int (4 : Int) 1197)), (en P k_addrNet (tk t0 5278) (Value.int (md (pl v 1) 65535) (tk t0 5263))), (en P k_addrRoute (tk t0 5280) Value.none), (en P k_addrAddr (tk t0 5286) (Value.bytes (Array.mk [(@Mine.u8 (md (pl (pl v 1) 1) 256))]) (tk t0 5284))), (en P k_addrLen (tk t0 5289) (Value.int (1 : Int) (tk t0 5287)))]) 5) (Array.mk []))),
(1510, (Obj.mk (Value.ref 345) (some 2196) Data.plain (Array.mk []))),
(1513, (Obj.mk yDict none (Data.dict (Array.mk [(en P k_pduUserData (tk t0 5366) (Value.ref 2242)), (en P k_pduSource (tk t0 5370) (Value.ref 2244)), (en P k_pduDestination (tk t0 5374) (Value.ref 2247)), (en P k_pduExpectingReply (tk t0 5379) (Value.int (pl (pl v 2) 1) (tk t0 5453))), (en P k_pduNetworkPriority (tk t0 5384) (Value.int (pl (pl v 2) 2) (tk t0 5457))), (en P k_bvlciType (tk t0 5387) (Value.int (pl (pl v 2) 3) (tk t0 5465))), (en P k_bvlciFunction (tk t0 5389) (Value.int (pl (pl v 2) 4) (tk t0 5469))), (en P k_bvlciLength (tk t0 5391) (Value.int (pl (pl v 2) 5) (tk t0 5473)))]) 8) (Array.mk []))),
(1514, (Obj.mk (Value.ref 495) (some 2200) Data.plain (Array.mk []))),
(1555, (Obj.mk yList none (Data.seq (Array.mk [(Value.int (pl v 2) (tk t0 5394))]) 0) (Array.mk []))),
(1556, (Obj.mk yDict none (Data.dict (Array.mk [(en P k_addrType (tk t0 5406) (Value.int (2 : Int) 1193)), (en P k_addrNet (tk t0 5408) Value.none), (en P k_addrRoute (tk t0 5410) Value.none), (en P k_addrAddr (tk t0 5416) (Value.bytes (Array.mk [(@Mine.u8 (md (pl v 2) 256))]) (tk t0 5414))), (en P k_addrLen (tk t0 5419) (Value.int (1 : Int) (tk t0 5417)))]) 5) (Array.mk []))),
(1557, (Obj.mk (Value.ref 325) (some 2243) Data.plain (Array.mk []))),
(1559, (Obj.mk yDict none (Data.dict (Array.mk [(en P k_addrType (tk t0 5436) (Value.int (4 : Int) 1197)), (en P k_addrNet (tk t0 5438) (Value.int (md (pl v 2) 65535) (tk t0 5423))), (en P k_addrRoute (tk t0 5440) Value.none), (en P k_addrAddr (tk t0 5446) (Value.bytes (Array.mk [(@Mine.u8 (md (pl (pl v 2) 1) 256))]) (tk t0 5444))), (en P k_addrLen (tk t0 5449) (Value.int (1 : Int) (tk t0 5447)))]) 5) (Array.mk []))),
(1560, (Obj.mk (Value.ref 345) (some 2246) Data.plain (Array.mk []))),
(1564, (Obj.mk yTuple none (Data.seq (Array.mk [(Value.ref 2142), (Value.ref 2144), (Value.ref 2147), (Value.int (pl v 1) (tk t0 5103)), (Value.int (pl v 2) (tk t0 5107))]) 0) (Array.mk []))),
(1566, (Obj.mk yTuple none (Data.seq (Array.mk [(Value.ref 2192), (Value.ref 2194), (Value.ref 2197), (Value.int (pl (pl v 1) 1) (tk t0 5293)), (Value.int (pl (pl v 1) 2) (tk t0 5297))]) 0) (Array.mk []))),
(1568, (Obj.mk yTuple none (Data.seq (Array.mk [(Value.ref 2242), (Value.ref 2244), (Value.ref 2247), (Value.int (pl (pl v 2) 1) (tk t0 5453)), (Value.int (pl (pl v 2) 2) (tk t0 5457))]) 0) (Array.mk []))),
(1569, (Obj.mk yList none (Data.seq (Array.mk [(Value.ref 2251), (Value.ref 2253), (Value.ref 2255)]) 0) (Array.mk []))),
(1652, (Obj.mk yDict none (Data.dict (Array.mk [(en P k_pduData (tk t0 5885) (Value.ref 2395)), (en P k_pduUserData (tk t0 5889) (Value.ref 2192)), (en P k_pduSource (tk t0 5893) (Value.ref 2194)), (en P k_pduDestination (tk t0 5897) (Value.ref 2197)), (en P k_pduExpectingReply (tk t0 5902) (Value.int (pl (pl v 1) 1) (tk t0 5293))), (en P k_pduNetworkPriority (tk t0 5907) (Value.int (pl (pl v 1) 2) (tk t0 5297))), (en P k_npduVersion (tk t0 5910) (Value.int (pl (pl v 1) 3) (tk t0 5305))), (en P k_npduControl (tk t0 5912) (Value.int (pl (pl v 1) 4) (tk t0 5309))), (en P k_npduDADR (tk t0 5914) (Value.int (pl (pl v 1) 5) (tk t0 5313))), (en P k_npduSADR (tk t0 5916) (Value.int (pl (pl v 1) 6) (tk t0 5317))), (en P k_npduHopCount (tk t0 5918) (Value.int (pl (pl v 1) 7) (tk t0 5321))), (en P k_npduNetMessage (tk t0 5920) (Value.int (pl (pl v 1) 8) (tk t0 5325))), (en P k_npduVendorID (tk t0 5922) (Value.int (pl (pl v 1) 9) (tk t0 5329)))]) 13) (Array.mk []))),
(1653, (Obj.mk (Value.ref 608) (some 2339) Data.plain (Array.mk []))),
(1708, (Obj.mk ys9501651726347032510x9 none (Data.bytearray (Array.mk [(@Mine.u8 (md v 256)), (@Mine.u8 (md (pl v 100) 256)), (UInt8.ofNat 7)]) 0) (Array.mk [])))]
noncomputable def L0_3_3 (P : Params) (t0 : Nat) (xs : List Value) (n : Int) (u : Tok) (v : Int) : List (Nat × Obj) := [
(0, (Obj.mk yFrame none (Data.dict (Array.mk [(en P k_script (tk t0 1) (Value.ref 686)), (en P k_n (tk t0 5) (Value.int n u)), (en P k_v (tk t0 10) (Value.int v (tk t0 4953))), (en P k_w (tk t0 13) (Value.int (pl v 100) (tk t0 4956))), (en P k_text (tk t0 20) (Value.bytes (Array.mk [(@Mine.u8 (md v 256)), (@Mine.u8 (md (pl v 100) 256)), (UInt8.ofNat 7)]) (tk t0 4963))), (en P k_header (tk t0 100) (Value.ref 2101)), (en P k_other (tk t0 288) (Value.ref 2151)), (en P k_link (tk t0 448) (Value.ref 2201)), (en P k_rows (tk t0 550) (Value.ref 2256)), (en P k_message (tk t0 641) (Value.ref 2508))]) 10) (Array.mk []))),
(2, (Obj.mk yList none (Data.seq (Array.mk xs) 0) (Array.mk []))),
(3, (Obj.mk yIter none (Data.fields (Array.mk [(Value.ref 689), (Value.int (3 : Int) 0)])) (Array.mk []))),
(1413, (Obj.mk yDict none (Data.dict (Array.mk [(en P k_pduUserData (tk t0 4999) (Value.ref 2142)), (en P k_pduSource (tk t0 5003) (Value.ref 2144)), (en P k_pduDestination (tk t0 5007) (Value.ref 2147)), (en P k_pduExpectingReply (tk t0 5012) (Value.int (pl v 1) (tk t0 5103))), (en P k_pduNetworkPriority (tk t0 5017) (Value.int (pl v 2) (tk t0 5107))), (en P k_apduType (tk t0 5019) (Value.int (pl v 3) (tk t0 5113))), (en P k_apduSeg (tk t0 5021) (Value.int (pl v 4) (tk t0 5117))), (en P k_apduMor (tk t0 5023) (Value.int (pl v 5) (tk t0 5121))), (en P k_apduSA (tk t0 5025) (Value.int (pl v 6) (tk t0 5125))), (en P k_apduSrv (tk t0 5027) (Value.int (pl v 7) (tk t0 5129))), (en P k_apduNak (tk t0 5029) (Value.int (pl v 8) (tk t0 5133))), (en P k_apduSeq (tk t0 5031) (Value.int (pl v 9) (tk t0 5137))), (en P k_apduWin (tk t0 5033) (Value.int (pl v 10) (tk t0 5141))), (en P k_apduMaxSegs (tk t0 5035) (Value.int (pl v 11) (tk t0 5145))), (en P k_apduMaxResp (tk t0 5037) (Value.int (pl v 12) (tk t0 5149))), (en P k_apduService (tk t0 5039) (Value.int (pl v 13) (tk t0 5153))), (en P k_apduInvokeID (tk t0 5041) (Value.int (pl v 14) (tk t0 5157))), (en P k_apduAbortRejectReason (tk t0 5043) (Value.int (pl v 15) (tk t0 5161)))]) 18) (Array.mk []))),
(1414, (Obj.mk (Value.ref 417) (some 2100) Data.plain (Array.mk []))),
(1455, (Obj.mk yList none (Data.seq (Array.mk [(Value.int v (tk t0 4953))]) 0) (Array.mk []))),
(1456, (Obj.mk yDict none (Data.dict (Array.mk [(en P k_addrType (tk t0 5056) (Value.int (2 : Int) 1193)), (en P k_addrNet (tk t0 5058) Value.none), (en P k_addrRoute (tk t0 5060) Value.none), (en P k_addrAddr (tk t0 5066) (Value.bytes (Array.mk [(@Mine.u8 (md v 256))]) (tk t0 5064))), (en P k_addrLen (tk t0 5069) (Value.int (1 : Int) (tk t0 5067)))]) 5) (Array.mk []))),
(1457, (Obj.mk (Value.ref 325) (some 2143) Data.plain (Array.mk []))),
(1459, (Obj.mk yDict none (Data.dict (Array.mk [(en P k_addrType (tk t0 5086) (Value.int (4 : Int) 1197)), (en P k_addrNet (tk t0 5088) (Value.int (md v 65535) (tk t0 5073))), (en P k_addrRoute (tk t0 5090) Value.none), (en P k_addrAddr (tk t0 5096) (Value.bytes (Array.mk [(@Mine.u8 (md (pl v 1) 256))]) (tk t0 5094))), (en P k_addrLen (tk t0 5099) (Value.int (1 : Int) (tk t0 5097)))]) 5) (Array.mk []))),
(1460, (Obj.mk (Value.ref 345) (some 2146) Data.plain (Array.mk []))),
(1463, (Obj.mk yDict none (Data.dict (Array.mk [(en P k_pduUserData (tk t0 5198) (Value.ref 2192)), (en P k_pduSource (tk t0 5202) (Value.ref 2194)), (en P k_pduDestination (tk t0 5206) (Value.ref 2197)), (en P k_pduExpectingReply (tk t0 5211) (Value.int (pl (pl v 1) 1) (tk t0 5293))), (en P k_pduNetworkPriority (tk t0 5216) (Value.int (pl (pl v 1) 2) (tk t0 5297))), (en P k_npduVersion (tk t0 5219) (Value.int (pl (pl v 1) 3) (tk t0 5305))), (en P k_npduControl (tk t0 5221) (Value.int (pl (pl v 1) 4) (tk t0 5309))), (en P k_npduDADR (tk t0 5223) (Value.int (pl (pl v 1) 5) (tk t0 5313))), (en P k_npduSADR (tk t0 5225) (Value.int (pl (pl v 1) 6) (tk t0 5317))), (en P k_npduHopCount (tk t0 5227) (Value.int (pl (pl v 1) 7) (tk t0 5321))), (en P k_npduNetMessage (tk t0 5229) (Value.int (pl (pl v 1) 8) (tk t0 5325))), (en P k_npduVendorID (tk t0 5231) (Value.int (pl (pl v 1) 9) (tk t0 5329)))]) 12) (Array.mk []))),
(1464, (Obj.mk (Value.ref 573) (some 2150) Data.plain (Array.mk []))),
(1505, (Obj.mk yList none (Data.seq (Array.mk [(Value.int (pl v 1) (tk t0 5234))]) 0) (Array.mk []))),
(1506, (Obj.mk yDict none (Data.dict (Array.mk [(en P k_addrType (tk t0 5246) (Value.int (2 : Int) 1193)), (en P k_addrNet (tk t0 5248) Value.none), (en P k_addrRoute (tk t0 5250) Value.none), (en P k_addrAddr (tk t0 5256) (Value.bytes (Array.mk [(@Mine.u8 (md (pl v 1) 256))]) (tk t0 5254))), (en P k_addrLen (tk t0 5259) (Value.int (1 : Int) (tk t0 5257)))]) 5) (Array.mk []))),
(1507, (Obj.mk (Value.ref 325) (some 2193) Data.plain (Array.mk []))),
(1509, (Obj.mk yDict none (Data.dict (Array.mk [(en P k_addrType (tk t0 5276) (Value.int (4 : Int) 1197)), (en P k_addrNet (tk t0 5278) (Value.int (md (pl v 1) 65535) (tk t0 5263))), (en P k_addrRoute (tk t0 5280) Value.none), (en P k_addrAddr (tk t0 5286) (Value.bytes (Array.mk [(@Mine.u8 (md (pl (pl v 1) 1) 256))]) (tk t0 5284))), (en P k_addrLen (tk t0 5289) (Value.int (1 : Int) (tk t0 5287)))]) 5) (Array.mk []))),
(1510, (Obj.mk (Value.ref 345) (some 2196) Data.plain (Array.mk []))),
(1513, (Obj.mk yDict none (Data.dict (Array.mk [(en P k_pduUserData (tk t0 5366) (Value.ref 2242)), (en P k_pduSource (tk t0 5370) (Value.ref 2244)), (en P k_pduDestination (tk t0 5374) (Value.ref 2247)), (en P k_pduExpectingReply (tk t0 5379) (Value.int (pl (pl v 2) 1) (tk t0 5453))), (en P k_pduNetworkPriority (tk t0 5384) (Value.int (pl (pl v 2) 2) (tk t0 5457))), (en P k_bvlciType (tk t0 5387) (Value.int (pl (pl v 2) 3) (tk t0 5465))), (en P k_bvlciFunction (tk t0 5389) (Value.int (pl (pl v 2) 4) (tk t0 5469))), (en P k_bvlciLength (tk t0 5391) (Value.int (pl (pl v 2) 5) (tk t0 5473)))]) 8) (Array.mk []))),
(1514, (Obj.mk (Value.ref 495) (some 2200) Data.plain (Array.mk []))),
(1555, (Obj.mk yList none (Data.seq (Array.mk [(Value.int (pl v 2) (tk t0 5394))]) 0) (Array.mk []))),
(1556, (Obj.mk yDict none (Data.dict (Array.mk [(en P k_addrType (tk t0 5406) (Value.int (2 : Int) 1193)), (en P k_addrNet (tk t0 5408) Value.none), (en P k_addrRoute (tk t0 5410) Value.none), (en P k_addrAddr (tk t0 5416) (Value.bytes (Array.mk [(@Mine.u8 (md (pl v 2) 256))]) (tk t0 5414))), (en P k_addrLen (tk t0 5419) (Value.int (1 : Int) (tk t0 5417)))]) 5) (Array.mk []))),
(1557, (Obj.mk (Value.ref 325) (some 2243) Data.plain (Array.mk []))),
(1559, (Obj.mk yDict none (Data.dict (Array.mk [(en P k_addrType (tk t0 5436) (Value.int (4 : Int) 1197)), (en P k_addrNet (tk t0 5438) (Value.int (md (pl v 2) 65535) (tk t0 5423))), (en P k_addrRoute (tk t0 5440) Value.none), (en P k_addrAddr (tk t0 5446) (Value.bytes (Array.mk [(@Mine.u8 (md (pl (pl v 2) 1) 256))]) (tk t0 5444))), (en P k_addrLen (tk t0 5449) (Value.int (1 : Int) (tk t0 5447)))]) 5) (Array.mk []))),
(1560, (Obj.mk (Value.ref 345) (some 2246) Data.plain (Array.mk []))),
(1564, (Obj.mk yTuple none (Data.seq (Array.mk [(Value.ref 2142), (Value.ref 2144), (Value.ref 2147), (Value.int (pl v 1) (tk t0 5103)), (Value.int (pl v 2) (tk t0 5107))]) 0) (Array.mk []))),
(1566, (Obj.mk yTuple none (Data.seq (Array.mk [(Value.ref 2192), (Value.ref 2194), (Value.ref 2197), (Value.int (pl (pl v 1) 1) (tk t0 5293)), (Value.int (pl (pl v 1) 2) (tk t0 5297))]) 0) (Array.mk []))),
(1568, (Obj.mk yTuple none (Data.seq (Array.mk [(Value.ref 2242), (Value.ref 2244), (Value.ref 2247), (Value.int (pl (pl v 2) 1) (tk t0 5453)), (Value.int (pl (pl v 2) 2) (tk t0 5457))]) 0) (Array.mk []))),
(1569, (Obj.mk yList none (Data.seq (Array.mk [(Value.ref 2251), (Value.ref 2253), (Value.ref 2255)]) 0) (Array.mk []))),
(1820, (Obj.mk yDict none (Data.dict (Array.mk [(en P k_pduData (tk t0 6431) (Value.ref 2563)), (en P k_pduUserData (tk t0 6435) (Value.ref 2192)), (en P k_pduSource (tk t0 6439) (Value.ref 2194)), (en P k_pduDestination (tk t0 6443) (Value.ref 2197)), (en P k_pduExpectingReply (tk t0 6448) (Value.int (pl (pl v 1) 1) (tk t0 5293))), (en P k_pduNetworkPriority (tk t0 6453) (Value.int (pl (pl v 1) 2) (tk t0 5297))), (en P k_apduType (tk t0 6455) (Value.int (pl (pl v 100) 3) (tk t0 6549))), (en P k_apduSeg (tk t0 6457) (Value.int (pl (pl v 100) 4) (tk t0 6553))), (en P k_apduMor (tk t0 6459) (Value.int (pl (pl v 100) 5) (tk t0 6557))), (en P k_apduSA (tk t0 6461) (Value.int (pl (pl v 100) 6) (tk t0 6561))), (en P k_apduSrv (tk t0 6463) (Value.int (pl (pl v 100) 7) (tk t0 6565))), (en P k_apduNak (tk t0 6465) (Value.int (pl (pl v 100) 8) (tk t0 6569))), (en P k_apduSeq (tk t0 6467) (Value.int (pl (pl v 100) 9) (tk t0 6573))), (en P k_apduWin (tk t0 6469) (Value.int (pl (pl v 100) 10) (tk t0 6577))), (en P k_apduMaxSegs (tk t0 6471) (Value.int (pl (pl v 100) 11) (tk t0 6581))), (en P k_apduMaxResp (tk t0 6473) (Value.int (pl (pl v 100) 12) (tk t0 6585))), (en P k_apduService (tk t0 6475) (Value.int (pl (pl v 100) 13) (tk t0 6589))), (en P k_apduInvokeID (tk t0 6477) (Value.int (pl (pl v 100) 14) (tk t0 6593))), (en P k_apduAbortRejectReason (tk t0 6479) (Value.int (pl (pl v 100) 15) (tk t0 6597)))]) 19) (Array.mk []))),
(1821, (Obj.mk (Value.ref 452) (some 2507) Data.plain (Array.mk []))),
(1876, (Obj.mk ys9501651726347032510x9 none (Data.bytearray (Array.mk [(@Mine.u8 (md v 256)), (@Mine.u8 (md (pl v 100) 256)), (UInt8.ofNat 7)]) 0) (Array.mk [])))]
noncomputable def L0_3_4 (P : Params) (t0 : Nat) (xs : List Value) (n : Int) (u : Tok) (v : Int) : List (Nat × Obj) := [
(0, (Obj.mk yFrame none (Data.dict (Array.mk [(en P k_script (tk t0 1) (Value.ref 686)), (en P k_n (tk t0 5) (Value.int n u)), (en P k_v (tk t0 10) (Value.int v (tk t0 4953))), (en P k_w (tk t0 13) (Value.int (pl v 100) (tk t0 4956))), (en P k_text (tk t0 20) (Value.bytes (Array.mk [(@Mine.u8 (md v 256)), (@Mine.u8 (md (pl v 100) 256)), (UInt8.ofNat 7)]) (tk t0 4963))), (en P k_header (tk t0 100) (Value.ref 2101)), (en P k_other (tk t0 288) (Value.ref 2151)), (en P k_link (tk t0 448) (Value.ref 2201)), (en P k_rows (tk t0 550) (Value.ref 2256)), (en P k_message (tk t0 641) (Value.ref 2672))]) 10) (Array.mk []))),
(2, (Obj.mk yList none (Data.seq (Array.mk xs) 0) (Array.mk []))),
(3, (Obj.mk yIter none (Data.fields (Array.mk [(Value.ref 689), (Value.int (3 : Int) 0)])) (Array.mk [])))]
noncomputable def L1_1_0 (P : Params) (t0 : Nat) (xs : List Value) (n : Int) (u : Tok) (v : Int) : List (Nat × Obj) := [
(0, (Obj.mk yFrame none (Data.dict (Array.mk [(en P k_script (tk t0 1) (Value.ref 686))]) 1) (Array.mk []))),
(3, (Obj.mk yList none (Data.seq (Array.mk xs) 0) (Array.mk []))),
(4, (Obj.mk yIter none (Data.fields (Array.mk [(Value.ref 690), (Value.int (0 : Int) 0)])) (Array.mk [])))]
noncomputable def L1_1_1 (P : Params) (t0 : Nat) (xs : List Value) (n : Int) (u : Tok) (v : Int) : List (Nat × Obj) := [
(0, (Obj.mk yFrame none (Data.dict (Array.mk [(en P k_script (tk t0 1) (Value.ref 686)), (en P k_n (tk t0 3) (Value.int n u)), (en P k_v (tk t0 8) (Value.int v (tk t0 7))), (en P k_w (tk t0 11) (Value.int (pl v 100) (tk t0 10))), (en P k_text (tk t0 18) (Value.bytes (Array.mk [(u8 (md v 256)), (u8 (md (pl v 100) 256)), (UInt8.ofNat 7)]) (tk t0 17))), (en P k_header (tk t0 98) (Value.ref 698)), (en P k_other (tk t0 286) (Value.ref 748)), (en P k_link (tk t0 446) (Value.ref 798)), (en P k_rows (tk t0 548) (Value.ref 853))]) 9) (Array.mk []))),
(3, (Obj.mk yList none (Data.seq (Array.mk xs) 0) (Array.mk []))),
(4, (Obj.mk yIter none (Data.fields (Array.mk [(Value.ref 690), (Value.int (1 : Int) 0)])) (Array.mk []))),
(10, (Obj.mk yDict none (Data.dict (Array.mk [(en P k_pduUserData (tk t0 53) (Value.ref 739)), (en P k_pduSource (tk t0 57) (Value.ref 741)), (en P k_pduDestination (tk t0 61) (Value.ref 744)), (en P k_pduExpectingReply (tk t0 66) (Value.int (pl v 1) (tk t0 157))), (en P k_pduNetworkPriority (tk t0 71) (Value.int (pl v 2) (tk t0 161))), (en P k_apduType (tk t0 73) (Value.int (pl v 3) (tk t0 167))), (en P k_apduSeg (tk t0 75) (Value.int (pl v 4) (tk t0 171))), (en P k_apduMor (tk t0 77) (Value.int (pl v 5) (tk t0 175))), (en P k_apduSA (tk t0 79) (Value.int (pl v 6) (tk t0 179))), (en P k_apduSrv (tk t0 81) (Value.int (pl v 7) (tk t0 183))), (en P k_apduNak (tk t0 83) (Value.int (pl v 8) (tk t0 187))), (en P k_apduSeq (tk t0 85) (Value.int (pl v 9) (tk t0 191))), (en P k_apduWin (tk t0 87) (Value.int (pl v 10) (tk t0 195))), (en P k_apduMaxSegs (tk t0 89) (Value.int (pl v 11) (tk t0 199))), (en P k_apduMaxResp (tk t0 91) (Value.int (pl v 12) (tk t0 203))), (en P k_apduService (tk t0 93) (Value.int (pl v 13) (tk t0 207))), (en P k_apduInvokeID (tk t0 95) (Value.int (pl v 14) (tk t0 211))), (en P k_apduAbortRejectReason (tk t0 97) (Value.int (pl v 15) (tk t0 215)))]) 18) (Array.mk []))),
(11, (Obj.mk (Value.ref 417) (some 697) Data.plain (Array.mk []))),
(52, (Obj.mk yList none (Data.seq (Array.mk [(Value.int v (tk t0 7))]) 0) (Array.mk []))),
(53, (Obj.mk yDict none (Data.dict (Array.mk [(en P k_addrType (tk t0 110) (Value.int (2 : Int) 1193)), (en P k_addrNet (tk t0 112) Value.none), (en P k_addrRoute (tk t0 114) Value.none), (en P k_addrAddr (tk t0 120) (Value.bytes (Array.mk [(u8 (md v 256))]) (tk t0 118))), (en P k_addrLen (tk t0 123) (Value.int (1 : Int) (tk t0 121)))]) 5) (Array.mk []))),
(54, (Obj.mk (Value.ref 325) (some 740) Data.plain (Array.mk []))),
(56, (Obj.mk yDict none (Data.dict (Array.mk [(en P k_addrType (tk t0 140) (Value.int (4 : Int) 1197)), (en P k_addrNet (tk t0 142) (Value.int (md v 65535) (tk t0 127))), (en P k_addrRoute (tk t0 144) Value.none), (en P k_addrAddr (tk t0 150) (Value.bytes (Array.mk [(u8 (md (pl v 1) 256))]) (tk t0 148))), (en P k_addrLen (tk t0 153) (Value.int (1 : Int) (tk t0 151)))]) 5) (Array.mk []))),
(57, (Obj.mk (Value.ref 345) (some 743) Data.plain (Array.mk []))),
(60, (Obj.mk yDict none (Data.dict (Array.mk [(en P k_pduUserData (tk t0 252) (Value.ref 789)), (en P k_pduSource (tk t0 256) (Value.ref 791)), (en P k_pduDestination (tk t0 260) (Value.ref 794)), (en P k_pduExpectingReply (tk t0 265) (Value.int (pl (pl v 1) 1) (tk t0 347))), (en P k_pduNetworkPriority (tk t0 270) (Value.int (pl (pl v 1) 2) (tk t0 351))), (en P k_npduVersion (tk t0 273) (Value.int (pl (pl v 1) 3) (tk t0 359))), (en P k_npduControl (tk t0 275) (Value.int (pl (pl v 1) 4) (tk t0 363))), (en P k_npduDADR (tk t0 277) (Value.int (pl (pl v 1) 5) (tk t0 367))), (en P k_npduSADR (tk t0 279) (Value.int (pl (pl v 1) 6) (tk t0 371))), (en P k_npduHopCount (tk t0 281) (Value.int (pl (pl v 1) 7) (tk t0 375))), (en P k_npduNetMessage (tk t0 283) (Value.int (pl (pl v 1) 8) (tk t0 379))), (en P k_npduVendorID (tk t0 285) (Value.int (pl (pl v 1) 9) (tk t0 383)))]) 12) (Array.mk []))),
(61, (Obj.mk (Value.ref 573) (some 747) Data.plain (Array.mk []))),
(102, (Obj.mk yList none (Data.seq (Array.mk [(Value.int (pl v 1) (tk t0 288))]) 0) (Array.mk []))),
(103, (Obj.mk yDict none (Data.dict (Array.mk [(en P k_addrType (tk t0 300) (Value.int (2 : Int) 1193)), (en P k_addrNet (tk t0 302) Value.none), (en P k_addrRoute (tk t0 304) Value.none), (en P k_addrAddr (tk t0 310) (Value.bytes (Array.mk [(u8 (md (pl v 1) 256))]) (tk t0 308))), (en P k_addrLen (tk t0 313) (Value.int (1 : Int) (tk t0 311)))]) 5) (Array.mk []))),
(104, (Obj.mk (Value.ref 325) (some 790) Data.plain (Array.mk []))),
(106, (Obj.mk yDict none (Data.dict (Array.mk [(en P k_addrType (tk t0 330) (Value.int (4 : Int) 1197)), (en P k_addrNet (tk t0 332) (Value.int (md (pl v 1) 65535) (tk t0 317))), (en P k_addrRoute (tk t0 334) Value.none), (en P k_addrAddr (tk t0 340) (Value.bytes (Array.mk [(u8 (md (pl (pl v 1) 1) 256))]) (tk t0 338))), (en P k_addrLen (tk t0 343) (Value.int (1 : Int) (tk t0 341)))]) 5) (Array.mk []))),
(107, (Obj.mk (Value.ref 345) (some 793) Data.plain (Array.mk []))),
(110, (Obj.mk yDict none (Data.dict (Array.mk [(en P k_pduUserData (tk t0 420) (Value.ref 839)), (en P k_pduSource (tk t0 424) (Value.ref 841)), (en P k_pduDestination (tk t0 428) (Value.ref 844)), (en P k_pduExpectingReply (tk t0 433) (Value.int (pl (pl v 2) 1) (tk t0 507))), (en P k_pduNetworkPriority (tk t0 438) (Value.int (pl (pl v 2) 2) (tk t0 511))), (en P k_bvlciType (tk t0 441) (Value.int (pl (pl v 2) 3) (tk t0 519))), (en P k_bvlciFunction (tk t0 443) (Value.int (pl (pl v 2) 4) (tk t0 523))), (en P k_bvlciLength (tk t0 445) (Value.int (pl (pl v 2) 5) (tk t0 527)))]) 8) (Array.mk []))),
(111, (Obj.mk (Value.ref 495) (some 797) Data.plain (Array.mk []))),
(152, (Obj.mk yList none (Data.seq (Array.mk [(Value.int (pl v 2) (tk t0 448))]) 0) (Array.mk []))),
(153, (Obj.mk yDict none (Data.dict (Array.mk [(en P k_addrType (tk t0 460) (Value.int (2 : Int) 1193)), (en P k_addrNet (tk t0 462) Value.none), (en P k_addrRoute (tk t0 464) Value.none), (en P k_addrAddr (tk t0 470) (Value.bytes (Array.mk [(u8 (md (pl v 2) 256))]) (tk t0 468))), (en P k_addrLen (tk t0 473) (Value.int (1 : Int) (tk t0 471)))]) 5) (Array.mk []))),
(154, (Obj.mk (Value.ref 325) (some 840) Data.plain (Array.mk []))),
(156, (Obj.mk yDict none (Data.dict (Array.mk [(en P k_addrType (tk t0 490) (Value.int (4 : Int) 1197)), (en P k_addrNet (tk t0 492) (Value.int (md (pl v 2) 65535) (tk t0 477))), (en P k_addrRoute (tk t0 494) Value.none), (en P k_addrAddr (tk t0 500) (Value.bytes (Array.mk [(u8 (md (pl (pl v 2) 1) 256))]) (tk t0 498))), (en P k_addrLen (tk t0 503) (Value.int (1 : Int) (tk t0 501)))]) 5) (Array.mk []))),
(157, (Obj.mk (Value.ref 345) (some 843) Data.plain (Array.mk []))),
(161, (Obj.mk yTuple none (Data.seq (Array.mk [(Value.ref 739), (Value.ref 741), (Value.ref 744), (Value.int (pl v 1) (tk t0 157)), (Value.int (pl v 2) (tk t0 161))]) 0) (Array.mk []))),
(163, (Obj.mk yTuple none (Data.seq (Array.mk [(Value.ref 789), (Value.ref 791), (Value.ref 794), (Value.int (pl (pl v 1) 1) (tk t0 347)), (Value.int (pl (pl v 1) 2) (tk t0 351))]) 0) (Array.mk []))),
(165, (Obj.mk yTuple none (Data.seq (Array.mk [(Value.ref 839), (Value.ref 841), (Value.ref 844), (Value.int (pl (pl v 2) 1) (tk t0 507)), (Value.int (pl (pl v 2) 2) (tk t0 511))]) 0) (Array.mk []))),
(166, (Obj.mk yList none (Data.seq (Array.mk [(Value.ref 848), (Value.ref 850), (Value.ref 852)]) 0) (Array.mk [])))]
noncomputable def L1_1_2 (P : Params) (t0 : Nat) (xs : List Value) (n : Int) (u : Tok) (v : Int) : List (Nat × Obj) := [
(0, (Obj.mk yFrame none (Data.dict (Array.mk [(en P k_script (tk t0 1) (Value.ref 686)), (en P k_n (tk t0 3) (Value.int n u)), (en P k_v (tk t0 8) (Value.int v (tk t0 7))), (en P k_w (tk t0 11) (Value.int (pl v 100) (tk t0 10))), (en P k_text (tk t0 18) (Value.bytes (Array.mk [(@Mine.u8 (md v 256)), (@Mine.u8 (md (pl v 100) 256)), (UInt8.ofNat 7)]) (tk t0 17))), (en P k_header (tk t0 98) (Value.ref 698)), (en P k_other (tk t0 286) (Value.ref 748)), (en P k_link (tk t0 446) (Value.ref 798)), (en P k_rows (tk t0 548) (Value.ref 853)), (en P k_message (tk t0 639) (Value.ref 937))]) 10) (Array.mk []))),
(3, (Obj.mk yList none (Data.seq (Array.mk xs) 0) (Array.mk []))),
(4, (Obj.mk yIter none (Data.fields (Array.mk [(Value.ref 690), (Value.int (1 : Int) 0)])) (Array.mk []))),
(10, (Obj.mk yDict none (Data.dict (Array.mk [(en P k_pduUserData (tk t0 53) (Value.ref 739)), (en P k_pduSource (tk t0 57) (Value.ref 741)), (en P k_pduDestination (tk t0 61) (Value.ref 744)), (en P k_pduExpectingReply (tk t0 66) (Value.int (pl v 1) (tk t0 157))), (en P k_pduNetworkPriority (tk t0 71) (Value.int (pl v 2) (tk t0 161))), (en P k_apduType (tk t0 73) (Value.int (pl v 3) (tk t0 167))), (en P k_apduSeg (tk t0 75) (Value.int (pl v 4) (tk t0 171))), (en P k_apduMor (tk t0 77) (Value.int (pl v 5) (tk t0 175))), (en P k_apduSA (tk t0 79) (Value.int (pl v 6) (tk t0 179))), (en P k_apduSrv (tk t0 81) (Value.int (pl v 7) (tk t0 183))), (en P k_apduNak (tk t0 83) (Value.int (pl v 8) (tk t0 187))), (en P k_apduSeq (tk t0 85) (Value.int (pl v 9) (tk t0 191))), (en P k_apduWin (tk t0 87) (Value.int (pl v 10) (tk t0 195))), (en P k_apduMaxSegs (tk t0 89) (Value.int (pl v 11) (tk t0 199))), (en P k_apduMaxResp (tk t0 91) (Value.int (pl v 12) (tk t0 203))), (en P k_apduService (tk t0 93) (Value.int (pl v 13) (tk t0 207))), (en P k_apduInvokeID (tk t0 95) (Value.int (pl v 14) (tk t0 211))), (en P k_apduAbortRejectReason (tk t0 97) (Value.int (pl v 15) (tk t0 215)))]) 18) (Array.mk []))),
(11, (Obj.mk (Value.ref 417) (some 697) Data.plain (Array.mk []))),
(52, (Obj.mk yList none (Data.seq (Array.mk [(Value.int v (tk t0 7))]) 0) (Array.mk []))),
(53, (Obj.mk yDict none (Data.dict (Array.mk [(en P k_addrType (tk t0 110) (Value.int (2 : Int) 1193)), (en P k_addrNet (tk t0 112) Value.none), (en P k_addrRoute (tk t0 114) Value.none), (en P k_addrAddr (tk t0 120) (Value.bytes (Array.mk [(@Mine.u8 (md v 256))]) (tk t0 118))), (en P k_addrLen (tk t0 123) (Value.int (1 : Int) (tk t0 121)))]) 5) (Array.mk []))),
(54, (Obj.mk (Value.ref 325) (some 740) Data.plain (Array.mk []))),
(56, (Obj.mk yDict none (Data.dict (Array.mk [(en P k_addrType (tk t0 140) (Value.int (4 : Int) 1197)), (en P k_addrNet (tk t0 142) (Value.int (md v 65535) (tk t0 127))), (en P k_addrRoute (tk t0 144) Value.none), (en P k_addrAddr (tk t0 150) (Value.bytes (Array.mk [(@Mine.u8 (md (pl v 1) 256))]) (tk t0 148))), (en P k_addrLen (tk t0 153) (Value.int (1 : Int) (tk t0 151)))]) 5) (Array.mk []))),
(57, (Obj.mk (Value.ref 345) (some 743) Data.plain (Array.mk []))),
(60, (Obj.mk yDict none (Data.dict (Array.mk [(en P k_pduUserData (tk t0 252) (Value.ref 789)), (en P k_pduSource (tk t0 256) (Value.ref 791)), (en P k_pduDestination (tk t0 260) (Value.ref 794)), (en P k_pduExpectingReply (tk t0 265) (Value.int (pl (pl v 1) 1) (tk t0 347))), (en P k_pduNetworkPriority (tk t0 270) (Value.int (pl (pl v 1) 2) (tk t0 351))), (en P k_npduVersion (tk t0 273) (Value.int (pl (pl v 1) 3) (tk t0 359))), (en P k_npduControl (tk t0 275) (Value.int (pl (pl v 1) 4) (tk t0 363))), (en P k_npduDADR (tk t0 277) (Value.int (pl (pl v 1) 5) (tk t0 367))), (en P k_npduSADR (tk t0 279) (Value.int (pl (pl v 1) 6) (tk t0 371))), (en P k_npduHopCount (tk t0 281) (Value.int (pl (pl v 1) 7) (tk t0 375))), (en P k_npduNetMessage (tk t0 283) (Value.int (pl (pl v 1) 8) (tk t0 379))), (en P k_npduVendorID (tk t0 285) (Value.int (pl (pl v 1) 9) (tk t0 383)))]) 12) (Array.mk []))),
(61, (Obj.mk (Value.ref 573) (some 747) Data.plain (Array.mk []))),
(102, (Obj.mk yList none (Data.seq (Array.mk [(Value.int (pl v 1) (tk t0 288))]) 0) (Array.mk []))),
(103, (Obj.mk yDict none (Data.dict (Array.mk [(en P k_addrType (tk t0 300) (Value.int (2 : Int) 1193)), (en P k_addrNet (tk t0 302) Value.none), (en P k_addrRoute (tk t0 304) Value.none), (en P k_addrAddr (tk t0 310) (Value.bytes (Array.mk [(@Mine.u8 (md (pl v 1) 256))]) (tk t0 308))), (en P k_addrLen (tk t0 313) (Value.int (1 : Int) (tk t0 311)))]) 5) (Array.mk []))),
(104, (Obj.mk (Value.ref 325) (some 790) Data.plain (Array.mk []))),
(106, (Obj.mk yDict none (Data.dict (Array.mk [(en P k_addrType (tk t0 330) (Value.int (4 : Int) 1197)), (en P k_addrNet (tk t0 332) (Value.int (md (pl v 1) 65535) (tk t0 317))), (en P k_addrRoute (tk t0 334) Value.none), (en P k_addrAddr (tk t0 340) (Value.bytes (Array.mk [(@Mine.u8 (md (pl (pl v 1) 1) 256))]) (tk t0 338))), (en P k_addrLen (tk t0 343) (Value.int (1 : Int) (tk t0 341)))]) 5) (Array.mk []))),
(107, (Obj.mk (Value.ref 345) (some 793) Data.plain (Array.mk []))),
(110, (Obj.mk yDict none (Data.dict (Array.mk [(en P k_pduUserData (tk t0 420) (Value.ref 839)), (en P k_pduSource (tk t0 424) (Value.ref 841)), (en P k_pduDestination (tk t0 428) (Value.ref 844)), (en P k_pduExpectingReply (tk t0 433) (Value.int (pl (pl v 2) 1) (tk t0 507))), (en P k_pduNetworkPriority (tk t0 438) (Value.int (pl (pl v 2) 2) (tk t0 511))), (en P k_bvlciType (tk t0 441) (Value.int (pl (pl v 2) 3) (tk t0 519))), (en P k_bvlciFunction (tk t0 443) (Value.int (pl (pl v 2) 4) (tk t0 523))), (en P k_bvlciLength (tk t0 445) (Value.int (pl (pl v 2) 5) (tk t0 527)))]) 8) (Array.mk []))),
(111, (Obj.mk (Value.ref 495) (some 797) Data.plain (Array.mk []))),
(152, (Obj.mk yList none (Data.seq (Array.mk [(Value.int (pl v 2) (tk t0 448))]) 0) (Array.mk []))),
(153, (Obj.mk yDict none (Data.dict (Array.mk [(en P k_addrType (tk t0 460) (Value.int (2 : Int) 1193)), (en P k_addrNet (tk t0 462) Value.none), (en P k_addrRoute (tk t0 464) Value.none), (en P k_addrAddr (tk t0 470) (Value.bytes (Array.mk [(@Mine.u8 (md (pl v 2) 256))]) (tk t0 468))), (en P k_addrLen (tk t0 473) (Value.int (1 : Int) (tk t0 471)))]) 5) (Array.mk []))),
(154, (Obj.mk (Value.ref 325) (some 840) Data.plain (Array.mk []))),
(156, (Obj.mk yDict none (Data.dict (Array.mk [(en P k_addrType (tk t0 490) (Value.int (4 : Int) 1197)), (en P k_addrNet (tk t0 492) (Value.int (md (pl v 2) 65535) (tk t0 477))), (en P k_addrRoute (tk t0 494) Value.none), (en P k_addrAddr (tk t0 500) (Value.bytes (Array.mk [(@Mine.u8 (md (pl (pl v 2) 1) 256))]) (tk t0 498))), (en P k_addrLen (tk t0 503) (Value.int (1 : Int) (tk t0 501)))]) 5) (Array.mk []))),
(157, (Obj.mk (Value.ref 345) (some 843) Data.plain (Array.mk []))),
(161, (Obj.mk yTuple none (Data.seq (Array.mk [(Value.ref 739), (Value.ref 741), (Value.ref 744), (Value.int (pl v 1) (tk t0 157)), (Value.int (pl v 2) (tk t0 161))]) 0) (Array.mk []))),
(163, (Obj.mk yTuple none (Data.seq (Array.mk [(Value.ref 789), (Value.ref 791), (Value.ref 794), (Value.int (pl (pl v 1) 1) (tk t0 347)), (Value.int (pl (pl v 1) 2) (tk t0 351))]) 0) (Array.mk []))),
(165, (Obj.mk yTuple none (Data.seq (Array.mk [(Value.ref 839), (Value.ref 841), (Value.ref 844), (Value.int (pl (pl v 2) 1) (tk t0 507)), (Value.int (pl (pl v 2) 2) (tk t0 511))]) 0) (Array.mk []))),
(166, (Obj.mk yList none (Data.seq (Array.mk [(Value.ref 848), (Value.ref 850), (Value.ref 852)]) 0) (Array.mk []))),
(249, (Obj.mk yDict none (Data.dict (Array.mk [(en P k_pduData (tk t0 939) (Value.ref 992)), (en P k_pduUserData (tk t0 943) (Value.ref 789)), (en P k_pduSource (tk t0 947) (Value.ref 791)), (en P k_pduDestination (tk t0 951) (Value.ref 794)), (en P k_pduExpectingReply (tk t0 956) (Value.int (pl (pl v 1) 1) (tk t0 347))), (en P k_pduNetworkPriority (tk t0 961) (Value.int (pl (pl v 1) 2) (tk t0 351))), (en P k_npduVersion (tk t0 964) (Value.int (pl (pl v 1) 3) (tk t0 359))), (en P k_npduControl (tk t0 966) (Value.int (pl (pl v 1) 4) (tk t0 363))), (en P k_npduDADR (tk t0 968) (Value.int (pl (pl v 1) 5) (tk t0 367))), (en P k_npduSADR (tk t0 970) (Value.int (pl (pl v 1) 6) (tk t0 371))), (en P k_npduHopCount (tk t0 972) (Value.int (pl (pl v 1) 7) (tk t0 375))), (en P k_npduNetMessage (tk t0 974) (Value.int (pl (pl v 1) 8) (tk t0 379))), (en P k_npduVendorID (tk t0 976) (Value.int (pl (pl v 1) 9) (tk t0 383)))]) 13) (Array.mk []))),
(250, (Obj.mk (Value.ref 608) (some 936) Data.plain (Array.mk []))),
(305, (Obj.mk ys9501651726347032510x9 none (Data.bytearray (Array.mk [(@Mine.u8 (md v 256)), (@Mine.u8 (md (pl v 100) 256)), (UInt8.ofNat 7)]) 0) (Array.mk [])))]
noncomputable def L1_1_3 (P : Params) (t0 : Nat) (xs : List Value) (n : Int) (u : Tok) (v : Int) : List (Nat × Obj) := [
(0, (Obj.mk yFrame none (Data.dict (Array.mk [(en P k_script (tk t0 1) (Value.ref 686)), (en P k_n (tk t0 3) (Value.int n u)), (en P k_v (tk t0 8) (Value.int v (tk t0 7))), (en P k_w (tk t0 11) (Value.int (pl v 100) (tk t0 10))), (en P k_text (tk t0 18) (Value.bytes (Array.mk [(@Mine.u8 (md v 256)), (@Mine.u8 (md (pl v 100) 256)), (UInt8.ofNat 7)]) (tk t0 17))), (en P k_header (tk t0 98) (Value.ref 698)), (en P k_other (tk t0 286) (Value.ref 748)), (en P k_link (tk t0 446) (Value.ref 798)), (en P k_rows (tk t0 548) (Value.ref 853)), (en P k_message (tk t0 639) (Value.ref 1105))]) 10) (Array.mk []))),
(3, (Obj.mk yList none (Data.seq (Array.mk xs) 0) (Array.mk []))),
(4, (Obj.mk yIter none (Data.fields (Array.mk [(Value.ref 690), (Value.int (1 : Int) 0)])) (Array.mk []))),
(10, (Obj.mk yDict none (Data.dict (Array.mk [(en P k_pduUserData (tk t0 53) (Value.ref 739)), (en P k_pduSource (tk t0 57) (Value.ref 741)), (en P k_pduDestination (tk t0 61) (Value.ref 744)), (en P k_pduExpectingReply (tk t0 66) (Value.int (pl v 1) (tk t0 157))), (en P k_pduNetworkPriority (tk t0 71) (Value.int (pl v 2) (tk t0 161))), (en P k_apduType (tk t0 73) (Value.int (pl v 3) (tk t0 167))), (en P k_apduSeg (tk t0 75) (Value.int (pl v 4) (tk t0 171))), (en P k_apduMor (tk t0 77) (Value.int (pl v 5) (tk t0 175))), (en P k_apduSA (tk t0 79) (Value.int (pl v 6) (tk t0 179))), (en P k_apduSrv (tk t0 81) (Value.int (pl v 7) (tk t0 183))), (en P k_apduNak (tk t0 83) (Value.int (pl v 8) (tk t0 187))), (en P k_apduSeq (tk t0 85) (Value.int (pl v 9) (tk t0 191))), (en P k_apduWin (tk t0 87) (Value.int (pl v 10) (tk t0 195))), (en P k_apduMaxSegs (tk t0 89) (Value.int (pl v 11) (tk t0 199))), (en P k_apduMaxResp (tk t0 91) (Value.int (pl v 12) (tk t0 203))), (en P k_apduService (tk t0 93) (Value.int (pl v 13) (tk t0 207))), (en P k_apduInvokeID (tk t0 95) (Value.int (pl v 14) (tk t0 211))), (en P k_apduAbortRejectReason (tk t0 97) (Value.int (pl v 15) (tk t0 215)))]) 18) (Array.mk []))),
(11, (Obj.mk (Value.ref 417) (some 697) Data.plain (Array.mk []))),
(52, (Obj.mk yList none (Data.seq (Array.mk [(Value.int v (tk t0 7))]) 0) (Array.mk []))),
(53, (Obj.mk yDict none (Data.dict (Array.mk [(en P k_addrType (tk t0 110) (Value.int (2 : Int) 1193)), (en P k_addrNet (tk t0 112) Value.none), (en P k_addrRoute (tk t0 114) Value.none), (en P k_addrAddr (tk t0 120) (Value.bytes (Array.mk [(@Mine.u8 (md v 256))]) (tk t0 118))), (en P k_addrLen (tk t0 123) (Value.int (1 : Int) (tk t0 121)))]) 5) (Array.mk []))),
(54, (Obj.mk (Value.ref 325) (some 740) Data.plain (Array.mk []))),
(56, (Obj.mk yDict none (Data.dict (Array.mk [(en P k_addrType (tk t0 140) (Value.int (4 : Int) 1197)), (en P k_addrNet (tk t0 142) (Value.int (md v 65535) (tk t0 127))), (en P k_addrRoute (tk t0 144) Value.none), (en P k_addrAddr (tk t0 150) (Value.bytes (Array.mk [(@Mine.u8 (md (pl v 1) 256))]) (tk t0 148))), (en P k_addrLen (tk t0 153) (Value.int (1 : Int) (tk t0 151)))]) 5) (Array.mk []))),
(57, (Obj.mk (Value.ref 345) (some 743) Data.plain (Array.mk []))),
(60, (Obj.mk yDict none (Data.dict (Array.mk [(en P k_pduUserData (tk t0 252) (Value.ref 789)), (en P k_pduSource (tk t0 256) (Value.ref 791)), (en P k_pduDestination (tk t0 260) (Value.ref 794)), (en P k_pduExpectingReply (tk t0 265) (Value.int (pl (pl v 1) 1) (tk t0 347))), (en P k_pduNetworkPriority (tk t0 270) (Value.int (pl (pl v 1) 2) (tk t0 351))), (en P k_npduVersion (tk t0 273) (Value.int (pl (pl v 1) 3) (tk t0 359))), (en P k_npduControl (tk t0 275) (Value.int (pl (pl v 1) 4) (tk t0 363))), (en P k_npduDADR (tk t0 277) (Value.int (pl (pl v 1) 5) (tk t0 367))), (en P k_npduSADR (tk t0 279) (Value.int (pl (pl v 1) 6) (tk t0 371))), (en P k_npduHopCount (tk t0 281) (Value.int (pl (pl v 1) 7) (tk t0 375))), (en P k_npduNetMessage (tk t0 283) (Value.int (pl (pl v 1) 8) (tk t0 379))), (en P k_npduVendorID (tk t0 285) (Value.int (pl (pl v 1) 9) (tk t0 383)))]) 12) (Array.mk []))),
(61, (Obj.mk (Value.ref 573) (some 747) Data.plain (Array.mk []))),
(102, (Obj.mk yList none (Data.seq (Array.mk [(Value.int (pl v 1) (tk t0 288))]) 0) (Array.mk []))),
(103, (Obj.mk yDict none (Data.dict (Array.mk [(en P k_addrType (tk t0 300) (Value.int (2 : Int) 1193)), (en P k_addrNet (tk t0 302) Value.none), (en P k_addrRoute (tk t0 304) Value.none), (en P k_addrAddr (tk t0 310) (Value.bytes (Array.mk [(@Mine.u8 (md (pl v 1) 256))]) (tk t0 308))), (en P k_addrLen (tk t0 313) (Value.int (1 : Int) (tk t0 311)))]) 5) (Array.mk []))),
(104, (Obj.mk (Value.ref 325) (some 790) Data.plain (Array.mk []))),
(106, (Obj.mk yDict none (Data.dict (Array.mk [(en P k_addrType (tk t0 330) (Value.int (4 : Int) 1197)), (en P k_addrNet (tk t0 332) (Value.int (md (pl v 1) 65535) (tk t0 317))), (en P k_addrRoute (tk t0 334) Value.none), (en P k_addrAddr (tk t0 340) (Value.bytes (Array.mk [(@Mine.u8 (md (pl (pl v 1) 1) 256))]) (tk t0 338))), (en P k_addrLen (tk t0 343) (Value.int (1 : Int) (tk t0 341)))]) 5) (Array.mk []))),
(107, (Obj.mk (Value.ref 345) (some 793) Data.plain (Array.mk []))),
(110, (Obj.mk yDict none (Data.dict (Array.mk [(en P k_pduUserData (tk t0 420) (Value.ref 839)), (en P k_pduSource (tk t0 424) (Value.ref 841)), (en P k_pduDestination (tk t0 428) (Value.ref 844)), (en P k_pduExpectingReply (tk t0 433) (Value.int (pl (pl v 2) 1) (tk t0 507))), (en P k_pduNetworkPriority (tk t0 438) (Value.int (pl (pl v 2) 2) (tk t0 511))), (en P k_bvlciType (tk t0 441) (Value.int (pl (pl v 2) 3) (tk t0 519))), (en P k_bvlciFunction (tk t0 443) (Value.int (pl (pl v 2) 4) (tk t0 523))), (en P k_bvlciLength (tk t0 445) (Value.int (pl (pl v 2) 5) (tk t0 527)))]) 8) (Array.mk []))),
(111, (Obj.mk (Value.ref 495) (some 797) Data.plain (Array.mk []))),
(152, (Obj.mk yList none (Data.seq (Array.mk [(Value.int (pl v 2) (tk t0 448))]) 0) (Array.mk []))),
(153, (Obj.mk yDict none (Data.dict (Array.mk [(en P k_addrType (tk t0 460) (Value.int (2 : Int) 1193)), (en P k_addrNet (tk t0 462) Value.none), (en P k_addrRoute (tk t0 464) Value.none), (en P k_addrAddr (tk t0 470) (Value.bytes (Array.mk [(@Mine.u8 (md (pl v 2) 256))]) (tk t0 468))), (en P k_addrLen (tk t0 473) (Value.int (1 : Int) (tk t0 471)))]) 5) (Array.mk []))),
(154, (Obj.mk (Value.ref 325) (some 840) Data.plain (Array.mk []))),
(156, (Obj.mk yDict none (Data.dict (Array.mk [(en P k_addrType (tk t0 490) (Value.int (4 : Int) 1197)), (en P k_addrNet (tk t0 492) (Value.int (md (pl v 2) 65535) (tk t0 477))), (en P k_addrRoute (tk t0 494) Value.none), (en P k_addrAddr (tk t0 500) (Value.bytes (Array.mk [(@Mine.u8 (md (pl (pl v 2) 1) 256))]) (tk t0 498))), (en P k_addrLen (tk t0 503) (Value.int (1 : Int) (tk t0 501)))]) 5) (Array.mk []))),
(157, (Obj.mk (Value.ref 345) (some 843) Data.plain (Array.mk []))),
(161, (Obj.mk yTuple none (Data.seq (Array.mk [(Value.ref 739), (Value.ref 741), (Value.ref 744), (Value.int (pl v 1) (tk t0 157)), (Value.int (pl v 2) (tk t0 161))]) 0) (Array.mk []))),
(163, (Obj.mk yTuple none (Data.seq (Array.mk [(Value.ref 789), (Value.ref 791), (Value.ref 794), (Value.int (pl (pl v 1) 1) (tk t0 347)), (Value.int (pl (pl v 1) 2) (tk t0 351))]) 0) (Array.mk []))),
(165, (Obj.mk yTuple none (Data.seq (Array.mk [(Value.ref 839), (Value.ref 841), (Value.ref 844), (Value.int (pl (pl v 2) 1) (tk t0 507)), (Value.int (pl (pl v 2) 2) (tk t0 511))]) 0) (Array.mk []))),
(166, (Obj.mk yList none (Data.seq (Array.mk [(Value.ref 848), (Value.ref 850), (Value.ref 852)]) 0) (Array.mk []))),
(417, (Obj.mk yDict none (Data.dict (Array.mk [(en P k_pduData (tk t0 1485) (Value.ref 1160)), (en P k_pduUserData (tk t0 1489) (Value.ref 789)), (en P k_pduSource (tk t0 1493) (Value.ref 791)), (en P k_pduDestination (tk t0 1497) (Value.ref 794)), (en P k_pduExpectingReply (tk t0 1502) (Value.int (pl (pl v 1) 1) (tk t0 347))), (en P k_pduNetworkPriority (tk t0 1507) (Value.int (pl (pl v 1) 2) (tk t0 351))), (en P k_apduType (tk t0 1509) (Value.int (pl (pl v 100) 3) (tk t0 1603))), (en P k_apduSeg (tk t0 1511) (Value.int (pl (pl v 100) 4) (tk t0 1607))), (en P k_apduMor (tk t0 1513) (Value.int (pl (pl v 100) 5) (tk t0 1611))), (en P k_apduSA (tk t0 1515) (Value.int (pl (pl v 100) 6) (tk t0 1615))), (en P k_apduSrv (tk t0 1517) (Value.int (pl (pl v 100) 7) (tk t0 1619))), (en P k_apduNak (tk t0 1519) (Value.int (pl (pl v 100) 8) (tk t0 1623))), (en P k_apduSeq (tk t0 1521) (Value.int (pl (pl v 100) 9) (tk t0 1627))), (en P k_apduWin (tk t0 1523) (Value.int (pl (pl v 100) 10) (tk t0 1631))), (en P k_apduMaxSegs (tk t0 1525) (Value.int (pl (pl v 100) 11) (tk t0 1635))), (en P k_apduMaxResp (tk t0 1527) (Value.int (pl (pl v 100) 12) (tk t0 1639))), (en P k_apduService (tk t0 1529) (Value.int (pl (pl v 100) 13) (tk t0 1643))), (en P k_apduInvokeID (tk t0 1531) (Value.int (pl (pl v 100) 14) (tk t0 1647))), (en P k_apduAbortRejectReason (tk t0 1533) (Value.int (pl (pl v 100) 15) (tk t0 1651)))]) 19) (Array.mk []))),
(418, (Obj.mk (Value.ref 452) (some 1104) Data.plain (Array.mk []))),
(473, (Obj.mk ys9501651726347032510x9 none (Data.bytearray (Array.mk [(@Mine.u8 (md v 256)), (@Mine.u8 (md (pl v 100) 256)), (UInt8.ofNat 7)]) 0) (Array.mk [])))]
noncomputable def L1_1_4 (P : Params) (t0 : Nat) (xs : List Value) (n : Int) (u : Tok) (v : Int) : List (Nat × Obj) := [
(0, (Obj.mk yFrame none (Data.dict (Array.mk [(en P k_script (tk t0 1) (Value.ref 686)), (en P k_n (tk t0 3) (Value.int n u)), (en P k_v (tk t0 8) (Value.int v (tk t0 7))), (en P k_w (tk t0 11) (Value.int (pl v 100) (tk t0 10))), (en P k_text (tk t0 18) (Value.bytes (Array.mk [(@Mine.u8 (md v 256)), (@Mine.u8 (md (pl v 100) 256)), (UInt8.ofNat 7)]) (tk t0 17))), (en P k_header (tk t0 98) (Value.ref 698)), (en P k_other (tk t0 286) (Value.ref 748)), (en P k_link (tk t0 446) (Value.ref 798)), (en P k_rows (tk t0 548) (Value.ref 853)), (en P k_message (tk t0 639) (Value.ref 1269))]) 10) (Array.mk []))),
(3, (Obj.mk yList none (Data.seq (Array.mk xs) 0) (Array.mk []))),
(4, (Obj.mk yIter none (Data.fields (Array.mk [(Value.ref 690), (Value.int (1 : Int) 0)])) (Array.mk [])))]
noncomputable def L1_2_1 (P : Params) (t0 : Nat) (xs : List Value) (n : Int) (u : Tok) (v : Int) : List (Nat × Obj) := [
(0, (Obj.mk yFrame none (Data.dict (Array.mk [(en P k_script (tk t0 1) (Value.ref 686)), (en P k_n (tk t0 3) (Value.int n u)), (en P k_v (tk t0 8) (Value.int v (tk t0 2479))), (en P k_w (tk t0 11) (Value.int (pl v 100) (tk t0 2482))), (en P k_text (tk t0 18) (Value.bytes (Array.mk [(u8 (md v 256)), (u8 (md (pl v 100) 256)), (UInt8.ofNat 7)]) (tk t0 2489))), (en P k_header (tk t0 98) (Value.ref 1400)), (en P k_other (tk t0 286) (Value.ref 1450)), (en P k_link (tk t0 446) (Value.ref 1500)), (en P k_rows (tk t0 548) (Value.ref 1555)), (en P k_message (tk t0 639) (Value.ref 1269))]) 10) (Array.mk []))),
(3, (Obj.mk yList none (Data.seq (Array.mk xs) 0) (Array.mk []))),
(4, (Obj.mk yIter none (Data.fields (Array.mk [(Value.ref 690), (Value.int (2 : Int) 0)])) (Array.mk []))),
(712, (Obj.mk yDict none (Data.dict (Array.mk [(en P k_pduUserData (tk t0 2525) (Value.ref 1441)), (en P k_pduSource (tk t0 2529) (Value.ref 1443)), (en P k_pduDestination (tk t0 2533) (Value.ref 1446)), (en P k_pduExpectingReply (tk t0 2538) (Value.int (pl v 1) (tk t0 2629))), (en P k_pduNetworkPriority (tk t0 2543) (Value.int (pl v 2) (tk t0 2633))), (en P k_apduType (tk t0 2545) (Value.int (pl v 3) (tk t0 2639))), (en P k_apduSeg (tk t0 2547) (Value.int (pl v 4) (tk t0 2643))), (en P k_apduMor (tk t0 2549) (Value.int (pl v 5) (tk t0 2647))), (en P k_apduSA (tk t0 2551) (Value.int (pl v 6) (tk t0 2651))), (en P k_apduSrv (tk t0 2553) (Value.int (pl v 7) (tk t0 2655))), (en P k_apduNak (tk t0 2555) (Value.int (pl v 8) (tk t0 2659))), (en P k_apduSeq (tk t0 2557) (Value.int (pl v 9) (tk t0 2663))), (en P k_apduWin (tk t0 2559) (Value.int (pl v 10) (tk t0 2667))), (en P k_apduMaxSegs (tk t0 2561) (Value.int (pl v 11) (tk t0 2671))), (en P k_apduMaxResp (tk t0 2563) (Value.int (pl v 12) (tk t0 2675))), (en P k_apduService (tk t0 2565) (Value.int (pl v 13) (tk t0 2679))), (en P k_apduInvokeID (tk t0 2567) (Value.int (pl v 14) (tk t0 2683))), (en P k_apduAbortRejectReason (tk t0 2569) (Value.int (pl v 15) (tk t0 2687)))]) 18) (Array.mk []))),
(713, (Obj.mk (Value.ref 417) (some 1399) Data.plain (Array.mk []))),
(754, (Obj.mk yList none (Data.seq (Array.mk [(Value.int v (tk t0 2479))]) 0) (Array.mk []))),
(755, (Obj.mk yDict none (Data.dict (Array.mk [(en P k_addrType (tk t0 2582) (Value.int (2 : Int) 1193)), (en P k_addrNet (tk t0 2584) Value.none), (en P k_addrRoute (tk t0 2586) Value.none), (en P k_addrAddr (tk t0 2592) (Value.bytes (Array.mk [(u8 (md v 256))]) (tk t0 2590))), (en P k_addrLen (tk t0 2595) (Value.int (1 : Int) (tk t0 2593)))]) 5) (Array.mk []))),
(756, (Obj.mk (Value.ref 325) (some 1442) Data.plain (Array.mk []))),
(758, (Obj.mk yDict none (Data.dict (Array.mk [(en P k_addrType (tk t0 2612) (Value.int (4 : Int) 1197)), (en P k_addrNet (tk t0 2614) (Value.int (md v 65535) (tk t0 2599))), (en P k_addrRoute (tk t0 2616) Value.none), (en P k_addrAddr (tk t0 2622) (Value.bytes (Array.mk [(u8 (md (pl v 1) 256))]) (tk t0 2620))), (en P k_addrLen (tk t0 2625) (Value.int (1 : Int) (tk t0 2623)))]) 5) (Array.mk []))),
(759, (Obj.mk (Value.ref 345) (some 1445) Data.plain (Array.mk []))),
(762, (Obj.mk yDict none (Data.dict (Array.mk [(en P k_pduUserData (tk t0 2724) (Value.ref 1491)), (en P k_pduSource (tk t0 2728) (Value.ref 1493)), (en P k_pduDestination (tk t0 2732) (Value.ref 1496)), (en P k_pduExpectingReply (tk t0 2737) (Value.int (pl (pl v 1) 1) (tk t0 2819))), (en P k_pduNetworkPriority (tk t0 2742) (Value.int (pl (pl v 1) 2) (tk t0 2823))), (en P k_npduVersion (tk t0 2745) (Value.int (pl (pl v 1) 3) (tk t0 2831))), (en P k_npduControl (tk t0 2747) (Value.int (pl (pl v 1) 4) (tk t0 2835))), (en P k_npduDADR (tk t0 2749) (Value.int (pl (pl v 1) 5) (tk t0 2839))), (en P k_npduSADR (tk t0 2751) (Value.int (pl (pl v 1) 6) (tk t0 2843))), (en P k_npduHopCount (tk t0 2753) (Value.int (pl (pl v 1) 7) (tk t0 2847))), (en P k_npduNetMessage (tk t0 2755) (Value.int (pl (pl v 1) 8) (tk t0 2851))), (en P k_npduVendorID (tk t0 2757) (Value.int (pl (pl v 1) 9) (tk t0 2855)))]) 12) (Array.mk []))),
(763, (Obj.mk (Value.ref 573) (some 1449) Data.plain (Array.mk []))),
(804, (Obj.mk yList none (Data.seq (Array.mk [(Value.int (pl v 1) (tk t0 2760))]) 0) (Array.mk []))),
(805, (Obj.mk yDict none (Data.dict (Array.mk [(en P k_addrType (tk t0 2772) (Value.int (2 : Int) 1193)), (en P k_addrNet (tk t0 2774) Value.none), (en P k_addrRoute (tk t0 2776) Value.none), (en P k_addrAddr (tk t0 2782) (Value.bytes (Array.mk [(u8 (md (pl v 1) 256))]) (tk t0 2780))), (en P k_addrLen (tk t0 2785) (Value.int (1 : Int) (tk t0 2783)))]) 5) (Array.mk []))),
(806, (Obj.mk (Value.ref 325) (some 1492) Data.plain (Array.mk []))),
(808, (Obj.mk yDict none (Data.dict (Array.mk [(en P k_addrType (tk t0 2802) (Value.int (4 : Int) 1197)), (en P k_addrNet (tk t0 2804) (Value.int (md (pl v 1) 65535) (tk t0 2789))), (en P k_addrRoute (tk t0 2806) Value.none), (en P k_addrAddr (tk t0 2812) (Value.bytes (Array.mk [(u8 (md (pl (pl v 1) 1) 256))]) (tk t0 2810))), (en P k_addrLen (tk t0 2815) (Value.int (1 : Int) (tk t0 2813)))]) 5) (Array.mk []))),
(809, (Obj.mk (Value.ref 345) (some 1495) Data.plain (Array.mk []))),
(812, (Obj.mk yDict none (Data.dict (Array.mk [(en P k_pduUserData (tk t0 2892) (Value.ref 1541)), (en P k_pduSource (tk t0 2896) (Value.ref 1543)), (en P k_pduDestination (tk t0 2900) (Value.ref 1546)), (en P k_pduExpectingReply (tk t0 2905) (Value.int (pl (pl v 2) 1) (tk t0 2979))), (en P k_pduNetworkPriority (tk t0 2910) (Value.int (pl (pl v 2) 2) (tk t0 2983))), (en P k_bvlciType (tk t0 2913) (Value.int (pl (pl v 2) 3) (tk t0 2991))), (en P k_bvlciFunction (tk t0 2915) (Value.int (pl (pl v 2) 4) (tk t0 2995))), (en P k_bvlciLength (tk t0 2917) (Value.int (pl (pl v 2) 5) (tk t0 2999)))]) 8) (Array.mk []))),
(813, (Obj.mk (Value.ref 495) (some 1499) Data.plain (Array.mk []))),
(854, (Obj.mk yList none (Data.seq (Array.mk [(Value.int (pl v 2) (tk t0 2920))]) 0) (Array.mk []))),
(855, (Obj.mk yDict none (Data.dict (Array.mk [(en P k_addrType (tk t0 2932) (Value.int (2 : Int) 1193)), (en P k_addrNet (tk t0 2934) Value.none), (en P k_addrRoute (tk t0 2936) Value.none), (en P k_addrAddr (tk t0 2942) (Value.bytes (Array.mk [(u8 (md (pl v 2) 256))]) (tk t0 2940))), (en P k_addrLen (tk t0 2945) (Value.int (1 : Int) (tk t0 2943)))]) 5) (Array.mk []))),
(856, (Obj.mk (Value.ref 325) (some 1542) Data.plain (Array.mk []))),
(858, (Obj.mk yDict none (Data.dict (Array.mk [(en P k_addrType (tk t0 2962) (Value.int (4 : Int) 1197)), (en P k_addrNet (tk t0 2964) (Value.int (md (pl v 2) 65535) (tk t0 2949))), (en P k_addrRoute (tk t0 2966) Value.none), (en P k_addrAddr (tk t0 2972) (Value.bytes (Array.mk [(u8 (md (pl (pl v 2) 1) 256))]) (tk t0 2970))), (en P k_addrLen (tk t0 2975) (Value.int (1 : Int) (tk t0 2973)))]) 5) (Array.mk []))),
(859, (Obj.mk (Value.ref 345) (some 1545) Data.plain (Array.mk []))),
(863, (Obj.mk yTuple none (Data.seq (Array.mk [(Value.ref 1441), (Value.ref 1443), (Value.ref 1446), (Value.int (pl v 1) (tk t0 2629)), (Value.int (pl v 2) (tk t0 2633))]) 0) (Array.mk []))),
(865, (Obj.mk yTuple none (Data.seq (Array.mk [(Value.ref 1491), (Value.ref 1493), (Value.ref 1496), (Value.int (pl (pl v 1) 1) (tk t0 2819)), (Value.int (pl (pl v 1) 2) (tk t0 2823))]) 0) (Array.mk []))),
(867, (Obj.mk yTuple none (Data.seq (Array.mk [(Value.ref 1541), (Value.ref 1543), (Value.ref 1546), (Value.int (pl (pl v 2) 1) (tk t0 2979)), (Value.int (pl (pl v 2) 2) (tk t0 2983))]) 0) (Array.mk []))),
(868, (Obj.mk yList none (Data.seq (Array.mk [(Value.ref 1550), (Value.ref 1552), (Value.ref 1554)]) 0) (Array.mk [])))]
noncomputable def L1_2_2 (P : Params) (t0 : Nat) (xs : List Value) (n : Int) (u : Tok) (v : Int) : List (Nat × Obj) := [
(0, (Obj.mk yFrame none (Data.dict (Array.mk [(en P k_script (tk t0 1) (Value.ref 686)), (en P k_n (tk t0 3) (Value.int n u)), (en P k_v (tk t0 8) (Value.int v (tk t0 2479))), (en P k_w (tk t0 11) (Value.int (pl v 100) (tk t0 2482))), (en P k_text (tk t0 18) (Value.bytes (Array.mk [(@Mine.u8 (md v 256)), (@Mine.u8 (md (pl v 100) 256)), (UInt8.ofNat 7)]) (tk t0 2489))), (en P k_header (tk t0 98) (Value.ref 1400)), (en P k_other (tk t0 286) (Value.ref 1450)), (en P k_link (tk t0 446) (Value.ref 1500)), (en P k_rows (tk t0 548) (Value.ref 1555)), (en P k_message (tk t0 639) (Value.ref 1639))]) 10) (Array.mk []))),
(3, (Obj.mk yList none (Data.seq (Array.mk xs) 0) (Array.mk []))),
(4, (Obj.mk yIter none (Data.fields (Array.mk [(Value.ref 690), (Value.int (2 : Int) 0)])) (Array.mk []))),
(712, (Obj.mk yDict none (Data.dict (Array.mk [(en P k_pduUserData (tk t0 2525) (Value.ref 1441)), (en P k_pduSource (tk t0 2529) (Value.ref 1443)), (en P k_pduDestination (tk t0 2533) (Value.ref 1446)), (en P k_pduExpectingReply (tk t0 2538) (Value.int (pl v 1) (tk t0 2629))), (en P k_pduNetworkPriority (tk t0 2543) (Value.int (pl v 2) (tk t0 2633))), (en P k_apduType (tk t0 2545) (Value.int (pl v 3) (tk t0 2639))), (en P k_apduSeg (tk t0 2547) (Value.int (pl v 4) (tk t0 2643))), (en P k_apduMor (tk t0 2549) (Value.int (pl v 5) (tk t0 2647))), (en P k_apduSA (tk t0 2551) (Value.int (pl v 6) (tk t0 2651))), (en P k_apduSrv (tk t0 2553) (Value.int (pl v 7) (tk t0 2655))), (en P k_apduNak (tk t0 2555) (Value.int (pl v 8) (tk t0 2659))), (en P k_apduSeq (tk t0 2557) (Value.int (pl v 9) (tk t0 2663))), (en P k_apduWin (tk t0 2559) (Value.int (pl v 10) (tk t0 2667))), (en P k_apduMaxSegs (tk t0 2561) (Value.int (pl v 11) (tk t0 2671))), (en P k_apduMaxResp (tk t0 2563) (Value.int (pl v 12) (tk t0 2675))), (en P k_apduService (tk t0 2565) (Value.int (pl v 13) (tk t0 2679))), (en P k_apduInvokeID (tk t0 2567) (Value.int (pl v 14) (tk t0 2683))), (en P k_apduAbortRejectReason (tk t0 2569) (Value.int (pl v 15) (tk t0 2687)))]) 18) (Array.mk []))),
(713, (Obj.mk (Value.ref 417) (some 1399) Data.plain (Array.mk []))),
(754, (Obj.mk yList none (Data.seq (Array.mk [(Value.int v (tk t0 2479))]) 0) (Array.mk []))),
(755, (Obj.mk yDict none (Data.dict (Array.mk [(en P k_addrType (tk t0 2582) (Value.int (2 : Int) 1193)), (en P k_addrNet (tk t0 2584) Value.none), (en P k_addrRoute (tk t0 2586) Value.none), (en P k_addrAddr (tk t0 2592) (Value.bytes (Array.mk [(@Mine.u8 (md v 256))]) (tk t0 2590))), (en P k_addrLen (tk t0 2595) (Value.int (1 : Int) (tk t0 2593)))]) 5) (Array.mk []))),
(756, (Obj.mk (Value.ref 325) (some 1442) Data.plain (Array.mk []))),
(758, (Obj.mk yDict none (Data.dict (Array.mk [(en P k_addrType (tk t0 2612) (Value.int (4 : Int) 1197)), (en P k_addrNet (tk t0 2614) (Value.int (md v 65535) (tk t0 2599))), (en P k_addrRoute (tk t0 2616) Value.none), (en P k_addrAddr (tk t0 2622) (Value.bytes (Array.mk [(@Mine.u8 (md (pl v 1) 256))]) (tk t0 2620))), (en P k_addrLen (tk t0 2625) (Value.int (1 : Int) (tk t0 2623)))]) 5) (Array.mk []))),
(759, (Obj.mk (Value.ref 345) (some 1445) Data.plain (Array.mk []))),
(762, (Obj.mk yDict none (Data.dict (Array.mk [(en P k_pduUserData (tk t0 2724) (Value.ref 1491)), (en P k_pduSource (tk t0 2728) (Value.ref 1493)), (en P k_pduDestination (tk t0 2732) (Value.ref 1496)), (en P k_pduExpectingReply (tk t0 2737) (Value.int (pl (pl v 1) 1) (tk t0 2819))), (en P k_pduNetworkPriority (tk t0 2742) (Value.int (pl (pl v 1) 2) (tk t0 2823))), (en P k_npduVersion (tk t0 2745) (Value.int (pl (pl v 1) 3) (tk t0 2831))), (en P k_npduControl (tk t0 2747) (Value.int (pl (pl v 1) 4) (tk t0 2835))), (en P k_npduDADR (tk t0 2749) (Value.int (pl (pl v 1) 5) (tk t0 2839))), (en P k_npduSADR (tk t0 2751) (Value.int (pl (pl v 1) 6) (tk t0 2843))), (en P k_npduHopCount (tk t0 2753) (Value.int (pl (pl v 1) 7) (tk t0 2847))), (en P k_npduNetMessage (tk t0 2755) (Value.int (pl (pl v 1) 8) (tk t0 2851))), (en P k_npduVendorID (tk t0 2757) (Value.int (pl (pl v 1) 9) (tk t0 2855)))]) 12) (Array.mk []))),
(763, (Obj.mk (Value.ref 573) (some 1449) Data.plain (Array.mk []))),
(804, (Obj.mk yList none (Data.seq (Array.mk [(Value.int (pl v 1) (tk t0 2760))]) 0) (Array.mk []))),
(805, (Obj.mk yDict none (Data.dict (Array.mk [(en P k_addrType (tk t0 2772) (Value.int (2 : Int) 1193)), (en P k_addrNet (tk t0 2774) Value.none), (en P k_addrRoute (tk t0 2776) Value.none), (en P k_addrAddr (tk t0 2782) (Value.bytes (Array.mk [(@Mine.u8 (md (pl v 1) 256))]) (tk t0 2780))), (en P k_addrLen (tk t0 2785) (Value.int (1 : Int) (tk t0 2783)))]) 5) (Array.mk []))),
(806, (Obj.mk (Value.ref 325) (some 1492) Data.plain (Array.mk []))),
(808, (Obj.mk yDict none (Data.dict (Array.mk [(en P k_addrType (tk t0 2802) (Value.int (4 : Int) 1197)), (en P k_addrNet (tk t0 2804) (Value.int (md (pl v 1) 65535) (tk t0 2789))), (en P k_addrRoute (tk t0 2806) Value.none), (en P k_addrAddr (tk t0 2812) (Value.bytes (Array.mk [(@Mine.u8 (md (pl (pl v 1) 1) 256))]) (tk t0 2810))), (en P k_addrLen (tk t0 2815) (Value.int (1 : Int) (tk t0 2813)))]) 5) (Array.mk []))),
(809, (Obj.mk (Value.ref 345) (some 1495) Data.plain (Array.mk []))),
(812, (Obj.mk yDict none (Data.dict (Array.mk [(en P k_pduUserData (tk t0 2892) (Value.ref 1541)), (en P k_pduSource (tk t0 2896) (Value.ref 1543)), (en P k_pduDestination (tk t0 2900) (Value.ref 1546)), (en P k_pduExpectingReply (tk t0 2905) (Value.int (pl (pl v 2) 1) (tk t0 2979))), (en P k_pduNetworkPriority (tk t0 2910) (Value.int (pl (pl v 2) 2) (tk t0 2983))), (en P k_bvlciType (tk t0 2913) (Value.int (pl (pl v 2) 3) (tk t0 2991))), (en P k_bvlciFunction (tk t0 2915) (Value.int (pl (pl v 2) 4) (tk t0 2995))), (en P k_bvlciLength (tk t0 2917) (Value.int (pl (pl v 2) 5) (tk t0 2999)))]) 8) (Array.mk []))),
(813, (Obj.mk (Value.ref 495) (some 1499) Data.plain (Array.mk []))),
(854, (Obj.mk yList none (Data.seq (Array.mk [(Value.int (pl v 2) (tk t0 2920))]) 0) (Array.mk []))),
(855, (Obj.mk yDict none (Data.dict (Array.mk [(en P k_addrType (tk t0 2932) (Value.int (2 : Int) 1193)), (en P k_addrNet (tk t0 2934) Value.none), (en P k_addrRoute (tk t0 2936) Value.none), (en P k_addrAddr (tk t0 2942) (Value.bytes (Array.mk [(@Mine.u8 (md (pl v 2) 256))]) (tk t0 2940))), (en P k_addrLen (tk t0 2945) (Value.int (1 : Int) (tk t0 2943)))]) 5) (Array.mk []))),
(856, (Obj.mk (Value.ref 325) (some 1542) Data.plain (Array.mk []))),
(858, (Obj.mk yDict none (Data.dict (Array.mk [(en P k_addrType (tk t0 2962) (Value.int (4 : Int) 1197)), (en P k_addrNet (tk t0 2964) (Value.int (md (pl v 2) 65535) (tk t0 2949))), (en P k_addrRoute (tk t0 2966) Value.none), (en P k_addrAddr (tk t0 2972) (Value.bytes (Array.mk [(@Mine.u8 (md (pl (pl v 2) 1) 256))]) (tk t0 2970))), (en P k_addrLen (tk t0 2975) (Value.int (1 : Int) (tk t0 2973)))]) 5) (Array.mk []))),
(859, (Obj.mk (Value.ref 345) (some 1545) Data.plain (Array.mk []))),
(863, (Obj.mk yTuple none (Data.seq (Array.mk [(Value.ref 1441), (Value.ref 1443), (Value.ref 1446), (Value.int (pl v 1) (tk t0 2629)), (Value.int (pl v 2) (tk t0 2633))]) 0) (Array.mk []))),
(865, (Obj.mk yTuple none (Data.seq (Array.mk [(Value.ref 1491), (Value.ref 1493), (Value.ref 1496), (Value.int (pl (pl v 1) 1) (tk t0 2819)), (Value.int (pl (pl v 1) 2) (tk t0 2823))]) 0) (Array.mk []))),
(867, (Obj.mk yTuple none (Data.seq (Array.mk [(Value.ref 1541), (Value.ref 1543), (Value.ref 1546), (Value.int (pl (pl v 2) 1) (tk t0 2979)), (Value.int (pl (pl v 2) 2) (tk t0 2983))]) 0) (Array.mk []))),
(868, (Obj.mk yList none (Data.seq (Array.mk [(Value.ref 1550), (Value.ref 1552), (Value.ref 1554)]) 0) (Array.mk []))),
(951, (Obj.mk yDict none (Data.dict (Array.mk [(en P k_pduData (tk t0 3411) (Value.ref 1694)), (en P k_pduUserData (tk t0 3415) (Value.ref 1491)), (en P k_pduSource (tk t0 3419) (Value.ref 1493)), (en P k_pduDestination (tk t0 3423) (Value.ref 1496)), (en P k_pduExpectingReply (tk t0 3428) (Value.int (pl (pl v 1) 1) (tk t0 2819))), (en P k_pduNetworkPriority (tk t0 3433) (Value.int (pl (pl v 1) 2) (tk t0 2823))), (en P k_npduVersion (tk t0 3436) (Value.int (pl (pl v 1) 3) (tk t0 2831))), (en P k_npduControl (tk t0 3438) (Value.int (pl (pl v 1) 4) (tk t0 2835))), (en P k_npduDADR (tk t0 3440) (Value.int (pl (pl v 1) 5) (tk t0 2839))), (en P k_npduSADR (tk t0 3442) (Value.int (pl (pl v 1) 6) (tk t0 2843))), (en P k_npduHopCount (tk t0 3444) (Value.int (pl (pl v 1) 7) (tk t0 2847))), (en P k_npduNetMessage (tk t0 3446) (Value.int (pl (pl v 1) 8) (tk t0 2851))), (en P k_npduVendorID (tk t0 3448) (Value.int (pl (pl v 1) 9) (tk t0 2855)))]) 13) (Array.mk []))),
(952, (Obj.mk (Value.ref 608) (some 1638) Data.plain (Array.mk []))),
(1007, (Obj.mk ys9501651726347032510x9 none (Data.bytearray (Array.mk [(@Mine.u8 (md v 256)), (@Mine.u8 (md (pl v 100) 256)), (UInt8.ofNat 7)]) 0) (Array.mk [])))]
noncomputable def L1_2_3 (P : Params) (t0 : Nat) (xs : List Value) (n : Int) (u : Tok) (v : Int) : List (Nat × Obj) := [
(0, (Obj.mk yFrame none (Data.dict (Array.mk [(en P k_script (tk t0 1) (Value.ref 686)), (en P k_n (tk t0 3) (Value.int n u)), (en P k_v (tk t0 8) (Value.int v (tk t0 2479))), (en P k_w (tk t0 11) (Value.int (pl v 100) (tk t0 2482))), (en P k_text (tk t0 18) (Value.bytes (Array.mk [(@Mine.u8 (md v 256)), (@Mine.u8 (md (pl v 100) 256)), (UInt8.ofNat 7)]) (tk t0 2489))), (en P k_header (tk t0 98) (Value.ref 1400)), (en P k_other (tk t0 286) (Value.ref 1450)), (en P k_link (tk t0 446) (Value.ref 1500)), (en P k_rows (tk t0 548) (Value.ref 1555)), (en P k_message (tk t0 639) (Value.ref 1807))]) 10) (Array.mk []))),
(3, (Obj.mk yList none (Data.seq (Array.mk xs) 0) (Array.mk []))),
(4, (Obj.mk yIter none (Data.fields (Array.mk [(Value.ref 690), (Value.int (2 : Int) 0)])) (Array.mk []))),
(712, (Obj.mk yDict none (Data.dict (Array.mk [(en P k_pduUserData (tk t0 2525) (Value.ref 1441)), (en P k_pduSource (tk t0 2529) (Value.ref 1443)), (en P k_pduDestination (tk t0 2533) (Value.ref 1446)), (en P k_pduExpectingReply (tk t0 2538) (Value.int (pl v 1) (tk t0 2629))), (en P k_pduNetworkPriority (tk t0 2543) (Value.int (pl v 2) (tk t0 2633))), (en P k_apduType (tk t0 2545) (Value.int (pl v 3) (tk t0 2639))), (en P k_apduSeg (tk t0 2547) (Value.int (pl v 4) (tk t0 2643))), (en P k_apduMor (tk t0 2549) (Value.int (pl v 5) (tk t0 2647))), (en P k_apduSA (tk t0 2551) (Value.int (pl v 6) (tk t0 2651))), (en P k_apduSrv (tk t0 2553) (Value.int (pl v 7) (tk t0 2655))), (en P k_apduNak (tk t0 2555) (Value.int (pl v 8) (tk t0 2659))), (en P k_apduSeq (tk t0 2557) (Value.int (pl v 9) (tk t0 2663))), (en P k_apduWin (tk t0 2559) (Value.int (pl v 10) (tk t0 2667))), (en P k_apduMaxSegs (tk t0 2561) (Value.int (pl v 11) (tk t0 2671))), (en P k_apduMaxResp (tk t0 2563) (Value.int (pl v 12) (tk t0 2675))), (en P k_apduService (tk t0 2565) (Value.int (pl v 13) (tk t0 2679))), (en P k_apduInvokeID (tk t0 2567) (Value.int (pl v 14) (tk t0 2683))), (en P k_apduAbortRejectReason (tk t0 2569) (Value.int (pl v 15) (tk t0 2687)))]) 18) (Array.mk []))),
(713, (Obj.mk (Value.ref 417) (some 1399) Data.plain (Array.mk []))),
(754, (Obj.mk yList none (Data.seq (Array.mk [(Value.int v (tk t0 2479))]) 0) (Array.mk []))),
(755, (Obj.mk yDict none (Data.dict (Array.mk [(en P k_addrType (tk t0 2582) (Value.int (2 : Int) 1193)), (en P k_addrNet (tk t0 2584) Value.none), (en P k_addrRoute (tk t0 2586) Value.none), (en P k_addrAddr (tk t0 2592) (Value.bytes (Array.mk [(@Mine.u8 (md v 256))]) (tk t0 2590))), (en P k_addrLen (tk t0 2595) (Value.int (1 : Int) (tk t0 2593)))]) 5) (Array.mk []))),
(756, (Obj.mk (Value.ref 325) (some 1442) Data.plain (Array.mk []))),
(758, (Obj.mk yDict none (Data.dict (Array.mk [(en P k_addrType (tk t0 2612) (Value.int (4 : Int) 1197)), (en P k_addrNet (tk t0 2614) (Value.int (md v 65535) (tk t0 2599))), (en P k_addrRoute (tk t0 2616) Value.none), (en P k_addrAddr (tk t0 2622) (Value.bytes (Array.mk [(@Mine.u8 (md (pl v 1) 256))]) (tk t0 2620))), (en P k_addrLen (tk t0 2625) (Value.int (1 : Int) (tk t0 2623)))]) 5) (Array.mk []))),
(759, (Obj.mk (Value.ref 345) (some 1445) Data.plain (Array.mk []))),
(762, (Obj.mk yDict none (Data.dict (Array.mk [(en P k_pduUserData (tk t0 2724) (Value.ref 1491)), (en P k_pduSource (tk t0 2728) (Value.ref 1493)), (en P k_pduDestination (tk t0 2732) (Value.ref 1496)), (en P k_pduExpectingReply (tk t0 2737) (Value.int (pl (pl v 1) 1) (tk t0 2819))), (en P k_pduNetworkPriority (tk t0 2742) (Value.int (pl (pl v 1) 2) (tk t0 2823))), (en P k_npduVersion (tk t0 2745) (Value.int (pl (pl v 1) 3) (tk t0 2831))), (en P k_npduControl (tk t0 2747) (Value.int (pl (pl v 1) 4) (tk t0 2835))), (en P k_npduDADR (tk t0 2749) (Value.int (pl (pl v 1) 5) (tk t0 2839))), (en P k_npduSADR (tk t0 2751) (Value.int (pl (pl v 1) 6) (tk t0 2843))), (en P k_npduHopCount (tk t0 2753) (Value.int (pl (pl v 1) 7) (tk t0 2847))), (en P k_npduNetMessage (tk t0 2755) (Value.int (pl (pl v 1) 8) (tk t0 2851))), (en P k_npduVendorID (tk t0 2757) (Value.int (pl (pl v 1) 9) (tk t0 2855)))]) 12) (Array.mk []))),
(763, (Obj.mk (Value.ref 573) (some 1449) Data.plain (Array.mk []))),
(804, (Obj.mk yList none (Data.seq (Array.mk [(Value.int (pl v 1) (tk t0 2760))]) 0) (Array.mk []))),
(805, (Obj.mk yDict none (Data.dict (Array.mk [(en P k_addrType (tk t0 2772) (Value.int (2 : Int) 1193)), (en P k_addrNet (tk t0 2774) Value.none), (en P k_addrRoute (tk t0 2776) Value.none), (en P k_addrAddr (tk t0 2782) (Value.bytes (Array.mk [(@Mine.u8 (md (pl v 1) 256))]) (tk t0 2780))), (en P k_addrLen (tk t0 2785) (Value.int (1 : Int) (tk t0 2783)))]) 5) (Array.mk []))),
(806, (Obj.mk (Value.ref 325) (some 1492) Data.plain (Array.mk []))),
(808, (Obj.mk yDict none (Data.dict (Array.mk [(en P k_addrType (tk t0 2802) (Value.int (4 : Int) 1197)), (en P k_addrNet (tk t0 2804) (Value.int (md (pl v 1) 65535) (tk t0 2789))), (en P k_addrRoute (tk t0 2806) Value.none), (en P k_addrAddr (tk t0 2812) (Value.bytes (Array.mk [(@Mine.u8 (md (pl (pl v 1) 1) 256))]) (tk t0 2810))), (en P k_addrLen (tk t0 2815) (Value.int (1 : Int) (tk t0 2813)))]) 5) (Array.mk []))),
(809, (Obj.mk (Value.ref 345) (some 1495) Data.plain (Array.mk []))),
(812, (Obj.mk yDict none (Data.dict (Array.mk [(en P k_pduUserData (tk t0 2892) (Value.ref 1541)), (en P k_pduSource (tk t0 2896) (Value.ref 1543)), (en P k_pduDestination (tk t0 2900) (Value.ref 1546)), (en P k_pduExpectingReply (tk t0 2905) (Value.int (pl (pl v 2) 1) (tk t0 2979))), (en P k_pduNetworkPriority (tk t0 2910) (Value.int (pl (pl v 2) 2) (tk t0 2983))), (en P k_bvlciType (tk t0 2913) (Value.int (pl (pl v 2) 3) (tk t0 2991))), (en P k_bvlciFunction (tk t0 2915) (Value.int (pl (pl v 2) 4) (tk t0 2995))), (en P k_bvlciLength (tk t0 2917) (Value.int (pl (pl v 2) 5) (tk t0 2999)))]) 8) (Array.mk []))),
(813, (Obj.mk (Value.ref 495) (some 1499) Data.plain (Array.mk []))),
(854, (Obj.mk yList none (Data.seq (Array.mk [(Value.int (pl v 2) (tk t0 2920))]) 0) (Array.mk []))),
(855, (Obj.mk yDict none (Data.dict (Array.mk [(en P k_addrType (tk t0 2932) (Value.int (2 : Int) 1193)), (en P k_addrNet (tk t0 2934) Value.none), (en P k_addrRoute (tk t0 2936) Value.none), (en P k_addrAddr (tk t0 2942) (Value.bytes (Array.mk [(@Mine.u8 (md (pl v 2) 256))]) (tk t0 2940))), (en P k_addrLen (tk t0 2945) (Value.int (1 : Int) (tk t0 2943)))]) 5) (Array.mk []))),
(856, (Obj.mk (Value.ref 325) (some 1542) Data.plain (Array.mk []))),
(858, (Obj.mk yDict none (Data.dict (Array.mk [(en P k_addrType (tk t0 2962) (Value.int (4 : Int) 1197)), (en P k_addrNet (tk t0 2964) (Value.int (md (pl v 2) 65535) (tk t0 2949))), (en P k_addrRoute (tk t0 2966) Value.none), (en P k_addrAddr (tk t0 2972) (Value.bytes (Array.mk [(@Mine.u8 (md (pl (pl v 2) 1) 256))]) (tk t0 2970))), (en P k_addrLen (tk t0 2975) (Value.int (1 : Int) (tk t0 2973)))]) 5) (Array.mk []))),
(859, (Obj.mk (Value.ref 345) (some 1545) Data.plain (Array.mk []))),
(863, (Obj.mk yTuple none (Data.seq (Array.mk [(Value.ref 1441), (Value.ref 1443), (Value.ref 1446), (Value.int (pl v 1) (tk t0 2629)), (Value.int (pl v 2) (tk t0 2633))]) 0) (Array.mk []))),
(865, (Obj.mk yTuple none (Data.seq (Array.mk [(Value.ref 1491), (Value.ref 1493), (Value.ref 1496), (Value.int (pl (pl v 1) 1) (tk t0 2819)), (Value.int (pl (pl v 1) 2) (tk t0 2823))]) 0) (Array.mk []))),
(867, (Obj.mk yTuple none (Data.seq (Array.mk [(Value.ref 1541), (Value.ref 1543), (Value.ref 1546), (Value.int (pl (pl v 2) 1) (tk t0 2979)), (Value.int (pl (pl v 2) 2) (tk t0 2983))]) 0) (Array.mk []))),
(868, (Obj.mk yList none (Data.seq (Array.mk [(Value.ref 1550), (Value.ref 1552), (Value.ref 1554)]) 0) (Array.mk []))),
(1119, (Obj.mk yDict none (Data.dict (Array.mk [(en P k_pduData (tk t0 3957) (Value.ref 1862)), (en P k_pduUserData (tk t0 3961) (Value.ref 1491)), (en P k_pduSource (tk t0 3965) (Value.ref 1493)), (en P k_pduDestination (tk t0 3969) (Value.ref 1496)), (en P k_pduExpectingReply (tk t0 3974) (Value.int (pl (pl v 1) 1) (tk t0 2819))), (en P k_pduNetworkPriority (tk t0 3979) (Value.int (pl (pl v 1) 2) (tk t0 2823))), (en P k_apduType (tk t0 3981) (Value.int (pl (pl v 100) 3) (tk t0 4075))), (en P k_apduSeg (tk t0 3983) (Value.int (pl (pl v 100) 4) (tk t0 4079))), (en P k_apduMor (tk t0 3985) (Value.int (pl (pl v 100) 5) (tk t0 4083))), (en P k_apduSA (tk t0 3987) (Value.int (pl (pl v 100) 6) (tk t0 4087))), (en P k_apduSrv (tk t0 3989) (Value.int (pl (pl v 100) 7) (tk t0 4091))), (en P k_apduNak (tk t0 3991) (Value.int (pl (pl v 100) 8) (tk t0 4095))), (en P k_apduSeq (tk t0 3993) (Value.int (pl (pl v 100) 9) (tk t0 4099))), (en P k_apduWin (tk t0 3995) (Value.int (pl (pl v 100) 10) (tk t0 4103))), (en P k_apduMaxSegs (tk t0 3997) (Value.int (pl (pl v 100) 11) (tk t0 4107))), (en P k_apduMaxResp (tk t0 3999) (Value.int (pl (pl v 100) 12) (tk t0 4111))), (en P k_apduService (tk t0 4001) (Value.int (pl (pl v 100) 13) (tk t0 4115))), (en P k_apduInvokeID (tk t0 4003) (Value.int (pl (pl v 100) 14) (tk t0 4119))), (en P k_apduAbortRejectReason (tk t0 4005) (Value.int (pl (pl v 100) 15) (tk t0 4123)))]) 19) (Array.mk []))),
(1120, (Obj.mk (Value.ref 452) (some 1806) Data.plain (Array.mk []))),
(1175, (Obj.mk ys9501651726347032510x9 none (Data.bytearray (Array.mk [(@Mine.u8 (md v 256)), (@Mine.u8 (md (pl v 100) 256)), (UInt8.ofNat 7)]) 0) (Array.mk [])))]
noncomputable def L1_2_4 (P : Params) (t0 : Nat) (xs : List Value) (n : Int) (u : Tok) (v : Int) : List (Nat × Obj) := [
(0, (Obj.mk yFrame none (Data.dict (Array.mk [(en P k_script (tk t0 1) (Value.ref 686)), (en P k_n (tk t0 3) (Value.int n u)), (en P k_v (tk t0 8) (Value.int v (tk t0 2479))), (en P k_w (tk t0 11) (Value.int (pl v 100) (tk t0 2482))), (en P k_text (tk t0 18) (Value.bytes (Array.mk [(@Mine.u8 (md v 256)), (@Mine.u8 (md (pl v 100) 256)), (UInt8.ofNat 7)]) (tk t0 2489))), (en P k_header (tk t0 98) (Value.ref 1400)), (en P k_other (tk t0 286) (Value.ref 1450)), (en P k_link (tk t0 446) (Value.ref 1500)), (en P k_rows (tk t0 548) (Value.ref 1555)), (en P k_message (tk t0 639) (Value.ref 1971))]) 10) (Array.mk []))),
(3, (Obj.mk yList none (Data.seq (Array.mk xs) 0) (Array.mk []))),
(4, (Obj.mk yIter none (Data.fields (Array.mk [(Value.ref 690), (Value.int (2 : Int) 0)])) (Array.mk [])))]
noncomputable def L1_3_1 (P : Params) (t0 : Nat) (xs : List Value) (n : Int) (u : Tok) (v : Int) : List (Nat × Obj) := [
(0, (Obj.mk yFrame none (Data.dict (Array.mk [(en P k_script (tk t0 1) (Value.ref 686)), (en P k_n (tk t0 3) (Value.int n u)), (en P k_v (tk t0 8) (Value.int v (tk t0 4951))), (en P k_w (tk t0 11) (Value.int (pl v 100) (tk t0 4954))), (en P k_text (tk t0 18) (Value.bytes (Array.mk [(u8 (md v 256)), (u8 (md (pl v 100) 256)), (UInt8.ofNat 7)]) (tk t0 4961))), (en P k_header (tk t0 98) (Value.ref 2102)), (en P k_other (tk t0 286) (Value.ref 2152)), (en P k_link (tk t0 446) (Value.ref 2202)), (en P k_rows (tk t0 548) (Value.ref 2257)), (en P k_message (tk t0 639) (Value.ref 1971))]) 10) (Array.mk []))),
(3, (Obj.mk yList none (Data.seq (Array.mk xs) 0) (Array.mk []))),
(4, (Obj.mk yIter none (Data.fields (Array.mk [(Value.ref 690), (Value.int (3 : Int) 0)])) (Array.mk []))),
(1414, (Obj.mk yDict none (Data.dict (Array.mk [(en P k_pduUserData (tk t0 4997) (Value.ref 2143)), (en P k_pduSource (tk t0 5001) (Value.ref 2145)), (en P k_pduDestination (tk t0 5005) (Value.ref 2148)), (en P k_pduExpectingReply (tk t0 5010) (Value.int (pl v 1) (tk t0 5101))), (en P k_pduNetworkPriority (tk t0 5015) (Value.int (pl v 2) (tk t0 5105))), (en P k_apduType (tk t0 5017) (Value.int (pl v 3) (tk t0 5111))), (en P k_apduSeg (tk t0 5019) (Value.int (pl v 4) (tk t0 5115))), (en P k_apduMor (tk t0 5021) (Value.int (pl v 5) (tk t0 5119))), (en P k_apduSA (tk t0 5023) (Value.int (pl v 6) (tk t0 5123))), (en P k_apduSrv (tk t0 5025) (Value.int (pl v 7) (tk t0 5127))), (en P k_apduNak (tk t0 5027) (Value.int (pl v 8) (tk t0 5131))), (en P k_apduSeq (tk t0 5029) (Value.int (pl v 9) (tk t0 5135))), (en P k_apduWin (tk t0 5031) (Value.int (pl v 10) (tk t0 5139))), (en P k_apduMaxSegs (tk t0 5033) (Value.int (pl v 11) (tk t0 5143))), (en P k_apduMaxResp (tk t0 5035) (Value.int (pl v 12) (tk t0 5147))), (en P k_apduService (tk t0 5037) (Value.int (pl v 13) (tk t0 5151))), (en P k_apduInvokeID (tk t0 5039) (Value.int (pl v 14) (tk t0 5155))), (en P k_apduAbortRejectReason (tk t0 5041) (Value.int (pl v 15) (tk t0 5159)))]) 18) (Array.mk []))),
(1415, (Obj.mk (Value.ref 417) (some 2101) Data.plain (Array.mk []))),
(1456, (Obj.mk yList none (Data.seq (Array.mk [(Value.int v (tk t0 4951))]) 0) (Array.mk []))),
(1457, (Obj.mk yDict none (Data.dict (Array.mk [(en P k_addrType (tk t0 5054) (Value.int (2 : Int) 1193)), (en P k_addrNet (tk t0 5056) Value.none), (en P k_addrRoute (tk t0 5058) Value.none), (en P k_addrAddr (tk t0 5064) (Value.bytes (Array.mk [(u8 (md v 256))]) (tk t0 5062))), (en P k_addrLen (tk t0 5067) (Value.int (1 : Int) (tk t0 5065)))]) 5) (Array.mk []))),
(1458, (Obj.mk (Value.ref 325) (some 2144) Data.plain (Array.mk []))),
(1460, (Obj.mk yDict none (Data.dict (Array.mk [(en P k_addrType (tk t0 5084) (Value.int (4 : Int) 1197)), (en P k_addrNet (tk t0 5086) (Value.int (md v 65535) (tk t0 5071))), (en P k_addrRoute (tk t0 5088) Value.none), (en P k_addrAddr (tk t0 5094) (Value.bytes (Array.mk [(u8 (md (pl v 1) 256))]) (tk t0 5092))), (en P k_addrLen (tk t0 5097) (Value.int (1 : Int) (tk t0 5095)))]) 5) (Array.mk []))),
(1461, (Obj.mk (Value.ref 345) (some 2147) Data.plain (Array.mk []))),
(1464, (Obj.mk yDict none (Data.dict (Array.mk [(en P k_pduUserData (tk t0 5196) (Value.ref 2193)), (en P k_pduSource (tk t0 5200) (Value.ref 2195)), (en P k_pduDestination (tk t0 5204) (Value.ref 2198)), (en P k_pduExpectingReply (tk t0 5209) (Value.int (pl (pl v 1) 1) (tk t0 5291))), (en P k_pduNetworkPriority (tk t0 5214) (Value.int (pl (pl v 1) 2) (tk t0 5295))), (en P k_npduVersion (tk t0 5217) (Value.int (pl (pl v 1) 3) (tk t0 5303))), (en P k_npduControl (tk t0 5219) (Value.int (pl (pl v 1) 4) (tk t0 5307))), (en P k_npduDADR (tk t0 5221) (Value.int (pl (pl v 1) 5) (tk t0 5311))), (en P k_npduSADR (tk t0 5223) (Value.int (pl (pl v 1) 6) (tk t0 5315))), (en P k_npduHopCount (tk t0 5225) (Value.int (pl (pl v 1) 7) (tk t0 5319))), (en P k_npduNetMessage (tk t0 5227) (Value.int (pl (pl v 1) 8) (tk t0 5323))), (en P k_npduVendorID (tk t0 5229) (Value.int (pl (pl v 1) 9) (tk t0 5327)))]) 12) (Array.mk []))),
(1465, (Obj.mk (Value.ref 573) (some 2151) Data.plain (Array.mk []))),
(1506, (Obj.mk yList none (Data.seq (Array.mk [(Value.int (pl v 1) (tk t0 5232))]) 0) (Array.mk []))),
(1507, (Obj.mk yDict none (Data.dict (Array.mk [(en P k_addrType (tk t0 5244) (Value.int (2 : Int) 1193)), (en P k_addrNet (tk t0 5246) Value.none), (en P k_addrRoute (tk t0 5248) Value.none), (en P k_addrAddr (tk t0 5254) (Value.bytes (Array.mk [(u8 (md (pl v 1) 256))]) (tk t0 5252))), (en P k_addrLen (tk t0 5257) (Value.int (1 : Int) (tk t0 5255)))]) 5) (Array.mk []))),
(1508, (Obj.mk (Value.ref 325) (some 2194) Data.plain (Array.mk []))),
(1510, (Obj.mk yDict none (Data.dict (Array.mk [(en P k_addrType (tk t0 5274) (Value.int (4 : Int) 1197)), (en P k_addrNet (tk t0 5276) (Value.int (md (pl v 1) 65535) (tk t0 5261))), (en P k_addrRoute (tk t0 5278) Value.none), (en P k_addrAddr (tk t0 5284) (Value.bytes (Array.mk [(u8 (md (pl (pl v 1) 1) 256))]) (tk t0 5282))), (en P k_addrLen (tk t0 5287) (Value.int (1 : Int) (tk t0 5285)))]) 5) (Array.mk []))),
(1511, (Obj.mk (Value.ref 345) (some 2197) Data.plain (Array.mk []))),
(1514, (Obj.mk yDict none (Data.dict (Array.mk [(en P k_pduUserData (tk t0 5364) (Value.ref 2243)), (en P k_pduSource (tk t0 5368) (Value.ref 2245)), (en P k_pduDestination (tk t0 5372) (Value.ref 2248)), (en P k_pduExpectingReply (tk t0 5377) (Value.int (pl (pl v 2) 1) (tk t0 5451))), (en P k_pduNetworkPriority (tk t0 5382) (Value.int (pl (pl v 2) 2) (tk t0 5455))), (en P k_bvlciType (tk t0 5385) (Value.int (pl (pl v 2) 3) (tk t0 5463))), (en P k_bvlciFunction (tk t0 5387) (Value.int (pl (pl v 2) 4) (tk t0 5467))), (en P k_bvlciLength (tk t0 5389) (Value.int (pl (pl v 2) 5) (tk t0 5471)))]) 8) (Array.mk []))),
(1515, (Obj.mk (Value.ref 495) (some 2201) Data.plain (Array.mk []))),
(1556, (Obj.mk yList none (Data.seq (Array.mk [(Value.int (pl v 2) (tk t0 5392))]) 0) (Array.mk []))),
(1557, (Obj.mk yDict none (Data.dict (Array.mk [(en P k_addrType (tk t0 5404) (Value.int (2 : Int) 1193)), (en P k_addrNet (tk t0 5406) Value.none), (en P k_addrRoute (tk t0 5408) Value.none), (en P k_addrAddr (tk t0 5414) (Value.bytes (Array.mk [(u8 (md (pl v 2) 256))]) (tk t0 5412))), (en P k_addrLen (tk t0 5417) (Value.int (1 : Int) (tk t0 5415)))]) 5) (Array.mk []))),
(1558, (Obj.mk (Value.ref 325) (some 2244) Data.plain (Array.mk []))),
(1560, (Obj.mk yDict none (Data.dict (Array.mk [(en P k_addrType (tk t0 5434) (Value.int (4 : Int) 1197)), (en P k_addrNet (tk t0 5436) (Value.int (md (pl v 2) 65535) (tk t0 5421))), (en P k_addrRoute (tk t0 5438) Value.none), (en P k_addrAddr (tk t0 5444) (Value.bytes (Array.mk [(u8 (md (pl (pl v 2) 1) 256))]) (tk t0 5442))), (en P k_addrLen (tk t0 5447) (Value.int (1 : Int) (tk t0 5445)))]) 5) (Array.mk []))),
(1561, (Obj.mk (Value.ref 345) (some 2247) Data.plain (Array.mk []))),
(1565, (Obj.mk yTuple none (Data.seq (Array.mk [(Value.ref 2143), (Value.ref 2145), (Value.ref 2148), (Value.int (pl v 1) (tk t0 5101)), (Value.int (pl v 2) (tk t0 5105))]) 0) (Array.mk []))),
(1567, (Obj.mk yTuple none (Data.seq (Array.mk [(Value.ref 2193), (Value.ref 2195), (Value.ref 2198), (Value.int (pl (pl v 1) 1) (tk t0 5291)), (Value.int (pl (pl v 1) 2) (tk t0 5295))]) 0) (Array.mk []))),
(1569, (Obj.mk yTuple none (Data.seq (Array.mk [(Value.ref 2243), (Value.ref 2245), (Value.ref 2248), (Value.int (pl (pl v 2) 1) (tk t0 5451)), (Value.int (pl (pl v 2) 2) (tk t0 5455))]) 0) (Array.mk []))),
(1570, (Obj.mk yList none (Data.seq (Array.mk [(Value.ref 2252), (Value.ref 2254), (Value.ref 2256)]) 0) (Array.mk [])))]
noncomputable def L1_3_2 (P : Params) (t0 : Nat) (xs : List Value) (n : Int) (u : Tok) (v : Int) : List (Nat × Obj) := [
(0, (Obj.mk yFrame none (Data.dict (Array.mk [(en P k_script (tk t0 1) (Value.ref 686)), (en P k_n (tk t0 3) (Value.int n u)), (en P k_v (tk t0 8) (Value.int v (tk t0 4951))), (en P k_w (tk t0 11) (Value.int (pl v 100) (tk t0 4954))), (en P k_text (tk t0 18) (Value.bytes (Array.mk [(@Mine.u8 (md v 256)), (@Mine.u8 (md (pl v 100) 256)), (UInt8.ofNat 7)]) (tk t0 4961))), (en P k_header (tk t0 98) (Value.ref 2102)), (en P k_other (tk t0 286) (Value.ref 2152)), (en P k_link (tk t0 446) (Value.ref 2202)), (en P k_rows (tk t0 548) (Value.ref 2257)), (en P k_message (tk t0 639) (Value.ref 2341))]) 10) (Array.mk []))),
(3, (Obj.mk yList none (Data.seq (Array.mk xs) 0) (Array.mk []))),
(4, (Obj.mk yIter none (Data.fields (Array.mk [(Value.ref 690), (Value.int (3 : Int) 0)])) (Array.mk []))),
(1414, (Obj.mk yDict none (Data.dict (Array.mk [(en P k_pduUserData (tk t0 4997) (Value.ref 2143)), (en P k_pduSource (tk t0 5001) (Value.ref 2145)), (en P k_pduDestination (tk t0 5005) (Value.ref 2148)), (en P k_pduExpectingReply (tk t0 5010) (Value.int (pl v 1) (tk t0 5101))), (en P k_pduNetworkPriority (tk t0 5015) (Value.int (pl v 2) (tk t0 5105))), (en P k_apduType (tk t0 5017) (Value.int (pl v 3) (tk t0 5111))), (en P k_apduSeg (tk t0 5019) (Value.int (pl v 4) (tk t0 5115))), (en P k_apduMor (tk t0 5021) (Value.int (pl v 5) (tk t0 5119))), (en P k_apduSA (tk t0 5023) (Value.int (pl v 6) (tk t0 5123))), (en P k_apduSrv (tk t0 5025) (Value.int (pl v 7) (tk t0 5127))), (en P k_apduNak (tk t0 5027) (Value.int (pl v 8) (tk t0 5131))), (en P k_apduSeq (tk t0 5029) (Value.int (pl v 9) (tk t0 5135))), (en P k_apduWin (tk t0 5031) (Value.int (pl v 10) (tk t0 5139))), (en P k_apduMaxSegs (tk t0 5033) (Value.int (pl v 11) (tk t0 5143))), (en P k_apduMaxResp (tk t0 5035) (Value.int (pl v 12) (tk t0 5147))), (en P k_apduService (tk t0 5037) (Value.int (pl v 13) (tk t0 5151))), (en P k_apduInvokeID (tk t0 5039) (Value.int (pl v 14) (tk t0 5155))), (en P k_apduAbortRejectReason (tk t0 5041) (Value.int (pl v 15) (tk t0 5159)))]) 18) (Array.mk []))),
(1415, (Obj.mk (Value.ref 417) (some 2101) Data.plain (Array.mk []))),
(1456, (Obj.mk yList none (Data.seq (Array.mk [(Value.int v (tk t0 4951))]) 0) (Array.mk []))),
(1457, (Obj.mk yDict none (Data.dict (Array.mk [(en P k_addrType (tk t0 5054) (Value.int (2 : Int) 1193)), (en P k_addrNet (tk t0 5056) Value.none), (en P k_addrRoute (tk t0 5058) Value.none), (en P k_addrAddr (tk t0 5064) (Value.bytes (Array.mk [(@Mine.u8 (md v 256))]) (tk t0 5062))), (en P k_addrLen (tk t0 5067) (Value.int (1 : Int) (tk t0 5065)))]) 5) (Array.mk []))),
(1458, (Obj.mk (Value.ref 325) (some 2144) Data.plain (Array.mk []))),
(1460, (Obj.mk yDict none (Data.dict (Array.mk [(en P k_addrType (tk t0 5084) (Value.int (4 : Int) 1197)), (en P k_addrNet (tk t0 5086) (Value.int (md v 65535) (tk t0 5071))), (en P k_addrRoute (tk t0 5088) Value.none), (en P k_addrAddr (tk t0 5094) (Value.bytes (Array.mk [(@Mine.u8 (md (pl v 1) 256))]) (tk t0 5092))), (en P k_addrLen (tk t0 5097) (Value.int (1 : Int) (tk t0 5095)))]) 5) (Array.mk []))),
(1461, (Obj.mk (Value.ref 345) (some 2147) Data.plain (Array.mk []))),
(1464, (Obj.mk yDict none (Data.dict (Array.mk [(en P k_pduUserData (tk t0 5196) (Value.ref 2193)), (en P k_pduSource (tk t0 5200) (Value.ref 2195)), (en P k_pduDestination (tk t0 5204) (Value.ref 2198)), (en P k_pduExpectingReply (tk t0 5209) (Value.int (pl (pl v 1) 1) (tk t0 5291))), (en P k_pduNetworkPriority (tk t0 5214) (Value.int (pl (pl v 1) 2) (tk t0 5295))), (en P k_npduVersion (tk t0 5217) (Value.int (pl (pl v 1) 3) (tk t0 5303))), (en P k_npduControl (tk t0 5219) (Value.int (pl (pl v 1) 4) (tk t0 5307))), (en P k_npduDADR (tk t0 5221) (Value.int (pl (pl v 1) 5) (tk t0 5311))), (en P k_npduSADR (tk t0 5223) (Value.int (pl (pl v 1) 6) (tk t0 5315))), (en P k_npduHopCount (tk t0 5225) (Value.int (pl (pl v 1) 7) (tk t0 5319))), (en P k_npduNetMessage (tk t0 5227) (Value.int (pl (pl v 1) 8) (tk t0 5323))), (en P k_npduVendorID (tk t0 5229) (Value.int (pl (pl v 1) 9) (tk t0 5327)))]) 12) (Array.mk []))),
(1465, (Obj.mk (Value.ref 573) (some 2151) Data.plain (Array.mk []))),
(1506, (Obj.mk yList none (Data.seq (Array.mk [(Value.int (pl v 1) (tk t0 5232))]) 0) (Array.mk []))),
(1507, (Obj.mk yDict none (Data.dict (Array.mk [(en P k_addrType (tk t0 5244) (Value.int (2 : Int) 1193)), (en P k_addrNet (tk t0 5246) Value.none), (en P k_addrRoute (tk t0 5248) Value.none), (en P k_addrAddr (tk t0 5254) (Value.bytes (Array.mk [(@Mine.u8 (md (pl v 1) 256))]) (tk t0 5252))), (en P k_addrLen (tk t0 5257) (Value.int (1 : Int) (tk t0 5255)))]) 5) (Array.mk []))),
(1508, (Obj.mk (Value.ref 325) (some 2194) Data.plain (Array.mk []))),
(1510, (Obj.mk yDict none (Data.dict (Array.mk [(en P k_addrType (tk t0 5274) (Value.int (4 : Int) 1197)), (en P k_addrNet (tk t0 5276) (Value.int (md (pl v 1) 65535) (tk t0 5261))), (en P k_addrRoute (tk t0 5278) Value.none), (en P k_addrAddr (tk t0 5284) (Value.bytes (Array.mk [(@Mine.u8 (md (pl (pl v 1) 1) 256))]) (tk t0 5282))), (en P k_addrLen (tk t0 5287) (Value.int (1 : Int) (tk t0 5285)))]) 5) (Array.mk []))),
(1511, (Obj.mk (Value.ref 345) (some 2197) Data.plain (Array.mk []))),
(1514, (Obj.mk yDict none (Data.dict (Array.mk [(en P k_pduUserData (tk t0 5364) (Value.ref 2243)), (en P k_pduSource (tk t0 5368) (Value.ref 2245)), (en P k_pduDestination (tk t0 5372) (Value.ref 2248)), (en P k_pduExpectingReply (tk t0 5377) (Value.int (pl (pl v 2) 1) (tk t0 5451))), (en P k_pduNetworkPriority (tk t0 5382) (Value.int (pl (pl v 2) 2) (tk t0 5455))), (en P k_bvlciType (tk t0 5385) (Value.int (pl (pl v 2) 3) (tk t0 5463))), (en P k_bvlciFunction (tk t0 5387) (Value.int (pl (pl v 2) 4) (tk t0 5467))), (en P k_bvlciLength (tk t0 5389) (Value.int (pl (pl v 2) 5) (tk t0 5471)))]) 8) (Array.mk []))),
(1515, (Obj.mk (Value.ref 495) (some 2201) Data.plain (Array.mk []))),
(1556, (Obj.mk yList none (Data.seq (Array.mk [(Value.int (pl v 2) (tk t0 5392))]) 0) (Array.mk []))),
(1557, (Obj.mk yDict none (Data.dict (Array.mk [(en P k_addrType (tk t0 5404) (Value.int (2 : Int) 1193)), (en P k_addrNet (tk t0 5406) Value.none), (en P k_addrRoute (tk t0 5408) Value.none), (en P k_addrAddr (tk t0 5414) (Value.bytes (Array.mk [(@Mine.u8 (md (pl v 2) 256))]) (tk t0 5412))), (en P k_addrLen (tk t0 5417) (Value.int (1 : Int) (tk t0 5415)))]) 5) (Array.mk []))),
(1558, (Obj.mk (Value.ref 325) (some 2244) Data.plain (Array.mk []))),
(1560, (Obj.mk yDict none (Data.dict (Array.mk [(en P k_addrType (tk t0 5434) (Value.int (4 : Int) 1197)), (en P k_addrNet (tk t0 5436) (Value.int (md (pl v 2) 65535) (tk t0 5421))), (en P k_addrRoute (tk t0 5438) Value.none), (en P k_addrAddr (tk t0 5444) (Value.bytes (Array.mk [(@Mine.u8 (md (pl (pl v 2) 1) 256))]) (tk t0 5442))), (en P k_addrLen (tk t0 5447) (Value.int (1 : Int) (tk t0 5445)))]) 5) (Array.mk []))),
(1561, (Obj.mk (Value.ref 345) (some 2247) Data.plain (Array.mk []))),
(1565, (Obj.mk yTuple none (Data.seq (Array.mk [(Value.ref 2143), (Value.ref 2145), (Value.ref 2148), (Value.int (pl v 1) (tk t0 5101)), (Value.int (pl v 2) (tk t0 5105))]) 0) (Array.mk []))),
(1567, (Obj.mk yTuple none (Data.seq (Array.mk [(Value.ref 2193), (Value.ref 2195), (Value.ref 2198), (Value.int (pl (pl v 1) 1) (tk t0 5291)), (Value.int (pl (pl v 1) 2) (tk t0 5295))]) 0) (Array.mk []))),
(1569, (Obj.mk yTuple none (Data.seq (Array.mk [(Value.ref 2243), (Value.ref 2245), (Value.ref 2248), (Value.int (pl (pl v 2) 1) (tk t0 5451)), (Value.int (pl (pl v 2) 2) (tk t0 5455))]) 0) (Array.mk []))),
(1570, (Obj.mk yList none (Data.seq (Array.mk [(Value.ref 2252), (Value.ref 2254), (Value.ref 2256)]) 0) (Array.mk []))),
(1653, (Obj.mk yDict none (Data.dict (Array.mk [(en P k_pduData (tk t0 5883) (Value.ref 2396)), (en P k_pduUserData (tk t0 5887) (Value.ref 2193)), (en P k_pduSource (tk t0 5891) (Value.ref 2195)), (en P k_pduDestination (tk t0 5895) (Value.ref 2198)), (en P k_pduExpectingReply (tk t0 5900) (Value.int (pl (pl v 1) 1) (tk t0 5291))), (en P k_pduNetworkPriority (tk t0 5905) (Value.int (pl (pl v 1) 2) (tk t0 5295))), (en P k_npduVersion (tk t0 5908) (Value.int (pl (pl v 1) 3) (tk t0 5303))), (en P k_npduControl (tk t0 5910) (Value.int (pl (pl v 1) 4) (tk t0 5307))), (en P k_npduDADR (tk t0 5912) (Value.int (pl (pl v 1) 5) (tk t0 5311))), (en P k_npduSADR (tk t0 5914) (Value.int (pl (pl v 1) 6) (tk t0 5315))), (en P k_npduHopCount (tk t0 5916) (Value.int (pl (pl v 1) 7) (tk t0 5319))), (en P k_npduNetMessage (tk t0 5918) (Value.int (pl (pl v 1) 8) (tk t0 5323))), (en P k_npduVendorID (tk t0 5920) (Value.int (pl (pl v 1) 9) (tk t0 5327)))]) 13) (Array.mk []))),
(1654, (Obj.mk (Value.ref 608) (some 2340) Data.plain (Array.mk []))),
(1709, (Obj.mk ys9501651726347032510x9 none (Data.bytearray (Array.mk [(@Mine.u8 (md v 256)), (@Mine.u8 (md (pl v 100) 256)), (UInt8.ofNat 7)]) 0) (Array.mk [])))]
noncomputable def L1_3_3 (P : Params) (t0 : Nat) (xs : List Value) (n : Int) (u : Tok) (v : Int) : List (Nat × Obj) := [
(0, (Obj.mk yFrame none (Data.dict (Array.mk [(en P k_script (tk t0 1) (Value.ref 686)), (en P k_n (tk t0 3) (Value.int n u)), (en P k_v (tk t0 8) (Value.int v (tk t0 4951))), (en P k_w (tk t0 11) (Value.int (pl v 100) (tk t0 4954))), (en P k_text (tk t0 18) (Value.bytes (Array.mk [(@Mine.u8 (md v 256)), (@Mine.u8 (md (pl v 100) 256)), (UInt8.ofNat 7)]) (tk t0 4961))), (en P k_header (tk t0 98) (Value.ref 2102)), (en P k_other (tk t0 286) (Value.ref 2152)), (en P k_link (tk t0 446) (Value.ref 2202)), (en P k_rows (tk t0 548) (Value.ref 2257)), (en P k_message (tk t0 639) (Value.ref 2509))]) 10) (Array.mk []))),
(3, (Obj.mk yList none (Data.seq (Array.mk xs) 0) (Array.mk []))),
(4, (Obj.mk yIter none (Data.fields (Array.mk [(Value.ref 690), (Value.int (3 : Int) 0)])) (Array.mk []))),
(1414, (Obj.mk yDict none (Data.dict (Array.mk [(en P k_pduUserData (tk t0 4997) (Value.ref 2143)), (en P k_pduSource (tk t0 5001) (Value.ref 2145)), (en P k_pduDestination (tk t0 5005) (Value.ref 2148)), (en P k_pduExpectingReply (tk t0 5010) (Value.int (pl v 1) (tk t0 5101))), (en P k_pduNetworkPriority (tk t0 5015) (Value.int (pl v 2) (tk t0 5105))), (en P k_apduType (tk t0 5017) (Value.int (pl v 3) (tk t0 5111))), (en P k_apduSeg (tk t0 5019) (Value.int (pl v 4) (tk t0 5115))), (en P k_apduMor (tk t0 5021) (Value.int (pl v 5) (tk t0 5119))), (en P k_apduSA (tk t0 5023) (Value.int (pl v 6) (tk t0 5123))), (en P k_apduSrv (tk t0 5025) (Value.int (pl v 7) (tk t0 5127))), (en P k_apduNak (tk t0 5027) (Value.int (pl v 8) (tk t0 5131))), (en P k_apduSeq (tk t0 5029) (Value.int (pl v 9) (tk t0 5135))), (en P k_apduWin (tk t0 5031) (Value.int (pl v 10) (tk t0 5139))), (en P k_apduMaxSegs (tk t0 5033) (Value.int (pl v 11) (tk t0 5143))), (en P k_apduMaxResp (tk t0 5035) (Value.int (pl v 12) (tk t0 5147))), (en P k_apduService (tk t0 5037) (Value.int (pl v 13) (tk t0 5151))), (en P k_apduInvokeID (tk t0 5039) (Value.int (pl v 14) (tk t0 5155))), (en P k_apduAbortRejectReason (tk t0 5041) (Value.int (pl v 15) (tk t0 5159)))]) 18) (Array.mk []))),
(1415, (Obj.mk (Value.ref 417) (some 2101) Data.plain (Array.mk []))),
(1456, (Obj.mk yList none (Data.seq (Array.mk [(Value.int v (tk t0 4951))]) 0) (Array.mk []))),
(1457, (Obj.mk yDict none (Data.dict (Array.mk [(en P k_addrType (tk t0 5054) (Value.int (2 : Int) 1193)), (en P k_addrNet (tk t0 5056) Value.none), (en P k_addrRoute (tk t0 5058) Value.none), (en P k_addrAddr (tk t0 5064) (Value.bytes (Array.mk [(@Mine.u8 (md v 256))]) (tk t0 5062))), (en P k_addrLen (tk t0 5067) (Value.int (1 : Int) (tk t0 5065)))]) 5) (Array.mk []))),
(1458, (Obj.mk (Value.ref 325) (some 2144) Data.plain (Array.mk []))),
(1460, (Obj.mk yDict none (Data.dict (Array.mk [(en P k_addrType (tk t0 5084) (Value.int (4 : Int) 1197)), (en P k_addrNet (tk t0 5086) (Value.int (md v 65535) (tk t0 5071))), (en P k_addrRoute (tk t0 5088) Value.none), (en P k_addrAddr (tk t0 5094) (Value.bytes (Array.mk [(@Mine.u8 (md (pl v 1) 256))]) (tk t0 5092))), (en P k_addrLen (tk t0 5097) (Value.int (1 : Int) (tk t0 5095)))]) 5) (Array.mk []))),
(1461, (Obj.mk (Value.ref 345) (some 2147) Data.plain (Array.mk []))),
(1464, (Obj.mk yDict none (Data.dict (Array.mk [(en P k_pduUserData (tk t0 5196) (Value.ref 2193)), (en P k_pduSource (tk t0 5200) (Value.ref 2195)), (en P k_pduDestination (tk t0 5204) (Value.ref 2198)), (en P k_pduExpectingReply (tk t0 5209) (Value.int (pl (pl v 1) 1) (tk t0 5291))), (en P k_pduNetworkPriority (tk t0 5214) (Value.int (pl (pl v 1) 2) (tk t0 5295))), (en P k_npduVersion (tk t0 5217) (Value.int (pl (pl v 1) 3) (tk t0 5303))), (en P k_npduControl (tk t0 5219) (Value.int (pl (pl v 1) 4) (tk t0 5307))), (en P k_npduDADR (tk t0 5221) (Value.int (pl (pl v 1) 5) (tk t0 5311))), (en P k_npduSADR (tk t0 5223) (Value.int (pl (pl v 1) 6) (tk t0 5315))), (en P k_npduHopCount (tk t0 5225) (Value.int (pl (pl v 1) 7) (tk t0 5319))), (en P k_npduNetMessage (tk t0 5227) (Value.int (pl (pl v 1) 8) (tk t0 5323))), (en P k_npduVendorID (tk t0 5229) (Value.int (pl (pl v 1) 9) (tk t0 5327)))]) 12) (Array.mk []))),
(1465, (Obj.mk (Value.ref 573) (some 2151) Data.plain (Array.mk []))),
(1506, (Obj.mk yList none (Data.seq (Array.mk [(Value.int (pl v 1) (tk t0 5232))]) 0) (Array.mk []))),
(1507, (Obj.mk yDict none (Data.dict (Array.mk [(en P k_addrType (tk t0 5244) (Value.int (2 : Int) 1193)), (en P k_addrNet (tk t0 5246) Value.none), (en P k_addrRoute (tk t0 5248) Value.none), (en P k_addrAddr (tk t0 5254) (Value.bytes (Array.mk [(@Mine.u8 (md (pl v 1) 256))]) (tk t0 5252))), (en P k_addrLen (tk t0 5257) (Value.int (1 : Int) (tk t0 5255)))]) 5) (Array.mk []))),
(1508, (Obj.mk (Value.ref 325) (some 2194) Data.plain (Array.mk []))),
(1510, (Obj.mk yDict none (Data.dict (Array.mk [(en P k_addrType (tk t0 5274) (Value.int (4 : Int) 1197)), (en P k_addrNet (tk t0 5276) (Value.int (md (pl v 1) 65535) (tk t0 5261))), (en P k_addrRoute (tk t0 5278) Value.none), (en P k_addrAddr (tk t0 5284) (Value.bytes (Array.mk [(@Mine.u8 (md (pl (pl v 1) 1) 256))]) (tk t0 5282))), (en P k_addrLen (tk t0 5287) (Value.int (1 : Int) (tk t0 5285)))]) 5) (Array.mk []))),
(1511, (Obj.mk (Value.ref 345) (some 2197) Data.plain (Array.mk []))),
(1514, (Obj.mk yDict none (Data.dict (Array.mk [(en P k_pduUserData (tk t0 5364) (Value.ref 2243)), (en P k_pduSource (tk t0 5368) (Value.ref 2245)), (en P k_pduDestination (tk t0 5372) (Value.ref 2248)), (en P k_pduExpectingReply (tk t0 5377) (Value.int (pl (pl v 2) 1) (tk t0 5451))), (en P k_pduNetworkPriority (tk t0 5382) (Value.int (pl (pl v 2) 2) (tk t0 5455))), (en P k_bvlciType (tk t0 5385) (Value.int (pl (pl v 2) 3) (tk t0 5463))), (en P k_bvlciFunction (tk t0 5387) (Value.int (pl (pl v 2) 4) (tk t0 5467))), (en P k_bvlciLength (tk t0 5389) (Value.int (pl (pl v 2) 5) (tk t0 5471)))]) 8) (Array.mk []))),
(1515, (Obj.mk (Value.ref 495) (some 2201) Data.plain (Array.mk []))),
(1556, (Obj.mk yList none (Data.seq (Array.mk [(Value.int (pl v 2) (tk t0 5392))]) 0) (Array.mk []))),
(1557, (Obj.mk yDict none (Data.dict (Array.mk [(en P k_addrType (tk t0 5404) (Value.int (2 : Int) 1193)), (en P k_addrNet (tk t0 5406) Value.none), (en P k_addrRoute (tk t0 5408) Value.none), (en P k_addrAddr (tk t0 5414) (Value.bytes (Array.mk [(@Mine.u8 (md (pl v 2) 256))]) (tk t0 5412))), (en P k_addrLen (tk t0 5417) (Value.int (1 : Int) (tk t0 5415)))]) 5) (Array.mk []))),
(1558, (Obj.mk (Value.ref 325) (some 2244) Data.plain (Array.mk []))),
(1560, (Obj.mk yDict none (Data.dict (Array.mk [(en P k_addrType (tk t0 5434) (Value.int (4 : Int) 1197)), (en P k_addrNet (tk t0 5436) (Value.int (md (pl v 2) 65535) (tk t0 5421))), (en P k_addrRoute (tk t0 5438) Value.none), (en P k_addrAddr (tk t0 5444) (Value.bytes (Array.mk [(@Mine.u8 (md (pl (pl v 2) 1) 256))]) (tk t0 5442))), (en P k_addrLen (tk t0 5447) (Value.int (1 : Int) (tk t0 5445)))]) 5) (Array.mk []))),
(1561, (Obj.mk (Value.ref 345) (some 2247) Data.plain (Array.mk []))),
(1565, (Obj.mk yTuple none (Data.seq (Array.mk [(Value.ref 2143), (Value.ref 2145), (Value.ref 2148), (Value.int (pl v 1) (tk t0 5101)), (Value.int (pl v 2) (tk t0 5105))]) 0) (Array.mk []))),
(1567, (Obj.mk yTuple none (Data.seq (Array.mk [(Value.ref 2193), (Value.ref 2195), (Value.ref 2198), (Value.int (pl (pl v 1) 1) (tk t0 5291)), (Value.int (pl (pl v 1) 2) (tk t0 5295))]) 0) (Array.mk []))),
(1569, (Obj.mk yTuple none (Data.seq (Array.mk [(Value.ref 2243), (Value.ref 2245), (Value.ref 2248), (Value.int (pl (pl v 2) 1) (tk t0 5451)), (Value.int (pl (pl v 2) 2) (tk t0 5455))]) 0) (Array.mk []))),
(1570, (Obj.mk yList none (Data.seq (Array.mk [(Value.ref 2252), (Value.ref 2254), (Value.ref 2256)]) 0) (Array.mk []))),
(1821, (Obj.mk yDict none (Data.dict (Array.mk [(en P k_pduData (tk t0 6429) (Value.ref 2564)), (en P k_pduUserData (tk t0 6433) (Value.ref 2193)), (en P k_pduSource (tk t0 6437) (Value.ref 2195)), (en P k_pduDestination (tk t0 6441) (Value.ref 2198)), (en P k_pduExpectingReply (tk t0 6446) (Value.int (pl (pl v 1) 1) (tk t0 5291))), (en P k_pduNetworkPriority (tk t0 6451) (Value.int (pl (pl v 1) 2) (tk t0 5295))), (en P k_apduType (tk t0 6453) (Value.int (pl (pl v 100) 3) (tk t0 6547))), (en P k_apduSeg (tk t0 6455) (Value.int (pl (pl v 100) 4) (tk t0 6551))), (en P k_apduMor (tk t0 6457) (Value.int (pl (pl v 100) 5) (tk t0 6555))), (en P k_apduSA (tk t0 6459) (Value.int (pl (pl v 100) 6) (tk t0 6559))), (en P k_apduSrv (tk t0 6461) (Value.int (pl (pl v 100) 7) (tk t0 6563))), (en P k_apduNak (tk t0 6463) (Value.int (pl (pl v 100) 8) (tk t0 6567))), (en P k_apduSeq (tk t0 6465) (Value.int (pl (pl v 100) 9) (tk t0 6571))), (en P k_apduWin (tk t0 6467) (Value.int (pl (pl v 100) 10) (tk t0 6575))), (en P k_apduMaxSegs (tk t0 6469) (Value.int (pl (pl v 100) 11) (tk t0 6579))), (en P k_apduMaxResp (tk t0 6471) (Value.int (pl (pl v 100) 12) (tk t0 6583))), (en P k_apduService (tk t0 6473) (Value.int (pl (pl v 100) 13) (tk t0 6587))), (en P k_apduInvokeID (tk t0 6475) (Value.int (pl (pl v 100) 14) (tk t0 6591))), (en P k_apduAbortRejectReason (tk t0 6477) (Value.int (pl (pl v 100) 15) (tk t0 6595)))]) 19) (Array.mk []))),
(1822, (Obj.mk (Value.ref 452) (some 2508) Data.plain (Array.mk []))),
(1877, (Obj.mk ys9501651726347032510x9 none (Data.bytearray (Array.mk [(@Mine.u8 (md v 256)), (@Mine.u8 (md (pl v 100) 256)), (UInt8.ofNat 7)]) 0) (Array.mk [])))]
noncomputable def L1_3_4 (P : Params) (t0 : Nat) (xs : List Value) (n : Int) (u : Tok) (v : Int) : List (Nat × Obj) := [
(0, (Obj.mk yFrame none (Data.dict (Array.mk [(en P k_script (tk t0 1) (Value.ref 686)), (en P k_n (tk t0 3) (Value.int n u)), (en P k_v (tk t0 8) (Value.int v (tk t0 4951))), (en P k_w (tk t0 11) (Value.int (pl v 100) (tk t0 4954))), (en P k_text (tk t0 18) (Value.bytes (Array.mk [(@Mine.u8 (md v 256)), (@Mine.u8 (md (pl v 100) 256)), (UInt8.ofNat 7)]) (tk t0 4961))), (en P k_header (tk t0 98) (Value.ref 2102)), (en P k_other (tk t0 286) (Value.ref 2152)), (en P k_link (tk t0 446) (Value.ref 2202)), (en P k_rows (tk t0 548) (Value.ref 2257)), (en P k_message (tk t0 639) (Value.ref 2673))]) 10) (Array.mk []))),
(3, (Obj.mk yList none (Data.seq (Array.mk xs) 0) (Array.mk []))),
(4, (Obj.mk yIter none (Data.fields (Array.mk [(Value.ref 690), (Value.int (3 : Int) 0)])) (Array.mk [])))]
theorem hl_of {l : List (Nat × Obj)} (h : l.all (fun x => Nat.blt x.1 4096) = true) : ∀ x ∈ l, x.1 < 4096 := fun x hx => X.blt_true (List.all_eq_true.mp h x hx)
theorem all_cons {α : Type} {Q : α → Prop} {a : α} {l : List α} (h : Q a) (t : ∀ x ∈ l, Q x) : ∀ x ∈ a :: l, Q x := List.forall_mem_cons.mpr ⟨h, t⟩
theorem all_nil {α : Type} {Q : α → Prop} : ∀ x ∈ ([] : List α), Q x := nofun
theorem md_pos (x : Int) (k : Nat) (h : 0 < k) : 0 ≤ md x k ∧ md x k < k := by
  unfold md
  show 0 ≤ Int.fmod x (k : Int) ∧ Int.fmod x (k : Int) < k
  rw [Int.fmod_eq_emod_of_nonneg _ (Int.natCast_nonneg k)]
  exact ⟨Int.emod_nonneg _ (by omega), Int.emod_lt_of_pos _ (by omega)⟩
theorem md_256 (x : Int) : 0 ≤ md x 256 ∧ md x 256 < 256 := md_pos x 256 (by decide)
theorem md_65535 (x : Int) : 0 ≤ md x 65535 ∧ md x 65535 < 65535 := md_pos x 65535 (by decide)
theorem vlt_256 (x : Int) : (vlt (md x 256) 0).1 = .bool (vlt (md x 256) 0).2 := congrArg Value.bool (decide_eq_false (Int.not_lt.mpr (md_256 x).1))
theorem vlt_65535 (x : Int) : (vlt (md x 65535) 0).1 = .bool (vlt (md x 65535) 0).2 := congrArg Value.bool (decide_eq_false (Int.not_lt.mpr (md_65535 x).1))
theorem vge_256 (x : Int) : (vge (md x 256) 256).1 = .bool (vge (md x 256) 256).2 := congrArg Value.bool (decide_eq_false (Int.not_le.mpr (md_256 x).2))
theorem vge_65535 (x : Int) : (vge (md x 65535) 65535).1 = .bool (vge (md x 65535) 65535).2 := congrArg Value.bool (decide_eq_false (Int.not_le.mpr (md_65535 x).2))
theorem veq_ok (x : Int) : (veq x x).1 = .bool (veq x x).2 := congrArg Value.bool (beq_self_eq_true x)
theorem u8_irr (a : UInt8) : ¬ a < a := by simp
theorem order_self : ∀ l : List UInt8, PySem.Builtin.Bytes.order l l = .eq
  | [] => rfl
  | a :: l => by
    unfold PySem.Builtin.Bytes.order
    rw [if_neg (u8_irr a), if_neg (u8_irr a), order_self l]
theorem vbn_ok (a b : UInt8) : (vbn a b).1 = .bool (vbn a b).2 := congrArg Value.bool (by rw [order_self]; rfl)
theorem lst_ok (xs : List Int) : false = !decide (xs = xs) := by simp
theorem seven_ok : (0 : Int) ≤ 7 ∧ (7 : Int) < 256 := by omega
theorem body_end {M : Model} {Γ : PySem.Ctx} {Q : Flow → Pos → Shared → Prop} {E : Value → Pos → Shared → Prop} {p : Pos} {s : Shared} (h : Q .next p s) : Sem.wp M Γ (execs (loopBody.drop (33 + 12)) lawEnv) Q E p s := by
  have e : loopBody.drop (33 + 12) = [] := by kernel_rfl
  rw [e]
  exact h
end Mine

end
section
open PySem PySem.W PySem.W.X
set_option maxRecDepth 100000
set_option maxHeartbeats 0
set_option Elab.async false
namespace Mine
theorem ck0_1_0 (P : Params) (t0 : Nat) (p pc : Pos) (vs rest : List Value) (y : Value) (n0 n : Int) (u0 u : Tok) (v0 : Int) : smL ((L0_1_1 P t0 (.int n u :: rest) n u (pl (md n 1000) 1)).map (·.1)) (go (cfg P vs t0) (loopC 690) (lawBelow pc) (firstT 690 0 13) p (mkT (L0_1_0 P t0 (.int n u :: rest) n u v0)) 4 5 (oraR n (pl (md n 1000) 1) 0 13)) = ⟨true, some (.ok .next), 166, 551, [], (L0_1_1 P t0 (.int n u :: rest) n u (pl (md n 1000) 1)).map (fun x => some x.2), [(vge (md (pl (pl (pl (md n 1000) 1) 2) 1) 256) 256),
(vlt (md (pl (pl (pl (md n 1000) 1) 2) 1) 256) 0),
(vge (md (pl (pl (md n 1000) 1) 2) 65535) 65535),
(vlt (md (pl (pl (md n 1000) 1) 2) 65535) 0),
(vge (md (pl (pl (md n 1000) 1) 2) 256) 256),
(vlt (md (pl (pl (md n 1000) 1) 2) 256) 0),
(vge (md (pl (pl (pl (md n 1000) 1) 1) 1) 256) 256),
(vlt (md (pl (pl (pl (md n 1000) 1) 1) 1) 256) 0),
(vge (md (pl (pl (md n 1000) 1) 1) 65535) 65535),
(vlt (md (pl (pl (md n 1000) 1) 1) 65535) 0),
(vge (md (pl (pl (md n 1000) 1) 1) 256) 256),
(vlt (md (pl (pl (md n 1000) 1) 1) 256) 0),
(vge (md (pl (pl (md n 1000) 1) 1) 256) 256),
(vlt (md (pl (pl (md n 1000) 1) 1) 256) 0),
(vge (md (pl (md n 1000) 1) 65535) 65535),
(vlt (md (pl (md n 1000) 1) 65535) 0),
(vge (md (pl (md n 1000) 1) 256) 256),
(vlt (md (pl (md n 1000) 1) 256) 0)], outY (go (cfg P vs t0) (loopC 690) (lawBelow pc) (firstT 690 0 13) p (mkT (L0_1_0 P t0 (.int n u :: rest) n u v0)) 4 5 (oraR n (pl (md n 1000) 1) 0 13)), [[(md (pl (pl (pl (md n 1000) 1) 2) 1) 256)],
[(md (pl (pl (md n 1000) 1) 2) 256)],
[(md (pl (pl (pl (md n 1000) 1) 1) 1) 256)],
[(md (pl (pl (md n 1000) 1) 1) 256)],
[(md (pl (pl (md n 1000) 1) 1) 256)],
[(md (pl (md n 1000) 1) 256)],
[(md (pl (md n 1000) 1) 256), (md (pl (pl (md n 1000) 1) 100) 256), (7 : Int)]], [], outF (go (cfg P vs t0) (loopC 690) (lawBelow pc) (firstT 690 0 13) p (mkT (L0_1_0 P t0 (.int n u :: rest) n u v0)) 4 5 (oraR n (pl (md n 1000) 1) 0 13))⟩ := by kernel_rfl
theorem ck0_1_1 (P : Params) (t0 : Nat) (p pc : Pos) (vs rest : List Value) (y : Value) (n0 n : Int) (u0 u : Tok) (v : Int) : smL ((L0_1_2 P t0 (.int n u :: rest) n u v).map (·.1)) (go (cfg P vs t0) (loopC 690) (lawBelow pc) (bodyT 13 10) p (mkT (L0_1_1 P t0 (.int n u :: rest) n u v)) 166 551 (oraR n v 13 10)) = ⟨true, some (.ok .next), 332, 1193, [], (L0_1_2 P t0 (.int n u :: rest) n u v).map (fun x => some x.2), [(vbn (u8 (md v 256)) (u8 (md (pl v 100) 256))),
(veq (pl (pl v 1) 2) (pl (pl v 1) 2)),
(veq (pl (pl v 1) 1) (pl (pl v 1) 1)),
(vge (md (pl (pl v 100) 1) 256) 256),
(vlt (md (pl (pl v 100) 1) 256) 0),
(vge (md (pl v 100) 65535) 65535),
(vlt (md (pl v 100) 65535) 0),
(vge (md (pl v 100) 256) 256),
(vlt (md (pl v 100) 256) 0),
(vbn (u8 (md v 256)) (u8 (md (pl v 100) 256))),
(veq (pl v 2) (pl v 2)),
(veq (pl v 1) (pl v 1)),
(vge (md (pl (pl v 100) 1) 256) 256),
(vlt (md (pl (pl v 100) 1) 256) 0),
(vge (md (pl v 100) 65535) 65535),
(vlt (md (pl v 100) 65535) 0),
(vge (md (pl v 100) 256) 256),
(vlt (md (pl v 100) 256) 0)], outY (go (cfg P vs t0) (loopC 690) (lawBelow pc) (bodyT 13 10) p (mkT (L0_1_1 P t0 (.int n u :: rest) n u v)) 166 551 (oraR n v 13 10)), [[(md (pl (pl v 100) 1) 256)],
[(md (pl v 100) 256)],
[(md (pl (pl v 100) 1) 256)],
[(md (pl v 100) 256)]], [([(pl (pl v 1) 3), (pl (pl v 1) 4), (pl (pl v 1) 5), (pl (pl v 1) 6), (pl (pl v 1) 7), (pl (pl v 1) 8), (pl (pl v 1) 9)], [(pl (pl v 1) 3), (pl (pl v 1) 4), (pl (pl v 1) 5), (pl (pl v 1) 6), (pl (pl v 1) 7), (pl (pl v 1) 8), (pl (pl v 1) 9)], Bool.false),
([(pl v 3), (pl v 4), (pl v 5), (pl v 6), (pl v 7), (pl v 8), (pl v 9), (pl v 10), (pl v 11), (pl v 12), (pl v 13), (pl v 14), (pl v 15)], [(pl v 3), (pl v 4), (pl v 5), (pl v 6), (pl v 7), (pl v 8), (pl v 9), (pl v 10), (pl v 11), (pl v 12), (pl v 13), (pl v 14), (pl v 15)], Bool.false)], outF (go (cfg P vs t0) (loopC 690) (lawBelow pc) (bodyT 13 10) p (mkT (L0_1_1 P t0 (.int n u :: rest) n u v)) 166 551 (oraR n v 13 10))⟩ := by kernel_rfl
theorem ck0_1_2 (P : Params) (t0 : Nat) (p pc : Pos) (vs rest : List Value) (y : Value) (n0 n : Int) (u0 u : Tok) (v : Int) : smL ((L0_1_3 P t0 (.int n u :: rest) n u v).map (·.1)) (go (cfg P vs t0) (loopC 690) (lawBelow pc) (bodyT 23 10) p (mkT (L0_1_2 P t0 (.int n u :: rest) n u v)) 332 1193 (oraR n v 23 10)) = ⟨true, some (.ok .next), 497, 1754, [], (L0_1_3 P t0 (.int n u :: rest) n u v).map (fun x => some x.2), [(vbn (u8 (md v 256)) (u8 (md (pl v 100) 256))),
(veq (pl (pl v 1) 2) (pl (pl v 1) 2)),
(veq (pl (pl v 1) 1) (pl (pl v 1) 1)),
(vge (md (pl (pl v 100) 1) 256) 256),
(vlt (md (pl (pl v 100) 1) 256) 0),
(vge (md (pl v 100) 65535) 65535),
(vlt (md (pl v 100) 65535) 0),
(vge (md (pl v 100) 256) 256),
(vlt (md (pl v 100) 256) 0),
(vbn (u8 (md v 256)) (u8 (md (pl v 100) 256))),
(veq (pl (pl v 2) 2) (pl (pl v 2) 2)),
(veq (pl (pl v 2) 1) (pl (pl v 2) 1)),
(vge (md (pl (pl v 100) 1) 256) 256),
(vlt (md (pl (pl v 100) 1) 256) 0),
(vge (md (pl v 100) 65535) 65535),
(vlt (md (pl v 100) 65535) 0),
(vge (md (pl v 100) 256) 256),
(vlt (md (pl v 100) 256) 0)], outY (go (cfg P vs t0) (loopC 690) (lawBelow pc) (bodyT 23 10) p (mkT (L0_1_2 P t0 (.int n u :: rest) n u v)) 332 1193 (oraR n v 23 10)), [[(md (pl (pl v 100) 1) 256)],
[(md (pl v 100) 256)],
[(md (pl (pl v 100) 1) 256)],
[(md (pl v 100) 256)]], [([(pl (pl v 100) 3), (pl (pl v 100) 4), (pl (pl v 100) 5), (pl (pl v 100) 6), (pl (pl v 100) 7), (pl (pl v 100) 8), (pl (pl v 100) 9), (pl (pl v 100) 10), (pl (pl v 100) 11), (pl (pl v 100) 12), (pl (pl v 100) 13), (pl (pl v 100) 14), (pl (pl v 100) 15)], [(pl (pl v 100) 3), (pl (pl v 100) 4), (pl (pl v 100) 5), (pl (pl v 100) 6), (pl (pl v 100) 7), (pl (pl v 100) 8), (pl (pl v 100) 9), (pl (pl v 100) 10), (pl (pl v 100) 11), (pl (pl v 100) 12), (pl (pl v 100) 13), (pl (pl v 100) 14), (pl (pl v 100) 15)], Bool.false),
([(pl (pl v 2) 3), (pl (pl v 2) 4), (pl (pl v 2) 5)], [(pl (pl v 2) 3), (pl (pl v 2) 4), (pl (pl v 2) 5)], Bool.false)], outF (go (cfg P vs t0) (loopC 690) (lawBelow pc) (bodyT 23 10) p (mkT (L0_1_2 P t0 (.int n u :: rest) n u v)) 332 1193 (oraR n v 23 10))⟩ := by kernel_rfl
theorem ck0_1_3 (P : Params) (t0 : Nat) (p pc : Pos) (vs rest : List Value) (y : Value) (n0 n : Int) (u0 u : Tok) (v : Int) : smL ((L0_1_4 P t0 (.int n u :: rest) n u v).map (·.1)) (go (cfg P vs t0) (loopC 690) (lawBelow pc) (bodyT 33 12) p (mkT (L0_1_3 P t0 (.int n u :: rest) n u v)) 497 1754 (oraR n v 33 12)) = ⟨true, some (.ok .next), 706, 2477, [], (L0_1_4 P t0 (.int n u :: rest) n u v).map (fun x => some x.2), [(veq (pl (pl v 2) 2) (pl (pl v 2) 2)),
(veq (pl (pl v 2) 1) (pl (pl v 2) 1)),
(veq (pl (pl v 1) 2) (pl (pl v 1) 2)),
(veq (pl (pl v 1) 1) (pl (pl v 1) 1)),
(veq (pl v 2) (pl v 2)),
(veq (pl v 1) (pl v 1)),
(vbn (u8 (md v 256)) (u8 (md (pl v 100) 256))),
(veq (pl v 2) (pl v 2)),
(veq (pl v 1) (pl v 1)),
(vge (md (pl (pl v 100) 1) 256) 256),
(vlt (md (pl (pl v 100) 1) 256) 0),
(vge (md (pl v 100) 65535) 65535),
(vlt (md (pl v 100) 65535) 0),
(vge (md (pl v 100) 256) 256),
(vlt (md (pl v 100) 256) 0),
(vbn (u8 (md v 256)) (u8 (md (pl v 100) 256))),
(veq (pl (pl v 2) 2) (pl (pl v 2) 2)),
(veq (pl (pl v 2) 1) (pl (pl v 2) 1)),
(vge (md (pl (pl v 100) 1) 256) 256),
(vlt (md (pl (pl v 100) 1) 256) 0),
(vge (md (pl v 100) 65535) 65535),
(vlt (md (pl v 100) 65535) 0),
(vge (md (pl v 100) 256) 256),
(vlt (md (pl v 100) 256) 0)], outY (go (cfg P vs t0) (loopC 690) (lawBelow pc) (bodyT 33 12) p (mkT (L0_1_3 P t0 (.int n u :: rest) n u v)) 497 1754 (oraR n v 33 12)), [[(md (pl (pl v 100) 1) 256)],
[(md (pl v 100) 256)],
[(md (pl (pl v 100) 1) 256)],
[(md (pl v 100) 256)]], [([(pl (pl v 2) 3), (pl (pl v 2) 4), (pl (pl v 2) 5)], [(pl (pl v 2) 3), (pl (pl v 2) 4), (pl (pl v 2) 5)], Bool.false),
([(pl (pl v 1) 3), (pl (pl v 1) 4), (pl (pl v 1) 5), (pl (pl v 1) 6), (pl (pl v 1) 7), (pl (pl v 1) 8), (pl (pl v 1) 9)], [(pl (pl v 1) 3), (pl (pl v 1) 4), (pl (pl v 1) 5), (pl (pl v 1) 6), (pl (pl v 1) 7), (pl (pl v 1) 8), (pl (pl v 1) 9)], Bool.false),
([(pl v 3), (pl v 4), (pl v 5), (pl v 6), (pl v 7), (pl v 8), (pl v 9), (pl v 10), (pl v 11), (pl v 12), (pl v 13), (pl v 14), (pl v 15)], [(pl v 3), (pl v 4), (pl v 5), (pl v 6), (pl v 7), (pl v 8), (pl v 9), (pl v 10), (pl v 11), (pl v 12), (pl v 13), (pl v 14), (pl v 15)], Bool.false),
([(pl (pl v 100) 3), (pl (pl v 100) 4), (pl (pl v 100) 5)], [(pl (pl v 100) 3), (pl (pl v 100) 4), (pl (pl v 100) 5)], Bool.false),
([(pl (pl v 100) 3), (pl (pl v 100) 4), (pl (pl v 100) 5), (pl (pl v 100) 6), (pl (pl v 100) 7), (pl (pl v 100) 8), (pl (pl v 100) 9)], [(pl (pl v 100) 3), (pl (pl v 100) 4), (pl (pl v 100) 5), (pl (pl v 100) 6), (pl (pl v 100) 7), (pl (pl v 100) 8), (pl (pl v 100) 9)], Bool.false)], outF (go (cfg P vs t0) (loopC 690) (lawBelow pc) (bodyT 33 12) p (mkT (L0_1_3 P t0 (.int n u :: rest) n u v)) 497 1754 (oraR n v 33 12))⟩ := by kernel_rfl
theorem rd0_1 {P : Params} {t0 : Nat} {vs : List Value} {w : World} {s₀ : Shared} (B : Base (cfg P vs t0) w s₀) {pc : Pos} {rest : List Value} {y : Value} {n0 n : Int} {u0 u : Tok} {v0 : Int} {s : Shared} {Γ : PySem.Ctx} {p : Pos} {R : Result → Shared → Prop}
    (D : Rel (cfg P vs t0) s₀ (mkT (L0_1_0 P t0 (.int n u :: rest) n u v0)) 4 5 s) (h1 : Γ.code = loopC 690) (h2 : Γ.handled = none) (h3 : Γ.below = lawBelow pc)
    (hn : ∀ p s', Rel (cfg P vs t0) s₀ (mkT (L0_1_4 P t0 (.int n u :: rest) n u (pl (md n 1000) 1))) 706 2477 s' → wpCode (model (cfg P vs t0).prog w) Γ R p s') : wpCode (model (cfg P vs t0).prog w) Γ R p s := by
  refine turn_step h1 (go_says B (ck0_1_0 P t0 _ pc vs rest y n0 n u0 u v0) (hl_of (by kernel_rfl)) (all_cons (vge_256 _) (all_cons (vlt_256 _) (all_cons (vge_65535 _) (all_cons (vlt_65535 _) (all_cons (vge_256 _) (all_cons (vlt_256 _) (all_cons (vge_256 _) (all_cons (vlt_256 _) (all_cons (vge_65535 _) (all_cons (vlt_65535 _) (all_cons (vge_256 _) (all_cons (vlt_256 _) (all_cons (vge_256 _) (all_cons (vlt_256 _) (all_cons (vge_65535 _) (all_cons (vlt_65535 _) (all_cons (vge_256 _) (all_cons (vlt_256 _) all_nil)))))))))))))))))) (all_cons (all_cons (md_256 _) all_nil) (all_cons (all_cons (md_256 _) all_nil) (all_cons (all_cons (md_256 _) all_nil) (all_cons (all_cons (md_256 _) all_nil) (all_cons (all_cons (md_256 _) all_nil) (all_cons (all_cons (md_256 _) all_nil) (all_cons (all_cons (md_256 _) (all_cons (md_256 _) (all_cons seven_ok all_nil))) all_nil))))))) all_nil D h1 h2 h3) fun p s D => ?_
  refine rest_step (a := 13) (k := 10) (go_says B (ck0_1_1 P t0 _ pc vs rest y n0 n u0 u (pl (md n 1000) 1)) (hl_of (by kernel_rfl)) (all_cons (vbn_ok _ _) (all_cons (veq_ok _) (all_cons (veq_ok _) (all_cons (vge_256 _) (all_cons (vlt_256 _) (all_cons (vge_65535 _) (all_cons (vlt_65535 _) (all_cons (vge_256 _) (all_cons (vlt_256 _) (all_cons (vbn_ok _ _) (all_cons (veq_ok _) (all_cons (veq_ok _) (all_cons (vge_256 _) (all_cons (vlt_256 _) (all_cons (vge_65535 _) (all_cons (vlt_65535 _) (all_cons (vge_256 _) (all_cons (vlt_256 _) all_nil)))))))))))))))))) (all_cons (all_cons (md_256 _) all_nil) (all_cons (all_cons (md_256 _) all_nil) (all_cons (all_cons (md_256 _) all_nil) (all_cons (all_cons (md_256 _) all_nil) all_nil)))) (all_cons (lst_ok _) (all_cons (lst_ok _) all_nil)) D h1 h2 h3) fun p s D => ?_
  refine rest_step (a := 23) (k := 10) (go_says B (ck0_1_2 P t0 _ pc vs rest y n0 n u0 u (pl (md n 1000) 1)) (hl_of (by kernel_rfl)) (all_cons (vbn_ok _ _) (all_cons (veq_ok _) (all_cons (veq_ok _) (all_cons (vge_256 _) (all_cons (vlt_256 _) (all_cons (vge_65535 _) (all_cons (vlt_65535 _) (all_cons (vge_256 _) (all_cons (vlt_256 _) (all_cons (vbn_ok _ _) (all_cons (veq_ok _) (all_cons (veq_ok _) (all_cons (vge_256 _) (all_cons (vlt_256 _) (all_cons (vge_65535 _) (all_cons (vlt_65535 _) (all_cons (vge_256 _) (all_cons (vlt_256 _) all_nil)))))))))))))))))) (all_cons (all_cons (md_256 _) all_nil) (all_cons (all_cons (md_256 _) all_nil) (all_cons (all_cons (md_256 _) all_nil) (all_cons (all_cons (md_256 _) all_nil) all_nil)))) (all_cons (lst_ok _) (all_cons (lst_ok _) all_nil)) D h1 h2 h3) fun p s D => ?_
  refine rest_step (a := 33) (k := 12) (go_says B (ck0_1_3 P t0 _ pc vs rest y n0 n u0 u (pl (md n 1000) 1)) (hl_of (by kernel_rfl)) (all_cons (veq_ok _) (all_cons (veq_ok _) (all_cons (veq_ok _) (all_cons (veq_ok _) (all_cons (veq_ok _) (all_cons (veq_ok _) (all_cons (vbn_ok _ _) (all_cons (veq_ok _) (all_cons (veq_ok _) (all_cons (vge_256 _) (all_cons (vlt_256 _) (all_cons (vge_65535 _) (all_cons (vlt_65535 _) (all_cons (vge_256 _) (all_cons (vlt_256 _) (all_cons (vbn_ok _ _) (all_cons (veq_ok _) (all_cons (veq_ok _) (all_cons (vge_256 _) (all_cons (vlt_256 _) (all_cons (vge_65535 _) (all_cons (vlt_65535 _) (all_cons (vge_256 _) (all_cons (vlt_256 _) all_nil)))))))))))))))))))))))) (all_cons (all_cons (md_256 _) all_nil) (all_cons (all_cons (md_256 _) all_nil) (all_cons (all_cons (md_256 _) all_nil) (all_cons (all_cons (md_256 _) all_nil) all_nil)))) (all_cons (lst_ok _) (all_cons (lst_ok _) (all_cons (lst_ok _) (all_cons (lst_ok _) (all_cons (lst_ok _) all_nil))))) D h1 h2 h3) fun p s D => ?_
  exact body_end ⟨rfl, hn _ _ D⟩
end Mine

end
section
open PySem PySem.W PySem.W.X
set_option maxRecDepth 100000
set_option maxHeartbeats 0
set_option Elab.async false
namespace Mine
theorem ck0_2_0 (P : Params) (t0 : Nat) (p pc : Pos) (vs rest : List Value) (y : Value) (n0 n : Int) (u0 u : Tok) (v0 : Int) : smL ((L0_2_1 P t0 (.int n0 u0 :: .int n u :: rest) n u (pl (md n 1000) 1)).map (·.1)) (go (cfg P vs t0) (loopC 690) (lawBelow pc) (firstT 690 0 13) p (mkT (L0_1_4 P t0 (.int n0 u0 :: .int n u :: rest) n0 u0 v0)) 706 2477 (oraR n (pl (md n 1000) 1) 0 13)) = ⟨true, some (.ok .next), 868, 3023, [], (L0_2_1 P t0 (.int n0 u0 :: .int n u :: rest) n u (pl (md n 1000) 1)).map (fun x => some x.2), [(vge (md (pl (pl (pl (md n 1000) 1) 2) 1) 256) 256),
(vlt (md (pl (pl (pl (md n 1000) 1) 2) 1) 256) 0),
(vge (md (pl (pl (md n 1000) 1) 2) 65535) 65535),
(vlt (md (pl (pl (md n 1000) 1) 2) 65535) 0),
(vge (md (pl (pl (md n 1000) 1) 2) 256) 256),
(vlt (md (pl (pl (md n 1000) 1) 2) 256) 0),
(vge (md (pl (pl (pl (md n 1000) 1) 1) 1) 256) 256),
(vlt (md (pl (pl (pl (md n 1000) 1) 1) 1) 256) 0),
(vge (md (pl (pl (md n 1000) 1) 1) 65535) 65535),
(vlt (md (pl (pl (md n 1000) 1) 1) 65535) 0),
(vge (md (pl (pl (md n 1000) 1) 1) 256) 256),
(vlt (md (pl (pl (md n 1000) 1) 1) 256) 0),
(vge (md (pl (pl (md n 1000) 1) 1) 256) 256),
(vlt (md (pl (pl (md n 1000) 1) 1) 256) 0),
(vge (md (pl (md n 1000) 1) 65535) 65535),
(vlt (md (pl (md n 1000) 1) 65535) 0),
(vge (md (pl (md n 1000) 1) 256) 256),
(vlt (md (pl (md n 1000) 1) 256) 0)], outY (go (cfg P vs t0) (loopC 690) (lawBelow pc) (firstT 690 0 13) p (mkT (L0_1_4 P t0 (.int n0 u0 :: .int n u :: rest) n0 u0 v0)) 706 2477 (oraR n (pl (md n 1000) 1) 0 13)), [[(md (pl (pl (pl (md n 1000) 1) 2) 1) 256)],
[(md (pl (pl (md n 1000) 1) 2) 256)],
[(md (pl (pl (pl (md n 1000) 1) 1) 1) 256)],
[(md (pl (pl (md n 1000) 1) 1) 256)],
[(md (pl (pl (md n 1000) 1) 1) 256)],
[(md (pl (md n 1000) 1) 256)],
[(md (pl (md n 1000) 1) 256), (md (pl (pl (md n 1000) 1) 100) 256), (7 : Int)]], [], outF (go (cfg P vs t0) (loopC 690) (lawBelow pc) (firstT 690 0 13) p (mkT (L0_1_4 P t0 (.int n0 u0 :: .int n u :: rest) n0 u0 v0)) 706 2477 (oraR n (pl (md n 1000) 1) 0 13))⟩ := by kernel_rfl
theorem ck0_2_1 (P : Params) (t0 : Nat) (p pc : Pos) (vs rest : List Value) (y : Value) (n0 n : Int) (u0 u : Tok) (v : Int) : smL ((L0_2_2 P t0 (.int n0 u0 :: .int n u :: rest) n u v).map (·.1)) (go (cfg P vs t0) (loopC 690) (lawBelow pc) (bodyT 13 10) p (mkT (L0_2_1 P t0 (.int n0 u0 :: .int n u :: rest) n u v)) 868 3023 (oraR n v 13 10)) = ⟨true, some (.ok .next), 1034, 3665, [], (L0_2_2 P t0 (.int n0 u0 :: .int n u :: rest) n u v).map (fun x => some x.2), [(vbn (u8 (md v 256)) (u8 (md (pl v 100) 256))),
(veq (pl (pl v 1) 2) (pl (pl v 1) 2)),
(veq (pl (pl v 1) 1) (pl (pl v 1) 1)),
(vge (md (pl (pl v 100) 1) 256) 256),
(vlt (md (pl (pl v 100) 1) 256) 0),
(vge (md (pl v 100) 65535) 65535),
(vlt (md (pl v 100) 65535) 0),
(vge (md (pl v 100) 256) 256),
(vlt (md (pl v 100) 256) 0),
(vbn (u8 (md v 256)) (u8 (md (pl v 100) 256))),
(veq (pl v 2) (pl v 2)),
(veq (pl v 1) (pl v 1)),
(vge (md (pl (pl v 100) 1) 256) 256),
(vlt (md (pl (pl v 100) 1) 256) 0),
(vge (md (pl v 100) 65535) 65535),
(vlt (md (pl v 100) 65535) 0),
(vge (md (pl v 100) 256) 256),
(vlt (md (pl v 100) 256) 0)], outY (go (cfg P vs t0) (loopC 690) (lawBelow pc) (bodyT 13 10) p (mkT (L0_2_1 P t0 (.int n0 u0 :: .int n u :: rest) n u v)) 868 3023 (oraR n v 13 10)), [[(md (pl (pl v 100) 1) 256)],
[(md (pl v 100) 256)],
[(md (pl (pl v 100) 1) 256)],
[(md (pl v 100) 256)]], [([(pl (pl v 1) 3), (pl (pl v 1) 4), (pl (pl v 1) 5), (pl (pl v 1) 6), (pl (pl v 1) 7), (pl (pl v 1) 8), (pl (pl v 1) 9)], [(pl (pl v 1) 3), (pl (pl v 1) 4), (pl (pl v 1) 5), (pl (pl v 1) 6), (pl (pl v 1) 7), (pl (pl v 1) 8), (pl (pl v 1) 9)], Bool.false),
([(pl v 3), (pl v 4), (pl v 5), (pl v 6), (pl v 7), (pl v 8), (pl v 9), (pl v 10), (pl v 11), (pl v 12), (pl v 13), (pl v 14), (pl v 15)], [(pl v 3), (pl v 4), (pl v 5), (pl v 6), (pl v 7), (pl v 8), (pl v 9), (pl v 10), (pl v 11), (pl v 12), (pl v 13), (pl v 14), (pl v 15)], Bool.false)], outF (go (cfg P vs t0) (loopC 690) (lawBelow pc) (bodyT 13 10) p (mkT (L0_2_1 P t0 (.int n0 u0 :: .int n u :: rest) n u v)) 868 3023 (oraR n v 13 10))⟩ := by kernel_rfl
theorem ck0_2_2 (P : Params) (t0 : Nat) (p pc : Pos) (vs rest : List Value) (y : Value) (n0 n : Int) (u0 u : Tok) (v : Int) : smL ((L0_2_3 P t0 (.int n0 u0 :: .int n u :: rest) n u v).map (·.1)) (go (cfg P vs t0) (loopC 690) (lawBelow pc) (bodyT 23 10) p (mkT (L0_2_2 P t0 (.int n0 u0 :: .int n u :: rest) n u v)) 1034 3665 (oraR n v 23 10)) = ⟨true, some (.ok .next), 1199, 4226, [], (L0_2_3 P t0 (.int n0 u0 :: .int n u :: rest) n u v).map (fun x => some x.2), [(vbn (u8 (md v 256)) (u8 (md (pl v 100) 256))),
(veq (pl (pl v 1) 2) (pl (pl v 1) 2)),
(veq (pl (pl v 1) 1) (pl (pl v 1) 1)),
(vge (md (pl (pl v 100) 1) 256) 256),
(vlt (md (pl (pl v 100) 1) 256) 0),
(vge (md (pl v 100) 65535) 65535),
(vlt (md (pl v 100) 65535) 0),
(vge (md (pl v 100) 256) 256),
(vlt (md (pl v 100) 256) 0),
(vbn (u8 (md v 256)) (u8 (md (pl v 100) 256))),
(veq (pl (pl v 2) 2) (pl (pl v 2) 2)),
(veq (pl (pl v 2) 1) (pl (pl v 2) 1)),
(vge (md (pl (pl v 100) 1) 256) 256),
(vlt (md (pl (pl v 100) 1) 256) 0),
(vge (md (pl v 100) 65535) 65535),
(vlt (md (pl v 100) 65535) 0),
(vge (md (pl v 100) 256) 256),
(vlt (md (pl v 100) 256) 0)], outY (go (cfg P vs t0) (loopC 690) (lawBelow pc) (bodyT 23 10) p (mkT (L0_2_2 P t0 (.int n0 u0 :: .int n u :: rest) n u v)) 1034 3665 (oraR n v 23 10)), [[(md (pl (pl v 100) 1) 256)],
[(md (pl v 100) 256)],
[(md (pl (pl v 100) 1) 256)],
[(md (pl v 100) 256)]], [([(pl (pl v 100) 3), (pl (pl v 100) 4), (pl (pl v 100) 5), (pl (pl v 100) 6), (pl (pl v 100) 7), (pl (pl v 100) 8), (pl (pl v 100) 9), (pl (pl v 100) 10), (pl (pl v 100) 11), (pl (pl v 100) 12), (pl (pl v 100) 13), (pl (pl v 100) 14), (pl (pl v 100) 15)], [(pl (pl v 100) 3), (pl (pl v 100) 4), (pl (pl v 100) 5), (pl (pl v 100) 6), (pl (pl v 100) 7), (pl (pl v 100) 8), (pl (pl v 100) 9), (pl (pl v 100) 10), (pl (pl v 100) 11), (pl (pl v 100) 12), (pl (pl v 100) 13), (pl (pl v 100) 14), (pl (pl v 100) 15)], Bool.false),
([(pl (pl v 2) 3), (pl (pl v 2) 4), (pl (pl v 2) 5)], [(pl (pl v 2) 3), (pl (pl v 2) 4), (pl (pl v 2) 5)], Bool.false)], outF (go (cfg P vs t0) (loopC 690) (lawBelow pc) (bodyT 23 10) p (mkT (L0_2_2 P t0 (.int n0 u0 :: .int n u :: rest) n u v)) 1034 3665 (oraR n v 23 10))⟩ := by kernel_rfl
theorem ck0_2_3 (P : Params) (t0 : Nat) (p pc : Pos) (vs rest : List Value) (y : Value) (n0 n : Int) (u0 u : Tok) (v : Int) : smL ((L0_2_4 P t0 (.int n0 u0 :: .int n u :: rest) n u v).map (·.1)) (go (cfg P vs t0) (loopC 690) (lawBelow pc) (bodyT 33 12) p (mkT (L0_2_3 P t0 (.int n0 u0 :: .int n u :: rest) n u v)) 1199 4226 (oraR n v 33 12)) = ⟨true, some (.ok .next), 1408, 4949, [], (L0_2_4 P t0 (.int n0 u0 :: .int n u :: rest) n u v).map (fun x => some x.2), [(veq (pl (pl v 2) 2) (pl (pl v 2) 2)),
(veq (pl (pl v 2) 1) (pl (pl v 2) 1)),
(veq (pl (pl v 1) 2) (pl (pl v 1) 2)),
(veq (pl (pl v 1) 1) (pl (pl v 1) 1)),
(veq (pl v 2) (pl v 2)),
(veq (pl v 1) (pl v 1)),
(vbn (u8 (md v 256)) (u8 (md (pl v 100) 256))),
(veq (pl v 2) (pl v 2)),
(veq (pl v 1) (pl v 1)),
(vge (md (pl (pl v 100) 1) 256) 256),
(vlt (md (pl (pl v 100) 1) 256) 0),
(vge (md (pl v 100) 65535) 65535),
(vlt (md (pl v 100) 65535) 0),
(vge (md (pl v 100) 256) 256),
(vlt (md (pl v 100) 256) 0),
(vbn (u8 (md v 256)) (u8 (md (pl v 100) 256))),
(veq (pl (pl v 2) 2) (pl (pl v 2) 2)),
(veq (pl (pl v 2) 1) (pl (pl v 2) 1)),
(vge (md (pl (pl v 100) 1) 256) 256),
(vlt (md (pl (pl v 100) 1) 256) 0),
(vge (md (pl v 100) 65535) 65535),
(vlt (md (pl v 100) 65535) 0),
(vge (md (pl v 100) 256) 256),
(vlt (md (pl v 100) 256) 0)], outY (go (cfg P vs t0) (loopC 690) (lawBelow pc) (bodyT 33 12) p (mkT (L0_2_3 P t0 (.int n0 u0 :: .int n u :: rest) n u v)) 1199 4226 (oraR n v 33 12)), [[(md (pl (pl v 100) 1) 256)],
[(md (pl v 100) 256)],
[(md (pl (pl v 100) 1) 256)],
[(md (pl v 100) 256)]], [([(pl (pl v 2) 3), (pl (pl v 2) 4), (pl (pl v 2) 5)], [(pl (pl v 2) 3), (pl (pl v 2) 4), (pl (pl v 2) 5)], Bool.false),
([(pl (pl v 1) 3), (pl (pl v 1) 4), (pl (pl v 1) 5), (pl (pl v 1) 6), (pl (pl v 1) 7), (pl (pl v 1) 8), (pl (pl v 1) 9)], [(pl (pl v 1) 3), (pl (pl v 1) 4), (pl (pl v 1) 5), (pl (pl v 1) 6), (pl (pl v 1) 7), (pl (pl v 1) 8), (pl (pl v 1) 9)], Bool.false),
([(pl v 3), (pl v 4), (pl v 5), (pl v 6), (pl v 7), (pl v 8), (pl v 9), (pl v 10), (pl v 11), (pl v 12), (pl v 13), (pl v 14), (pl v 15)], [(pl v 3), (pl v 4), (pl v 5), (pl v 6), (pl v 7), (pl v 8), (pl v 9), (pl v 10), (pl v 11), (pl v 12), (pl v 13), (pl v 14), (pl v 15)], Bool.false),
([(pl (pl v 100) 3), (pl (pl v 100) 4), (pl (pl v 100) 5)], [(pl (pl v 100) 3), (pl (pl v 100) 4), (pl (pl v 100) 5)], Bool.false),
([(pl (pl v 100) 3), (pl (pl v 100) 4), (pl (pl v 100) 5), (pl (pl v 100) 6), (pl (pl v 100) 7), (pl (pl v 100) 8), (pl (pl v 100) 9)], [(pl (pl v 100) 3), (pl (pl v 100) 4), (pl (pl v 100) 5), (pl (pl v 100) 6), (pl (pl v 100) 7), (pl (pl v 100) 8), (pl (pl v 100) 9)], Bool.false)], outF (go (cfg P vs t0) (loopC 690) (lawBelow pc) (bodyT 33 12) p (mkT (L0_2_3 P t0 (.int n0 u0 :: .int n u :: rest) n u v)) 1199 4226 (oraR n v 33 12))⟩ := by kernel_rfl
theorem rd0_2 {P : Params} {t0 : Nat} {vs : List Value} {w : World} {s₀ : Shared} (B : Base (cfg P vs t0) w s₀) {pc : Pos} {rest : List Value} {y : Value} {n0 n : Int} {u0 u : Tok} {v0 : Int} {s : Shared} {Γ : PySem.Ctx} {p : Pos} {R : Result → Shared → Prop}
    (D : Rel (cfg P vs t0) s₀ (mkT (L0_1_4 P t0 (.int n0 u0 :: .int n u :: rest) n0 u0 v0)) 706 2477 s) (h1 : Γ.code = loopC 690) (h2 : Γ.handled = none) (h3 : Γ.below = lawBelow pc)
    (hn : ∀ p s', Rel (cfg P vs t0) s₀ (mkT (L0_2_4 P t0 (.int n0 u0 :: .int n u :: rest) n u (pl (md n 1000) 1))) 1408 4949 s' → wpCode (model (cfg P vs t0).prog w) Γ R p s') : wpCode (model (cfg P vs t0).prog w) Γ R p s := by
  refine turn_step h1 (go_says B (ck0_2_0 P t0 _ pc vs rest y n0 n u0 u v0) (hl_of (by kernel_rfl)) (all_cons (vge_256 _) (all_cons (vlt_256 _) (all_cons (vge_65535 _) (all_cons (vlt_65535 _) (all_cons (vge_256 _) (all_cons (vlt_256 _) (all_cons (vge_256 _) (all_cons (vlt_256 _) (all_cons (vge_65535 _) (all_cons (vlt_65535 _) (all_cons (vge_256 _) (all_cons (vlt_256 _) (all_cons (vge_256 _) (all_cons (vlt_256 _) (all_cons (vge_65535 _) (all_cons (vlt_65535 _) (all_cons (vge_256 _) (all_cons (vlt_256 _) all_nil)))))))))))))))))) (all_cons (all_cons (md_256 _) all_nil) (all_cons (all_cons (md_256 _) all_nil) (all_cons (all_cons (md_256 _) all_nil) (all_cons (all_cons (md_256 _) all_nil) (all_cons (all_cons (md_256 _) all_nil) (all_cons (all_cons (md_256 _) all_nil) (all_cons (all_cons (md_256 _) (all_cons (md_256 _) (all_cons seven_ok all_nil))) all_nil))))))) all_nil D h1 h2 h3) fun p s D => ?_
  refine rest_step (a := 13) (k := 10) (go_says B (ck0_2_1 P t0 _ pc vs rest y n0 n u0 u (pl (md n 1000) 1)) (hl_of (by kernel_rfl)) (all_cons (vbn_ok _ _) (all_cons (veq_ok _) (all_cons (veq_ok _) (all_cons (vge_256 _) (all_cons (vlt_256 _) (all_cons (vge_65535 _) (all_cons (vlt_65535 _) (all_cons (vge_256 _) (all_cons (vlt_256 _) (all_cons (vbn_ok _ _) (all_cons (veq_ok _) (all_cons (veq_ok _) (all_cons (vge_256 _) (all_cons (vlt_256 _) (all_cons (vge_65535 _) (all_cons (vlt_65535 _) (all_cons (vge_256 _) (all_cons (vlt_256 _) all_nil)))))))))))))))))) (all_cons (all_cons (md_256 _) all_nil) (all_cons (all_cons (md_256 _) all_nil) (all_cons (all_cons (md_256 _) all_nil) (all_cons (all_cons (md_256 _) all_nil) all_nil)))) (all_cons (lst_ok _) (all_cons (lst_ok _) all_nil)) D h1 h2 h3) fun p s D => ?_
  refine rest_step (a := 23) (k := 10) (go_says B (ck0_2_2 P t0 _ pc vs rest y n0 n u0 u (pl (md n 1000) 1)) (hl_of (by kernel_rfl)) (all_cons (vbn_ok _ _) (all_cons (veq_ok _) (all_cons (veq_ok _) (all_cons (vge_256 _) (all_cons (vlt_256 _) (all_cons (vge_65535 _) (all_cons (vlt_65535 _) (all_cons (vge_256 _) (all_cons (vlt_256 _) (all_cons (vbn_ok _ _) (all_cons (veq_ok _) (all_cons (veq_ok _) (all_cons (vge_256 _) (all_cons (vlt_256 _) (all_cons (vge_65535 _) (all_cons (vlt_65535 _) (all_cons (vge_256 _) (all_cons (vlt_256 _) all_nil)))))))))))))))))) (all_cons (all_cons (md_256 _) all_nil) (all_cons (all_cons (md_256 _) all_nil) (all_cons (all_cons (md_256 _) all_nil) (all_cons (all_cons (md_256 _) all_nil) all_nil)))) (all_cons (lst_ok _) (all_cons (lst_ok _) all_nil)) D h1 h2 h3) fun p s D => ?_
  refine rest_step (a := 33) (k := 12) (go_says B (ck0_2_3 P t0 _ pc vs rest y n0 n u0 u (pl (md n 1000) 1)) (hl_of (by kernel_rfl)) (all_cons (veq_ok _) (all_cons (veq_ok _) (all_cons (veq_ok _) (all_cons (veq_ok _) (all_cons (veq_ok _) (all_cons (veq_ok _) (all_cons (vbn_ok _ _) (all_cons (veq_ok _) (all_cons (veq_ok _) (all_cons (vge_256 _) (all_cons (vlt_256 _) (all_cons (vge_65535 _) (all_cons (vlt_65535 _) (all_cons (vge_256 _) (all_cons (vlt_256 _) (all_cons (vbn_ok _ _) (all_cons (veq_ok _) (all_cons (veq_ok _) (all_cons (vge_256 _) (all_cons (vlt_256 _) (all_cons (vge_65535 _) (all_cons (vlt_65535 _) (all_cons (vge_256 _) (all_cons (vlt_256 _) all_nil)))))))))))))))))))))))) (all_cons (all_cons (md_256 _) all_nil) (all_cons (all_cons (md_256 _) all_nil) (all_cons (all_cons (md_256 _) all_nil) (all_cons (all_cons (md_256 _) all_nil) all_nil)))) (all_cons (lst_ok _) (all_cons (lst_ok _) (all_cons (lst_ok _) (all_cons (lst_ok _) (all_cons (lst_ok _) all_nil))))) D h1 h2 h3) fun p s D => ?_
  exact body_end ⟨rfl, hn _ _ D⟩
end Mine

end
section
open PySem PySem.W PySem.W.X
set_option maxRecDepth 100000
set_option maxHeartbeats 0
set_option Elab.async false
namespace Mine
theorem ck0_3_0 (P : Params) (t0 : Nat) (p pc : Pos) (vs rest : List Value) (y : Value) (n0 n : Int) (u0 u : Tok) (v0 : Int) : smL ((L0_3_1 P t0 (y :: .int n0 u0 :: .int n u :: rest) n u (pl (md n 1000) 1)).map (·.1)) (go (cfg P vs t0) (loopC 690) (lawBelow pc) (firstT 690 0 13) p (mkT (L0_2_4 P t0 (y :: .int n0 u0 :: .int n u :: rest) n0 u0 v0)) 1408 4949 (oraR n (pl (md n 1000) 1) 0 13)) = ⟨true, some (.ok .next), 1570, 5495, [], (L0_3_1 P t0 (y :: .int n0 u0 :: .int n u :: rest) n u (pl (md n 1000) 1)).map (fun x => some x.2), [(vge (md (pl (pl (pl (md n 1000) 1) 2) 1) 256) 256),
(vlt (md (pl (pl (pl (md n 1000) 1) 2) 1) 256) 0),
(vge (md (pl (pl (md n 1000) 1) 2) 65535) 65535),
(vlt (md (pl (pl (md n 1000) 1) 2) 65535) 0),
(vge (md (pl (pl (md n 1000) 1) 2) 256) 256),
(vlt (md (pl (pl (md n 1000) 1) 2) 256) 0),
(vge (md (pl (pl (pl (md n 1000) 1) 1) 1) 256) 256),
(vlt (md (pl (pl (pl (md n 1000) 1) 1) 1) 256) 0),
(vge (md (pl (pl (md n 1000) 1) 1) 65535) 65535),
(vlt (md (pl (pl (md n 1000) 1) 1) 65535) 0),
(vge (md (pl (pl (md n 1000) 1) 1) 256) 256),
(vlt (md (pl (pl (md n 1000) 1) 1) 256) 0),
(vge (md (pl (pl (md n 1000) 1) 1) 256) 256),
(vlt (md (pl (pl (md n 1000) 1) 1) 256) 0),
(vge (md (pl (md n 1000) 1) 65535) 65535),
(vlt (md (pl (md n 1000) 1) 65535) 0),
(vge (md (pl (md n 1000) 1) 256) 256),
(vlt (md (pl (md n 1000) 1) 256) 0)], outY (go (cfg P vs t0) (loopC 690) (lawBelow pc) (firstT 690 0 13) p (mkT (L0_2_4 P t0 (y :: .int n0 u0 :: .int n u :: rest) n0 u0 v0)) 1408 4949 (oraR n (pl (md n 1000) 1) 0 13)), [[(md (pl (pl (pl (md n 1000) 1) 2) 1) 256)],
[(md (pl (pl (md n 1000) 1) 2) 256)],
[(md (pl (pl (pl (md n 1000) 1) 1) 1) 256)],
[(md (pl (pl (md n 1000) 1) 1) 256)],
[(md (pl (pl (md n 1000) 1) 1) 256)],
[(md (pl (md n 1000) 1) 256)],
[(md (pl (md n 1000) 1) 256), (md (pl (pl (md n 1000) 1) 100) 256), (7 : Int)]], [], outF (go (cfg P vs t0) (loopC 690) (lawBelow pc) (firstT 690 0 13) p (mkT (L0_2_4 P t0 (y :: .int n0 u0 :: .int n u :: rest) n0 u0 v0)) 1408 4949 (oraR n (pl (md n 1000) 1) 0 13))⟩ := by kernel_rfl
theorem ck0_3_1 (P : Params) (t0 : Nat) (p pc : Pos) (vs rest : List Value) (y : Value) (n0 n : Int) (u0 u : Tok) (v : Int) : smL ((L0_3_2 P t0 (y :: .int n0 u0 :: .int n u :: rest) n u v).map (·.1)) (go (cfg P vs t0) (loopC 690) (lawBelow pc) (bodyT 13 10) p (mkT (L0_3_1 P t0 (y :: .int n0 u0 :: .int n u :: rest) n u v)) 1570 5495 (oraR n v 13 10)) = ⟨true, some (.ok .next), 1736, 6137, [], (L0_3_2 P t0 (y :: .int n0 u0 :: .int n u :: rest) n u v).map (fun x => some x.2), [(vbn (u8 (md v 256)) (u8 (md (pl v 100) 256))),
(veq (pl (pl v 1) 2) (pl (pl v 1) 2)),
(veq (pl (pl v 1) 1) (pl (pl v 1) 1)),
(vge (md (pl (pl v 100) 1) 256) 256),
(vlt (md (pl (pl v 100) 1) 256) 0),
(vge (md (pl v 100) 65535) 65535),
(vlt (md (pl v 100) 65535) 0),
(vge (md (pl v 100) 256) 256),
(vlt (md (pl v 100) 256) 0),
(vbn (u8 (md v 256)) (u8 (md (pl v 100) 256))),
(veq (pl v 2) (pl v 2)),
(veq (pl v 1) (pl v 1)),
(vge (md (pl (pl v 100) 1) 256) 256),
(vlt (md (pl (pl v 100) 1) 256) 0),
(vge (md (pl v 100) 65535) 65535),
(vlt (md (pl v 100) 65535) 0),
(vge (md (pl v 100) 256) 256),
(vlt (md (pl v 100) 256) 0)], outY (go (cfg P vs t0) (loopC 690) (lawBelow pc) (bodyT 13 10) p (mkT (L0_3_1 P t0 (y :: .int n0 u0 :: .int n u :: rest) n u v)) 1570 5495 (oraR n v 13 10)), [[(md (pl (pl v 100) 1) 256)],
[(md (pl v 100) 256)],
[(md (pl (pl v 100) 1) 256)],
[(md (pl v 100) 256)]], [([(pl (pl v 1) 3), (pl (pl v 1) 4), (pl (pl v 1) 5), (pl (pl v 1) 6), (pl (pl v 1) 7), (pl (pl v 1) 8), (pl (pl v 1) 9)], [(pl (pl v 1) 3), (pl (pl v 1) 4), (pl (pl v 1) 5), (pl (pl v 1) 6), (pl (pl v 1) 7), (pl (pl v 1) 8), (pl (pl v 1) 9)], Bool.false),
([(pl v 3), (pl v 4), (pl v 5), (pl v 6), (pl v 7), (pl v 8), (pl v 9), (pl v 10), (pl v 11), (pl v 12), (pl v 13), (pl v 14), (pl v 15)], [(pl v 3), (pl v 4), (pl v 5), (pl v 6), (pl v 7), (pl v 8), (pl v 9), (pl v 10), (pl v 11), (pl v 12), (pl v 13), (pl v 14), (pl v 15)], Bool.false)], outF (go (cfg P vs t0) (loopC 690) (lawBelow pc) (bodyT 13 10) p (mkT (L0_3_1 P t0 (y :: .int n0 u0 :: .int n u :: rest) n u v)) 1570 5495 (oraR n v 13 10))⟩ := by kernel_rfl
theorem ck0_3_2 (P : Params) (t0 : Nat) (p pc : Pos) (vs rest : List Value) (y : Value) (n0 n : Int) (u0 u : Tok) (v : Int) : smL ((L0_3_3 P t0 (y :: .int n0 u0 :: .int n u :: rest) n u v).map (·.1)) (go (cfg P vs t0) (loopC 690) (lawBelow pc) (bodyT 23 10) p (mkT (L0_3_2 P t0 (y :: .int n0 u0 :: .int n u :: rest) n u v)) 1736 6137 (oraR n v 23 10)) = ⟨true, some (.ok .next), 1901, 6698, [], (L0_3_3 P t0 (y :: .int n0 u0 :: .int n u :: rest) n u v).map (fun x => some x.2), [(vbn (u8 (md v 256)) (u8 (md (pl v 100) 256))),
(veq (pl (pl v 1) 2) (pl (pl v 1) 2)),
(veq (pl (pl v 1) 1) (pl (pl v 1) 1)),
(vge (md (pl (pl v 100) 1) 256) 256),
(vlt (md (pl (pl v 100) 1) 256) 0),
(vge (md (pl v 100) 65535) 65535),
(vlt (md (pl v 100) 65535) 0),
(vge (md (pl v 100) 256) 256),
(vlt (md (pl v 100) 256) 0),
(vbn (u8 (md v 256)) (u8 (md (pl v 100) 256))),
(veq (pl (pl v 2) 2) (pl (pl v 2) 2)),
(veq (pl (pl v 2) 1) (pl (pl v 2) 1)),
(vge (md (pl (pl v 100) 1) 256) 256),
(vlt (md (pl (pl v 100) 1) 256) 0),
(vge (md (pl v 100) 65535) 65535),
(vlt (md (pl v 100) 65535) 0),
(vge (md (pl v 100) 256) 256),
(vlt (md (pl v 100) 256) 0)], outY (go (cfg P vs t0) (loopC 690) (lawBelow pc) (bodyT 23 10) p (mkT (L0_3_2 P t0 (y :: .int n0 u0 :: .int n u :: rest) n u v)) 1736 6137 (oraR n v 23 10)), [[(md (pl (pl v 100) 1) 256)],
[(md (pl v 100) 256)],
[(md (pl (pl v 100) 1) 256)],
[(md (pl v 100) 256)]], [([(pl (pl v 100) 3), (pl (pl v 100) 4), (pl (pl v 100) 5), (pl (pl v 100) 6), (pl (pl v 100) 7), (pl (pl v 100) 8), (pl (pl v 100) 9), (pl (pl v 100) 10), (pl (pl v 100) 11), (pl (pl v 100) 12), (pl (pl v 100) 13), (pl (pl v 100) 14), (pl (pl v 100) 15)], [(pl (pl v 100) 3), (pl (pl v 100) 4), (pl (pl v 100) 5), (pl (pl v 100) 6), (pl (pl v 100) 7), (pl (pl v 100) 8), (pl (pl v 100) 9), (pl (pl v 100) 10), (pl (pl v 100) 11), (pl (pl v 100) 12), (pl (pl v 100) 13), (pl (pl v 100) 14), (pl (pl v 100) 15)], Bool.false),
([(pl (pl v 2) 3), (pl (pl v 2) 4), (pl (pl v 2) 5)], [(pl (pl v 2) 3), (pl (pl v 2) 4), (pl (pl v 2) 5)], Bool.false)], outF (go (cfg P vs t0) (loopC 690) (lawBelow pc) (bodyT 23 10) p (mkT (L0_3_2 P t0 (y :: .int n0 u0 :: .int n u :: rest) n u v)) 1736 6137 (oraR n v 23 10))⟩ := by kernel_rfl
theorem ck0_3_3 (P : Params) (t0 : Nat) (p pc : Pos) (vs rest : List Value) (y : Value) (n0 n : Int) (u0 u : Tok) (v : Int) : smL ((L0_3_4 P t0 (y :: .int n0 u0 :: .int n u :: rest) n u v).map (·.1)) (go (cfg P vs t0) (loopC 690) (lawBelow pc) (bodyT 33 12) p (mkT (L0_3_3 P t0 (y :: .int n0 u0 :: .int n u :: rest) n u v)) 1901 6698 (oraR n v 33 12)) = ⟨true, some (.ok .next), 2110, 7421, [], (L0_3_4 P t0 (y :: .int n0 u0 :: .int n u :: rest) n u v).map (fun x => some x.2), [(veq (pl (pl v 2) 2) (pl (pl v 2) 2)),
(veq (pl (pl v 2) 1) (pl (pl v 2) 1)),
(veq (pl (pl v 1) 2) (pl (pl v 1) 2)),
(veq (pl (pl v 1) 1) (pl (pl v 1) 1)),
(veq (pl v 2) (pl v 2)),
(veq (pl v 1) (pl v 1)),
(vbn (u8 (md v 256)) (u8 (md (pl v 100) 256))),
(veq (pl v 2) (pl v 2)),
(veq (pl v 1) (pl v 1)),
(vge (md (pl (pl v 100) 1) 256) 256),
(vlt (md (pl (pl v 100) 1) 256) 0),
(vge (md (pl v 100) 65535) 65535),
(vlt (md (pl v 100) 65535) 0),
(vge (md (pl v 100) 256) 256),
(vlt (md (pl v 100) 256) 0),
(vbn (u8 (md v 256)) (u8 (md (pl v 100) 256))),
(veq (pl (pl v 2) 2) (pl (pl v 2) 2)),
(veq (pl (pl v 2) 1) (pl (pl v 2) 1)),
(vge (md (pl (pl v 100) 1) 256) 256),
(vlt (md (pl (pl v 100) 1) 256) 0),
(vge (md (pl v 100) 65535) 65535),
(vlt (md (pl v 100) 65535) 0),
(vge (md (pl v 100) 256) 256),
(vlt (md (pl v 100) 256) 0)], outY (go (cfg P vs t0) (loopC 690) (lawBelow pc) (bodyT 33 12) p (mkT (L0_3_3 P t0 (y :: .int n0 u0 :: .int n u :: rest) n u v)) 1901 6698 (oraR n v 33 12)), [[(md (pl (pl v 100) 1) 256)],
[(md (pl v 100) 256)],
[(md (pl (pl v 100) 1) 256)],
[(md (pl v 100) 256)]], [([(pl (pl v 2) 3), (pl (pl v 2) 4), (pl (pl v 2) 5)], [(pl (pl v 2) 3), (pl (pl v 2) 4), (pl (pl v 2) 5)], Bool.false),
([(pl (pl v 1) 3), (pl (pl v 1) 4), (pl (pl v 1) 5), (pl (pl v 1) 6), (pl (pl v 1) 7), (pl (pl v 1) 8), (pl (pl v 1) 9)], [(pl (pl v 1) 3), (pl (pl v 1) 4), (pl (pl v 1) 5), (pl (pl v 1) 6), (pl (pl v 1) 7), (pl (pl v 1) 8), (pl (pl v 1) 9)], Bool.false),
([(pl v 3), (pl v 4), (pl v 5), (pl v 6), (pl v 7), (pl v 8), (pl v 9), (pl v 10), (pl v 11), (pl v 12), (pl v 13), (pl v 14), (pl v 15)], [(pl v 3), (pl v 4), (pl v 5), (pl v 6), (pl v 7), (pl v 8), (pl v 9), (pl v 10), (pl v 11), (pl v 12), (pl v 13), (pl v 14), (pl v 15)], Bool.false),
([(pl (pl v 100) 3), (pl (pl v 100) 4), (pl (pl v 100) 5)], [(pl (pl v 100) 3), (pl (pl v 100) 4), (pl (pl v 100) 5)], Bool.false),
([(pl (pl v 100) 3), (pl (pl v 100) 4), (pl (pl v 100) 5), (pl (pl v 100) 6), (pl (pl v 100) 7), (pl (pl v 100) 8), (pl (pl v 100) 9)], [(pl (pl v 100) 3), (pl (pl v 100) 4), (pl (pl v 100) 5), (pl (pl v 100) 6), (pl (pl v 100) 7), (pl (pl v 100) 8), (pl (pl v 100) 9)], Bool.false)], outF (go (cfg P vs t0) (loopC 690) (lawBelow pc) (bodyT 33 12) p (mkT (L0_3_3 P t0 (y :: .int n0 u0 :: .int n u :: rest) n u v)) 1901 6698 (oraR n v 33 12))⟩ := by kernel_rfl
theorem rd0_3 {P : Params} {t0 : Nat} {vs : List Value} {w : World} {s₀ : Shared} (B : Base (cfg P vs t0) w s₀) {pc : Pos} {rest : List Value} {y : Value} {n0 n : Int} {u0 u : Tok} {v0 : Int} {s : Shared} {Γ : PySem.Ctx} {p : Pos} {R : Result → Shared → Prop}
    (D : Rel (cfg P vs t0) s₀ (mkT (L0_2_4 P t0 (y :: .int n0 u0 :: .int n u :: rest) n0 u0 v0)) 1408 4949 s) (h1 : Γ.code = loopC 690) (h2 : Γ.handled = none) (h3 : Γ.below = lawBelow pc)
    (hn : ∀ p s', Rel (cfg P vs t0) s₀ (mkT (L0_3_4 P t0 (y :: .int n0 u0 :: .int n u :: rest) n u (pl (md n 1000) 1))) 2110 7421 s' → wpCode (model (cfg P vs t0).prog w) Γ R p s') : wpCode (model (cfg P vs t0).prog w) Γ R p s := by
  refine turn_step h1 (go_says B (ck0_3_0 P t0 _ pc vs rest y n0 n u0 u v0) (hl_of (by kernel_rfl)) (all_cons (vge_256 _) (all_cons (vlt_256 _) (all_cons (vge_65535 _) (all_cons (vlt_65535 _) (all_cons (vge_256 _) (all_cons (vlt_256 _) (all_cons (vge_256 _) (all_cons (vlt_256 _) (all_cons (vge_65535 _) (all_cons (vlt_65535 _) (all_cons (vge_256 _) (all_cons (vlt_256 _) (all_cons (vge_256 _) (all_cons (vlt_256 _) (all_cons (vge_65535 _) (all_cons (vlt_65535 _) (all_cons (vge_256 _) (all_cons (vlt_256 _) all_nil)))))))))))))))))) (all_cons (all_cons (md_256 _) all_nil) (all_cons (all_cons (md_256 _) all_nil) (all_cons (all_cons (md_256 _) all_nil) (all_cons (all_cons (md_256 _) all_nil) (all_cons (all_cons (md_256 _) all_nil) (all_cons (all_cons (md_256 _) all_nil) (all_cons (all_cons (md_256 _) (all_cons (md_256 _) (all_cons seven_ok all_nil))) all_nil))))))) all_nil D h1 h2 h3) fun p s D => ?_
  refine rest_step (a := 13) (k := 10) (go_says B (ck0_3_1 P t0 _ pc vs rest y n0 n u0 u (pl (md n 1000) 1)) (hl_of (by kernel_rfl)) (all_cons (vbn_ok _ _) (all_cons (veq_ok _) (all_cons (veq_ok _) (all_cons (vge_256 _) (all_cons (vlt_256 _) (all_cons (vge_65535 _) (all_cons (vlt_65535 _) (all_cons (vge_256 _) (all_cons (vlt_256 _) (all_cons (vbn_ok _ _) (all_cons (veq_ok _) (all_cons (veq_ok _) (all_cons (vge_256 _) (all_cons (vlt_256 _) (all_cons (vge_65535 _) (all_cons (vlt_65535 _) (all_cons (vge_256 _) (all_cons (vlt_256 _) all_nil)))))))))))))))))) (all_cons (all_cons (md_256 _) all_nil) (all_cons (all_cons (md_256 _) all_nil) (all_cons (all_cons (md_256 _) all_nil) (all_cons (all_cons (md_256 _) all_nil) all_nil)))) (all_cons (lst_ok _) (all_cons (lst_ok _) all_nil)) D h1 h2 h3) fun p s D => ?_
  refine rest_step (a := 23) (k := 10) (go_says B (ck0_3_2 P t0 _ pc vs rest y n0 n u0 u (pl (md n 1000) 1)) (hl_of (by kernel_rfl)) (all_cons (vbn_ok _ _) (all_cons (veq_ok _) (all_cons (veq_ok _) (all_cons (vge_256 _) (all_cons (vlt_256 _) (all_cons (vge_65535 _) (all_cons (vlt_65535 _) (all_cons (vge_256 _) (all_cons (vlt_256 _) (all_cons (vbn_ok _ _) (all_cons (veq_ok _) (all_cons (veq_ok _) (all_cons (vge_256 _) (all_cons (vlt_256 _) (all_cons (vge_65535 _) (all_cons (vlt_65535 _) (all_cons (vge_256 _) (all_cons (vlt_256 _) all_nil)))))))))))))))))) (all_cons (all_cons (md_256 _) all_nil) (all_cons (all_cons (md_256 _) all_nil) (all_cons (all_cons (md_256 _) all_nil) (all_cons (all_cons (md_256 _) all_nil) all_nil)))) (all_cons (lst_ok _) (all_cons (lst_ok _) all_nil)) D h1 h2 h3) fun p s D => ?_
  refine rest_step (a := 33) (k := 12) (go_says B (ck0_3_3 P t0 _ pc vs rest y n0 n u0 u (pl (md n 1000) 1)) (hl_of (by kernel_rfl)) (all_cons (veq_ok _) (all_cons (veq_ok _) (all_cons (veq_ok _) (all_cons (veq_ok _) (all_cons (veq_ok _) (all_cons (veq_ok _) (all_cons (vbn_ok _ _) (all_cons (veq_ok _) (all_cons (veq_ok _) (all_cons (vge_256 _) (all_cons (vlt_256 _) (all_cons (vge_65535 _) (all_cons (vlt_65535 _) (all_cons (vge_256 _) (all_cons (vlt_256 _) (all_cons (vbn_ok _ _) (all_cons (veq_ok _) (all_cons (veq_ok _) (all_cons (vge_256 _) (all_cons (vlt_256 _) (all_cons (vge_65535 _) (all_cons (vlt_65535 _) (all_cons (vge_256 _) (all_cons (vlt_256 _) all_nil)))))))))))))))))))))))) (all_cons (all_cons (md_256 _) all_nil) (all_cons (all_cons (md_256 _) all_nil) (all_cons (all_cons (md_256 _) all_nil) (all_cons (all_cons (md_256 _) all_nil) all_nil)))) (all_cons (lst_ok _) (all_cons (lst_ok _) (all_cons (lst_ok _) (all_cons (lst_ok _) (all_cons (lst_ok _) all_nil))))) D h1 h2 h3) fun p s D => ?_
  exact body_end ⟨rfl, hn _ _ D⟩
end Mine

end
section
open PySem PySem.W PySem.W.X
set_option maxRecDepth 100000
set_option maxHeartbeats 0
set_option Elab.async false
namespace Mine
theorem ck1_1_0 (P : Params) (t0 : Nat) (p pc : Pos) (vs rest : List Value) (y : Value) (n0 n : Int) (u0 u : Tok) (v0 : Int) : smL ((L1_1_1 P t0 (.int n u :: rest) n u (pl (md n 1000) 1)).map (·.1)) (go (cfg P vs t0) (loopC 691) (lawBelow pc) (firstT 691 0 13) p (mkT (L1_1_0 P t0 (.int n u :: rest) n u v0)) 5 3 (oraR n (pl (md n 1000) 1) 0 13)) = ⟨true, some (.ok .next), 167, 549, [], (L1_1_1 P t0 (.int n u :: rest) n u (pl (md n 1000) 1)).map (fun x => some x.2), [(vge (md (pl (pl (pl (md n 1000) 1) 2) 1) 256) 256),
(vlt (md (pl (pl (pl (md n 1000) 1) 2) 1) 256) 0),
(vge (md (pl (pl (md n 1000) 1) 2) 65535) 65535),
(vlt (md (pl (pl (md n 1000) 1) 2) 65535) 0),
(vge (md (pl (pl (md n 1000) 1) 2) 256) 256),
(vlt (md (pl (pl (md n 1000) 1) 2) 256) 0),
(vge (md (pl (pl (pl (md n 1000) 1) 1) 1) 256) 256),
(vlt (md (pl (pl (pl (md n 1000) 1) 1) 1) 256) 0),
(vge (md (pl (pl (md n 1000) 1) 1) 65535) 65535),
(vlt (md (pl (pl (md n 1000) 1) 1) 65535) 0),
(vge (md (pl (pl (md n 1000) 1) 1) 256) 256),
(vlt (md (pl (pl (md n 1000) 1) 1) 256) 0),
(vge (md (pl (pl (md n 1000) 1) 1) 256) 256),
(vlt (md (pl (pl (md n 1000) 1) 1) 256) 0),
(vge (md (pl (md n 1000) 1) 65535) 65535),
(vlt (md (pl (md n 1000) 1) 65535) 0),
(vge (md (pl (md n 1000) 1) 256) 256),
(vlt (md (pl (md n 1000) 1) 256) 0)], outY (go (cfg P vs t0) (loopC 691) (lawBelow pc) (firstT 691 0 13) p (mkT (L1_1_0 P t0 (.int n u :: rest) n u v0)) 5 3 (oraR n (pl (md n 1000) 1) 0 13)), [[(md (pl (pl (pl (md n 1000) 1) 2) 1) 256)],
[(md (pl (pl (md n 1000) 1) 2) 256)],
[(md (pl (pl (pl (md n 1000) 1) 1) 1) 256)],
[(md (pl (pl (md n 1000) 1) 1) 256)],
[(md (pl (pl (md n 1000) 1) 1) 256)],
[(md (pl (md n 1000) 1) 256)],
[(md (pl (md n 1000) 1) 256), (md (pl (pl (md n 1000) 1) 100) 256), (7 : Int)]], [], outF (go (cfg P vs t0) (loopC 691) (lawBelow pc) (firstT 691 0 13) p (mkT (L1_1_0 P t0 (.int n u :: rest) n u v0)) 5 3 (oraR n (pl (md n 1000) 1) 0 13))⟩ := by kernel_rfl
theorem ck1_1_1 (P : Params) (t0 : Nat) (p pc : Pos) (vs rest : List Value) (y : Value) (n0 n : Int) (u0 u : Tok) (v : Int) : smL ((L1_1_2 P t0 (.int n u :: rest) n u v).map (·.1)) (go (cfg P vs t0) (loopC 691) (lawBelow pc) (bodyT 13 10) p (mkT (L1_1_1 P t0 (.int n u :: rest) n u v)) 167 549 (oraR n v 13 10)) = ⟨true, some (.ok .next), 333, 1191, [], (L1_1_2 P t0 (.int n u :: rest) n u v).map (fun x => some x.2), [(vbn (u8 (md v 256)) (u8 (md (pl v 100) 256))),
(veq (pl (pl v 1) 2) (pl (pl v 1) 2)),
(veq (pl (pl v 1) 1) (pl (pl v 1) 1)),
(vge (md (pl (pl v 100) 1) 256) 256),
(vlt (md (pl (pl v 100) 1) 256) 0),
(vge (md (pl v 100) 65535) 65535),
(vlt (md (pl v 100) 65535) 0),
(vge (md (pl v 100) 256) 256),
(vlt (md (pl v 100) 256) 0),
(vbn (u8 (md v 256)) (u8 (md (pl v 100) 256))),
(veq (pl v 2) (pl v 2)),
(veq (pl v 1) (pl v 1)),
(vge (md (pl (pl v 100) 1) 256) 256),
(vlt (md (pl (pl v 100) 1) 256) 0),
(vge (md (pl v 100) 65535) 65535),
(vlt (md (pl v 100) 65535) 0),
(vge (md (pl v 100) 256) 256),
(vlt (md (pl v 100) 256) 0)], outY (go (cfg P vs t0) (loopC 691) (lawBelow pc) (bodyT 13 10) p (mkT (L1_1_1 P t0 (.int n u :: rest) n u v)) 167 549 (oraR n v 13 10)), [[(md (pl (pl v 100) 1) 256)],
[(md (pl v 100) 256)],
[(md (pl (pl v 100) 1) 256)],
[(md (pl v 100) 256)]], [([(pl (pl v 1) 3), (pl (pl v 1) 4), (pl (pl v 1) 5), (pl (pl v 1) 6), (pl (pl v 1) 7), (pl (pl v 1) 8), (pl (pl v 1) 9)], [(pl (pl v 1) 3), (pl (pl v 1) 4), (pl (pl v 1) 5), (pl (pl v 1) 6), (pl (pl v 1) 7), (pl (pl v 1) 8), (pl (pl v 1) 9)], Bool.false),
([(pl v 3), (pl v 4), (pl v 5), (pl v 6), (pl v 7), (pl v 8), (pl v 9), (pl v 10), (pl v 11), (pl v 12), (pl v 13), (pl v 14), (pl v 15)], [(pl v 3), (pl v 4), (pl v 5), (pl v 6), (pl v 7), (pl v 8), (pl v 9), (pl v 10), (pl v 11), (pl v 12), (pl v 13), (pl v 14), (pl v 15)], Bool.false)], outF (go (cfg P vs t0) (loopC 691) (lawBelow pc) (bodyT 13 10) p (mkT (L1_1_1 P t0 (.int n u :: rest) n u v)) 167 549 (oraR n v 13 10))⟩ := by kernel_rfl
theorem ck1_1_2 (P : Params) (t0 : Nat) (p pc : Pos) (vs rest : List Value) (y : Value) (n0 n : Int) (u0 u : Tok) (v : Int) : smL ((L1_1_3 P t0 (.int n u :: rest) n u v).map (·.1)) (go (cfg P vs t0) (loopC 691) (lawBelow pc) (bodyT 23 10) p (mkT (L1_1_2 P t0 (.int n u :: rest) n u v)) 333 1191 (oraR n v 23 10)) = ⟨true, some (.ok .next), 498, 1752, [], (L1_1_3 P t0 (.int n u :: rest) n u v).map (fun x => some x.2), [(vbn (u8 (md v 256)) (u8 (md (pl v 100) 256))),
(veq (pl (pl v 1) 2) (pl (pl v 1) 2)),
(veq (pl (pl v 1) 1) (pl (pl v 1) 1)),
(vge (md (pl (pl v 100) 1) 256) 256),
(vlt (md (pl (pl v 100) 1) 256) 0),
(vge (md (pl v 100) 65535) 65535),
(vlt (md (pl v 100) 65535) 0),
(vge (md (pl v 100) 256) 256),
(vlt (md (pl v 100) 256) 0),
(vbn (u8 (md v 256)) (u8 (md (pl v 100) 256))),
(veq (pl (pl v 2) 2) (pl (pl v 2) 2)),
(veq (pl (pl v 2) 1) (pl (pl v 2) 1)),
(vge (md (pl (pl v 100) 1) 256) 256),
(vlt (md (pl (pl v 100) 1) 256) 0),
(vge (md (pl v 100) 65535) 65535),
(vlt (md (pl v 100) 65535) 0),
(vge (md (pl v 100) 256) 256),
(vlt (md (pl v 100) 256) 0)], outY (go (cfg P vs t0) (loopC 691) (lawBelow pc) (bodyT 23 10) p (mkT (L1_1_2 P t0 (.int n u :: rest) n u v)) 333 1191 (oraR n v 23 10)), [[(md (pl (pl v 100) 1) 256)],
[(md (pl v 100) 256)],
[(md (pl (pl v 100) 1) 256)],
[(md (pl v 100) 256)]], [([(pl (pl v 100) 3), (pl (pl v 100) 4), (pl (pl v 100) 5), (pl (pl v 100) 6), (pl (pl v 100) 7), (pl (pl v 100) 8), (pl (pl v 100) 9), (pl (pl v 100) 10), (pl (pl v 100) 11), (pl (pl v 100) 12), (pl (pl v 100) 13), (pl (pl v 100) 14), (pl (pl v 100) 15)], [(pl (pl v 100) 3), (pl (pl v 100) 4), (pl (pl v 100) 5), (pl (pl v 100) 6), (pl (pl v 100) 7), (pl (pl v 100) 8), (pl (pl v 100) 9), (pl (pl v 100) 10), (pl (pl v 100) 11), (pl (pl v 100) 12), (pl (pl v 100) 13), (pl (pl v 100) 14), (pl (pl v 100) 15)], Bool.false),
([(pl (pl v 2) 3), (pl (pl v 2) 4), (pl (pl v 2) 5)], [(pl (pl v 2) 3), (pl (pl v 2) 4), (pl (pl v 2) 5)], Bool.false)], outF (go (cfg P vs t0) (loopC 691) (lawBelow pc) (bodyT 23 10) p (mkT (L1_1_2 P t0 (.int n u :: rest) n u v)) 333 1191 (oraR n v 23 10))⟩ := by kernel_rfl
theorem ck1_1_3 (P : Params) (t0 : Nat) (p pc : Pos) (vs rest : List Value) (y : Value) (n0 n : Int) (u0 u : Tok) (v : Int) : smL ((L1_1_4 P t0 (.int n u :: rest) n u v).map (·.1)) (go (cfg P vs t0) (loopC 691) (lawBelow pc) (bodyT 33 12) p (mkT (L1_1_3 P t0 (.int n u :: rest) n u v)) 498 1752 (oraR n v 33 12)) = ⟨true, some (.ok .next), 707, 2475, [], (L1_1_4 P t0 (.int n u :: rest) n u v).map (fun x => some x.2), [(veq (pl (pl v 2) 2) (pl (pl v 2) 2)),
(veq (pl (pl v 2) 1) (pl (pl v 2) 1)),
(veq (pl (pl v 1) 2) (pl (pl v 1) 2)),
(veq (pl (pl v 1) 1) (pl (pl v 1) 1)),
(veq (pl v 2) (pl v 2)),
(veq (pl v 1) (pl v 1)),
(vbn (u8 (md v 256)) (u8 (md (pl v 100) 256))),
(veq (pl v 2) (pl v 2)),
(veq (pl v 1) (pl v 1)),
(vge (md (pl (pl v 100) 1) 256) 256),
(vlt (md (pl (pl v 100) 1) 256) 0),
(vge (md (pl v 100) 65535) 65535),
(vlt (md (pl v 100) 65535) 0),
(vge (md (pl v 100) 256) 256),
(vlt (md (pl v 100) 256) 0),
(vbn (u8 (md v 256)) (u8 (md (pl v 100) 256))),
(veq (pl (pl v 2) 2) (pl (pl v 2) 2)),
(veq (pl (pl v 2) 1) (pl (pl v 2) 1)),
(vge (md (pl (pl v 100) 1) 256) 256),
(vlt (md (pl (pl v 100) 1) 256) 0),
(vge (md (pl v 100) 65535) 65535),
(vlt (md (pl v 100) 65535) 0),
(vge (md (pl v 100) 256) 256),
(vlt (md (pl v 100) 256) 0)], outY (go (cfg P vs t0) (loopC 691) (lawBelow pc) (bodyT 33 12) p (mkT (L1_1_3 P t0 (.int n u :: rest) n u v)) 498 1752 (oraR n v 33 12)), [[(md (pl (pl v 100) 1) 256)],
[(md (pl v 100) 256)],
[(md (pl (pl v 100) 1) 256)],
[(md (pl v 100) 256)]], [([(pl (pl v 2) 3), (pl (pl v 2) 4), (pl (pl v 2) 5)], [(pl (pl v 2) 3), (pl (pl v 2) 4), (pl (pl v 2) 5)], Bool.false),
([(pl (pl v 1) 3), (pl (pl v 1) 4), (pl (pl v 1) 5), (pl (pl v 1) 6), (pl (pl v 1) 7), (pl (pl v 1) 8), (pl (pl v 1) 9)], [(pl (pl v 1) 3), (pl (pl v 1) 4), (pl (pl v 1) 5), (pl (pl v 1) 6), (pl (pl v 1) 7), (pl (pl v 1) 8), (pl (pl v 1) 9)], Bool.false),
([(pl v 3), (pl v 4), (pl v 5), (pl v 6), (pl v 7), (pl v 8), (pl v 9), (pl v 10), (pl v 11), (pl v 12), (pl v 13), (pl v 14), (pl v 15)], [(pl v 3), (pl v 4), (pl v 5), (pl v 6), (pl v 7), (pl v 8), (pl v 9), (pl v 10), (pl v 11), (pl v 12), (pl v 13), (pl v 14), (pl v 15)], Bool.false),
([(pl (pl v 100) 3), (pl (pl v 100) 4), (pl (pl v 100) 5)], [(pl (pl v 100) 3), (pl (pl v 100) 4), (pl (pl v 100) 5)], Bool.false),
([(pl (pl v 100) 3), (pl (pl v 100) 4), (pl (pl v 100) 5), (pl (pl v 100) 6), (pl (pl v 100) 7), (pl (pl v 100) 8), (pl (pl v 100) 9)], [(pl (pl v 100) 3), (pl (pl v 100) 4), (pl (pl v 100) 5), (pl (pl v 100) 6), (pl (pl v 100) 7), (pl (pl v 100) 8), (pl (pl v 100) 9)], Bool.false)], outF (go (cfg P vs t0) (loopC 691) (lawBelow pc) (bodyT 33 12) p (mkT (L1_1_3 P t0 (.int n u :: rest) n u v)) 498 1752 (oraR n v 33 12))⟩ := by kernel_rfl
theorem rd1_1 {P : Params} {t0 : Nat} {vs : List Value} {w : World} {s₀ : Shared} (B : Base (cfg P vs t0) w s₀) {pc : Pos} {rest : List Value} {y : Value} {n0 n : Int} {u0 u : Tok} {v0 : Int} {s : Shared} {Γ : PySem.Ctx} {p : Pos} {R : Result → Shared → Prop}
    (D : Rel (cfg P vs t0) s₀ (mkT (L1_1_0 P t0 (.int n u :: rest) n u v0)) 5 3 s) (h1 : Γ.code = loopC 691) (h2 : Γ.handled = none) (h3 : Γ.below = lawBelow pc)
    (hn : ∀ p s', Rel (cfg P vs t0) s₀ (mkT (L1_1_4 P t0 (.int n u :: rest) n u (pl (md n 1000) 1))) 707 2475 s' → wpCode (model (cfg P vs t0).prog w) Γ R p s') : wpCode (model (cfg P vs t0).prog w) Γ R p s := by
  refine turn_step h1 (go_says B (ck1_1_0 P t0 _ pc vs rest y n0 n u0 u v0) (hl_of (by kernel_rfl)) (all_cons (vge_256 _) (all_cons (vlt_256 _) (all_cons (vge_65535 _) (all_cons (vlt_65535 _) (all_cons (vge_256 _) (all_cons (vlt_256 _) (all_cons (vge_256 _) (all_cons (vlt_256 _) (all_cons (vge_65535 _) (all_cons (vlt_65535 _) (all_cons (vge_256 _) (all_cons (vlt_256 _) (all_cons (vge_256 _) (all_cons (vlt_256 _) (all_cons (vge_65535 _) (all_cons (vlt_65535 _) (all_cons (vge_256 _) (all_cons (vlt_256 _) all_nil)))))))))))))))))) (all_cons (all_cons (md_256 _) all_nil) (all_cons (all_cons (md_256 _) all_nil) (all_cons (all_cons (md_256 _) all_nil) (all_cons (all_cons (md_256 _) all_nil) (all_cons (all_cons (md_256 _) all_nil) (all_cons (all_cons (md_256 _) all_nil) (all_cons (all_cons (md_256 _) (all_cons (md_256 _) (all_cons seven_ok all_nil))) all_nil))))))) all_nil D h1 h2 h3) fun p s D => ?_
  refine rest_step (a := 13) (k := 10) (go_says B (ck1_1_1 P t0 _ pc vs rest y n0 n u0 u (pl (md n 1000) 1)) (hl_of (by kernel_rfl)) (all_cons (vbn_ok _ _) (all_cons (veq_ok _) (all_cons (veq_ok _) (all_cons (vge_256 _) (all_cons (vlt_256 _) (all_cons (vge_65535 _) (all_cons (vlt_65535 _) (all_cons (vge_256 _) (all_cons (vlt_256 _) (all_cons (vbn_ok _ _) (all_cons (veq_ok _) (all_cons (veq_ok _) (all_cons (vge_256 _) (all_cons (vlt_256 _) (all_cons (vge_65535 _) (all_cons (vlt_65535 _) (all_cons (vge_256 _) (all_cons (vlt_256 _) all_nil)))))))))))))))))) (all_cons (all_cons (md_256 _) all_nil) (all_cons (all_cons (md_256 _) all_nil) (all_cons (all_cons (md_256 _) all_nil) (all_cons (all_cons (md_256 _) all_nil) all_nil)))) (all_cons (lst_ok _) (all_cons (lst_ok _) all_nil)) D h1 h2 h3) fun p s D => ?_
  refine rest_step (a := 23) (k := 10) (go_says B (ck1_1_2 P t0 _ pc vs rest y n0 n u0 u (pl (md n 1000) 1)) (hl_of (by kernel_rfl)) (all_cons (vbn_ok _ _) (all_cons (veq_ok _) (all_cons (veq_ok _) (all_cons (vge_256 _) (all_cons (vlt_256 _) (all_cons (vge_65535 _) (all_cons (vlt_65535 _) (all_cons (vge_256 _) (all_cons (vlt_256 _) (all_cons (vbn_ok _ _) (all_cons (veq_ok _) (all_cons (veq_ok _) (all_cons (vge_256 _) (all_cons (vlt_256 _) (all_cons (vge_65535 _) (all_cons (vlt_65535 _) (all_cons (vge_256 _) (all_cons (vlt_256 _) all_nil)))))))))))))))))) (all_cons (all_cons (md_256 _) all_nil) (all_cons (all_cons (md_256 _) all_nil) (all_cons (all_cons (md_256 _) all_nil) (all_cons (all_cons (md_256 _) all_nil) all_nil)))) (all_cons (lst_ok _) (all_cons (lst_ok _) all_nil)) D h1 h2 h3) fun p s D => ?_
  refine rest_step (a := 33) (k := 12) (go_says B (ck1_1_3 P t0 _ pc vs rest y n0 n u0 u (pl (md n 1000) 1)) (hl_of (by kernel_rfl)) (all_cons (veq_ok _) (all_cons (veq_ok _) (all_cons (veq_ok _) (all_cons (veq_ok _) (all_cons (veq_ok _) (all_cons (veq_ok _) (all_cons (vbn_ok _ _) (all_cons (veq_ok _) (all_cons (veq_ok _) (all_cons (vge_256 _) (all_cons (vlt_256 _) (all_cons (vge_65535 _) (all_cons (vlt_65535 _) (all_cons (vge_256 _) (all_cons (vlt_256 _) (all_cons (vbn_ok _ _) (all_cons (veq_ok _) (all_cons (veq_ok _) (all_cons (vge_256 _) (all_cons (vlt_256 _) (all_cons (vge_65535 _) (all_cons (vlt_65535 _) (all_cons (vge_256 _) (all_cons (vlt_256 _) all_nil)))))))))))))))))))))))) (all_cons (all_cons (md_256 _) all_nil) (all_cons (all_cons (md_256 _) all_nil) (all_cons (all_cons (md_256 _) all_nil) (all_cons (all_cons (md_256 _) all_nil) all_nil)))) (all_cons (lst_ok _) (all_cons (lst_ok _) (all_cons (lst_ok _) (all_cons (lst_ok _) (all_cons (lst_ok _) all_nil))))) D h1 h2 h3) fun p s D => ?_
  exact body_end ⟨rfl, hn _ _ D⟩
end Mine

end
section
open PySem PySem.W PySem.W.X
set_option maxRecDepth 100000
set_option maxHeartbeats 0
set_option Elab.async false
namespace Mine
theorem ck1_2_0 (P : Params) (t0 : Nat) (p pc : Pos) (vs rest : List Value) (y : Value) (n0 n : Int) (u0 u : Tok) (v0 : Int) : smL ((L1_2_1 P t0 (.int n0 u0 :: .int n u :: rest) n u (pl (md n 1000) 1)).map (·.1)) (go (cfg P vs t0) (loopC 691) (lawBelow pc) (firstT 691 0 13) p (mkT (L1_1_4 P t0 (.int n0 u0 :: .int n u :: rest) n0 u0 v0)) 707 2475 (oraR n (pl (md n 1000) 1) 0 13)) = ⟨true, some (.ok .next), 869, 3021, [], (L1_2_1 P t0 (.int n0 u0 :: .int n u :: rest) n u (pl (md n 1000) 1)).map (fun x => some x.2), [(vge (md (pl (pl (pl (md n 1000) 1) 2) 1) 256) 256),
(vlt (md (pl (pl (pl (md n 1000) 1) 2) 1) 256) 0),
(vge (md (pl (pl (md n 1000) 1) 2) 65535) 65535),
(vlt (md (pl (pl (md n 1000) 1) 2) 65535) 0),
(vge (md (pl (pl (md n 1000) 1) 2) 256) 256),
(vlt (md (pl (pl (md n 1000) 1) 2) 256) 0),
(vge (md (pl (pl (pl (md n 1000) 1) 1) 1) 256) 256),
(vlt (md (pl (pl (pl (md n 1000) 1) 1) 1) 256) 0),
(vge (md (pl (pl (md n 1000) 1) 1) 65535) 65535),
(vlt (md (pl (pl (md n 1000) 1) 1) 65535) 0),
(vge (md (pl (pl (md n 1000) 1) 1) 256) 256),
(vlt (md (pl (pl (md n 1000) 1) 1) 256) 0),
(vge (md (pl (pl (md n 1000) 1) 1) 256) 256),
(vlt (md (pl (pl (md n 1000) 1) 1) 256) 0),
(vge (md (pl (md n 1000) 1) 65535) 65535),
(vlt (md (pl (md n 1000) 1) 65535) 0),
(vge (md (pl (md n 1000) 1) 256) 256),
(vlt (md (pl (md n 1000) 1) 256) 0)], outY (go (cfg P vs t0) (loopC 691) (lawBelow pc) (firstT 691 0 13) p (mkT (L1_1_4 P t0 (.int n0 u0 :: .int n u :: rest) n0 u0 v0)) 707 2475 (oraR n (pl (md n 1000) 1) 0 13)), [[(md (pl (pl (pl (md n 1000) 1) 2) 1) 256)],
[(md (pl (pl (md n 1000) 1) 2) 256)],
[(md (pl (pl (pl (md n 1000) 1) 1) 1) 256)],
[(md (pl (pl (md n 1000) 1) 1) 256)],
[(md (pl (pl (md n 1000) 1) 1) 256)],
[(md (pl (md n 1000) 1) 256)],
[(md (pl (md n 1000) 1) 256), (md (pl (pl (md n 1000) 1) 100) 256), (7 : Int)]], [], outF (go (cfg P vs t0) (loopC 691) (lawBelow pc) (firstT 691 0 13) p (mkT (L1_1_4 P t0 (.int n0 u0 :: .int n u :: rest) n0 u0 v0)) 707 2475 (oraR n (pl (md n 1000) 1) 0 13))⟩ := by kernel_rfl
theorem ck1_2_1 (P : Params) (t0 : Nat) (p pc : Pos) (vs rest : List Value) (y : Value) (n0 n : Int) (u0 u : Tok) (v : Int) : smL ((L1_2_2 P t0 (.int n0 u0 :: .int n u :: rest) n u v).map (·.1)) (go (cfg P vs t0) (loopC 691) (lawBelow pc) (bodyT 13 10) p (mkT (L1_2_1 P t0 (.int n0 u0 :: .int n u :: rest) n u v)) 869 3021 (oraR n v 13 10)) = ⟨true, some (.ok .next), 1035, 3663, [], (L1_2_2 P t0 (.int n0 u0 :: .int n u :: rest) n u v).map (fun x => some x.2), [(vbn (u8 (md v 256)) (u8 (md (pl v 100) 256))),
(veq (pl (pl v 1) 2) (pl (pl v 1) 2)),
(veq (pl (pl v 1) 1) (pl (pl v 1) 1)),
(vge (md (pl (pl v 100) 1) 256) 256),
(vlt (md (pl (pl v 100) 1) 256) 0),
(vge (md (pl v 100) 65535) 65535),
(vlt (md (pl v 100) 65535) 0),
(vge (md (pl v 100) 256) 256),
(vlt (md (pl v 100) 256) 0),
(vbn (u8 (md v 256)) (u8 (md (pl v 100) 256))),
(veq (pl v 2) (pl v 2)),
(veq (pl v 1) (pl v 1)),
(vge (md (pl (pl v 100) 1) 256) 256),
(vlt (md (pl (pl v 100) 1) 256) 0),
(vge (md (pl v 100) 65535) 65535),
(vlt (md (pl v 100) 65535) 0),
(vge (md (pl v 100) 256) 256),
(vlt (md (pl v 100) 256) 0)], outY (go (cfg P vs t0) (loopC 691) (lawBelow pc) (bodyT 13 10) p (mkT (L1_2_1 P t0 (.int n0 u0 :: .int n u :: rest) n u v)) 869 3021 (oraR n v 13 10)), [[(md (pl (pl v 100) 1) 256)],
[(md (pl v 100) 256)],
[(md (pl (pl v 100) 1) 256)],
[(md (pl v 100) 256)]], [([(pl (pl v 1) 3), (pl (pl v 1) 4), (pl (pl v 1) 5), (pl (pl v 1) 6), (pl (pl v 1) 7), (pl (pl v 1) 8), (pl (pl v 1) 9)], [(pl (pl v 1) 3), (pl (pl v 1) 4), (pl (pl v 1) 5), (pl (pl v 1) 6), (pl (pl v 1) 7), (pl (pl v 1) 8), (pl (pl v 1) 9)], Bool.false),
([(pl v 3), (pl v 4), (pl v 5), (pl v 6), (pl v 7), (pl v 8), (pl v 9), (pl v 10), (pl v 11), (pl v 12), (pl v 13), (pl v 14), (pl v 15)], [(pl v 3), (pl v 4), (pl v 5), (pl v 6), (pl v 7), (pl v 8), (pl v 9), (pl v 10), (pl v 11), (pl v 12), (pl v 13), (pl v 14), (pl v 15)], Bool.false)], outF (go (cfg P vs t0) (loopC 691) (lawBelow pc) (bodyT 13 10) p (mkT (L1_2_1 P t0 (.int n0 u0 :: .int n u :: rest) n u v)) 869 3021 (oraR n v 13 10))⟩ := by kernel_rfl
theorem ck1_2_2 (P : Params) (t0 : Nat) (p pc : Pos) (vs rest : List Value) (y : Value) (n0 n : Int) (u0 u : Tok) (v : Int) : smL ((L1_2_3 P t0 (.int n0 u0 :: .int n u :: rest) n u v).map (·.1)) (go (cfg P vs t0) (loopC 691) (lawBelow pc) (bodyT 23 10) p (mkT (L1_2_2 P t0 (.int n0 u0 :: .int n u :: rest) n u v)) 1035 3663 (oraR n v 23 10)) = ⟨true, some (.ok .next), 1200, 4224, [], (L1_2_3 P t0 (.int n0 u0 :: .int n u :: rest) n u v).map (fun x => some x.2), [(vbn (u8 (md v 256)) (u8 (md (pl v 100) 256))),
(veq (pl (pl v 1) 2) (pl (pl v 1) 2)),
(veq (pl (pl v 1) 1) (pl (pl v 1) 1)),
(vge (md (pl (pl v 100) 1) 256) 256),
(vlt (md (pl (pl v 100) 1) 256) 0),
(vge (md (pl v 100) 65535) 65535),
(vlt (md (pl v 100) 65535) 0),
(vge (md (pl v 100) 256) 256),
(vlt (md (pl v 100) 256) 0),
(vbn (u8 (md v 256)) (u8 (md (pl v 100) 256))),
(veq (pl (pl v 2) 2) (pl (pl v 2) 2)),
(veq (pl (pl v 2) 1) (pl (pl v 2) 1)),
(vge (md (pl (pl v 100) 1) 256) 256),
(vlt (md (pl (pl v 100) 1) 256) 0),
(vge (md (pl v 100) 65535) 65535),
(vlt (md (pl v 100) 65535) 0),
(vge (md (pl v 100) 256) 256),
(vlt (md (pl v 100) 256) 0)], outY (go (cfg P vs t0) (loopC 691) (lawBelow pc) (bodyT 23 10) p (mkT (L1_2_2 P t0 (.int n0 u0 :: .int n u :: rest) n u v)) 1035 3663 (oraR n v 23 10)), [[(md (pl (pl v 100) 1) 256)],
[(md (pl v 100) 256)],
[(md (pl (pl v 100) 1) 256)],
[(md (pl v 100) 256)]], [([(pl (pl v 100) 3), (pl (pl v 100) 4), (pl (pl v 100) 5), (pl (pl v 100) 6), (pl (pl v 100) 7), (pl (pl v 100) 8), (pl (pl v 100) 9), (pl (pl v 100) 10), (pl (pl v 100) 11), (pl (pl v 100) 12), (pl (pl v 100) 13), (pl (pl v 100) 14), (pl (pl v 100) 15)], [(pl (pl v 100) 3), (pl (pl v 100) 4), (pl (pl v 100) 5), (pl (pl v 100) 6), (pl (pl v 100) 7), (pl (pl v 100) 8), (pl (pl v 100) 9), (pl (pl v 100) 10), (pl (pl v 100) 11), (pl (pl v 100) 12), (pl (pl v 100) 13), (pl (pl v 100) 14), (pl (pl v 100) 15)], Bool.false),
([(pl (pl v 2) 3), (pl (pl v 2) 4), (pl (pl v 2) 5)], [(pl (pl v 2) 3), (pl (pl v 2) 4), (pl (pl v 2) 5)], Bool.false)], outF (go (cfg P vs t0) (loopC 691) (lawBelow pc) (bodyT 23 10) p (mkT (L1_2_2 P t0 (.int n0 u0 :: .int n u :: rest) n u v)) 1035 3663 (oraR n v 23 10))⟩ := by kernel_rfl
theorem ck1_2_3 (P : Params) (t0 : Nat) (p pc : Pos) (vs rest : List Value) (y : Value) (n0 n : Int) (u0 u : Tok) (v : Int) : smL ((L1_2_4 P t0 (.int n0 u0 :: .int n u :: rest) n u v).map (·.1)) (go (cfg P vs t0) (loopC 691) (lawBelow pc) (bodyT 33 12) p (mkT (L1_2_3 P t0 (.int n0 u0 :: .int n u :: rest) n u v)) 1200 4224 (oraR n v 33 12)) = ⟨true, some (.ok .next), 1409, 4947, [], (L1_2_4 P t0 (.int n0 u0 :: .int n u :: rest) n u v).map (fun x => some x.2), [(veq (pl (pl v 2) 2) (pl (pl v 2) 2)),
(veq (pl (pl v 2) 1) (pl (pl v 2) 1)),
(veq (pl (pl v 1) 2) (pl (pl v 1) 2)),
(veq (pl (pl v 1) 1) (pl (pl v 1) 1)),
(veq (pl v 2) (pl v 2)),
(veq (pl v 1) (pl v 1)),
(vbn (u8 (md v 256)) (u8 (md (pl v 100) 256))),
(veq (pl v 2) (pl v 2)),
(veq (pl v 1) (pl v 1)),
(vge (md (pl (pl v 100) 1) 256) 256),
(vlt (md (pl (pl v 100) 1) 256) 0),
(vge (md (pl v 100) 65535) 65535),
(vlt (md (pl v 100) 65535) 0),
(vge (md (pl v 100) 256) 256),
(vlt (md (pl v 100) 256) 0),
(vbn (u8 (md v 256)) (u8 (md (pl v 100) 256))),
(veq (pl (pl v 2) 2) (pl (pl v 2) 2)),
(veq (pl (pl v 2) 1) (pl (pl v 2) 1)),
(vge (md (pl (pl v 100) 1) 256) 256),
(vlt (md (pl (pl v 100) 1) 256) 0),
(vge (md (pl v 100) 65535) 65535),
(vlt (md (pl v 100) 65535) 0),
(vge (md (pl v 100) 256) 256),
(vlt (md (pl v 100) 256) 0)], outY (go (cfg P vs t0) (loopC 691) (lawBelow pc) (bodyT 33 12) p (mkT (L1_2_3 P t0 (.int n0 u0 :: .int n u :: rest) n u v)) 1200 4224 (oraR n v 33 12)), [[(md (pl (pl v 100) 1) 256)],
[(md (pl v 100) 256)],
[(md (pl (pl v 100) 1) 256)],
[(md (pl v 100) 256)]], [([(pl (pl v 2) 3), (pl (pl v 2) 4), (pl (pl v 2) 5)], [(pl (pl v 2) 3), (pl (pl v 2) 4), (pl (pl v 2) 5)], Bool.false),
([(pl (pl v 1) 3), (pl (pl v 1) 4), (pl (pl v 1) 5), (pl (pl v 1) 6), (pl (pl v 1) 7), (pl (pl v 1) 8), (pl (pl v 1) 9)], [(pl (pl v 1) 3), (pl (pl v 1) 4), (pl (pl v 1) 5), (pl (pl v 1) 6), (pl (pl v 1) 7), (pl (pl v 1) 8), (pl (pl v 1) 9)], Bool.false),
([(pl v 3), (pl v 4), (pl v 5), (pl v 6), (pl v 7), (pl v 8), (pl v 9), (pl v 10), (pl v 11), (pl v 12), (pl v 13), (pl v 14), (pl v 15)], [(pl v 3), (pl v 4), (pl v 5), (pl v 6), (pl v 7), (pl v 8), (pl v 9), (pl v 10), (pl v 11), (pl v 12), (pl v 13), (pl v 14), (pl v 15)], Bool.false),
([(pl (pl v 100) 3), (pl (pl v 100) 4), (pl (pl v 100) 5)], [(pl (pl v 100) 3), (pl (pl v 100) 4), (pl (pl v 100) 5)], Bool.false),
([(pl (pl v 100) 3), (pl (pl v 100) 4), (pl (pl v 100) 5), (pl (pl v 100) 6), (pl (pl v 100) 7), (pl (pl v 100) 8), (pl (pl v 100) 9)], [(pl (pl v 100) 3), (pl (pl v 100) 4), (pl (pl v 100) 5), (pl (pl v 100) 6), (pl (pl v 100) 7), (pl (pl v 100) 8), (pl (pl v 100) 9)], Bool.false)], outF (go (cfg P vs t0) (loopC 691) (lawBelow pc) (bodyT 33 12) p (mkT (L1_2_3 P t0 (.int n0 u0 :: .int n u :: rest) n u v)) 1200 4224 (oraR n v 33 12))⟩ := by kernel_rfl
theorem rd1_2 {P : Params} {t0 : Nat} {vs : List Value} {w : World} {s₀ : Shared} (B : Base (cfg P vs t0) w s₀) {pc : Pos} {rest : List Value} {y : Value} {n0 n : Int} {u0 u : Tok} {v0 : Int} {s : Shared} {Γ : PySem.Ctx} {p : Pos} {R : Result → Shared → Prop}
    (D : Rel (cfg P vs t0) s₀ (mkT (L1_1_4 P t0 (.int n0 u0 :: .int n u :: rest) n0 u0 v0)) 707 2475 s) (h1 : Γ.code = loopC 691) (h2 : Γ.handled = none) (h3 : Γ.below = lawBelow pc)
    (hn : ∀ p s', Rel (cfg P vs t0) s₀ (mkT (L1_2_4 P t0 (.int n0 u0 :: .int n u :: rest) n u (pl (md n 1000) 1))) 1409 4947 s' → wpCode (model (cfg P vs t0).prog w) Γ R p s') : wpCode (model (cfg P vs t0).prog w) Γ R p s := by
  refine turn_step h1 (go_says B (ck1_2_0 P t0 _ pc vs rest y n0 n u0 u v0) (hl_of (by kernel_rfl)) (all_cons (vge_256 _) (all_cons (vlt_256 _) (all_cons (vge_65535 _) (all_cons (vlt_65535 _) (all_cons (vge_256 _) (all_cons (vlt_256 _) (all_cons (vge_256 _) (all_cons (vlt_256 _) (all_cons (vge_65535 _) (all_cons (vlt_65535 _) (all_cons (vge_256 _) (all_cons (vlt_256 _) (all_cons (vge_256 _) (all_cons (vlt_256 _) (all_cons (vge_65535 _) (all_cons (vlt_65535 _) (all_cons (vge_256 _) (all_cons (vlt_256 _) all_nil)))))))))))))))))) (all_cons (all_cons (md_256 _) all_nil) (all_cons (all_cons (md_256 _) all_nil) (all_cons (all_cons (md_256 _) all_nil) (all_cons (all_cons (md_256 _) all_nil) (all_cons (all_cons (md_256 _) all_nil) (all_cons (all_cons (md_256 _) all_nil) (all_cons (all_cons (md_256 _) (all_cons (md_256 _) (all_cons seven_ok all_nil))) all_nil))))))) all_nil D h1 h2 h3) fun p s D => ?_
  refine rest_step (a := 13) (k := 10) (go_says B (ck1_2_1 P t0 _ pc vs rest y n0 n u0 u (pl (md n 1000) 1)) (hl_of (by kernel_rfl)) (all_cons (vbn_ok _ _) (all_cons (veq_ok _) (all_cons (veq_ok _) (all_cons (vge_256 _) (all_cons (vlt_256 _) (all_cons (vge_65535 _) (all_cons (vlt_65535 _) (all_cons (vge_256 _) (all_cons (vlt_256 _) (all_cons (vbn_ok _ _) (all_cons (veq_ok _) (all_cons (veq_ok _) (all_cons (vge_256 _) (all_cons (vlt_256 _) (all_cons (vge_65535 _) (all_cons (vlt_65535 _) (all_cons (vge_256 _) (all_cons (vlt_256 _) all_nil)))))))))))))))))) (all_cons (all_cons (md_256 _) all_nil) (all_cons (all_cons (md_256 _) all_nil) (all_cons (all_cons (md_256 _) all_nil) (all_cons (all_cons (md_256 _) all_nil) all_nil)))) (all_cons (lst_ok _) (all_cons (lst_ok _) all_nil)) D h1 h2 h3) fun p s D => ?_
  refine rest_step (a := 23) (k := 10) (go_says B (ck1_2_2 P t0 _ pc vs rest y n0 n u0 u (pl (md n 1000) 1)) (hl_of (by kernel_rfl)) (all_cons (vbn_ok _ _) (all_cons (veq_ok _) (all_cons (veq_ok _) (all_cons (vge_256 _) (all_cons (vlt_256 _) (all_cons (vge_65535 _) (all_cons (vlt_65535 _) (all_cons (vge_256 _) (all_cons (vlt_256 _) (all_cons (vbn_ok _ _) (all_cons (veq_ok _) (all_cons (veq_ok _) (all_cons (vge_256 _) (all_cons (vlt_256 _) (all_cons (vge_65535 _) (all_cons (vlt_65535 _) (all_cons (vge_256 _) (all_cons (vlt_256 _) all_nil)))))))))))))))))) (all_cons (all_cons (md_256 _) all_nil) (all_cons (all_cons (md_256 _) all_nil) (all_cons (all_cons (md_256 _) all_nil) (all_cons (all_cons (md_256 _) all_nil) all_nil)))) (all_cons (lst_ok _) (all_cons (lst_ok _) all_nil)) D h1 h2 h3) fun p s D => ?_
  refine rest_step (a := 33) (k := 12) (go_says B (ck1_2_3 P t0 _ pc vs rest y n0 n u0 u (pl (md n 1000) 1)) (hl_of (by kernel_rfl)) (all_cons (veq_ok _) (all_cons (veq_ok _) (all_cons (veq_ok _) (all_cons (veq_ok _) (all_cons (veq_ok _) (all_cons (veq_ok _) (all_cons (vbn_ok _ _) (all_cons (veq_ok _) (all_cons (veq_ok _) (all_cons (vge_256 _) (all_cons (vlt_256 _) (all_cons (vge_65535 _) (all_cons (vlt_65535 _) (all_cons (vge_256 _) (all_cons (vlt_256 _) (all_cons (vbn_ok _ _) (all_cons (veq_ok _) (all_cons (veq_ok _) (all_cons (vge_256 _) (all_cons (vlt_256 _) (all_cons (vge_65535 _) (all_cons (vlt_65535 _) (all_cons (vge_256 _) (all_cons (vlt_256 _) all_nil)))))))))))))))))))))))) (all_cons (all_cons (md_256 _) all_nil) (all_cons (all_cons (md_256 _) all_nil) (all_cons (all_cons (md_256 _) all_nil) (all_cons (all_cons (md_256 _) all_nil) all_nil)))) (all_cons (lst_ok _) (all_cons (lst_ok _) (all_cons (lst_ok _) (all_cons (lst_ok _) (all_cons (lst_ok _) all_nil))))) D h1 h2 h3) fun p s D => ?_
  exact body_end ⟨rfl, hn _ _ D⟩
end Mine

end
section
open PySem PySem.W PySem.W.X
set_option maxRecDepth 100000
set_option maxHeartbeats 0
set_option Elab.async false
namespace Mine
theorem ck1_3_0 (P : Params) (t0 : Nat) (p pc : Pos) (vs rest : List Value) (y : Value) (n0 n : Int) (u0 u : Tok) (v0 : Int) : smL ((L1_3_1 P t0 (y :: .int n0 u0 :: .int n u :: rest) n u (pl (md n 1000) 1)).map (·.1)) (go (cfg P vs t0) (loopC 691) (lawBelow pc) (firstT 691 0 13) p (mkT (L1_2_4 P t0 (y :: .int n0 u0 :: .int n u :: rest) n0 u0 v0)) 1409 4947 (oraR n (pl (md n 1000) 1) 0 13)) = ⟨true, some (.ok .next), 1571, 5493, [], (L1_3_1 P t0 (y :: .int n0 u0 :: .int n u :: rest) n u (pl (md n 1000) 1)).map (fun x => some x.2), [(vge (md (pl (pl (pl (md n 1000) 1) 2) 1) 256) 256),
(vlt (md (pl (pl (pl (md n 1000) 1) 2) 1) 256) 0),
(vge (md (pl (pl (md n 1000) 1) 2) 65535) 65535),
(vlt (md (pl (pl (md n 1000) 1) 2) 65535) 0),
(vge (md (pl (pl (md n 1000) 1) 2) 256) 256),
(vlt (md (pl (pl (md n 1000) 1) 2) 256) 0),
(vge (md (pl (pl (pl (md n 1000) 1) 1) 1) 256) 256),
(vlt (md (pl (pl (pl (md n 1000) 1) 1) 1) 256) 0),
(vge (md (pl (pl (md n 1000) 1) 1) 65535) 65535),
(vlt (md (pl (pl (md n 1000) 1) 1) 65535) 0),
(vge (md (pl (pl (md n 1000) 1) 1) 256) 256),
(vlt (md (pl (pl (md n 1000) 1) 1) 256) 0),
(vge (md (pl (pl (md n 1000) 1) 1) 256) 256),
(vlt (md (pl (pl (md n 1000) 1) 1) 256) 0),
(vge (md (pl (md n 1000) 1) 65535) 65535),
(vlt (md (pl (md n 1000) 1) 65535) 0),
(vge (md (pl (md n 1000) 1) 256) 256),
(vlt (md (pl (md n 1000) 1) 256) 0)], outY (go (cfg P vs t0) (loopC 691) (lawBelow pc) (firstT 691 0 13) p (mkT (L1_2_4 P t0 (y :: .int n0 u0 :: .int n u :: rest) n0 u0 v0)) 1409 4947 (oraR n (pl (md n 1000) 1) 0 13)), [[(md (pl (pl (pl (md n 1000) 1) 2) 1) 256)],
[(md (pl (pl (md n 1000) 1) 2) 256)],
[(md (pl (pl (pl (md n 1000) 1) 1) 1) 256)],
[(md (pl (pl (md n 1000) 1) 1) 256)],
[(md (pl (pl (md n 1000) 1) 1) 256)],
[(md (pl (md n 1000) 1) 256)],
[(md (pl (md n 1000) 1) 256), (md (pl (pl (md n 1000) 1) 100) 256), (7 : Int)]], [], outF (go (cfg P vs t0) (loopC 691) (lawBelow pc) (firstT 691 0 13) p (mkT (L1_2_4 P t0 (y :: .int n0 u0 :: .int n u :: rest) n0 u0 v0)) 1409 4947 (oraR n (pl (md n 1000) 1) 0 13))⟩ := by kernel_rfl
theorem ck1_3_1 (P : Params) (t0 : Nat) (p pc : Pos) (vs rest : List Value) (y : Value) (n0 n : Int) (u0 u : Tok) (v : Int) : smL ((L1_3_2 P t0 (y :: .int n0 u0 :: .int n u :: rest) n u v).map (·.1)) (go (cfg P vs t0) (loopC 691) (lawBelow pc) (bodyT 13 10) p (mkT (L1_3_1 P t0 (y :: .int n0 u0 :: .int n u :: rest) n u v)) 1571 5493 (oraR n v 13 10)) = ⟨true, some (.ok .next), 1737, 6135, [], (L1_3_2 P t0 (y :: .int n0 u0 :: .int n u :: rest) n u v).map (fun x => some x.2), [(vbn (u8 (md v 256)) (u8 (md (pl v 100) 256))),
(veq (pl (pl v 1) 2) (pl (pl v 1) 2)),
(veq (pl (pl v 1) 1) (pl (pl v 1) 1)),
(vge (md (pl (pl v 100) 1) 256) 256),
(vlt (md (pl (pl v 100) 1) 256) 0),
(vge (md (pl v 100) 65535) 65535),
(vlt (md (pl v 100) 65535) 0),
(vge (md (pl v 100) 256) 256),
(vlt (md (pl v 100) 256) 0),
(vbn (u8 (md v 256)) (u8 (md (pl v 100) 256))),
(veq (pl v 2) (pl v 2)),
(veq (pl v 1) (pl v 1)),
(vge (md (pl (pl v 100) 1) 256) 256),
(vlt (md (pl (pl v 100) 1) 256) 0),
(vge (md (pl v 100) 65535) 65535),
(vlt (md (pl v 100) 65535) 0),
(vge (md (pl v 100) 256) 256),
(vlt (md (pl v 100) 256) 0)], outY (go (cfg P vs t0) (loopC 691) (lawBelow pc) (bodyT 13 10) p (mkT (L1_3_1 P t0 (y :: .int n0 u0 :: .int n u :: rest) n u v)) 1571 5493 (oraR n v 13 10)), [[(md (pl (pl v 100) 1) 256)],
[(md (pl v 100) 256)],
[(md (pl (pl v 100) 1) 256)],
[(md (pl v 100) 256)]], [([(pl (pl v 1) 3), (pl (pl v 1) 4), (pl (pl v 1) 5), (pl (pl v 1) 6), (pl (pl v 1) 7), (pl (pl v 1) 8), (pl (pl v 1) 9)], [(pl (pl v 1) 3), (pl (pl v 1) 4), (pl (pl v 1) 5), (pl (pl v 1) 6), (pl (pl v 1) 7), (pl (pl v 1) 8), (pl (pl v 1) 9)], Bool.false),
([(pl v 3), (pl v 4), (pl v 5), (pl v 6), (pl v 7), (pl v 8), (pl v 9), (pl v 10), (pl v 11), (pl v 12), (pl v 13), (pl v 14), (pl v 15)], [(pl v 3), (pl v 4), (pl v 5), (pl v 6), (pl v 7), (pl v 8), (pl v 9), (pl v 10), (pl v 11), (pl v 12), (pl v 13), (pl v 14), (pl v 15)], Bool.false)], outF (go (cfg P vs t0) (loopC 691) (lawBelow pc) (bodyT 13 10) p (mkT (L1_3_1 P t0 (y :: .int n0 u0 :: .int n u :: rest) n u v)) 1571 5493 (oraR n v 13 10))⟩ := by kernel_rfl
theorem ck1_3_2 (P : Params) (t0 : Nat) (p pc : Pos) (vs rest : List Value) (y : Value) (n0 n : Int) (u0 u : Tok) (v : Int) : smL ((L1_3_3 P t0 (y :: .int n0 u0 :: .int n u :: rest) n u v).map (·.1)) (go (cfg P vs t0) (loopC 691) (lawBelow pc) (bodyT 23 10) p (mkT (L1_3_2 P t0 (y :: .int n0 u0 :: .int n u :: rest) n u v)) 1737 6135 (oraR n v 23 10)) = ⟨true, some (.ok .next), 1902, 6696, [], (L1_3_3 P t0 (y :: .int n0 u0 :: .int n u :: rest) n u v).map (fun x => some x.2), [(vbn (u8 (md v 256)) (u8 (md (pl v 100) 256))),
(veq (pl (pl v 1) 2) (pl (pl v 1) 2)),
(veq (pl (pl v 1) 1) (pl (pl v 1) 1)),
(vge (md (pl (pl v 100) 1) 256) 256),
(vlt (md (pl (pl v 100) 1) 256) 0),
(vge (md (pl v 100) 65535) 65535),
(vlt (md (pl v 100) 65535) 0),
(vge (md (pl v 100) 256) 256),
(vlt (md (pl v 100) 256) 0),
(vbn (u8 (md v 256)) (u8 (md (pl v 100) 256))),
(veq (pl (pl v 2) 2) (pl (pl v 2) 2)),
(veq (pl (pl v 2) 1) (pl (pl v 2) 1)),
(vge (md (pl (pl v 100) 1) 256) 256),
(vlt (md (pl (pl v 100) 1) 256) 0),
(vge (md (pl v 100) 65535) 65535),
(vlt (md (pl v 100) 65535) 0),
(vge (md (pl v 100) 256) 256),
(vlt (md (pl v 100) 256) 0)], outY (go (cfg P vs t0) (loopC 691) (lawBelow pc) (bodyT 23 10) p (mkT (L1_3_2 P t0 (y :: .int n0 u0 :: .int n u :: rest) n u v)) 1737 6135 (oraR n v 23 10)), [[(md (pl (pl v 100) 1) 256)],
[(md (pl v 100) 256)],
[(md (pl (pl v 100) 1) 256)],
[(md (pl v 100) 256)]], [([(pl (pl v 100) 3), (pl (pl v 100) 4), (pl (pl v 100) 5), (pl (pl v 100) 6), (pl (pl v 100) 7), (pl (pl v 100) 8), (pl (pl v 100) 9), (pl (pl v 100) 10), (pl (pl v 100) 11), (pl (pl v 100) 12), (pl (pl v 100) 13), (pl (pl v 100) 14), (pl (pl v 100) 15)], [(pl (pl v 100) 3), (pl (pl v 100) 4), (pl (pl v 100) 5), (pl (pl v 100) 6), (pl (pl v 100) 7), (pl (pl v 100) 8), (pl (pl v 100) 9), (pl (pl v 100) 10), (pl (pl v 100) 11), (pl (pl v 100) 12), (pl (pl v 100) 13), (pl (pl v 100) 14), (pl (pl v 100) 15)], Bool.false),
([(pl (pl v 2) 3), (pl (pl v 2) 4), (pl (pl v 2) 5)], [(pl (pl v 2) 3), (pl (pl v 2) 4), (pl (pl v 2) 5)], Bool.false)], outF (go (cfg P vs t0) (loopC 691) (lawBelow pc) (bodyT 23 10) p (mkT (L1_3_2 P t0 (y :: .int n0 u0 :: .int n u :: rest) n u v)) 1737 6135 (oraR n v 23 10))⟩ := by kernel_rfl
theorem ck1_3_3 (P : Params) (t0 : Nat) (p pc : Pos) (vs rest : List Value) (y : Value) (n0 n : Int) (u0 u : Tok) (v : Int) : smL ((L1_3_4 P t0 (y :: .int n0 u0 :: .int n u :: rest) n u v).map (·.1)) (go (cfg P vs t0) (loopC 691) (lawBelow pc) (bodyT 33 12) p (mkT (L1_3_3 P t0 (y :: .int n0 u0 :: .int n u :: rest) n u v)) 1902 6696 (oraR n v 33 12)) = ⟨true, some (.ok .next), 2111, 7419, [], (L1_3_4 P t0 (y :: .int n0 u0 :: .int n u :: rest) n u v).map (fun x => some x.2), [(veq (pl (pl v 2) 2) (pl (pl v 2) 2)),
(veq (pl (pl v 2) 1) (pl (pl v 2) 1)),
(veq (pl (pl v 1) 2) (pl (pl v 1) 2)),
(veq (pl (pl v 1) 1) (pl (pl v 1) 1)),
(veq (pl v 2) (pl v 2)),
(veq (pl v 1) (pl v 1)),
(vbn (u8 (md v 256)) (u8 (md (pl v 100) 256))),
(veq (pl v 2) (pl v 2)),
(veq (pl v 1) (pl v 1)),
(vge (md (pl (pl v 100) 1) 256) 256),
(vlt (md (pl (pl v 100) 1) 256) 0),
(vge (md (pl v 100) 65535) 65535),
(vlt (md (pl v 100) 65535) 0),
(vge (md (pl v 100) 256) 256),
(vlt (md (pl v 100) 256) 0),
(vbn (u8 (md v 256)) (u8 (md (pl v 100) 256))),
(veq (pl (pl v 2) 2) (pl (pl v 2) 2)),
(veq (pl (pl v 2) 1) (pl (pl v 2) 1)),
(vge (md (pl (pl v 100) 1) 256) 256),
(vlt (md (pl (pl v 100) 1) 256) 0),
(vge (md (pl v 100) 65535) 65535),
(vlt (md (pl v 100) 65535) 0),
(vge (md (pl v 100) 256) 256),
(vlt (md (pl v 100) 256) 0)], outY (go (cfg P vs t0) (loopC 691) (lawBelow pc) (bodyT 33 12) p (mkT (L1_3_3 P t0 (y :: .int n0 u0 :: .int n u :: rest) n u v)) 1902 6696 (oraR n v 33 12)), [[(md (pl (pl v 100) 1) 256)],
[(md (pl v 100) 256)],
[(md (pl (pl v 100) 1) 256)],
[(md (pl v 100) 256)]], [([(pl (pl v 2) 3), (pl (pl v 2) 4), (pl (pl v 2) 5)], [(pl (pl v 2) 3), (pl (pl v 2) 4), (pl (pl v 2) 5)], Bool.false),
([(pl (pl v 1) 3), (pl (pl v 1) 4), (pl (pl v 1) 5), (pl (pl v 1) 6), (pl (pl v 1) 7), (pl (pl v 1) 8), (pl (pl v 1) 9)], [(pl (pl v 1) 3), (pl (pl v 1) 4), (pl (pl v 1) 5), (pl (pl v 1) 6), (pl (pl v 1) 7), (pl (pl v 1) 8), (pl (pl v 1) 9)], Bool.false),
([(pl v 3), (pl v 4), (pl v 5), (pl v 6), (pl v 7), (pl v 8), (pl v 9), (pl v 10), (pl v 11), (pl v 12), (pl v 13), (pl v 14), (pl v 15)], [(pl v 3), (pl v 4), (pl v 5), (pl v 6), (pl v 7), (pl v 8), (pl v 9), (pl v 10), (pl v 11), (pl v 12), (pl v 13), (pl v 14), (pl v 15)], Bool.false),
([(pl (pl v 100) 3), (pl (pl v 100) 4), (pl (pl v 100) 5)], [(pl (pl v 100) 3), (pl (pl v 100) 4), (pl (pl v 100) 5)], Bool.false),
([(pl (pl v 100) 3), (pl (pl v 100) 4), (pl (pl v 100) 5), (pl (pl v 100) 6), (pl (pl v 100) 7), (pl (pl v 100) 8), (pl (pl v 100) 9)], [(pl (pl v 100) 3), (pl (pl v 100) 4), (pl (pl v 100) 5), (pl (pl v 100) 6), (pl (pl v 100) 7), (pl (pl v 100) 8), (pl (pl v 100) 9)], Bool.false)], outF (go (cfg P vs t0) (loopC 691) (lawBelow pc) (bodyT 33 12) p (mkT (L1_3_3 P t0 (y :: .int n0 u0 :: .int n u :: rest) n u v)) 1902 6696 (oraR n v 33 12))⟩ := by kernel_rfl
theorem rd1_3 {P : Params} {t0 : Nat} {vs : List Value} {w : World} {s₀ : Shared} (B : Base (cfg P vs t0) w s₀) {pc : Pos} {rest : List Value} {y : Value} {n0 n : Int} {u0 u : Tok} {v0 : Int} {s : Shared} {Γ : PySem.Ctx} {p : Pos} {R : Result → Shared → Prop}
    (D : Rel (cfg P vs t0) s₀ (mkT (L1_2_4 P t0 (y :: .int n0 u0 :: .int n u :: rest) n0 u0 v0)) 1409 4947 s) (h1 : Γ.code = loopC 691) (h2 : Γ.handled = none) (h3 : Γ.below = lawBelow pc)
    (hn : ∀ p s', Rel (cfg P vs t0) s₀ (mkT (L1_3_4 P t0 (y :: .int n0 u0 :: .int n u :: rest) n u (pl (md n 1000) 1))) 2111 7419 s' → wpCode (model (cfg P vs t0).prog w) Γ R p s') : wpCode (model (cfg P vs t0).prog w) Γ R p s := by
  refine turn_step h1 (go_says B (ck1_3_0 P t0 _ pc vs rest y n0 n u0 u v0) (hl_of (by kernel_rfl)) (all_cons (vge_256 _) (all_cons (vlt_256 _) (all_cons (vge_65535 _) (all_cons (vlt_65535 _) (all_cons (vge_256 _) (all_cons (vlt_256 _) (all_cons (vge_256 _) (all_cons (vlt_256 _) (all_cons (vge_65535 _) (all_cons (vlt_65535 _) (all_cons (vge_256 _) (all_cons (vlt_256 _) (all_cons (vge_256 _) (all_cons (vlt_256 _) (all_cons (vge_65535 _) (all_cons (vlt_65535 _) (all_cons (vge_256 _) (all_cons (vlt_256 _) all_nil)))))))))))))))))) (all_cons (all_cons (md_256 _) all_nil) (all_cons (all_cons (md_256 _) all_nil) (all_cons (all_cons (md_256 _) all_nil) (all_cons (all_cons (md_256 _) all_nil) (all_cons (all_cons (md_256 _) all_nil) (all_cons (all_cons (md_256 _) all_nil) (all_cons (all_cons (md_256 _) (all_cons (md_256 _) (all_cons seven_ok all_nil))) all_nil))))))) all_nil D h1 h2 h3) fun p s D => ?_
  refine rest_step (a := 13) (k := 10) (go_says B (ck1_3_1 P t0 _ pc vs rest y n0 n u0 u (pl (md n 1000) 1)) (hl_of (by kernel_rfl)) (all_cons (vbn_ok _ _) (all_cons (veq_ok _) (all_cons (veq_ok _) (all_cons (vge_256 _) (all_cons (vlt_256 _) (all_cons (vge_65535 _) (all_cons (vlt_65535 _) (all_cons (vge_256 _) (all_cons (vlt_256 _) (all_cons (vbn_ok _ _) (all_cons (veq_ok _) (all_cons (veq_ok _) (all_cons (vge_256 _) (all_cons (vlt_256 _) (all_cons (vge_65535 _) (all_cons (vlt_65535 _) (all_cons (vge_256 _) (all_cons (vlt_256 _) all_nil)))))))))))))))))) (all_cons (all_cons (md_256 _) all_nil) (all_cons (all_cons (md_256 _) all_nil) (all_cons (all_cons (md_256 _) all_nil) (all_cons (all_cons (md_256 _) all_nil) all_nil)))) (all_cons (lst_ok _) (all_cons (lst_ok _) all_nil)) D h1 h2 h3) fun p s D => ?_
  refine rest_step (a := 23) (k := 10) (go_says B (ck1_3_2 P t0 _ pc vs rest y n0 n u0 u (pl (md n 1000) 1)) (hl_of (by kernel_rfl)) (all_cons (vbn_ok _ _) (all_cons (veq_ok _) (all_cons (veq_ok _) (all_cons (vge_256 _) (all_cons (vlt_256 _) (all_cons (vge_65535 _) (all_cons (vlt_65535 _) (all_cons (vge_256 _) (all_cons (vlt_256 _) (all_cons (vbn_ok _ _) (all_cons (veq_ok _) (all_cons (veq_ok _) (all_cons (vge_256 _) (all_cons (vlt_256 _) (all_cons (vge_65535 _) (all_cons (vlt_65535 _) (all_cons (vge_256 _) (all_cons (vlt_256 _) all_nil)))))))))))))))))) (all_cons (all_cons (md_256 _) all_nil) (all_cons (all_cons (md_256 _) all_nil) (all_cons (all_cons (md_256 _) all_nil) (all_cons (all_cons (md_256 _) all_nil) all_nil)))) (all_cons (lst_ok _) (all_cons (lst_ok _) all_nil)) D h1 h2 h3) fun p s D => ?_
  refine rest_step (a := 33) (k := 12) (go_says B (ck1_3_3 P t0 _ pc vs rest y n0 n u0 u (pl (md n 1000) 1)) (hl_of (by kernel_rfl)) (all_cons (veq_ok _) (all_cons (veq_ok _) (all_cons (veq_ok _) (all_cons (veq_ok _) (all_cons (veq_ok _) (all_cons (veq_ok _) (all_cons (vbn_ok _ _) (all_cons (veq_ok _) (all_cons (veq_ok _) (all_cons (vge_256 _) (all_cons (vlt_256 _) (all_cons (vge_65535 _) (all_cons (vlt_65535 _) (all_cons (vge_256 _) (all_cons (vlt_256 _) (all_cons (vbn_ok _ _) (all_cons (veq_ok _) (all_cons (veq_ok _) (all_cons (vge_256 _) (all_cons (vlt_256 _) (all_cons (vge_65535 _) (all_cons (vlt_65535 _) (all_cons (vge_256 _) (all_cons (vlt_256 _) all_nil)))))))))))))))))))))))) (all_cons (all_cons (md_256 _) all_nil) (all_cons (all_cons (md_256 _) all_nil) (all_cons (all_cons (md_256 _) all_nil) (all_cons (all_cons (md_256 _) all_nil) all_nil)))) (all_cons (lst_ok _) (all_cons (lst_ok _) (all_cons (lst_ok _) (all_cons (lst_ok _) (all_cons (lst_ok _) all_nil))))) D h1 h2 h3) fun p s D => ?_
  exact body_end ⟨rfl, hn _ _ D⟩
end Mine

end
section
open PySem PySem.W PySem.W.X
set_option maxRecDepth 100000
set_option maxHeartbeats 0
set_option Elab.async false
namespace Mine
noncomputable def mkVs (f : Nat → Int) (g : Nat → Tok) (n : Nat) : List Value := (List.range n).map fun j => Value.int (f j) (g j)
noncomputable abbrev startX (P : Params) (vs : List Value) (t0 : Nat) (p : Pos) : OutH := goH (cfg P vs t0) claimCode [] lawTree p .nil 0 1 []
def pL : Pos := ⟨563, 13, 563, 60⟩
abbrev nv (n : Int) : Int := pl (md n 1000) 1
abbrev Done : Result := .ok (.ret (.bool true))
theorem pre1 (P : Params) (t0 : Nat) (p : Pos) (f : Nat → Int) (g : Nat → Tok) : (smH ((L1_1_0 P t0 [.int (f 0) (g 0)] (f 0) (g 0) 0).map (·.1)) (startX P (mkVs f g 1) t0 p), outR (outK (startX P (mkVs f g 1) t0 p) (mkT ((L1_1_4 P t0 [.int (f 0) (g 0)] (f 0) (g 0) (nv (f 0))).take 1)) 709 2475 [] [])) =
  (some ⟨loopC 691, lawBelow p, none, pL, 5, 3, [], [], [], [], [], outHF (startX P (mkVs f g 1) t0 p), (L1_1_0 P t0 [.int (f 0) (g 0)] (f 0) (g 0) 0).map (fun x => some x.2)⟩, some (Done, 709, 2475, [])) := by kernel_rfl
theorem pre2 (P : Params) (t0 : Nat) (p : Pos) (f : Nat → Int) (g : Nat → Tok) : (smH ((L1_1_0 P t0 [.int (f 0) (g 0), .int (f 1) (g 1)] (f 0) (g 0) 0).map (·.1)) (startX P (mkVs f g 2) t0 p), outR (outK (startX P (mkVs f g 2) t0 p) (mkT ((L1_2_4 P t0 [.int (f 0) (g 0), .int (f 1) (g 1)] (f 1) (g 1) (nv (f 1))).take 1)) 1411 4947 [] [])) =
  (some ⟨loopC 691, lawBelow p, none, pL, 5, 3, [], [], [], [], [], outHF (startX P (mkVs f g 2) t0 p), (L1_1_0 P t0 [.int (f 0) (g 0), .int (f 1) (g 1)] (f 0) (g 0) 0).map (fun x => some x.2)⟩, some (Done, 1411, 4947, [])) := by kernel_rfl
theorem pre0 (P : Params) (t0 : Nat) (p : Pos) : (smH ((L0_1_0 P t0 [.int 3 (tk t0 2), .int 500 (tk t0 3), .int 12345 (tk t0 4)] 3 (tk t0 2) 0).map (·.1)) (startX P [] t0 p), outR (outK (startX P [] t0 p) (mkT ((L0_3_4 P t0 [.int 3 (tk t0 2), .int 500 (tk t0 3), .int 12345 (tk t0 4)] 12345 (tk t0 4) (nv 12345)).take 1)) 2112 7421 [] [])) =
  (some ⟨loopC 690, lawBelow p, none, pL, 4, 5, [], [], [], [], [], outHF (startX P [] t0 p), (L0_1_0 P t0 [.int 3 (tk t0 2), .int 500 (tk t0 3), .int 12345 (tk t0 4)] 3 (tk t0 2) 0).map (fun x => some x.2)⟩, some (Done, 2112, 7421, [])) := by kernel_rfl
theorem pre3 (P : Params) (t0 : Nat) (p : Pos) (f : Nat → Int) (g : Nat → Tok) : (List.range 61).map (fun L => (smH ((L1_1_0 P t0 [.int (f 0) (g 0), .int (f 1) (g 1), .int (f 2) (g 2)] (f 0) (g 0) 0).map (·.1)) (startX P (mkVs f g (L + 3)) t0 p), outR (outK (startX P (mkVs f g (L + 3)) t0 p) (mkT ((L1_3_4 P t0 [.int (f 0) (g 0), .int (f 1) (g 1), .int (f 2) (g 2)] (f 2) (g 2) (nv (f 2))).take 1)) 2113 7419 [] []))) =
  (List.range 61).map (fun L => (some ⟨loopC 691, lawBelow p, none, pL, 5, 3, [], [], [], [], [], outHF (startX P (mkVs f g (L + 3)) t0 p), (L1_1_0 P t0 [.int (f 0) (g 0), .int (f 1) (g 1), .int (f 2) (g 2)] (f 0) (g 0) 0).map (fun x => some x.2)⟩, some (Done, 2113, 7419, []))) := by kernel_rfl
theorem pre3_at (P : Params) (t0 : Nat) (p : Pos) (f : Nat → Int) (g : Nat → Tok) {L : Nat} (hL : L < 61) : (smH ((L1_1_0 P t0 [.int (f 0) (g 0), .int (f 1) (g 1), .int (f 2) (g 2)] (f 0) (g 0) 0).map (·.1)) (startX P (mkVs f g (L + 3)) t0 p), outR (outK (startX P (mkVs f g (L + 3)) t0 p) (mkT ((L1_3_4 P t0 [.int (f 0) (g 0), .int (f 1) (g 1), .int (f 2) (g 2)] (f 2) (g 2) (nv (f 2))).take 1)) 2113 7419 [] [])) =
  (some ⟨loopC 691, lawBelow p, none, pL, 5, 3, [], [], [], [], [], outHF (startX P (mkVs f g (L + 3)) t0 p), (L1_1_0 P t0 [.int (f 0) (g 0), .int (f 1) (g 1), .int (f 2) (g 2)] (f 0) (g 0) 0).map (fun x => some x.2)⟩, some (Done, 2113, 7419, [])) := by
  have h := congrArg (fun l => l[L]?) (pre3 P t0 p f g)
  simpa only [List.getElem?_map, List.getElem?_range hL, Option.map_some, Option.some.injEq] using h
theorem ex1_1 (P : Params) (t0 : Nat) (p pc : Pos) (vs : List Value) (y : Value) (n0 n : Int) (u0 u : Tok) (v : Int) : smL (((L1_1_4 P t0 [.int n u] n u v).take 1).map (·.1)) (goC (cfg P vs t0) (loopC 691) (lawBelow pc) p (mkT (L1_1_4 P t0 [.int n u] n u v)) 707 2475 []) = ⟨true, some (.ok .next), 709, 2475, [], ((L1_1_4 P t0 [.int n u] n u v).take 1).map (fun x => some x.2), [], outY (goC (cfg P vs t0) (loopC 691) (lawBelow pc) p (mkT (L1_1_4 P t0 [.int n u] n u v)) 707 2475 []), [], [], outF (goC (cfg P vs t0) (loopC 691) (lawBelow pc) p (mkT (L1_1_4 P t0 [.int n u] n u v)) 707 2475 [])⟩ := by kernel_rfl
theorem ex1_2 (P : Params) (t0 : Nat) (p pc : Pos) (vs : List Value) (y : Value) (n0 n : Int) (u0 u : Tok) (v : Int) : smL (((L1_2_4 P t0 [.int n0 u0, .int n u] n u v).take 1).map (·.1)) (goC (cfg P vs t0) (loopC 691) (lawBelow pc) p (mkT (L1_2_4 P t0 [.int n0 u0, .int n u] n u v)) 1409 4947 []) = ⟨true, some (.ok .next), 1411, 4947, [], ((L1_2_4 P t0 [.int n0 u0, .int n u] n u v).take 1).map (fun x => some x.2), [], outY (goC (cfg P vs t0) (loopC 691) (lawBelow pc) p (mkT (L1_2_4 P t0 [.int n0 u0, .int n u] n u v)) 1409 4947 []), [], [], outF (goC (cfg P vs t0) (loopC 691) (lawBelow pc) p (mkT (L1_2_4 P t0 [.int n0 u0, .int n u] n u v)) 1409 4947 [])⟩ := by kernel_rfl
theorem ex1_3 (P : Params) (t0 : Nat) (p pc : Pos) (vs : List Value) (y : Value) (n0 n : Int) (u0 u : Tok) (v : Int) : smL (((L1_3_4 P t0 [y, .int n0 u0, .int n u] n u v).take 1).map (·.1)) (goC (cfg P vs t0) (loopC 691) (lawBelow pc) p (mkT (L1_3_4 P t0 [y, .int n0 u0, .int n u] n u v)) 2111 7419 []) = ⟨true, some (.ok .next), 2113, 7419, [], ((L1_3_4 P t0 [y, .int n0 u0, .int n u] n u v).take 1).map (fun x => some x.2), [], outY (goC (cfg P vs t0) (loopC 691) (lawBelow pc) p (mkT (L1_3_4 P t0 [y, .int n0 u0, .int n u] n u v)) 2111 7419 []), [], [], outF (goC (cfg P vs t0) (loopC 691) (lawBelow pc) p (mkT (L1_3_4 P t0 [y, .int n0 u0, .int n u] n u v)) 2111 7419 [])⟩ := by kernel_rfl
theorem ex0_3 (P : Params) (t0 : Nat) (p pc : Pos) (vs : List Value) (y : Value) (n0 n : Int) (u0 u : Tok) (v : Int) : smL (((L0_3_4 P t0 [y, .int n0 u0, .int n u] n u v).take 1).map (·.1)) (goC (cfg P vs t0) (loopC 690) (lawBelow pc) p (mkT (L0_3_4 P t0 [y, .int n0 u0, .int n u] n u v)) 2110 7421 []) = ⟨true, some (.ok .next), 2112, 7421, [], ((L0_3_4 P t0 [y, .int n0 u0, .int n u] n u v).take 1).map (fun x => some x.2), [], outY (goC (cfg P vs t0) (loopC 690) (lawBelow pc) p (mkT (L0_3_4 P t0 [y, .int n0 u0, .int n u] n u v)) 2110 7421 []), [], [], outF (goC (cfg P vs t0) (loopC 690) (lawBelow pc) p (mkT (L0_3_4 P t0 [y, .int n0 u0, .int n u] n u v)) 2110 7421 [])⟩ := by kernel_rfl
theorem done1 {P : Params} {t0 : Nat} {p : Pos} {f : Nat → Int} {g : Nat → Tok} {w : World} {s₀ s : Shared} (B : Base (cfg P (mkVs f g 1) t0) w s₀) (D : Rel (cfg P (mkVs f g 1) t0) s₀ .nil 0 1 s) {Γ : PySem.Ctx} (h1 : Γ.code = claimCode) (h2 : Γ.handled = none) (h3 : Γ.below = []) :
    Sem.wp (model (cfg P (mkVs f g 1) t0).prog w) Γ lawTree (Sem.finPost (model (cfg P (mkVs f g 1) t0).prog w) Γ fun r' s' => r' = Done ∧ ∃ T', Rel (cfg P (mkVs f g 1) t0) s₀ T' 709 2475 s') (fun e _ s' => .error e = Done ∧ ∃ T', Rel (cfg P (mkVs f g 1) t0) s₀ T' 709 2475 s') p s :=
  whole_says B (congrArg Prod.fst (pre1 P t0 p f g)) (hl_of (by kernel_rfl)) (fun s D Γ h1 h2 h3 => rd1_1 (rest := []) (n := (f 0)) (u := (g 0)) (n0 := 0) (u0 := 0) (v0 := 0) (y := .none) B D h1 h2 h3 fun p s D => goC_says B (ex1_1 P t0 p _ _ .none 0 (f 0) 0 (g 0) (nv (f 0))) (hl_of (by kernel_rfl)) all_nil all_nil all_nil D h1 h2 h3) (congrArg Prod.snd (pre1 P t0 p f g)) D h1 h2 h3
theorem done2 {P : Params} {t0 : Nat} {p : Pos} {f : Nat → Int} {g : Nat → Tok} {w : World} {s₀ s : Shared} (B : Base (cfg P (mkVs f g 2) t0) w s₀) (D : Rel (cfg P (mkVs f g 2) t0) s₀ .nil 0 1 s) {Γ : PySem.Ctx} (h1 : Γ.code = claimCode) (h2 : Γ.handled = none) (h3 : Γ.below = []) :
    Sem.wp (model (cfg P (mkVs f g 2) t0).prog w) Γ lawTree (Sem.finPost (model (cfg P (mkVs f g 2) t0).prog w) Γ fun r' s' => r' = Done ∧ ∃ T', Rel (cfg P (mkVs f g 2) t0) s₀ T' 1411 4947 s') (fun e _ s' => .error e = Done ∧ ∃ T', Rel (cfg P (mkVs f g 2) t0) s₀ T' 1411 4947 s') p s :=
  whole_says B (congrArg Prod.fst (pre2 P t0 p f g)) (hl_of (by kernel_rfl)) (fun s D Γ h1 h2 h3 => rd1_1 (rest := [.int (f 1) (g 1)]) (n := (f 0)) (u := (g 0)) (n0 := 0) (u0 := 0) (v0 := 0) (y := .none) B D h1 h2 h3 fun p s D => rd1_2 (rest := []) (n := (f 1)) (u := (g 1)) (n0 := (f 0)) (u0 := (g 0)) (v0 := (nv (f 0))) (y := .none) B D h1 h2 h3 fun p s D => goC_says B (ex1_2 P t0 p _ _ .none (f 0) (f 1) (g 0) (g 1) (nv (f 1))) (hl_of (by kernel_rfl)) all_nil all_nil all_nil D h1 h2 h3) (congrArg Prod.snd (pre2 P t0 p f g)) D h1 h2 h3
theorem done3 {P : Params} {t0 : Nat} {p : Pos} {f : Nat → Int} {g : Nat → Tok} {L : Nat} (hL : L < 61) {w : World} {s₀ s : Shared} (B : Base (cfg P (mkVs f g (L + 3)) t0) w s₀) (D : Rel (cfg P (mkVs f g (L + 3)) t0) s₀ .nil 0 1 s) {Γ : PySem.Ctx} (h1 : Γ.code = claimCode) (h2 : Γ.handled = none) (h3 : Γ.below = []) :
    Sem.wp (model (cfg P (mkVs f g (L + 3)) t0).prog w) Γ lawTree (Sem.finPost (model (cfg P (mkVs f g (L + 3)) t0).prog w) Γ fun r' s' => r' = Done ∧ ∃ T', Rel (cfg P (mkVs f g (L + 3)) t0) s₀ T' 2113 7419 s') (fun e _ s' => .error e = Done ∧ ∃ T', Rel (cfg P (mkVs f g (L + 3)) t0) s₀ T' 2113 7419 s') p s :=
  whole_says B (congrArg Prod.fst (pre3_at P t0 p f g hL)) (hl_of (by kernel_rfl)) (fun s D Γ h1 h2 h3 => rd1_1 (rest := [.int (f 1) (g 1), .int (f 2) (g 2)]) (n := (f 0)) (u := (g 0)) (n0 := 0) (u0 := 0) (v0 := 0) (y := .none) B D h1 h2 h3 fun p s D => rd1_2 (rest := [.int (f 2) (g 2)]) (n := (f 1)) (u := (g 1)) (n0 := (f 0)) (u0 := (g 0)) (v0 := (nv (f 0))) (y := .none) B D h1 h2 h3 fun p s D => rd1_3 (rest := []) (n := (f 2)) (u := (g 2)) (n0 := (f 1)) (u0 := (g 1)) (v0 := (nv (f 1))) (y := (.int (f 0) (g 0))) B D h1 h2 h3 fun p s D => goC_says B (ex1_3 P t0 p _ _ (.int (f 0) (g 0)) (f 1) (f 2) (g 1) (g 2) (nv (f 2))) (hl_of (by kernel_rfl)) all_nil all_nil all_nil D h1 h2 h3) (congrArg Prod.snd (pre3_at P t0 p f g hL)) D h1 h2 h3
theorem done0 {P : Params} {t0 : Nat} {p : Pos} {w : World} {s₀ s : Shared} (B : Base (cfg P [] t0) w s₀) (D : Rel (cfg P [] t0) s₀ .nil 0 1 s) {Γ : PySem.Ctx} (h1 : Γ.code = claimCode) (h2 : Γ.handled = none) (h3 : Γ.below = []) :
    Sem.wp (model (cfg P [] t0).prog w) Γ lawTree (Sem.finPost (model (cfg P [] t0).prog w) Γ fun r' s' => r' = Done ∧ ∃ T', Rel (cfg P [] t0) s₀ T' 2112 7421 s') (fun e _ s' => .error e = Done ∧ ∃ T', Rel (cfg P [] t0) s₀ T' 2112 7421 s') p s :=
  whole_says B (congrArg Prod.fst (pre0 P t0 p )) (hl_of (by kernel_rfl)) (fun s D Γ h1 h2 h3 => rd0_1 (rest := [.int 500 (tk t0 3), .int 12345 (tk t0 4)]) (n := 3) (u := (tk t0 2)) (n0 := 0) (u0 := 0) (v0 := 0) (y := .none) B D h1 h2 h3 fun p s D => rd0_2 (rest := [.int 12345 (tk t0 4)]) (n := 500) (u := (tk t0 3)) (n0 := 3) (u0 := (tk t0 2)) (v0 := (nv 3)) (y := .none) B D h1 h2 h3 fun p s D => rd0_3 (rest := []) (n := 12345) (u := (tk t0 4)) (n0 := 500) (u0 := (tk t0 3)) (v0 := (nv 500)) (y := (.int 3 (tk t0 2))) B D h1 h2 h3 fun p s D => goC_says B (ex0_3 P t0 p _ _ (.int 3 (tk t0 2)) 500 12345 (tk t0 3) (tk t0 4) (nv 12345)) (hl_of (by kernel_rfl)) all_nil all_nil all_nil D h1 h2 h3) (congrArg Prod.snd (pre0 P t0 p )) D h1 h2 h3

theorem mk_of_ints : ∀ {vs : List Value} {ns : List Int}, PyProof.Rows.IntsAre vs ns → ∃ f g, vs = mkVs f g vs.length ∧ vs.length = ns.length := by
  intro vs ns h
  have h2 : ∀ v ∈ vs, ∃ i t, v = Value.int i t := by
    intro v hv
    induction h with
    | nil => cases hv
    | cons _ _ _ ih =>
      rcases List.mem_cons.mp hv with rfl | hv
      · exact ⟨_, _, rfl⟩
      · exact ih hv
  have hlen : vs.length = ns.length := by
    clear h2
    induction h with
    | nil => rfl
    | cons _ _ _ ih => simp [ih]
  refine ⟨fun j => intPart (vs.getD j .none), fun j => (match vs.getD j .none with | .int _ t => t | _ => 0), ?_, hlen⟩
  unfold mkVs
  apply List.ext_getElem
  · simp
  · intro j hj1 hj2
    obtain ⟨i, t, e⟩ := h2 vs[j] (List.getElem_mem hj1)
    have g1 : vs.getD j .none = .int i t := by rw [List.getD_eq_getElem?_getD, List.getElem?_eq_getElem hj1, e]; rfl
    simp only [List.getElem_map, List.getElem_range, g1]
    exact e
theorem tree_call {M : Model} {Γ : PySem.Ctx} {S : Shared → Prop} {p : Pos} {s : Shared} (h : Sem.wp M Γ lawTree (Sem.finPost M Γ fun r' s' => r' = Done ∧ S s') (fun e _ s' => .error e = Done ∧ S s') p s) :
    Sem.wp M Γ (PySem.call (.ref 685) [.ref 686]) (fun v _ s' => v = .bool true ∧ S s') (fun _ _ _ => False) p s := by
  rw [lawTree_eq] at h
  rw [Sem.wp_bind'] at h
  refine Sem.wp_mono _ _ _ (fun v p' s' h' => ?_) (fun _ _ _ h' => nomatch h'.1) _ _ h
  have h' : (.ok (.ret v) : Result) = Done ∧ S s' := h'
  obtain ⟨e, hS⟩ := h'
  cases e
  exact ⟨rfl, hS⟩
theorem law_all {w : World} {s₁ : Shared} {ns : List Int} {vs : List Value} {t0 : Nat} (H : KT.Holds s₁.heap 1 0 (ktT w.params)) (hsz : s₁.heap.objs.size = 687) (hl : s₁.heap.get? 686 = some (scriptO vs))
    (hi : PyProof.Rows.IntsAre vs ns) (h63 : ns.length ≤ 63) (ht : s₁.toks = t0 + 1) (p : Pos) :
    Sem.wp (model PySem.Challenge.pw_fb5007_01 w) callerΓ (PySem.call (.ref 685) [.ref 686]) (fun v _ s' => v = .bool true ∧ ((∀ b o, s₁.heap.get? b = some o → s'.heap.get? b = some o) ∧ s'.os = s₁.os ∧ s'.gens = s₁.gens)) (fun _ _ _ => False) p s₁ := by
  have base : ∀ vs', vs = vs' → Base (cfg w.params vs' t0) w s₁ := by
    rintro _ rfl
    refine ⟨hsz, fun a o e => ?_, row_cases w.params⟩
    have e : oldK (ktT w.params) (scriptO vs) a = some o := e
    unfold oldK at e
    cases q : Nat.beq a 686 with
    | true =>
      rw [q] at e
      obtain rfl := Nat.eq_of_beq_eq_true q
      cases e
      exact hl
    | false =>
      rw [q] at e
      exact kt_at H ((getK_eq _ _).symm.trans e)
  have rel : ∀ vs', Rel (cfg w.params vs' t0) s₁ .nil 0 1 s₁ := fun vs' => ⟨hsz, ht, rfl, rfl, fun _ _ e => e, fun j o _ e => by cases e⟩
  have fin : ∀ {vs' m i}, Sem.wp (model (cfg w.params vs' t0).prog w) callerΓ lawTree (Sem.finPost (model (cfg w.params vs' t0).prog w) callerΓ fun r' s' => r' = Done ∧ ∃ T', Rel (cfg w.params vs' t0) s₁ T' m i s') (fun e _ s' => .error e = Done ∧ ∃ T', Rel (cfg w.params vs' t0) s₁ T' m i s') p s₁ →
      Sem.wp (model PySem.Challenge.pw_fb5007_01 w) callerΓ (PySem.call (.ref 685) [.ref 686]) (fun v _ s' => v = .bool true ∧ ((∀ b o, s₁.heap.get? b = some o → s'.heap.get? b = some o) ∧ s'.os = s₁.os ∧ s'.gens = s₁.gens)) (fun _ _ _ => False) p s₁ := by
    intro vs' m i h
    refine Sem.wp_mono _ _ _ (fun v p' s' h' => ?_) (fun _ _ _ h' => h') _ _ (tree_call h)
    obtain ⟨e, T', D⟩ := h'
    exact ⟨e, D.old, D.os, D.gens⟩
  obtain ⟨f, g, e, hlen⟩ := mk_of_ints hi
  match hn : vs.length with
  | 0 =>
    have e0 : vs = [] := List.length_eq_zero_iff.mp hn
    exact fin (done0 (base _ e0) (rel _) rfl rfl rfl)
  | 1 =>
    rw [hn] at e
    exact fin (done1 (base _ e) (rel _) rfl rfl rfl)
  | 2 =>
    rw [hn] at e
    exact fin (done2 (base _ e) (rel _) rfl rfl rfl)
  | L + 3 =>
    rw [hn] at e
    exact fin (done3 (by omega) (base _ e) (rel _) rfl rfl rfl)
end Mine

end
theorem PySem.Challenge.cw_fb5007_01_holds : PySem.Challenge.rw_fb5007_01.Holds := by
  exact Mine.hd0.2 (Mine.walk_of fun w s₁ ns vs t0 H hsz hl hi h63 ht p => Mine.law_all H hsz hl hi h63 ht p)

