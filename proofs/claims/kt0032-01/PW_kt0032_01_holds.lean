import PyProof.Rows.All
import Wide.All
import OpenK.AllK
import Wide.FinOn
import Lean
import PySem.Challenge.RW_kt0032_01
set_option Elab.async false
set_option linter.all false

section
open PySem PySem.W PyProof.Rows PySem.Calls PySem.Spec
set_option maxRecDepth 100000
set_option maxHeartbeats 8000000
namespace Mine

/-- the states of the generators, none of which has a cleanup to do -/
noncomputable abbrev BG := { g : Array GenState // AllBare g }
theorem BG.ok (g : BG) : AllBare g.val := g.2

/-! ### texts as lists of their signs -/
theorem str_ext {a b : Str} (h : a.cps.toList = b.cps.toList) : a = b := Str.ext' (Array.ext' h)
theorem cps_mk (l : List Nat) : (⟨l.toArray⟩ : Str).cps.toList = l := rfl
theorem mk_append (a b : List Nat) : (⟨a.toArray⟩ : Str) ++ (⟨b.toArray⟩ : Str) = ⟨(a ++ b).toArray⟩ := str_ext (by show (a.toArray ++ b.toArray).toList = _; simp)
theorem append_cps (a b : Str) : (a ++ b).cps.toList = a.cps.toList ++ b.cps.toList := by show (a.cps ++ b.cps).toList = _; simp

theorem idx_clip (i j : Option Nat) (n : Nat) : Builtin.Str.strSliceIndices (i.map fun k => ((k : Nat) : Int)) (j.map fun k => ((k : Nat) : Int)) 1 n =
    (List.range (min (j.getD n) n - min (i.getD 0) n)).map (fun k => min (i.getD 0) n + k) := by
  have key : ∀ a b : Nat, a ≤ n → b ≤ n → sliceRange ((a : Nat) : Int) ((b : Nat) : Int) 1 = (List.range (b - a)).map (fun k => a + k) := by
    intro a b _ _
    unfold sliceRange
    simp only [show ((1 : Int) > 0) = True from by simp, if_true]
    by_cases h : (a : Int) < (b : Int)
    · rw [if_pos h]
      have e : (((b : Int) - (a : Int) + 1 - 1) / 1).toNat = b - a := by simp
      rw [e]
      refine List.map_congr_left fun k _ => ?_
      first | done | lia
    · rw [if_neg h]
      have e : b - a = 0 := by lia
      rw [e]; rfl
  unfold Builtin.Str.strSliceIndices
  simp only [show ((1 : Int) > 0) = True from by simp, if_true]
  cases i with
  | none =>
    cases j with
    | none => simpa using key 0 n (Nat.zero_le _) (Nat.le_refl _)
    | some b =>
      have h2 : ¬ ((b : Int) < 0) := by lia
      have e2 : max (0 : Int) (min (b : Int) (n : Int)) = ((min b n : Nat) : Int) := by lia
      simpa [h2, e2] using key 0 (min b n) (Nat.zero_le _) (Nat.min_le_right ..)
  | some a =>
    have h1 : ¬ ((a : Int) < 0) := by lia
    have e1 : max (0 : Int) (min (a : Int) (n : Int)) = ((min a n : Nat) : Int) := by lia
    cases j with
    | none => simpa [h1, e1] using key (min a n) n (Nat.min_le_right ..) (Nat.le_refl _)
    | some b =>
      have h2 : ¬ ((b : Int) < 0) := by lia
      have e2 : max (0 : Int) (min (b : Int) (n : Int)) = ((min b n : Nat) : Int) := by lia
      simpa [h1, h2, e1, e2] using key (min a n) (min b n) (Nat.min_le_right ..) (Nat.min_le_right ..)

theorem slice_clip (x : Str) (i j : Option Nat) : Txt.slice x (i.map fun k => ((k : Nat) : Int)) (j.map fun k => ((k : Nat) : Int)) =
    ⟨((x.cps.toList.drop (min (i.getD 0) x.length)).take (min (j.getD x.length) x.length - min (i.getD 0) x.length)).toArray⟩ := by
  have hp := StrLaws.picks x.cps.toList (min (j.getD x.length) x.length - min (i.getD 0) x.length) (min (i.getD 0) x.length) (by
    have : x.cps.toList.length = x.length := by simp [Str.length]
    lia)
  have hf : (Builtin.Str.strSliceIndices (i.map fun k => ((k : Nat) : Int)) (j.map fun k => ((k : Nat) : Int)) 1 x.length).filterMap (x.cps[·]?) = (x.cps.toList.drop (min (i.getD 0) x.length)).take (min (j.getD x.length) x.length - min (i.getD 0) x.length) := by
    rw [idx_clip]
    simpa using hp
  unfold Txt.slice
  split
  · rename_i h
    rw [idx_clip] at h
    have hl : min (j.getD x.length) x.length - min (i.getD 0) x.length = x.length := by simpa using h
    have hx : x.cps.toList.length = x.length := by simp [Str.length]
    apply str_ext
    show x.cps.toList = List.take _ _
    rw [hl]
    rcases Nat.eq_zero_or_pos x.length with z | z
    · have : x.cps.toList = [] := List.eq_nil_of_length_eq_zero (by lia)
      simp [this]
    · have : min (i.getD 0) x.length = 0 := by lia
      rw [this, List.drop_zero, ← hx, List.take_length]
  · rw [hf]

theorem slice_ij (x : Str) (i j : Nat) : Txt.slice x (some ((i : Nat) : Int)) (some ((j : Nat) : Int)) = ⟨((x.cps.toList.drop i).take (j - i)).toArray⟩ := by
  have h := slice_clip x (some i) (some j)
  simp only [Option.map_some, Option.getD_some] at h
  rw [h]
  have hx : x.cps.toList.length = x.length := by simp [Str.length]
  refine congrArg (fun l : List Nat => (⟨l.toArray⟩ : Str)) ?_
  rcases Nat.le_total i x.length with hi | hi
  · rw [Nat.min_eq_left hi]
    rcases Nat.le_total j x.length with hj | hj
    · rw [Nat.min_eq_left hj]
    · rw [Nat.min_eq_right hj, List.take_of_length_le (by rw [List.length_drop]; lia), List.take_of_length_le (by rw [List.length_drop]; lia)]
  · rw [Nat.min_eq_right hi, List.drop_of_length_le (by lia), List.drop_of_length_le (by lia)]
    simp
theorem slice_i (x : Str) (i : Nat) : Txt.slice x (some ((i : Nat) : Int)) none = ⟨(x.cps.toList.drop i).toArray⟩ := by
  have h := slice_clip x (some i) none
  simp only [Option.map_some, Option.map_none, Option.getD_some, Option.getD_none] at h
  rw [h]
  have hx : x.cps.toList.length = x.length := by simp [Str.length]
  refine congrArg (fun l : List Nat => (⟨l.toArray⟩ : Str)) ?_
  rcases Nat.le_total i x.length with hi | hi
  · rw [Nat.min_eq_left hi, List.take_of_length_le (by rw [List.length_drop]; lia)]
  · rw [Nat.min_eq_right hi, List.drop_of_length_le (by lia), List.drop_of_length_le (by lia)]
    simp
theorem slice_j (x : Str) (j : Nat) : Txt.slice x none (some ((j : Nat) : Int)) = ⟨(x.cps.toList.take j).toArray⟩ := by
  have h := slice_clip x none (some j)
  simp only [Option.map_some, Option.map_none, Option.getD_some, Option.getD_none] at h
  rw [h]
  have hx : x.cps.toList.length = x.length := by simp [Str.length]
  refine congrArg (fun l : List Nat => (⟨l.toArray⟩ : Str)) ?_
  rw [Nat.zero_min, List.drop_zero, Nat.sub_zero]
  rcases Nat.le_total j x.length with hj | hj
  · rw [Nat.min_eq_left hj]
  · rw [Nat.min_eq_right hj, List.take_of_length_le (by lia), List.take_of_length_le (by lia)]

theorem strsAre_length {vs : List Value} {ss : List Str} (h : StrsAre vs ss) : vs.length = ss.length := by
  induction h with
  | nil => rfl
  | cons _ _ _ ih => simp [ih]
theorem strsAre_append {vs us : List Value} {ss ts : List Str} (h : StrsAre vs ss) (h2 : StrsAre us ts) : StrsAre (vs ++ us) (ss ++ ts) := by
  induction h with
  | nil => exact h2
  | cons y t _ ih => exact .cons y t ih
theorem join_flat : ∀ (ys : List Str), (Txt.join Str.empty ys).cps.toList = (ys.map (·.cps.toList)).flatten := by
  intro ys
  unfold Txt.join
  rw [StrLaws.glued_eq_join]
  induction ys with
  | nil => rfl
  | cons y r ih =>
    cases r with
    | nil => simp [Str.join]
    | cons z r =>
      show (Str.join Str.empty (y :: z :: r)).cps.toList = _
      rw [show Str.join Str.empty (y :: z :: r) = y ++ Str.empty ++ Str.join Str.empty (z :: r) from rfl, append_cps, append_cps, ih]
      simp [Str.empty]
end Mine
end

section
open PySem PySem.W PyProof.Rows PySem.Calls PySem.Spec
set_option maxRecDepth 100000
set_option maxHeartbeats 8000000
namespace Mine
/-! ### words that keep the proofs small -/
/-- what is to hold behind a statement of a block -/
noncomputable def SeqP (M : Model) (A : Around) (rest : List Stmt) (env : Env) (Q : Flow → Shared → Prop) (E : Value → Shared → Prop) (f : Flow) (s' : Shared) : Prop :=
  match f with
  | .next => wpAny M A (execs rest env) Q E s'
  | f => Q f s'
section
variable {M : Model} {A : Around} {st : Stmt} {rest : List Stmt} {env : Env} {Q : Flow → Shared → Prop} {E : Value → Shared → Prop} {s : Shared}
theorem execs_seq (h : wpAny M A (exec st env) (SeqP M A rest env Q E) E s) : wpAny M A (execs (st :: rest) env) Q E s :=
  wpAny_execs_cons (wpAny_mono h (fun f s' q => by cases f <;> exact q) fun _ _ e => e)
theorem SeqP.nx (h : wpAny M A (execs rest env) Q E s) : SeqP M A rest env Q E .next s := h
theorem SeqP.rt {v : Value} (h : Q (.ret v) s) : SeqP M A rest env Q E (.ret v) s := h
theorem SeqP.bk (h : Q .brk s) : SeqP M A rest env Q E .brk s := h
theorem SeqP.ct (h : Q .cont s) : SeqP M A rest env Q E .cont s := h
end
/-- what the locals hold -/
noncomputable def LV (m : Str → Option Value) (l : List (Str × Value)) : Prop := l.map (fun p => m p.1) = l.map (fun p => some p.2)
theorem LV.all {m : Str → Option Value} {l : List (Str × Value)} (h : LV m l) : ∀ p ∈ l, m p.1 = some p.2 := List.map_inj_left.mp h
theorem LV.can {m : Str → Option Value} {l : List (Str × Value)} (h : LV m l) : m = kstB m l := funext fun _ => (kstB_eq h.all fun _ => rfl).symm
theorem LV.nil {m : Str → Option Value} : LV m [] := rfl
theorem LV.cons {m : Str → Option Value} {k : Str} {v : Value} {l : List (Str × Value)} (e : m k = some v) (h : LV m l) : LV m ((k, v) :: l) := by
  unfold LV at *
  rw [List.map_cons, List.map_cons, h, e]
theorem LV.app {m : Str → Option Value} {a b : List (Str × Value)} (h : LV m a) (k : LV m b) : LV m (a ++ b) := by
  unfold LV at *
  rw [List.map_append, List.map_append, h, k]
inductive Ex1 {α : Type} (P : α → Prop) : Prop | mk (a : α) (h : P a) : Ex1 P
inductive Ex2 {α β : Type} (P : α → β → Prop) : Prop | mk (a : α) (b : β) (h : P a b) : Ex2 P
inductive Ex3 {α β γ : Type} (P : α → β → γ → Prop) : Prop | mk (a : α) (b : β) (c : γ) (h : P a b c) : Ex3 P
inductive Ex4 {α β γ δ : Type} (P : α → β → γ → δ → Prop) : Prop | mk (a : α) (b : β) (c : γ) (d : δ) (h : P a b c d) : Ex4 P
inductive Ex5 {α β γ δ ε : Type} (P : α → β → γ → δ → ε → Prop) : Prop | mk (a : α) (b : β) (c : γ) (d : δ) (e : ε) (h : P a b c d e) : Ex5 P
inductive Ex6 {α β γ δ ε ζ : Type} (P : α → β → γ → δ → ε → ζ → Prop) : Prop | mk (a : α) (b : β) (c : γ) (d : δ) (e : ε) (f : ζ) (h : P a b c d e f) : Ex6 P
inductive Ex7 {α β γ δ ε ζ η : Type} (P : α → β → γ → δ → ε → ζ → η → Prop) : Prop | mk (a : α) (b : β) (c : γ) (d : δ) (e : ε) (f : ζ) (g : η) (h : P a b c d e f g) : Ex7 P
inductive Ex8 {α β γ δ ε ζ η θ : Type} (P : α → β → γ → δ → ε → ζ → η → θ → Prop) : Prop | mk (a : α) (b : β) (c : γ) (d : δ) (e : ε) (f : ζ) (g : η) (i : θ) (h : P a b c d e f g i) : Ex8 P
inductive And2 (a b : Prop) : Prop | mk (ha : a) (hb : b) : And2 a b
inductive And3 (a b c : Prop) : Prop | mk (ha : a) (hb : b) (hc : c) : And3 a b c
inductive And4 (a b c d : Prop) : Prop | mk (ha : a) (hb : b) (hc : c) (hd : d) : And4 a b c d
inductive And5 (a b c d e : Prop) : Prop | mk (ha : a) (hb : b) (hc : c) (hd : d) (he : e) : And5 a b c d e
inductive And6 (a b c d e f : Prop) : Prop | mk (ha : a) (hb : b) (hc : c) (hd : d) (he : e) (hf : f) : And6 a b c d e f
inductive And7 (a b c d e f g : Prop) : Prop | mk (ha : a) (hb : b) (hc : c) (hd : d) (he : e) (hf : f) (hg : g) : And7 a b c d e f g
inductive And8 (a b c d e f g i : Prop) : Prop | mk (ha : a) (hb : b) (hc : c) (hd : d) (he : e) (hf : f) (hg : g) (hi : i) : And8 a b c d e f g i
inductive And9 (a b c d e f g i j : Prop) : Prop | mk (ha : a) (hb : b) (hc : c) (hd : d) (he : e) (hf : f) (hg : g) (hi : i) (hj : j) : And9 a b c d e f g i j
/-! ### all that a contract is said of, as one datum: it is enough to prove a contract where it would fail -/
structure Base where
  w : World
  p : Program
  loose : List Str
  mean : ExcName → Option Value
  mg : Str → Option Value
  mb : Str → Option Value
  dp : Nat
  un : Nat
  fr : Option (List Env)
  gd : Option (List Code)
  s : Shared
  Q : Value → Shared → Prop
  E : Value → Shared → Prop
theorem Base.ne : Nonempty Base := ⟨⟨aWorld 0, PySem.Challenge.pw_kt0032_01, [], fun _ => none, fun _ => none, fun _ => none, 0, 0, none, none, (start PySem.Challenge.pw_kt0032_01).1, fun _ _ => True, fun _ _ => True⟩⟩
noncomputable def Base.bad (P : World → Program → List Str → (ExcName → Option Value) → (Str → Option Value) → (Str → Option Value) → Nat → Nat → Option (List Env) → Option (List Code) → Shared → (Value → Shared → Prop) → (Value → Shared → Prop) → Prop) : Base := @Classical.epsilon Base Base.ne fun b => ¬ P b.w b.p b.loose b.mean b.mg b.mb b.dp b.un b.fr b.gd b.s b.Q b.E
theorem Base.all (P : World → Program → List Str → (ExcName → Option Value) → (Str → Option Value) → (Str → Option Value) → Nat → Nat → Option (List Env) → Option (List Code) → Shared → (Value → Shared → Prop) → (Value → Shared → Prop) → Prop)
    (h : P (Base.bad P).w (Base.bad P).p (Base.bad P).loose (Base.bad P).mean (Base.bad P).mg (Base.bad P).mb (Base.bad P).dp (Base.bad P).un (Base.bad P).fr (Base.bad P).gd (Base.bad P).s (Base.bad P).Q (Base.bad P).E) (b : Base) : P b.w b.p b.loose b.mean b.mg b.mb b.dp b.un b.fr b.gd b.s b.Q b.E :=
  Classical.byContradiction fun hn => @Classical.epsilon_spec Base (fun b : Base => ¬ P b.w b.p b.loose b.mean b.mg b.mb b.dp b.un b.fr b.gd b.s b.Q b.E) ⟨b, hn⟩ h
end Mine
end

section
open PySem PySem.W PyProof.Rows PySem.Calls PySem.Spec
set_option maxRecDepth 100000
set_option maxHeartbeats 8000000
namespace Mine
/-! ### picks: a law of all data is proved at the data where it would fail; these are closed terms, so that they are shared at every depth -/
theorem hkpair_ne {α β : Type} (a : Nonempty α) (b : Nonempty β) : Nonempty (α × β) := a.elim fun x => b.elim fun y => ⟨(x, y)⟩
theorem bg_ne : Nonempty { g : Array GenState // AllBare g } := ⟨⟨#[], by simp [AllBare]⟩⟩
theorem w_ne : Nonempty World := ⟨aWorld 0⟩
theorem sh_ne : Nonempty Shared := ⟨(start PySem.Challenge.pw_kt0032_01).1⟩
theorem mo_ne : Nonempty Model := ⟨model PySem.Challenge.pw_kt0032_01 (aWorld 0)⟩
theorem ar_ne : Nonempty Around := ⟨callerA⟩
noncomputable def pick {α : Type} (n : Nonempty α) (P : α → Prop) : α := @Classical.epsilon α n fun x => ¬ P x
theorem pick_all {α : Type} {n : Nonempty α} {P : α → Prop} (h : P (pick n P)) (x : α) : P x := Classical.byContradiction fun hn => @Classical.epsilon_spec α (fun x => ¬ P x) ⟨x, hn⟩ h
@[reducible] noncomputable def At1 {α0 : Type} (P : α0 → Prop) (x0 : α0) : Prop := P x0
theorem hkz1 {α0 : Type} {P : α0 → Prop} (n0 : Nonempty (α0)) (h : At1 P (pick n0 P)) : ∀ x0, P x0 := fun x0 => pick_all (P := P) h (x0)
@[reducible] noncomputable def At2 {α0 α1 : Type} (P : α0 → α1 → Prop) (x0 : α0) (x1 : α1) : Prop := P x0 x1
noncomputable def Un2 {α0 α1 : Type} (P : α0 → α1 → Prop) (c : α0 × α1) : Prop := P c.1 c.2
theorem hkz2 {α0 α1 : Type} {P : α0 → α1 → Prop} (n0 : Nonempty (α0 × α1)) (h : At2 P (pick n0 (Un2 P)).1 (pick n0 (Un2 P)).2) : ∀ x0 x1, P x0 x1 := fun x0 x1 => pick_all (P := Un2 P) h (x0, x1)
@[reducible] noncomputable def At3 {α0 α1 α2 : Type} (P : α0 → α1 → α2 → Prop) (x0 : α0) (x1 : α1) (x2 : α2) : Prop := P x0 x1 x2
noncomputable def Un3 {α0 α1 α2 : Type} (P : α0 → α1 → α2 → Prop) (c : α0 × α1 × α2) : Prop := P c.1 c.2.1 c.2.2
theorem hkz3 {α0 α1 α2 : Type} {P : α0 → α1 → α2 → Prop} (n0 : Nonempty (α0 × α1 × α2)) (h : At3 P (pick n0 (Un3 P)).1 (pick n0 (Un3 P)).2.1 (pick n0 (Un3 P)).2.2) : ∀ x0 x1 x2, P x0 x1 x2 := fun x0 x1 x2 => pick_all (P := Un3 P) h (x0, x1, x2)
@[reducible] noncomputable def At4 {α0 α1 α2 α3 : Type} (P : α0 → α1 → α2 → α3 → Prop) (x0 : α0) (x1 : α1) (x2 : α2) (x3 : α3) : Prop := P x0 x1 x2 x3
noncomputable def Un4 {α0 α1 α2 α3 : Type} (P : α0 → α1 → α2 → α3 → Prop) (c : α0 × α1 × α2 × α3) : Prop := P c.1 c.2.1 c.2.2.1 c.2.2.2
theorem hkz4 {α0 α1 α2 α3 : Type} {P : α0 → α1 → α2 → α3 → Prop} (n0 : Nonempty (α0 × α1 × α2 × α3)) (h : At4 P (pick n0 (Un4 P)).1 (pick n0 (Un4 P)).2.1 (pick n0 (Un4 P)).2.2.1 (pick n0 (Un4 P)).2.2.2) : ∀ x0 x1 x2 x3, P x0 x1 x2 x3 := fun x0 x1 x2 x3 => pick_all (P := Un4 P) h (x0, x1, x2, x3)
@[reducible] noncomputable def At5 {α0 α1 α2 α3 α4 : Type} (P : α0 → α1 → α2 → α3 → α4 → Prop) (x0 : α0) (x1 : α1) (x2 : α2) (x3 : α3) (x4 : α4) : Prop := P x0 x1 x2 x3 x4
noncomputable def Un5 {α0 α1 α2 α3 α4 : Type} (P : α0 → α1 → α2 → α3 → α4 → Prop) (c : α0 × α1 × α2 × α3 × α4) : Prop := P c.1 c.2.1 c.2.2.1 c.2.2.2.1 c.2.2.2.2
theorem hkz5 {α0 α1 α2 α3 α4 : Type} {P : α0 → α1 → α2 → α3 → α4 → Prop} (n0 : Nonempty (α0 × α1 × α2 × α3 × α4)) (h : At5 P (pick n0 (Un5 P)).1 (pick n0 (Un5 P)).2.1 (pick n0 (Un5 P)).2.2.1 (pick n0 (Un5 P)).2.2.2.1 (pick n0 (Un5 P)).2.2.2.2) : ∀ x0 x1 x2 x3 x4, P x0 x1 x2 x3 x4 := fun x0 x1 x2 x3 x4 => pick_all (P := Un5 P) h (x0, x1, x2, x3, x4)
@[reducible] noncomputable def At6 {α0 α1 α2 α3 α4 α5 : Type} (P : α0 → α1 → α2 → α3 → α4 → α5 → Prop) (x0 : α0) (x1 : α1) (x2 : α2) (x3 : α3) (x4 : α4) (x5 : α5) : Prop := P x0 x1 x2 x3 x4 x5
noncomputable def Un6 {α0 α1 α2 α3 α4 α5 : Type} (P : α0 → α1 → α2 → α3 → α4 → α5 → Prop) (c : α0 × α1 × α2 × α3 × α4 × α5) : Prop := P c.1 c.2.1 c.2.2.1 c.2.2.2.1 c.2.2.2.2.1 c.2.2.2.2.2
theorem hkz6 {α0 α1 α2 α3 α4 α5 : Type} {P : α0 → α1 → α2 → α3 → α4 → α5 → Prop} (n0 : Nonempty (α0 × α1 × α2 × α3 × α4 × α5)) (h : At6 P (pick n0 (Un6 P)).1 (pick n0 (Un6 P)).2.1 (pick n0 (Un6 P)).2.2.1 (pick n0 (Un6 P)).2.2.2.1 (pick n0 (Un6 P)).2.2.2.2.1 (pick n0 (Un6 P)).2.2.2.2.2) : ∀ x0 x1 x2 x3 x4 x5, P x0 x1 x2 x3 x4 x5 := fun x0 x1 x2 x3 x4 x5 => pick_all (P := Un6 P) h (x0, x1, x2, x3, x4, x5)
@[reducible] noncomputable def At7 {α0 α1 α2 α3 α4 α5 α6 : Type} (P : α0 → α1 → α2 → α3 → α4 → α5 → α6 → Prop) (x0 : α0) (x1 : α1) (x2 : α2) (x3 : α3) (x4 : α4) (x5 : α5) (x6 : α6) : Prop := P x0 x1 x2 x3 x4 x5 x6
noncomputable def Un7 {α0 α1 α2 α3 α4 α5 α6 : Type} (P : α0 → α1 → α2 → α3 → α4 → α5 → α6 → Prop) (c : α0 × α1 × α2 × α3 × α4 × α5 × α6) : Prop := P c.1 c.2.1 c.2.2.1 c.2.2.2.1 c.2.2.2.2.1 c.2.2.2.2.2.1 c.2.2.2.2.2.2
theorem hkz7 {α0 α1 α2 α3 α4 α5 α6 : Type} {P : α0 → α1 → α2 → α3 → α4 → α5 → α6 → Prop} (n0 : Nonempty (α0 × α1 × α2 × α3 × α4 × α5 × α6)) (h : At7 P (pick n0 (Un7 P)).1 (pick n0 (Un7 P)).2.1 (pick n0 (Un7 P)).2.2.1 (pick n0 (Un7 P)).2.2.2.1 (pick n0 (Un7 P)).2.2.2.2.1 (pick n0 (Un7 P)).2.2.2.2.2.1 (pick n0 (Un7 P)).2.2.2.2.2.2) : ∀ x0 x1 x2 x3 x4 x5 x6, P x0 x1 x2 x3 x4 x5 x6 := fun x0 x1 x2 x3 x4 x5 x6 => pick_all (P := Un7 P) h (x0, x1, x2, x3, x4, x5, x6)
@[reducible] noncomputable def At8 {α0 α1 α2 α3 α4 α5 α6 α7 : Type} (P : α0 → α1 → α2 → α3 → α4 → α5 → α6 → α7 → Prop) (x0 : α0) (x1 : α1) (x2 : α2) (x3 : α3) (x4 : α4) (x5 : α5) (x6 : α6) (x7 : α7) : Prop := P x0 x1 x2 x3 x4 x5 x6 x7
noncomputable def Un8 {α0 α1 α2 α3 α4 α5 α6 α7 : Type} (P : α0 → α1 → α2 → α3 → α4 → α5 → α6 → α7 → Prop) (c : α0 × α1 × α2 × α3 × α4 × α5 × α6 × α7) : Prop := P c.1 c.2.1 c.2.2.1 c.2.2.2.1 c.2.2.2.2.1 c.2.2.2.2.2.1 c.2.2.2.2.2.2.1 c.2.2.2.2.2.2.2
theorem hkz8 {α0 α1 α2 α3 α4 α5 α6 α7 : Type} {P : α0 → α1 → α2 → α3 → α4 → α5 → α6 → α7 → Prop} (n0 : Nonempty (α0 × α1 × α2 × α3 × α4 × α5 × α6 × α7)) (h : At8 P (pick n0 (Un8 P)).1 (pick n0 (Un8 P)).2.1 (pick n0 (Un8 P)).2.2.1 (pick n0 (Un8 P)).2.2.2.1 (pick n0 (Un8 P)).2.2.2.2.1 (pick n0 (Un8 P)).2.2.2.2.2.1 (pick n0 (Un8 P)).2.2.2.2.2.2.1 (pick n0 (Un8 P)).2.2.2.2.2.2.2) : ∀ x0 x1 x2 x3 x4 x5 x6 x7, P x0 x1 x2 x3 x4 x5 x6 x7 := fun x0 x1 x2 x3 x4 x5 x6 x7 => pick_all (P := Un8 P) h (x0, x1, x2, x3, x4, x5, x6, x7)
@[reducible] noncomputable def At9 {α0 α1 α2 α3 α4 α5 α6 α7 α8 : Type} (P : α0 → α1 → α2 → α3 → α4 → α5 → α6 → α7 → α8 → Prop) (x0 : α0) (x1 : α1) (x2 : α2) (x3 : α3) (x4 : α4) (x5 : α5) (x6 : α6) (x7 : α7) (x8 : α8) : Prop := P x0 x1 x2 x3 x4 x5 x6 x7 x8
noncomputable def Un9 {α0 α1 α2 α3 α4 α5 α6 α7 α8 : Type} (P : α0 → α1 → α2 → α3 → α4 → α5 → α6 → α7 → α8 → Prop) (c : α0 × α1 × α2 × α3 × α4 × α5 × α6 × α7 × α8) : Prop := P c.1 c.2.1 c.2.2.1 c.2.2.2.1 c.2.2.2.2.1 c.2.2.2.2.2.1 c.2.2.2.2.2.2.1 c.2.2.2.2.2.2.2.1 c.2.2.2.2.2.2.2.2
theorem hkz9 {α0 α1 α2 α3 α4 α5 α6 α7 α8 : Type} {P : α0 → α1 → α2 → α3 → α4 → α5 → α6 → α7 → α8 → Prop} (n0 : Nonempty (α0 × α1 × α2 × α3 × α4 × α5 × α6 × α7 × α8)) (h : At9 P (pick n0 (Un9 P)).1 (pick n0 (Un9 P)).2.1 (pick n0 (Un9 P)).2.2.1 (pick n0 (Un9 P)).2.2.2.1 (pick n0 (Un9 P)).2.2.2.2.1 (pick n0 (Un9 P)).2.2.2.2.2.1 (pick n0 (Un9 P)).2.2.2.2.2.2.1 (pick n0 (Un9 P)).2.2.2.2.2.2.2.1 (pick n0 (Un9 P)).2.2.2.2.2.2.2.2) : ∀ x0 x1 x2 x3 x4 x5 x6 x7 x8, P x0 x1 x2 x3 x4 x5 x6 x7 x8 := fun x0 x1 x2 x3 x4 x5 x6 x7 x8 => pick_all (P := Un9 P) h (x0, x1, x2, x3, x4, x5, x6, x7, x8)
@[reducible] noncomputable def At10 {α0 α1 α2 α3 α4 α5 α6 α7 α8 α9 : Type} (P : α0 → α1 → α2 → α3 → α4 → α5 → α6 → α7 → α8 → α9 → Prop) (x0 : α0) (x1 : α1) (x2 : α2) (x3 : α3) (x4 : α4) (x5 : α5) (x6 : α6) (x7 : α7) (x8 : α8) (x9 : α9) : Prop := P x0 x1 x2 x3 x4 x5 x6 x7 x8 x9
noncomputable def Un10 {α0 α1 α2 α3 α4 α5 α6 α7 α8 α9 : Type} (P : α0 → α1 → α2 → α3 → α4 → α5 → α6 → α7 → α8 → α9 → Prop) (c : α0 × α1 × α2 × α3 × α4 × α5 × α6 × α7 × α8 × α9) : Prop := P c.1 c.2.1 c.2.2.1 c.2.2.2.1 c.2.2.2.2.1 c.2.2.2.2.2.1 c.2.2.2.2.2.2.1 c.2.2.2.2.2.2.2.1 c.2.2.2.2.2.2.2.2.1 c.2.2.2.2.2.2.2.2.2
theorem hkz10 {α0 α1 α2 α3 α4 α5 α6 α7 α8 α9 : Type} {P : α0 → α1 → α2 → α3 → α4 → α5 → α6 → α7 → α8 → α9 → Prop} (n0 : Nonempty (α0 × α1 × α2 × α3 × α4 × α5 × α6 × α7 × α8 × α9)) (h : At10 P (pick n0 (Un10 P)).1 (pick n0 (Un10 P)).2.1 (pick n0 (Un10 P)).2.2.1 (pick n0 (Un10 P)).2.2.2.1 (pick n0 (Un10 P)).2.2.2.2.1 (pick n0 (Un10 P)).2.2.2.2.2.1 (pick n0 (Un10 P)).2.2.2.2.2.2.1 (pick n0 (Un10 P)).2.2.2.2.2.2.2.1 (pick n0 (Un10 P)).2.2.2.2.2.2.2.2.1 (pick n0 (Un10 P)).2.2.2.2.2.2.2.2.2) : ∀ x0 x1 x2 x3 x4 x5 x6 x7 x8 x9, P x0 x1 x2 x3 x4 x5 x6 x7 x8 x9 := fun x0 x1 x2 x3 x4 x5 x6 x7 x8 x9 => pick_all (P := Un10 P) h (x0, x1, x2, x3, x4, x5, x6, x7, x8, x9)
@[reducible] noncomputable def At11 {α0 α1 α2 α3 α4 α5 α6 α7 α8 α9 α10 : Type} (P : α0 → α1 → α2 → α3 → α4 → α5 → α6 → α7 → α8 → α9 → α10 → Prop) (x0 : α0) (x1 : α1) (x2 : α2) (x3 : α3) (x4 : α4) (x5 : α5) (x6 : α6) (x7 : α7) (x8 : α8) (x9 : α9) (x10 : α10) : Prop := P x0 x1 x2 x3 x4 x5 x6 x7 x8 x9 x10
noncomputable def Un11 {α0 α1 α2 α3 α4 α5 α6 α7 α8 α9 α10 : Type} (P : α0 → α1 → α2 → α3 → α4 → α5 → α6 → α7 → α8 → α9 → α10 → Prop) (c : α0 × α1 × α2 × α3 × α4 × α5 × α6 × α7 × α8 × α9 × α10) : Prop := P c.1 c.2.1 c.2.2.1 c.2.2.2.1 c.2.2.2.2.1 c.2.2.2.2.2.1 c.2.2.2.2.2.2.1 c.2.2.2.2.2.2.2.1 c.2.2.2.2.2.2.2.2.1 c.2.2.2.2.2.2.2.2.2.1 c.2.2.2.2.2.2.2.2.2.2
theorem hkz11 {α0 α1 α2 α3 α4 α5 α6 α7 α8 α9 α10 : Type} {P : α0 → α1 → α2 → α3 → α4 → α5 → α6 → α7 → α8 → α9 → α10 → Prop} (n0 : Nonempty (α0 × α1 × α2 × α3 × α4 × α5 × α6 × α7 × α8 × α9 × α10)) (h : At11 P (pick n0 (Un11 P)).1 (pick n0 (Un11 P)).2.1 (pick n0 (Un11 P)).2.2.1 (pick n0 (Un11 P)).2.2.2.1 (pick n0 (Un11 P)).2.2.2.2.1 (pick n0 (Un11 P)).2.2.2.2.2.1 (pick n0 (Un11 P)).2.2.2.2.2.2.1 (pick n0 (Un11 P)).2.2.2.2.2.2.2.1 (pick n0 (Un11 P)).2.2.2.2.2.2.2.2.1 (pick n0 (Un11 P)).2.2.2.2.2.2.2.2.2.1 (pick n0 (Un11 P)).2.2.2.2.2.2.2.2.2.2) : ∀ x0 x1 x2 x3 x4 x5 x6 x7 x8 x9 x10, P x0 x1 x2 x3 x4 x5 x6 x7 x8 x9 x10 := fun x0 x1 x2 x3 x4 x5 x6 x7 x8 x9 x10 => pick_all (P := Un11 P) h (x0, x1, x2, x3, x4, x5, x6, x7, x8, x9, x10)
@[reducible] noncomputable def At12 {α0 α1 α2 α3 α4 α5 α6 α7 α8 α9 α10 α11 : Type} (P : α0 → α1 → α2 → α3 → α4 → α5 → α6 → α7 → α8 → α9 → α10 → α11 → Prop) (x0 : α0) (x1 : α1) (x2 : α2) (x3 : α3) (x4 : α4) (x5 : α5) (x6 : α6) (x7 : α7) (x8 : α8) (x9 : α9) (x10 : α10) (x11 : α11) : Prop := P x0 x1 x2 x3 x4 x5 x6 x7 x8 x9 x10 x11
noncomputable def Un12 {α0 α1 α2 α3 α4 α5 α6 α7 α8 α9 α10 α11 : Type} (P : α0 → α1 → α2 → α3 → α4 → α5 → α6 → α7 → α8 → α9 → α10 → α11 → Prop) (c : α0 × α1 × α2 × α3 × α4 × α5 × α6 × α7 × α8 × α9 × α10 × α11) : Prop := P c.1 c.2.1 c.2.2.1 c.2.2.2.1 c.2.2.2.2.1 c.2.2.2.2.2.1 c.2.2.2.2.2.2.1 c.2.2.2.2.2.2.2.1 c.2.2.2.2.2.2.2.2.1 c.2.2.2.2.2.2.2.2.2.1 c.2.2.2.2.2.2.2.2.2.2.1 c.2.2.2.2.2.2.2.2.2.2.2
theorem hkz12 {α0 α1 α2 α3 α4 α5 α6 α7 α8 α9 α10 α11 : Type} {P : α0 → α1 → α2 → α3 → α4 → α5 → α6 → α7 → α8 → α9 → α10 → α11 → Prop} (n0 : Nonempty (α0 × α1 × α2 × α3 × α4 × α5 × α6 × α7 × α8 × α9 × α10 × α11)) (h : At12 P (pick n0 (Un12 P)).1 (pick n0 (Un12 P)).2.1 (pick n0 (Un12 P)).2.2.1 (pick n0 (Un12 P)).2.2.2.1 (pick n0 (Un12 P)).2.2.2.2.1 (pick n0 (Un12 P)).2.2.2.2.2.1 (pick n0 (Un12 P)).2.2.2.2.2.2.1 (pick n0 (Un12 P)).2.2.2.2.2.2.2.1 (pick n0 (Un12 P)).2.2.2.2.2.2.2.2.1 (pick n0 (Un12 P)).2.2.2.2.2.2.2.2.2.1 (pick n0 (Un12 P)).2.2.2.2.2.2.2.2.2.2.1 (pick n0 (Un12 P)).2.2.2.2.2.2.2.2.2.2.2) : ∀ x0 x1 x2 x3 x4 x5 x6 x7 x8 x9 x10 x11, P x0 x1 x2 x3 x4 x5 x6 x7 x8 x9 x10 x11 := fun x0 x1 x2 x3 x4 x5 x6 x7 x8 x9 x10 x11 => pick_all (P := Un12 P) h (x0, x1, x2, x3, x4, x5, x6, x7, x8, x9, x10, x11)
@[reducible] noncomputable def At13 {α0 α1 α2 α3 α4 α5 α6 α7 α8 α9 α10 α11 α12 : Type} (P : α0 → α1 → α2 → α3 → α4 → α5 → α6 → α7 → α8 → α9 → α10 → α11 → α12 → Prop) (x0 : α0) (x1 : α1) (x2 : α2) (x3 : α3) (x4 : α4) (x5 : α5) (x6 : α6) (x7 : α7) (x8 : α8) (x9 : α9) (x10 : α10) (x11 : α11) (x12 : α12) : Prop := P x0 x1 x2 x3 x4 x5 x6 x7 x8 x9 x10 x11 x12
noncomputable def Un13 {α0 α1 α2 α3 α4 α5 α6 α7 α8 α9 α10 α11 α12 : Type} (P : α0 → α1 → α2 → α3 → α4 → α5 → α6 → α7 → α8 → α9 → α10 → α11 → α12 → Prop) (c : α0 × α1 × α2 × α3 × α4 × α5 × α6 × α7 × α8 × α9 × α10 × α11 × α12) : Prop := P c.1 c.2.1 c.2.2.1 c.2.2.2.1 c.2.2.2.2.1 c.2.2.2.2.2.1 c.2.2.2.2.2.2.1 c.2.2.2.2.2.2.2.1 c.2.2.2.2.2.2.2.2.1 c.2.2.2.2.2.2.2.2.2.1 c.2.2.2.2.2.2.2.2.2.2.1 c.2.2.2.2.2.2.2.2.2.2.2.1 c.2.2.2.2.2.2.2.2.2.2.2.2
theorem hkz13 {α0 α1 α2 α3 α4 α5 α6 α7 α8 α9 α10 α11 α12 : Type} {P : α0 → α1 → α2 → α3 → α4 → α5 → α6 → α7 → α8 → α9 → α10 → α11 → α12 → Prop} (n0 : Nonempty (α0 × α1 × α2 × α3 × α4 × α5 × α6 × α7 × α8 × α9 × α10 × α11 × α12)) (h : At13 P (pick n0 (Un13 P)).1 (pick n0 (Un13 P)).2.1 (pick n0 (Un13 P)).2.2.1 (pick n0 (Un13 P)).2.2.2.1 (pick n0 (Un13 P)).2.2.2.2.1 (pick n0 (Un13 P)).2.2.2.2.2.1 (pick n0 (Un13 P)).2.2.2.2.2.2.1 (pick n0 (Un13 P)).2.2.2.2.2.2.2.1 (pick n0 (Un13 P)).2.2.2.2.2.2.2.2.1 (pick n0 (Un13 P)).2.2.2.2.2.2.2.2.2.1 (pick n0 (Un13 P)).2.2.2.2.2.2.2.2.2.2.1 (pick n0 (Un13 P)).2.2.2.2.2.2.2.2.2.2.2.1 (pick n0 (Un13 P)).2.2.2.2.2.2.2.2.2.2.2.2) : ∀ x0 x1 x2 x3 x4 x5 x6 x7 x8 x9 x10 x11 x12, P x0 x1 x2 x3 x4 x5 x6 x7 x8 x9 x10 x11 x12 := fun x0 x1 x2 x3 x4 x5 x6 x7 x8 x9 x10 x11 x12 => pick_all (P := Un13 P) h (x0, x1, x2, x3, x4, x5, x6, x7, x8, x9, x10, x11, x12)
@[reducible] noncomputable def At14 {α0 α1 α2 α3 α4 α5 α6 α7 α8 α9 α10 α11 α12 α13 : Type} (P : α0 → α1 → α2 → α3 → α4 → α5 → α6 → α7 → α8 → α9 → α10 → α11 → α12 → α13 → Prop) (x0 : α0) (x1 : α1) (x2 : α2) (x3 : α3) (x4 : α4) (x5 : α5) (x6 : α6) (x7 : α7) (x8 : α8) (x9 : α9) (x10 : α10) (x11 : α11) (x12 : α12) (x13 : α13) : Prop := P x0 x1 x2 x3 x4 x5 x6 x7 x8 x9 x10 x11 x12 x13
noncomputable def Un14 {α0 α1 α2 α3 α4 α5 α6 α7 α8 α9 α10 α11 α12 α13 : Type} (P : α0 → α1 → α2 → α3 → α4 → α5 → α6 → α7 → α8 → α9 → α10 → α11 → α12 → α13 → Prop) (c : α0 × α1 × α2 × α3 × α4 × α5 × α6 × α7 × α8 × α9 × α10 × α11 × α12 × α13) : Prop := P c.1 c.2.1 c.2.2.1 c.2.2.2.1 c.2.2.2.2.1 c.2.2.2.2.2.1 c.2.2.2.2.2.2.1 c.2.2.2.2.2.2.2.1 c.2.2.2.2.2.2.2.2.1 c.2.2.2.2.2.2.2.2.2.1 c.2.2.2.2.2.2.2.2.2.2.1 c.2.2.2.2.2.2.2.2.2.2.2.1 c.2.2.2.2.2.2.2.2.2.2.2.2.1 c.2.2.2.2.2.2.2.2.2.2.2.2.2
theorem hkz14 {α0 α1 α2 α3 α4 α5 α6 α7 α8 α9 α10 α11 α12 α13 : Type} {P : α0 → α1 → α2 → α3 → α4 → α5 → α6 → α7 → α8 → α9 → α10 → α11 → α12 → α13 → Prop} (n0 : Nonempty (α0 × α1 × α2 × α3 × α4 × α5 × α6 × α7 × α8 × α9 × α10 × α11 × α12 × α13)) (h : At14 P (pick n0 (Un14 P)).1 (pick n0 (Un14 P)).2.1 (pick n0 (Un14 P)).2.2.1 (pick n0 (Un14 P)).2.2.2.1 (pick n0 (Un14 P)).2.2.2.2.1 (pick n0 (Un14 P)).2.2.2.2.2.1 (pick n0 (Un14 P)).2.2.2.2.2.2.1 (pick n0 (Un14 P)).2.2.2.2.2.2.2.1 (pick n0 (Un14 P)).2.2.2.2.2.2.2.2.1 (pick n0 (Un14 P)).2.2.2.2.2.2.2.2.2.1 (pick n0 (Un14 P)).2.2.2.2.2.2.2.2.2.2.1 (pick n0 (Un14 P)).2.2.2.2.2.2.2.2.2.2.2.1 (pick n0 (Un14 P)).2.2.2.2.2.2.2.2.2.2.2.2.1 (pick n0 (Un14 P)).2.2.2.2.2.2.2.2.2.2.2.2.2) : ∀ x0 x1 x2 x3 x4 x5 x6 x7 x8 x9 x10 x11 x12 x13, P x0 x1 x2 x3 x4 x5 x6 x7 x8 x9 x10 x11 x12 x13 := fun x0 x1 x2 x3 x4 x5 x6 x7 x8 x9 x10 x11 x12 x13 => pick_all (P := Un14 P) h (x0, x1, x2, x3, x4, x5, x6, x7, x8, x9, x10, x11, x12, x13)
@[reducible] noncomputable def At15 {α0 α1 α2 α3 α4 α5 α6 α7 α8 α9 α10 α11 α12 α13 α14 : Type} (P : α0 → α1 → α2 → α3 → α4 → α5 → α6 → α7 → α8 → α9 → α10 → α11 → α12 → α13 → α14 → Prop) (x0 : α0) (x1 : α1) (x2 : α2) (x3 : α3) (x4 : α4) (x5 : α5) (x6 : α6) (x7 : α7) (x8 : α8) (x9 : α9) (x10 : α10) (x11 : α11) (x12 : α12) (x13 : α13) (x14 : α14) : Prop := P x0 x1 x2 x3 x4 x5 x6 x7 x8 x9 x10 x11 x12 x13 x14
noncomputable def Un15 {α0 α1 α2 α3 α4 α5 α6 α7 α8 α9 α10 α11 α12 α13 α14 : Type} (P : α0 → α1 → α2 → α3 → α4 → α5 → α6 → α7 → α8 → α9 → α10 → α11 → α12 → α13 → α14 → Prop) (c : α0 × α1 × α2 × α3 × α4 × α5 × α6 × α7 × α8 × α9 × α10 × α11 × α12 × α13 × α14) : Prop := P c.1 c.2.1 c.2.2.1 c.2.2.2.1 c.2.2.2.2.1 c.2.2.2.2.2.1 c.2.2.2.2.2.2.1 c.2.2.2.2.2.2.2.1 c.2.2.2.2.2.2.2.2.1 c.2.2.2.2.2.2.2.2.2.1 c.2.2.2.2.2.2.2.2.2.2.1 c.2.2.2.2.2.2.2.2.2.2.2.1 c.2.2.2.2.2.2.2.2.2.2.2.2.1 c.2.2.2.2.2.2.2.2.2.2.2.2.2.1 c.2.2.2.2.2.2.2.2.2.2.2.2.2.2
theorem hkz15 {α0 α1 α2 α3 α4 α5 α6 α7 α8 α9 α10 α11 α12 α13 α14 : Type} {P : α0 → α1 → α2 → α3 → α4 → α5 → α6 → α7 → α8 → α9 → α10 → α11 → α12 → α13 → α14 → Prop} (n0 : Nonempty (α0 × α1 × α2 × α3 × α4 × α5 × α6 × α7 × α8 × α9 × α10 × α11 × α12 × α13 × α14)) (h : At15 P (pick n0 (Un15 P)).1 (pick n0 (Un15 P)).2.1 (pick n0 (Un15 P)).2.2.1 (pick n0 (Un15 P)).2.2.2.1 (pick n0 (Un15 P)).2.2.2.2.1 (pick n0 (Un15 P)).2.2.2.2.2.1 (pick n0 (Un15 P)).2.2.2.2.2.2.1 (pick n0 (Un15 P)).2.2.2.2.2.2.2.1 (pick n0 (Un15 P)).2.2.2.2.2.2.2.2.1 (pick n0 (Un15 P)).2.2.2.2.2.2.2.2.2.1 (pick n0 (Un15 P)).2.2.2.2.2.2.2.2.2.2.1 (pick n0 (Un15 P)).2.2.2.2.2.2.2.2.2.2.2.1 (pick n0 (Un15 P)).2.2.2.2.2.2.2.2.2.2.2.2.1 (pick n0 (Un15 P)).2.2.2.2.2.2.2.2.2.2.2.2.2.1 (pick n0 (Un15 P)).2.2.2.2.2.2.2.2.2.2.2.2.2.2) : ∀ x0 x1 x2 x3 x4 x5 x6 x7 x8 x9 x10 x11 x12 x13 x14, P x0 x1 x2 x3 x4 x5 x6 x7 x8 x9 x10 x11 x12 x13 x14 := fun x0 x1 x2 x3 x4 x5 x6 x7 x8 x9 x10 x11 x12 x13 x14 => pick_all (P := Un15 P) h (x0, x1, x2, x3, x4, x5, x6, x7, x8, x9, x10, x11, x12, x13, x14)
@[reducible] noncomputable def At16 {α0 α1 α2 α3 α4 α5 α6 α7 α8 α9 α10 α11 α12 α13 α14 α15 : Type} (P : α0 → α1 → α2 → α3 → α4 → α5 → α6 → α7 → α8 → α9 → α10 → α11 → α12 → α13 → α14 → α15 → Prop) (x0 : α0) (x1 : α1) (x2 : α2) (x3 : α3) (x4 : α4) (x5 : α5) (x6 : α6) (x7 : α7) (x8 : α8) (x9 : α9) (x10 : α10) (x11 : α11) (x12 : α12) (x13 : α13) (x14 : α14) (x15 : α15) : Prop := P x0 x1 x2 x3 x4 x5 x6 x7 x8 x9 x10 x11 x12 x13 x14 x15
noncomputable def Un16 {α0 α1 α2 α3 α4 α5 α6 α7 α8 α9 α10 α11 α12 α13 α14 α15 : Type} (P : α0 → α1 → α2 → α3 → α4 → α5 → α6 → α7 → α8 → α9 → α10 → α11 → α12 → α13 → α14 → α15 → Prop) (c : α0 × α1 × α2 × α3 × α4 × α5 × α6 × α7 × α8 × α9 × α10 × α11 × α12 × α13 × α14 × α15) : Prop := P c.1 c.2.1 c.2.2.1 c.2.2.2.1 c.2.2.2.2.1 c.2.2.2.2.2.1 c.2.2.2.2.2.2.1 c.2.2.2.2.2.2.2.1 c.2.2.2.2.2.2.2.2.1 c.2.2.2.2.2.2.2.2.2.1 c.2.2.2.2.2.2.2.2.2.2.1 c.2.2.2.2.2.2.2.2.2.2.2.1 c.2.2.2.2.2.2.2.2.2.2.2.2.1 c.2.2.2.2.2.2.2.2.2.2.2.2.2.1 c.2.2.2.2.2.2.2.2.2.2.2.2.2.2.1 c.2.2.2.2.2.2.2.2.2.2.2.2.2.2.2
theorem hkz16 {α0 α1 α2 α3 α4 α5 α6 α7 α8 α9 α10 α11 α12 α13 α14 α15 : Type} {P : α0 → α1 → α2 → α3 → α4 → α5 → α6 → α7 → α8 → α9 → α10 → α11 → α12 → α13 → α14 → α15 → Prop} (n0 : Nonempty (α0 × α1 × α2 × α3 × α4 × α5 × α6 × α7 × α8 × α9 × α10 × α11 × α12 × α13 × α14 × α15)) (h : At16 P (pick n0 (Un16 P)).1 (pick n0 (Un16 P)).2.1 (pick n0 (Un16 P)).2.2.1 (pick n0 (Un16 P)).2.2.2.1 (pick n0 (Un16 P)).2.2.2.2.1 (pick n0 (Un16 P)).2.2.2.2.2.1 (pick n0 (Un16 P)).2.2.2.2.2.2.1 (pick n0 (Un16 P)).2.2.2.2.2.2.2.1 (pick n0 (Un16 P)).2.2.2.2.2.2.2.2.1 (pick n0 (Un16 P)).2.2.2.2.2.2.2.2.2.1 (pick n0 (Un16 P)).2.2.2.2.2.2.2.2.2.2.1 (pick n0 (Un16 P)).2.2.2.2.2.2.2.2.2.2.2.1 (pick n0 (Un16 P)).2.2.2.2.2.2.2.2.2.2.2.2.1 (pick n0 (Un16 P)).2.2.2.2.2.2.2.2.2.2.2.2.2.1 (pick n0 (Un16 P)).2.2.2.2.2.2.2.2.2.2.2.2.2.2.1 (pick n0 (Un16 P)).2.2.2.2.2.2.2.2.2.2.2.2.2.2.2) : ∀ x0 x1 x2 x3 x4 x5 x6 x7 x8 x9 x10 x11 x12 x13 x14 x15, P x0 x1 x2 x3 x4 x5 x6 x7 x8 x9 x10 x11 x12 x13 x14 x15 := fun x0 x1 x2 x3 x4 x5 x6 x7 x8 x9 x10 x11 x12 x13 x14 x15 => pick_all (P := Un16 P) h (x0, x1, x2, x3, x4, x5, x6, x7, x8, x9, x10, x11, x12, x13, x14, x15)
@[reducible] noncomputable def At17 {α0 α1 α2 α3 α4 α5 α6 α7 α8 α9 α10 α11 α12 α13 α14 α15 α16 : Type} (P : α0 → α1 → α2 → α3 → α4 → α5 → α6 → α7 → α8 → α9 → α10 → α11 → α12 → α13 → α14 → α15 → α16 → Prop) (x0 : α0) (x1 : α1) (x2 : α2) (x3 : α3) (x4 : α4) (x5 : α5) (x6 : α6) (x7 : α7) (x8 : α8) (x9 : α9) (x10 : α10) (x11 : α11) (x12 : α12) (x13 : α13) (x14 : α14) (x15 : α15) (x16 : α16) : Prop := P x0 x1 x2 x3 x4 x5 x6 x7 x8 x9 x10 x11 x12 x13 x14 x15 x16
noncomputable def Un17 {α0 α1 α2 α3 α4 α5 α6 α7 α8 α9 α10 α11 α12 α13 α14 α15 α16 : Type} (P : α0 → α1 → α2 → α3 → α4 → α5 → α6 → α7 → α8 → α9 → α10 → α11 → α12 → α13 → α14 → α15 → α16 → Prop) (c : α0 × α1 × α2 × α3 × α4 × α5 × α6 × α7 × α8 × α9 × α10 × α11 × α12 × α13 × α14 × α15 × α16) : Prop := P c.1 c.2.1 c.2.2.1 c.2.2.2.1 c.2.2.2.2.1 c.2.2.2.2.2.1 c.2.2.2.2.2.2.1 c.2.2.2.2.2.2.2.1 c.2.2.2.2.2.2.2.2.1 c.2.2.2.2.2.2.2.2.2.1 c.2.2.2.2.2.2.2.2.2.2.1 c.2.2.2.2.2.2.2.2.2.2.2.1 c.2.2.2.2.2.2.2.2.2.2.2.2.1 c.2.2.2.2.2.2.2.2.2.2.2.2.2.1 c.2.2.2.2.2.2.2.2.2.2.2.2.2.2.1 c.2.2.2.2.2.2.2.2.2.2.2.2.2.2.2.1 c.2.2.2.2.2.2.2.2.2.2.2.2.2.2.2.2
theorem hkz17 {α0 α1 α2 α3 α4 α5 α6 α7 α8 α9 α10 α11 α12 α13 α14 α15 α16 : Type} {P : α0 → α1 → α2 → α3 → α4 → α5 → α6 → α7 → α8 → α9 → α10 → α11 → α12 → α13 → α14 → α15 → α16 → Prop} (n0 : Nonempty (α0 × α1 × α2 × α3 × α4 × α5 × α6 × α7 × α8 × α9 × α10 × α11 × α12 × α13 × α14 × α15 × α16)) (h : At17 P (pick n0 (Un17 P)).1 (pick n0 (Un17 P)).2.1 (pick n0 (Un17 P)).2.2.1 (pick n0 (Un17 P)).2.2.2.1 (pick n0 (Un17 P)).2.2.2.2.1 (pick n0 (Un17 P)).2.2.2.2.2.1 (pick n0 (Un17 P)).2.2.2.2.2.2.1 (pick n0 (Un17 P)).2.2.2.2.2.2.2.1 (pick n0 (Un17 P)).2.2.2.2.2.2.2.2.1 (pick n0 (Un17 P)).2.2.2.2.2.2.2.2.2.1 (pick n0 (Un17 P)).2.2.2.2.2.2.2.2.2.2.1 (pick n0 (Un17 P)).2.2.2.2.2.2.2.2.2.2.2.1 (pick n0 (Un17 P)).2.2.2.2.2.2.2.2.2.2.2.2.1 (pick n0 (Un17 P)).2.2.2.2.2.2.2.2.2.2.2.2.2.1 (pick n0 (Un17 P)).2.2.2.2.2.2.2.2.2.2.2.2.2.2.1 (pick n0 (Un17 P)).2.2.2.2.2.2.2.2.2.2.2.2.2.2.2.1 (pick n0 (Un17 P)).2.2.2.2.2.2.2.2.2.2.2.2.2.2.2.2) : ∀ x0 x1 x2 x3 x4 x5 x6 x7 x8 x9 x10 x11 x12 x13 x14 x15 x16, P x0 x1 x2 x3 x4 x5 x6 x7 x8 x9 x10 x11 x12 x13 x14 x15 x16 := fun x0 x1 x2 x3 x4 x5 x6 x7 x8 x9 x10 x11 x12 x13 x14 x15 x16 => pick_all (P := Un17 P) h (x0, x1, x2, x3, x4, x5, x6, x7, x8, x9, x10, x11, x12, x13, x14, x15, x16)
@[reducible] noncomputable def At18 {α0 α1 α2 α3 α4 α5 α6 α7 α8 α9 α10 α11 α12 α13 α14 α15 α16 α17 : Type} (P : α0 → α1 → α2 → α3 → α4 → α5 → α6 → α7 → α8 → α9 → α10 → α11 → α12 → α13 → α14 → α15 → α16 → α17 → Prop) (x0 : α0) (x1 : α1) (x2 : α2) (x3 : α3) (x4 : α4) (x5 : α5) (x6 : α6) (x7 : α7) (x8 : α8) (x9 : α9) (x10 : α10) (x11 : α11) (x12 : α12) (x13 : α13) (x14 : α14) (x15 : α15) (x16 : α16) (x17 : α17) : Prop := P x0 x1 x2 x3 x4 x5 x6 x7 x8 x9 x10 x11 x12 x13 x14 x15 x16 x17
noncomputable def Un18 {α0 α1 α2 α3 α4 α5 α6 α7 α8 α9 α10 α11 α12 α13 α14 α15 α16 α17 : Type} (P : α0 → α1 → α2 → α3 → α4 → α5 → α6 → α7 → α8 → α9 → α10 → α11 → α12 → α13 → α14 → α15 → α16 → α17 → Prop) (c : α0 × α1 × α2 × α3 × α4 × α5 × α6 × α7 × α8 × α9 × α10 × α11 × α12 × α13 × α14 × α15 × α16 × α17) : Prop := P c.1 c.2.1 c.2.2.1 c.2.2.2.1 c.2.2.2.2.1 c.2.2.2.2.2.1 c.2.2.2.2.2.2.1 c.2.2.2.2.2.2.2.1 c.2.2.2.2.2.2.2.2.1 c.2.2.2.2.2.2.2.2.2.1 c.2.2.2.2.2.2.2.2.2.2.1 c.2.2.2.2.2.2.2.2.2.2.2.1 c.2.2.2.2.2.2.2.2.2.2.2.2.1 c.2.2.2.2.2.2.2.2.2.2.2.2.2.1 c.2.2.2.2.2.2.2.2.2.2.2.2.2.2.1 c.2.2.2.2.2.2.2.2.2.2.2.2.2.2.2.1 c.2.2.2.2.2.2.2.2.2.2.2.2.2.2.2.2.1 c.2.2.2.2.2.2.2.2.2.2.2.2.2.2.2.2.2
theorem hkz18 {α0 α1 α2 α3 α4 α5 α6 α7 α8 α9 α10 α11 α12 α13 α14 α15 α16 α17 : Type} {P : α0 → α1 → α2 → α3 → α4 → α5 → α6 → α7 → α8 → α9 → α10 → α11 → α12 → α13 → α14 → α15 → α16 → α17 → Prop} (n0 : Nonempty (α0 × α1 × α2 × α3 × α4 × α5 × α6 × α7 × α8 × α9 × α10 × α11 × α12 × α13 × α14 × α15 × α16 × α17)) (h : At18 P (pick n0 (Un18 P)).1 (pick n0 (Un18 P)).2.1 (pick n0 (Un18 P)).2.2.1 (pick n0 (Un18 P)).2.2.2.1 (pick n0 (Un18 P)).2.2.2.2.1 (pick n0 (Un18 P)).2.2.2.2.2.1 (pick n0 (Un18 P)).2.2.2.2.2.2.1 (pick n0 (Un18 P)).2.2.2.2.2.2.2.1 (pick n0 (Un18 P)).2.2.2.2.2.2.2.2.1 (pick n0 (Un18 P)).2.2.2.2.2.2.2.2.2.1 (pick n0 (Un18 P)).2.2.2.2.2.2.2.2.2.2.1 (pick n0 (Un18 P)).2.2.2.2.2.2.2.2.2.2.2.1 (pick n0 (Un18 P)).2.2.2.2.2.2.2.2.2.2.2.2.1 (pick n0 (Un18 P)).2.2.2.2.2.2.2.2.2.2.2.2.2.1 (pick n0 (Un18 P)).2.2.2.2.2.2.2.2.2.2.2.2.2.2.1 (pick n0 (Un18 P)).2.2.2.2.2.2.2.2.2.2.2.2.2.2.2.1 (pick n0 (Un18 P)).2.2.2.2.2.2.2.2.2.2.2.2.2.2.2.2.1 (pick n0 (Un18 P)).2.2.2.2.2.2.2.2.2.2.2.2.2.2.2.2.2) : ∀ x0 x1 x2 x3 x4 x5 x6 x7 x8 x9 x10 x11 x12 x13 x14 x15 x16 x17, P x0 x1 x2 x3 x4 x5 x6 x7 x8 x9 x10 x11 x12 x13 x14 x15 x16 x17 := fun x0 x1 x2 x3 x4 x5 x6 x7 x8 x9 x10 x11 x12 x13 x14 x15 x16 x17 => pick_all (P := Un18 P) h (x0, x1, x2, x3, x4, x5, x6, x7, x8, x9, x10, x11, x12, x13, x14, x15, x16, x17)
@[reducible] noncomputable def At19 {α0 α1 α2 α3 α4 α5 α6 α7 α8 α9 α10 α11 α12 α13 α14 α15 α16 α17 α18 : Type} (P : α0 → α1 → α2 → α3 → α4 → α5 → α6 → α7 → α8 → α9 → α10 → α11 → α12 → α13 → α14 → α15 → α16 → α17 → α18 → Prop) (x0 : α0) (x1 : α1) (x2 : α2) (x3 : α3) (x4 : α4) (x5 : α5) (x6 : α6) (x7 : α7) (x8 : α8) (x9 : α9) (x10 : α10) (x11 : α11) (x12 : α12) (x13 : α13) (x14 : α14) (x15 : α15) (x16 : α16) (x17 : α17) (x18 : α18) : Prop := P x0 x1 x2 x3 x4 x5 x6 x7 x8 x9 x10 x11 x12 x13 x14 x15 x16 x17 x18
noncomputable def Un19 {α0 α1 α2 α3 α4 α5 α6 α7 α8 α9 α10 α11 α12 α13 α14 α15 α16 α17 α18 : Type} (P : α0 → α1 → α2 → α3 → α4 → α5 → α6 → α7 → α8 → α9 → α10 → α11 → α12 → α13 → α14 → α15 → α16 → α17 → α18 → Prop) (c : α0 × α1 × α2 × α3 × α4 × α5 × α6 × α7 × α8 × α9 × α10 × α11 × α12 × α13 × α14 × α15 × α16 × α17 × α18) : Prop := P c.1 c.2.1 c.2.2.1 c.2.2.2.1 c.2.2.2.2.1 c.2.2.2.2.2.1 c.2.2.2.2.2.2.1 c.2.2.2.2.2.2.2.1 c.2.2.2.2.2.2.2.2.1 c.2.2.2.2.2.2.2.2.2.1 c.2.2.2.2.2.2.2.2.2.2.1 c.2.2.2.2.2.2.2.2.2.2.2.1 c.2.2.2.2.2.2.2.2.2.2.2.2.1 c.2.2.2.2.2.2.2.2.2.2.2.2.2.1 c.2.2.2.2.2.2.2.2.2.2.2.2.2.2.1 c.2.2.2.2.2.2.2.2.2.2.2.2.2.2.2.1 c.2.2.2.2.2.2.2.2.2.2.2.2.2.2.2.2.1 c.2.2.2.2.2.2.2.2.2.2.2.2.2.2.2.2.2.1 c.2.2.2.2.2.2.2.2.2.2.2.2.2.2.2.2.2.2
theorem hkz19 {α0 α1 α2 α3 α4 α5 α6 α7 α8 α9 α10 α11 α12 α13 α14 α15 α16 α17 α18 : Type} {P : α0 → α1 → α2 → α3 → α4 → α5 → α6 → α7 → α8 → α9 → α10 → α11 → α12 → α13 → α14 → α15 → α16 → α17 → α18 → Prop} (n0 : Nonempty (α0 × α1 × α2 × α3 × α4 × α5 × α6 × α7 × α8 × α9 × α10 × α11 × α12 × α13 × α14 × α15 × α16 × α17 × α18)) (h : At19 P (pick n0 (Un19 P)).1 (pick n0 (Un19 P)).2.1 (pick n0 (Un19 P)).2.2.1 (pick n0 (Un19 P)).2.2.2.1 (pick n0 (Un19 P)).2.2.2.2.1 (pick n0 (Un19 P)).2.2.2.2.2.1 (pick n0 (Un19 P)).2.2.2.2.2.2.1 (pick n0 (Un19 P)).2.2.2.2.2.2.2.1 (pick n0 (Un19 P)).2.2.2.2.2.2.2.2.1 (pick n0 (Un19 P)).2.2.2.2.2.2.2.2.2.1 (pick n0 (Un19 P)).2.2.2.2.2.2.2.2.2.2.1 (pick n0 (Un19 P)).2.2.2.2.2.2.2.2.2.2.2.1 (pick n0 (Un19 P)).2.2.2.2.2.2.2.2.2.2.2.2.1 (pick n0 (Un19 P)).2.2.2.2.2.2.2.2.2.2.2.2.2.1 (pick n0 (Un19 P)).2.2.2.2.2.2.2.2.2.2.2.2.2.2.1 (pick n0 (Un19 P)).2.2.2.2.2.2.2.2.2.2.2.2.2.2.2.1 (pick n0 (Un19 P)).2.2.2.2.2.2.2.2.2.2.2.2.2.2.2.2.1 (pick n0 (Un19 P)).2.2.2.2.2.2.2.2.2.2.2.2.2.2.2.2.2.1 (pick n0 (Un19 P)).2.2.2.2.2.2.2.2.2.2.2.2.2.2.2.2.2.2) : ∀ x0 x1 x2 x3 x4 x5 x6 x7 x8 x9 x10 x11 x12 x13 x14 x15 x16 x17 x18, P x0 x1 x2 x3 x4 x5 x6 x7 x8 x9 x10 x11 x12 x13 x14 x15 x16 x17 x18 := fun x0 x1 x2 x3 x4 x5 x6 x7 x8 x9 x10 x11 x12 x13 x14 x15 x16 x17 x18 => pick_all (P := Un19 P) h (x0, x1, x2, x3, x4, x5, x6, x7, x8, x9, x10, x11, x12, x13, x14, x15, x16, x17, x18)
@[reducible] noncomputable def At20 {α0 α1 α2 α3 α4 α5 α6 α7 α8 α9 α10 α11 α12 α13 α14 α15 α16 α17 α18 α19 : Type} (P : α0 → α1 → α2 → α3 → α4 → α5 → α6 → α7 → α8 → α9 → α10 → α11 → α12 → α13 → α14 → α15 → α16 → α17 → α18 → α19 → Prop) (x0 : α0) (x1 : α1) (x2 : α2) (x3 : α3) (x4 : α4) (x5 : α5) (x6 : α6) (x7 : α7) (x8 : α8) (x9 : α9) (x10 : α10) (x11 : α11) (x12 : α12) (x13 : α13) (x14 : α14) (x15 : α15) (x16 : α16) (x17 : α17) (x18 : α18) (x19 : α19) : Prop := P x0 x1 x2 x3 x4 x5 x6 x7 x8 x9 x10 x11 x12 x13 x14 x15 x16 x17 x18 x19
noncomputable def Un20 {α0 α1 α2 α3 α4 α5 α6 α7 α8 α9 α10 α11 α12 α13 α14 α15 α16 α17 α18 α19 : Type} (P : α0 → α1 → α2 → α3 → α4 → α5 → α6 → α7 → α8 → α9 → α10 → α11 → α12 → α13 → α14 → α15 → α16 → α17 → α18 → α19 → Prop) (c : α0 × α1 × α2 × α3 × α4 × α5 × α6 × α7 × α8 × α9 × α10 × α11 × α12 × α13 × α14 × α15 × α16 × α17 × α18 × α19) : Prop := P c.1 c.2.1 c.2.2.1 c.2.2.2.1 c.2.2.2.2.1 c.2.2.2.2.2.1 c.2.2.2.2.2.2.1 c.2.2.2.2.2.2.2.1 c.2.2.2.2.2.2.2.2.1 c.2.2.2.2.2.2.2.2.2.1 c.2.2.2.2.2.2.2.2.2.2.1 c.2.2.2.2.2.2.2.2.2.2.2.1 c.2.2.2.2.2.2.2.2.2.2.2.2.1 c.2.2.2.2.2.2.2.2.2.2.2.2.2.1 c.2.2.2.2.2.2.2.2.2.2.2.2.2.2.1 c.2.2.2.2.2.2.2.2.2.2.2.2.2.2.2.1 c.2.2.2.2.2.2.2.2.2.2.2.2.2.2.2.2.1 c.2.2.2.2.2.2.2.2.2.2.2.2.2.2.2.2.2.1 c.2.2.2.2.2.2.2.2.2.2.2.2.2.2.2.2.2.2.1 c.2.2.2.2.2.2.2.2.2.2.2.2.2.2.2.2.2.2.2
theorem hkz20 {α0 α1 α2 α3 α4 α5 α6 α7 α8 α9 α10 α11 α12 α13 α14 α15 α16 α17 α18 α19 : Type} {P : α0 → α1 → α2 → α3 → α4 → α5 → α6 → α7 → α8 → α9 → α10 → α11 → α12 → α13 → α14 → α15 → α16 → α17 → α18 → α19 → Prop} (n0 : Nonempty (α0 × α1 × α2 × α3 × α4 × α5 × α6 × α7 × α8 × α9 × α10 × α11 × α12 × α13 × α14 × α15 × α16 × α17 × α18 × α19)) (h : At20 P (pick n0 (Un20 P)).1 (pick n0 (Un20 P)).2.1 (pick n0 (Un20 P)).2.2.1 (pick n0 (Un20 P)).2.2.2.1 (pick n0 (Un20 P)).2.2.2.2.1 (pick n0 (Un20 P)).2.2.2.2.2.1 (pick n0 (Un20 P)).2.2.2.2.2.2.1 (pick n0 (Un20 P)).2.2.2.2.2.2.2.1 (pick n0 (Un20 P)).2.2.2.2.2.2.2.2.1 (pick n0 (Un20 P)).2.2.2.2.2.2.2.2.2.1 (pick n0 (Un20 P)).2.2.2.2.2.2.2.2.2.2.1 (pick n0 (Un20 P)).2.2.2.2.2.2.2.2.2.2.2.1 (pick n0 (Un20 P)).2.2.2.2.2.2.2.2.2.2.2.2.1 (pick n0 (Un20 P)).2.2.2.2.2.2.2.2.2.2.2.2.2.1 (pick n0 (Un20 P)).2.2.2.2.2.2.2.2.2.2.2.2.2.2.1 (pick n0 (Un20 P)).2.2.2.2.2.2.2.2.2.2.2.2.2.2.2.1 (pick n0 (Un20 P)).2.2.2.2.2.2.2.2.2.2.2.2.2.2.2.2.1 (pick n0 (Un20 P)).2.2.2.2.2.2.2.2.2.2.2.2.2.2.2.2.2.1 (pick n0 (Un20 P)).2.2.2.2.2.2.2.2.2.2.2.2.2.2.2.2.2.2.1 (pick n0 (Un20 P)).2.2.2.2.2.2.2.2.2.2.2.2.2.2.2.2.2.2.2) : ∀ x0 x1 x2 x3 x4 x5 x6 x7 x8 x9 x10 x11 x12 x13 x14 x15 x16 x17 x18 x19, P x0 x1 x2 x3 x4 x5 x6 x7 x8 x9 x10 x11 x12 x13 x14 x15 x16 x17 x18 x19 := fun x0 x1 x2 x3 x4 x5 x6 x7 x8 x9 x10 x11 x12 x13 x14 x15 x16 x17 x18 x19 => pick_all (P := Un20 P) h (x0, x1, x2, x3, x4, x5, x6, x7, x8, x9, x10, x11, x12, x13, x14, x15, x16, x17, x18, x19)
/-! ### small sums: what omega would prove at length -/
theorem sh_0 {a b : Nat} (h : a < b) : a < b := h
theorem sh_1 {a b : Nat} (h : a ≤ b) : a ≤ b := h
theorem sh_2 {a b : Int} (h : a < b) : a < b := h
theorem sh_3 {a b : Int} (h : a ≤ b) : a ≤ b := h
theorem sh_4 {p : Prop} (h : p) : p := h
theorem om_lim0 {n K m : Nat} (h : n + K < m) : n < m := Nat.lt_of_le_of_lt (Nat.le_add_right n K) h
theorem om_lim1 {n K m k : Nat} (h : n + K < m) (hk : k ≤ K) : n + k < m := Nat.lt_of_le_of_lt (Nat.add_le_add_left hk n) h
theorem om_lim2 {n K m a b : Nat} (h : n + K < m) (hk : a + b ≤ K) : n + a + b < m := by lia
theorem om_le {a k N : Nat} (h : a ≤ k) (hk : k ≤ N) : a ≤ N := Nat.le_trans h hk
theorem om_le_eq {a k N : Nat} (h : a = k) (hk : k ≤ N) : a ≤ N := h ▸ hk
theorem om_le2 {a b k N : Nat} (h : a ≤ b) (h2 : b ≤ k) (hk : k ≤ N) : a ≤ N := by lia
theorem om_le2e {a b k N : Nat} (h : a = b) (h2 : b ≤ k) (hk : k ≤ N) : a ≤ N := by lia
theorem om_le3 {a b c k N : Nat} (h : a ≤ b) (h2 : b < c) (h3 : c ≤ k) (hk : k ≤ N) : a ≤ N := by lia
theorem om_lt {a b k N : Nat} (h : a < b) (h2 : b ≤ k) (hk : k ≤ N) : a < N := by lia
theorem om_lt2 {a b k N : Nat} (h : a ≤ b) (h2 : b ≤ k) (hk : k < N) : a < N := by lia
theorem om_succ {a b : Nat} (h : a < b) : a + 1 ≤ b := h
theorem om_anti {a b : Nat} (h : a ≤ b) (h2 : ¬ a < b) : a = b := by lia
theorem om_ge {a b : Nat} (h : ¬ a < b) : b ≤ a := by lia
theorem om_sub {a b : Nat} (h : a < b) : b - (a + 1) < b - a := by lia
theorem om_subN {a b k : Nat} (h : a < b) (hb : b ≤ k) : k - (a + 1) < k - a := by lia
theorem om_ltZ {a b : Nat} (h : a < b) : (a : Int) < (b : Int) := by lia
theorem om_neg (a b : Nat) : -(b : Int) ≤ (a : Int) := by lia
theorem om_neg1 (a b : Nat) : -(b : Int) ≤ (a : Int) + 1 := by lia
theorem om_n63 (a : Nat) : (-9223372036854775808 : Int) < (a : Int) := by lia
theorem om_n63' (a : Nat) : (-9223372036854775808 : Int) < (a : Int) + 1 := by lia
theorem om_63 {a b k : Nat} (h : a < b) (h2 : b ≤ k) (hk : k ≤ 1000000) : (a : Int) < 9223372036854775808 := by lia
theorem om_63Z {a b k : Nat} (h : (a : Int) < (b : Int)) (h2 : b ≤ k) (hk : k ≤ 1000000) : (a : Int) < 9223372036854775808 := by lia
theorem om_le_succ {a b : Nat} (h : a ≤ b) : a ≤ b + 1 := Nat.le_succ_of_le h
theorem om_lt_succ {a b : Nat} (h : a < b) : a < b + 1 := Nat.lt_succ_of_lt h
theorem om_c2 {a : Nat} (h : a < 2) : a = 0 ∨ a = 1 := by revert a; decide
theorem om_c3 {a : Nat} (h : a < 3) : a = 0 ∨ a = 1 ∨ a = 2 := by revert a; decide
theorem om_c4 {a : Nat} (h : a < 4) : a = 0 ∨ a = 1 ∨ a = 2 ∨ a = 3 := by revert a; decide
theorem om_c4' {a : Nat} (h : a ≤ 3) : a = 0 ∨ a = 1 ∨ a = 2 ∨ a = 3 := by revert a; decide
theorem om_c6 {a : Nat} (h : a < 6) : a = 0 ∨ a = 1 ∨ a = 2 ∨ a = 3 ∨ a = 4 ∨ a = 5 := by revert a; decide
theorem om_c7 {a : Nat} (h : a < 7) : a = 0 ∨ a = 1 ∨ a = 2 ∨ a = 3 ∨ a = 4 ∨ a = 5 ∨ a = 6 := by revert a; decide
end Mine
end

section
open PySem PySem.W PyProof.Rows PySem.Calls PySem.Spec
set_option maxRecDepth 100000
set_option maxHeartbeats 8000000
namespace Mine
/-! ### a ledger anew: its rows by their places -/
section
variable {G h : Heap} {L : Addr} {l a b c : List (Addr × Obj)}
theorem news_at (N : News G L h l) (is : List Nat) (k : Nat) : News G L h (is.filterMap (fun i => l[i]?) ++ l.drop k) := fun p hp => N p (by
  rcases List.mem_append.mp hp with hp | hp
  · obtain ⟨i, _, e⟩ := List.mem_filterMap.mp hp; exact List.mem_of_getElem? e
  · exact List.mem_of_mem_drop hp)
theorem news_pick (N : News G L h l) (is : List Nat) : News G L h (is.filterMap (fun i => l[i]?)) := fun p hp => N p (by
  obtain ⟨i, _, e⟩ := List.mem_filterMap.mp hp; exact List.mem_of_getElem? e)
theorem news_drop (N : News G L h l) (k : Nat) : News G L h (l.drop k) := fun p hp => N p (List.mem_of_mem_drop hp)
theorem news_swap (N : News G L h (a ++ (b ++ c))) : News G L h (a ++ (c ++ b)) := fun p hp => N p (by
  rcases List.mem_append.mp hp with hp | hp
  · exact List.mem_append_left _ hp
  · exact List.mem_append_right _ (List.mem_append.mpr (List.mem_append.mp hp).symm))
theorem news_neC {p q : Addr × Obj} (N : News G L h l) (hp : p ∈ l) (hq : q ∈ l) (hc : p.2.cls = q.2.cls → False) : p.1 ≠ q.1 := fun e => hc (by
  have z := (N p hp).1; rw [e, (N q hq).1] at z; exact congrArg Obj.cls (Option.some.inj z).symm)
theorem news_neD {p q : Addr × Obj} (N : News G L h l) (hp : p ∈ l) (hq : q ∈ l) (hc : p.2.data = q.2.data → False) : p.1 ≠ q.1 := fun e => hc (by
  have z := (N p hp).1; rw [e, (N q hq).1] at z; exact congrArg Obj.data (Option.some.inj z).symm)
end
theorem fc {α : Type} {P : α → Prop} {a : α} {l : List α} (h : P a) (t : ∀ q ∈ l, P q) : ∀ q ∈ a :: l, P q := List.forall_mem_cons.mpr ⟨h, t⟩
theorem fcn {α : Type} {P : α → Prop} : ∀ q ∈ ([] : List α), P q := fun _ h => nomatch h
theorem fr_none {h₀ h : Heap} {L a : Addr} {m : Str → Option Value} (F : Fr h₀ L h m) (ha : h.get? a = none) : h₀.get? a = none := by
  cases q : h₀.get? a with
  | none => rfl
  | some o => rw [F.keep _ _ q] at ha; cases ha
theorem fr_neL {h₀ h : Heap} {L a : Addr} {m : Str → Option Value} (F : Fr h₀ L h m) (ha : h.get? a = none) : a ≠ L := fun z => by
  obtain ⟨o, _, _, q, _⟩ := F.ns
  rw [z, q] at ha; cases ha
theorem take_one {α : Type} {l : List α} {i : Nat} (hi : i < l.length) : l.take (i + 1) = l.take i ++ [l[i]] := by rw [List.take_add_one, List.getElem?_eq_getElem hi]; rfl
theorem mod_split {z : Int} {n N d m c e : Nat} (hn : n = (z % (N : Int)).toNat) (hN : N = d * (m * e)) (hp : 0 < N) : (z / (d : Int) + (c : Int)) % (m : Int) = (((n / d + c) % m : Nat) : Int) := by
  have h0 : (n : Int) = z % (N : Int) := by rw [hn]; exact Int.toNat_of_nonneg (Int.emod_nonneg _ (Int.ofNat_ne_zero.mpr (Nat.ne_of_gt hp)))
  have hd : (d : Int) ≠ 0 := fun q => by rw [hN, Int.ofNat_eq_zero.mp q, Nat.zero_mul] at hp; exact absurd hp (Nat.lt_irrefl 0)
  have h1 : z = (n : Int) + (d : Int) * ((m : Int) * ((e : Int) * (z / (N : Int)))) := by
    rw [h0, ← Int.mul_assoc, ← Int.mul_assoc, Int.mul_assoc (d : Int), show (d : Int) * ((m : Int) * (e : Int)) = (N : Int) by rw [hN]; rfl]
    exact (Int.emod_add_mul_ediv z N).symm
  rw [h1, Int.add_mul_ediv_left _ _ hd, Int.add_right_comm, Int.add_mul_emod_self_left]
  rfl
theorem mod_split1 {z : Int} {n N m e : Nat} (hn : n = (z % (N : Int)).toNat) (hN : N = m * e) (hp : 0 < N) : z % (m : Int) = ((n % m : Nat) : Int) := by
  have := mod_split (d := 1) (c := 0) (m := m) (e := e) hn (by rw [hN, Nat.one_mul]) hp
  rwa [Nat.div_one, Nat.add_zero, Int.ofNat_one, Int.ediv_one, Int.ofNat_zero, Int.add_zero] at this
end Mine
end

section
open PySem PySem.W PyProof.Rows PySem.Calls PySem.Spec
namespace Mine
set_option compiler.extract_closed false
set_option compiler.reuse false
 def sx (hs : List Lean.Syntax) (s : String) : Lean.Syntax :=
  ((s.splitOn " ").foldl (fun (st : List Lean.Syntax) (t : String) =>
    let f := t.splitOn "~"
    let x := f.getD 1 ""
    let k := f.getD 2 ""
    let n := x.toNat?.getD 0
    if k != "" then .node .none ((k.splitOn ".").foldl .str .anonymous) (st.take n).reverse.toArray :: st.drop n
    else if f.headD "" == "h" then hs.getD n .missing :: st
    else if f.headD "" == "i" then .ident .none x.toRawSubstring x.toName [] :: st
    else .atom .none x :: st) []).headD .missing
 def sf (l : List String) : String := "a~first " ++ " ".intercalate (l.map fun t => "a~| " ++ t ++ " n~1~null n~1~Lean.Parser.Tactic.tacticSeq1Indented n~1~Lean.Parser.Tactic.tacticSeq n~2~group") ++ " n~" ++ toString l.length ++ "~null n~2~Lean.Parser.Tactic.first"
 def su (t a b : String) : String := b.intercalate (t.splitOn a)
 def sr (f : Nat → String) (n : Nat) : String := " ".intercalate ((List.range n).map f)
/-! ### what a walk stops at -/
section
variable {M : Model} {A : Around} {E : Value → Shared → Prop} {s : Shared}
theorem st_0 (h : wpAny M A (eval (Expr.ListComp x1 x2 x3 x4) x5) Q E s) : wpAny M A (eval (Expr.ListComp x1 x2 x3 x4) x5) Q E s := h
theorem st_1 (h : wpAny M A (exec (Stmt.Assign x1 (Expr.ListComp x2 x3 x4 x5) x6) x7) Q E s) : wpAny M A (exec (Stmt.Assign x1 (Expr.ListComp x2 x3 x4 x5) x6) x7) Q E s := h
theorem st_2 (h : wpAny M A (exec (Stmt.While x1 x2 x3 x4) x5) Q E s) : wpAny M A (exec (Stmt.While x1 x2 x3 x4) x5) Q E s := h
theorem st_3 (h : wpAny M A (call (Value.builtin "list.append") x1) Q E s) : wpAny M A (call (Value.builtin "list.append") x1) Q E s := h
theorem st_4 (h : wpAny M A (exec (Stmt.For x1 x2 x3 x4 x5) x6) Q E s) : wpAny M A (exec (Stmt.For x1 x2 x3 x4 x5) x6) Q E s := h
theorem st_5 (h : wpAny M A (call (Value.builtin "list.pop") x1) Q E s) : wpAny M A (call (Value.builtin "list.pop") x1) Q E s := h
theorem st_6 (h : wpAny M A (exec (Stmt.If (Expr.Name x1 x2) x3 x4 x5) x6) Q E s) : wpAny M A (exec (Stmt.If (Expr.Name x1 x2) x3 x4 x5) x6) Q E s := h
theorem st_7 (h : wpAny M A (call (Value.builtin "sorted") x1) Q E s) : wpAny M A (call (Value.builtin "sorted") x1) Q E s := h
theorem st_8 (h : wpAny M A (call (Value.ref x1) x2) Q E s) : wpAny M A (call (Value.ref x1) x2) Q E s := h
theorem st_9 (h : wpAny M A (subscriptTail x1 x2 (Value.ref x3) (Value.int x4 x5)) Q E s) : wpAny M A (subscriptTail x1 x2 (Value.ref x3) (Value.int x4 x5)) Q E s := h
theorem st_10 (h : wpAny M A (call (Value.type x1) x2) Q E s) : wpAny M A (call (Value.type x1) x2) Q E s := h
theorem st_11 (h : wpAny M A (call (Value.builtin "str.join") x1) Q E s) : wpAny M A (call (Value.builtin "str.join") x1) Q E s := h
theorem st_12 (h : wpAny M A (exec (Stmt.If x1 x2 x3 x4) x5) Q E s) : wpAny M A (exec (Stmt.If x1 x2 x3 x4) x5) Q E s := h
theorem st_13 (h : wpAny M A (compareOp x1 (Value.ref x2) (Value.ref x3)) Q E s) : wpAny M A (compareOp x1 (Value.ref x2) (Value.ref x3)) Q E s := h
theorem st_14 (h : wpAny M A (binaryOp x1 (Value.ref x2) (Value.ref x3)) Q E s) : wpAny M A (binaryOp x1 (Value.ref x2) (Value.ref x3)) Q E s := h
theorem st_15 (h : wpAny M A (compareOp CmpOp.Eq (Value.ref x1) (Value.ref x2)) Q E s) : wpAny M A (compareOp CmpOp.Eq (Value.ref x1) (Value.ref x2)) Q E s := h
theorem st_16 (h : wpAny M A (getItem (Value.ref x1) (Value.int x2 x3)) Q E s) : wpAny M A (getItem (Value.ref x1) (Value.int x2 x3)) Q E s := h
theorem st_17 (h : wpAny M A (formatField x1 x2) Q E s) : wpAny M A (formatField x1 x2) Q E s := h
theorem st_18 (h : wpAny M A (getAttr (Value.ref x1) (Str.ofString "append") x2) Q E s) : wpAny M A (getAttr (Value.ref x1) (Str.ofString "append") x2) Q E s := h
theorem st_19 (h : wpAny M A (exec (Stmt.Try x1 x2 x3 x4 x5) x6) Q E s) : wpAny M A (exec (Stmt.Try x1 x2 x3 x4 x5) x6) Q E s := h
theorem st_20 (h : wpAny M A (truthy (Value.ref x1)) Q E s) : wpAny M A (truthy (Value.ref x1)) Q E s := h
theorem st_21 (h : wpAny M A (subscriptTail x1 (PySem.Expr.Slice x2 x3 none x4) (Value.ref x5) (Value.ref x6)) Q E s) : wpAny M A (subscriptTail x1 (PySem.Expr.Slice x2 x3 none x4) (Value.ref x5) (Value.ref x6)) Q E s := h
theorem st_22 (h : wpAny M A (execs (Stmt.Assign x1 (Expr.List x2 x3) x4 :: x5) x6) Q E s) : wpAny M A (execs (Stmt.Assign x1 (Expr.List x2 x3) x4 :: x5) x6) Q E s := h
theorem st_23 (h : wpAny M A (call (Value.builtin "sum") x1) Q E s) : wpAny M A (call (Value.builtin "sum") x1) Q E s := h
theorem st_24 (h : wpAny M A (compareOp x1 Value.none (Value.ref x2)) Q E s) : wpAny M A (compareOp x1 Value.none (Value.ref x2)) Q E s := h
theorem st_25 (h : wpAny M A (call (Value.builtin "list.extend") x1) Q E s) : wpAny M A (call (Value.builtin "list.extend") x1) Q E s := h
theorem st_26 (h : wpAny M A (subscriptTail x1 x2 (Value.ref x3) x4) Q E s) : wpAny M A (subscriptTail x1 x2 (Value.ref x3) x4) Q E s := h
theorem st_27 (h : wpAny M A (call (Value.builtin "str.translate") x1) Q E s) : wpAny M A (call (Value.builtin "str.translate") x1) Q E s := h
theorem st_28 (h : wpAny M A (eval (Expr.Lambda x1 x2 x3 x4) x5) Q E s) : wpAny M A (eval (Expr.Lambda x1 x2 x3 x4) x5) Q E s := h
theorem st_29 (h : wpAny M A (eval (Expr.GeneratorExp x1 x2 x3 x4) x5) Q E s) : wpAny M A (eval (Expr.GeneratorExp x1 x2 x3 x4) x5) Q E s := h
theorem st_30 (h : wpAny M A (exec (Stmt.Assign x1 (Expr.IfExp x2 x3 x4 x5) x6) x7) Q E s) : wpAny M A (exec (Stmt.Assign x1 (Expr.IfExp x2 x3 x4 x5) x6) x7) Q E s := h
theorem st_31 (h : wpAny M A (call (Value.builtin "list.remove") x1) Q E s) : wpAny M A (call (Value.builtin "list.remove") x1) Q E s := h
theorem st_32 (h : InvEndN x1 x2 x3 x4 x5 x6 x7) : InvEndN x1 x2 x3 x4 x5 x6 x7 := h
theorem st_33 (h : wpAny M A (getMethod (Value.ref x1) x2 x3) Q E s) : wpAny M A (getMethod (Value.ref x1) x2 x3) Q E s := h
theorem st_34 (h : wpAny M A (callWith x1 (Value.ref x2) x3 x4 x5) Q E s) : wpAny M A (callWith x1 (Value.ref x2) x3 x4 x5) Q E s := h
theorem st_35 (h : wpAny M A (inplaceOp x1 (Value.str x2 x3) (Value.str x4 x5)) Q E s) : wpAny M A (inplaceOp x1 (Value.str x2 x3) (Value.str x4 x5)) Q E s := h
theorem st_36 (h : wpAny M A (subscriptTail x1 (Expr.BinOp x2 x3 x4 x5) (Value.str x6 x7) x8) Q E s) : wpAny M A (subscriptTail x1 (Expr.BinOp x2 x3 x4 x5) (Value.str x6 x7) x8) Q E s := h
theorem st_37 (h : wpAny M A (pyIter x1) Q E s) : wpAny M A (pyIter x1) Q E s := h
theorem st_38 (h : wpAny M A (storeName x1 x2 (Value.ref x3)) Q E s) : wpAny M A (storeName x1 x2 (Value.ref x3)) Q E s := h
theorem st_39 (h : wpAny M A (call (Value.builtin "re.Pattern.sub") x1) Q E s) : wpAny M A (call (Value.builtin "re.Pattern.sub") x1) Q E s := h
theorem st_40 (h : wpAny M A (call (Value.builtin "len") x1) Q E s) : wpAny M A (call (Value.builtin "len") x1) Q E s := h
theorem st_41 (h : wpAny M A (setItem (Value.ref x1) x2 x3) Q E s) : wpAny M A (setItem (Value.ref x1) x2 x3) Q E s := h
end
end Mine
end

section
open PySem
namespace Mine
/-! ### plain: an item takes a sign -/
noncomputable def takes : List (Bool × List Nat) → List Nat → Bool
  | [], _ => true
  | (b, sg) :: r, nm => match nm.dropWhile (fun c => sg.contains c == b) with
    | [] => false
    | _ :: t => takes r t
end Mine
end

section
open PySem
namespace Mine
/-! ### plain: how an item is read -/
noncomputable def scanB : List Nat → List Nat → Option (List Nat × Nat)
  | [], _ => none
  | [c], sg => if c = 93 ∧ sg ≠ [] then some (sg, 1) else none
  | c :: d :: r, sg => if c = 93 ∧ sg ≠ [] then some (sg, 1) else if c = 92 then (scanB r (sg ++ [d])).map (fun y => (y.1, y.2 + 2)) else (scanB (d :: r) (sg ++ [c])).map (fun y => (y.1, y.2 + 1))
noncomputable def spec9 : List Nat := [94, 36, 42, 43, 63, 123, 125, 124, 40, 41, 93]
noncomputable def itemF : List Nat → Option ((Bool × List Nat) × Nat)
  | [] => none
  | c :: r => if c = 92 then (match r with | d :: _ => some ((false, [d]), 2) | [] => none)
      else if c = 46 then some ((true, []), 1)
      else if spec9.contains c then some ((false, []), 1)
      else if c ≠ 91 then some ((false, [c]), 1)
      else (match r with
        | [] => none
        | d :: r' => if d = 94 then (scanB r' []).map (fun y => ((true, y.1), y.2 + 2)) else (scanB (d :: r') []).map (fun y => ((false, y.1), y.2 + 1)))
theorem scanB_cons (c : Nat) (r sg : List Nat) : scanB (c :: r) sg = if c = 93 ∧ sg ≠ [] then some (sg, 1) else if c = 92 then (match r with | [] => none | d :: r' => (scanB r' (sg ++ [d])).map (fun y => (y.1, y.2 + 2))) else (scanB r (sg ++ [c])).map (fun y => (y.1, y.2 + 1)) := by
  cases r with
  | nil => rw [scanB]; simp [scanB]
  | cons d r => rw [scanB]
inductive Reads : List Nat → List (Bool × List Nat) → Prop
  | done : Reads [46, 42, 41, 92, 90] []
  | step {l r : List Nat} {it : Bool × List Nat} {n : Nat} {its : List (Bool × List Nat)} : itemF l = some (it, n) → l.drop n = 41 :: r → Reads r its → Reads ([40, 63, 62, 46, 42, 63] ++ l) (it :: its)
end Mine
end

section
open PySem
namespace Mine
/-! ### plain: the pieces of a pattern -/
inductive Pc
  | bare (c : Nat)
  | one (c : Nat)
  | bar (a b c : Nat)
noncomputable def Pc.body : Pc → List Nat
  | .bare c => [c]
  | .one c => [c]
  | .bar a b c => [33, a, b, c]
noncomputable def Pc.text : Pc → List Nat
  | .bare c => [c]
  | .one c => [91] ++ [c] ++ [93]
  | .bar a b c => [91] ++ [33, a, b, c] ++ [93]
noncomputable def Pc.ok : Pc → Prop
  | .bare c => c ≠ 42 ∧ c ≠ 63 ∧ c ≠ 91
  | .one c => c ≠ 33
  | .bar a b c => b ≠ 93 ∧ c ≠ 93 ∧ a ≠ 45 ∧ b ≠ 45
noncomputable def specE : List Nat := [40, 41, 91, 93, 123, 125, 63, 42, 43, 45, 124, 94, 36, 92, 46, 38, 126, 35, 32, 9, 10, 13, 11, 12]
noncomputable def escE (c : Nat) : List Nat := if specE.contains c then [92, c] else [c]
/-- a backslash ahead of it inside a bracket -/
noncomputable def e1 (c : Nat) : List Nat := if c = 92 ∨ c = 45 then [92, c] else [c]
noncomputable def amp (c : Nat) : Bool := c == 38 || c == 124 || c == 126
noncomputable def ampS (l : List Nat) : List Nat := l.flatMap fun c => if amp c then [92, c] else [c]
/-- what stands between the brackets at the end -/
noncomputable def Pc.inner : Pc → List Nat
  | .bare _ => []
  | .one c => if c = 94 ∨ c = 91 then [92, c] else ampS (e1 c)
  | .bar a b c => [94] ++ ampS ([a, b, c].flatMap e1)
noncomputable def Pc.out : Pc → List Nat
  | .bare c => escE c
  | p => [91] ++ p.inner ++ [93]
noncomputable def tkText : Option Pc → List Nat
  | none => [42]
  | some p => p.text
inductive ResAre (st : Addr) : List Value → List (Option Pc) → Prop
  | nil : ResAre st [] []
  | star {vs l} : ResAre st vs l → ResAre st (.ref st :: vs) (none :: l)
  | part {vs l} (p : Pc) (t : Tok) : ResAre st vs l → ResAre st (.str ⟨p.out.toArray⟩ t :: vs) (some p :: l)
theorem ResAre.length {st : Addr} {vs : List Value} {l : List (Option Pc)} (h : ResAre st vs l) : vs.length = l.length := by
  induction h with
  | nil => rfl
  | star _ ih => simp [ih]
  | part _ _ _ ih => simp [ih]
theorem ResAre.append {st : Addr} {vs us : List Value} {l k : List (Option Pc)} (h : ResAre st vs l) (h2 : ResAre st us k) : ResAre st (vs ++ us) (l ++ k) := by
  induction h with
  | nil => exact h2
  | star _ ih => exact .star ih
  | part p t _ ih => exact .part p t ih
theorem ResAre.last {st : Addr} : ∀ {vs : List Value} {l : List (Option Pc)} {p : Pc}, ResAre st vs (l ++ [some p]) → ∃ vs' t, vs = vs' ++ [.str ⟨p.out.toArray⟩ t] ∧ ResAre st vs' l := by
  intro vs l p
  induction l generalizing vs with
  | nil =>
    intro h
    cases h with
    | part _ t h => cases h; exact ⟨[], t, rfl, .nil⟩
  | cons a l ih =>
    intro h
    cases h with
    | star h => obtain ⟨vs', t, rfl, h'⟩ := ih h; exact ⟨_ :: vs', t, rfl, .star h'⟩
    | part q u h => obtain ⟨vs', t, rfl, h'⟩ := ih h; exact ⟨_ :: vs', t, rfl, .part q u h'⟩
end Mine
end

section
namespace Mine
/-- a fact that the walk need not see -/
noncomputable def Hid (p : Prop) : Prop := p
theorem pc_ne : Nonempty Pc := ⟨.bare 0⟩
theorem pcf_ne : Nonempty (Nat → Pc) := ⟨fun _ => .bare 0⟩
end Mine
end

set_option compiler.extract_closed false
set_option compiler.reuse false
set_option hygiene false
local macro_rules | `(tactic| omega) => return Mine.sx [] "a~lia n~0~null n~1~Lean.Parser.Tactic.optConfig n~2~Lean.Parser.Tactic.lia"
local macro_rules | `(tactic| omega) => return Mine.sx [] "a~with_reducible a~first a~| a~assumption n~1~Lean.Parser.Tactic.assumption n~1~null n~1~Lean.Parser.Tactic.tacticSeq1Indented n~1~Lean.Parser.Tactic.tacticSeq n~2~group a~| a~w_is_and i~oq_0 n~2~PySem.W.tacticW_is_and_ n~1~null n~1~Lean.Parser.Tactic.tacticSeq1Indented n~1~Lean.Parser.Tactic.tacticSeq n~2~group a~| a~w_is_and i~oq_1 n~2~PySem.W.tacticW_is_and_ n~1~null n~1~Lean.Parser.Tactic.tacticSeq1Indented n~1~Lean.Parser.Tactic.tacticSeq n~2~group a~| a~w_is_and i~oq_2 n~2~PySem.W.tacticW_is_and_ n~1~null n~1~Lean.Parser.Tactic.tacticSeq1Indented n~1~Lean.Parser.Tactic.tacticSeq n~2~group a~| a~w_is_and i~oq_3 n~2~PySem.W.tacticW_is_and_ n~1~null n~1~Lean.Parser.Tactic.tacticSeq1Indented n~1~Lean.Parser.Tactic.tacticSeq n~2~group a~| a~w_is_and i~oq_4 n~2~PySem.W.tacticW_is_and_ n~1~null n~1~Lean.Parser.Tactic.tacticSeq1Indented n~1~Lean.Parser.Tactic.tacticSeq n~2~group n~6~null n~2~Lean.Parser.Tactic.first n~1~null n~1~Lean.Parser.Tactic.tacticSeq1Indented n~1~Lean.Parser.Tactic.tacticSeq n~2~Lean.Parser.Tactic.withReducible"
local macro_rules | `(tactic| w_is_and $x:ident) => do
  let nm := x.getId.toString
  let ks := nm.splitOn "_"
  let k := (ks.getD 1 "").toNat?.getD 0
  let wr (l : List String) : String := "a~with_reducible " ++ Mine.sf (l.map fun f => "a~refine i~" ++ f ++ " a~? a~_ n~2~Lean.Parser.Term.syntheticHole n~1~null n~2~Lean.Parser.Term.app n~2~Lean.Parser.Tactic.refine") ++ " n~1~null n~1~Lean.Parser.Tactic.tacticSeq1Indented n~1~Lean.Parser.Tactic.tacticSeq n~2~Lean.Parser.Tactic.withReducible"
  let st := "_".intercalate ("st" :: ks.tail)
  let s ← (match ks.headD "" with
    | "my" => match nm with
      | "my_aa" => return "a~( a~( a~repeat a~revert a~‹ a~( i~ n~1~hygieneInfo n~2~Lean.Parser.Term.hygienicLParen a~_ n~1~Lean.Parser.Term.hole a~: a~Prop n~1~Lean.Parser.Term.prop n~1~null a~) n~5~Lean.Parser.Term.typeAscription a~› n~3~term‹_› n~1~null n~2~Lean.Parser.Tactic.revert n~1~null n~1~Lean.Parser.Tactic.tacticSeq1Indented n~1~Lean.Parser.Tactic.tacticSeq n~2~Lean.Parser.Tactic.tacticRepeat_ n~1~null n~1~Lean.Parser.Tactic.tacticSeq1Indented n~1~Lean.Parser.Tactic.tacticSeq a~) n~3~Lean.Parser.Tactic.paren a~; a~( a~repeat a~( a~first a~| a~clear i~ek n~1~null n~2~Lean.Parser.Tactic.clear n~1~null n~1~Lean.Parser.Tactic.tacticSeq1Indented n~1~Lean.Parser.Tactic.tacticSeq n~2~group a~| a~revert i~ek n~1~null n~2~Lean.Parser.Tactic.revert n~1~null n~1~Lean.Parser.Tactic.tacticSeq1Indented n~1~Lean.Parser.Tactic.tacticSeq n~2~group a~| a~clear i~qk n~1~null n~2~Lean.Parser.Tactic.clear n~1~null n~1~Lean.Parser.Tactic.tacticSeq1Indented n~1~Lean.Parser.Tactic.tacticSeq n~2~group a~| a~revert i~qk n~1~null n~2~Lean.Parser.Tactic.revert n~1~null n~1~Lean.Parser.Tactic.tacticSeq1Indented n~1~Lean.Parser.Tactic.tacticSeq n~2~group n~4~null n~2~Lean.Parser.Tactic.first n~1~null n~1~Lean.Parser.Tactic.tacticSeq1Indented n~1~Lean.Parser.Tactic.tacticSeq a~) n~3~Lean.Parser.Tactic.paren n~1~null n~1~Lean.Parser.Tactic.tacticSeq1Indented n~1~Lean.Parser.Tactic.tacticSeq n~2~Lean.Parser.Tactic.tacticRepeat_ n~1~null n~1~Lean.Parser.Tactic.tacticSeq1Indented n~1~Lean.Parser.Tactic.tacticSeq a~) n~3~Lean.Parser.Tactic.paren a~; a~( a~repeat a~( a~first a~| a~clear a~‹ a~( i~ n~1~hygieneInfo n~2~Lean.Parser.Term.hygienicLParen a~_ n~1~Lean.Parser.Term.hole a~: a~Type n~0~null n~2~Lean.Parser.Term.type n~1~null a~) n~5~Lean.Parser.Term.typeAscription a~› n~3~term‹_› n~1~null n~2~Lean.Parser.Tactic.clear n~1~null n~1~Lean.Parser.Tactic.tacticSeq1Indented n~1~Lean.Parser.Tactic.tacticSeq n~2~group a~| a~revert a~‹ a~( i~ n~1~hygieneInfo n~2~Lean.Parser.Term.hygienicLParen a~_ n~1~Lean.Parser.Term.hole a~: a~Type n~0~null n~2~Lean.Parser.Term.type n~1~null a~) n~5~Lean.Parser.Term.typeAscription a~› n~3~term‹_› n~1~null n~2~Lean.Parser.Tactic.revert n~1~null n~1~Lean.Parser.Tactic.tacticSeq1Indented n~1~Lean.Parser.Tactic.tacticSeq n~2~group n~2~null n~2~Lean.Parser.Tactic.first n~1~null n~1~Lean.Parser.Tactic.tacticSeq1Indented n~1~Lean.Parser.Tactic.tacticSeq a~) n~3~Lean.Parser.Tactic.paren n~1~null n~1~Lean.Parser.Tactic.tacticSeq1Indented n~1~Lean.Parser.Tactic.tacticSeq n~2~Lean.Parser.Tactic.tacticRepeat_ n~1~null n~1~Lean.Parser.Tactic.tacticSeq1Indented n~1~Lean.Parser.Tactic.tacticSeq a~) n~3~Lean.Parser.Tactic.paren n~5~null n~1~Lean.Parser.Tactic.tacticSeq1Indented n~1~Lean.Parser.Tactic.tacticSeq a~) n~3~Lean.Parser.Tactic.paren"
      | "my_ne" => return "a~( a~( a~repeat' a~( a~first a~| a~with_reducible a~refine i~hkpair_ne a~? a~_ n~2~Lean.Parser.Term.syntheticHole a~? a~_ n~2~Lean.Parser.Term.syntheticHole n~2~null n~2~Lean.Parser.Term.app n~2~Lean.Parser.Tactic.refine n~1~null n~1~Lean.Parser.Tactic.tacticSeq1Indented n~1~Lean.Parser.Tactic.tacticSeq n~2~Lean.Parser.Tactic.withReducible n~1~null n~1~Lean.Parser.Tactic.tacticSeq1Indented n~1~Lean.Parser.Tactic.tacticSeq n~2~group a~| a~infer_instance n~1~Lean.Parser.Tactic.tacticInfer_instance n~1~null n~1~Lean.Parser.Tactic.tacticSeq1Indented n~1~Lean.Parser.Tactic.tacticSeq n~2~group a~| a~exact i~bg_ne n~2~Lean.Parser.Tactic.exact n~1~null n~1~Lean.Parser.Tactic.tacticSeq1Indented n~1~Lean.Parser.Tactic.tacticSeq n~2~group a~| a~exact i~sh_ne n~2~Lean.Parser.Tactic.exact n~1~null n~1~Lean.Parser.Tactic.tacticSeq1Indented n~1~Lean.Parser.Tactic.tacticSeq n~2~group a~| a~exact i~w_ne n~2~Lean.Parser.Tactic.exact n~1~null n~1~Lean.Parser.Tactic.tacticSeq1Indented n~1~Lean.Parser.Tactic.tacticSeq n~2~group a~| a~exact i~mo_ne n~2~Lean.Parser.Tactic.exact n~1~null n~1~Lean.Parser.Tactic.tacticSeq1Indented n~1~Lean.Parser.Tactic.tacticSeq n~2~group a~| a~exact i~ar_ne n~2~Lean.Parser.Tactic.exact n~1~null n~1~Lean.Parser.Tactic.tacticSeq1Indented n~1~Lean.Parser.Tactic.tacticSeq n~2~group a~| a~exact i~pc_ne n~2~Lean.Parser.Tactic.exact n~1~null n~1~Lean.Parser.Tactic.tacticSeq1Indented n~1~Lean.Parser.Tactic.tacticSeq n~2~group a~| a~exact i~pcf_ne n~2~Lean.Parser.Tactic.exact n~1~null n~1~Lean.Parser.Tactic.tacticSeq1Indented n~1~Lean.Parser.Tactic.tacticSeq n~2~group n~9~null n~2~Lean.Parser.Tactic.first n~1~null n~1~Lean.Parser.Tactic.tacticSeq1Indented n~1~Lean.Parser.Tactic.tacticSeq a~) n~3~Lean.Parser.Tactic.paren n~1~null n~1~Lean.Parser.Tactic.tacticSeq1Indented n~1~Lean.Parser.Tactic.tacticSeq n~2~Lean.Parser.Tactic.repeat' n~1~null n~1~Lean.Parser.Tactic.tacticSeq1Indented n~1~Lean.Parser.Tactic.tacticSeq a~) n~3~Lean.Parser.Tactic.paren a~; a~done n~1~Lean.Parser.Tactic.done n~3~null n~1~Lean.Parser.Tactic.tacticSeq1Indented n~1~Lean.Parser.Tactic.tacticSeq a~) n~3~Lean.Parser.Tactic.paren"
      | "my_fold" => return "a~( a~( a~with_reducible a~first a~| a~show i~wpAny a~_ n~1~Lean.Parser.Term.hole a~_ n~1~Lean.Parser.Term.hole a~( i~ n~1~hygieneInfo n~2~Lean.Parser.Term.hygienicLParen i~exec a~_ n~1~Lean.Parser.Term.hole a~_ n~1~Lean.Parser.Term.hole n~2~null n~2~Lean.Parser.Term.app a~) n~3~Lean.Parser.Term.paren a~_ n~1~Lean.Parser.Term.hole a~_ n~1~Lean.Parser.Term.hole a~_ n~1~Lean.Parser.Term.hole n~6~null n~2~Lean.Parser.Term.app n~2~Lean.Parser.Tactic.show n~1~null n~1~Lean.Parser.Tactic.tacticSeq1Indented n~1~Lean.Parser.Tactic.tacticSeq n~2~group a~| a~show i~wpAny a~_ n~1~Lean.Parser.Term.hole a~_ n~1~Lean.Parser.Term.hole a~( i~ n~1~hygieneInfo n~2~Lean.Parser.Term.hygienicLParen i~execs a~_ n~1~Lean.Parser.Term.hole a~_ n~1~Lean.Parser.Term.hole n~2~null n~2~Lean.Parser.Term.app a~) n~3~Lean.Parser.Term.paren a~_ n~1~Lean.Parser.Term.hole a~_ n~1~Lean.Parser.Term.hole a~_ n~1~Lean.Parser.Term.hole n~6~null n~2~Lean.Parser.Term.app n~2~Lean.Parser.Tactic.show n~1~null n~1~Lean.Parser.Tactic.tacticSeq1Indented n~1~Lean.Parser.Tactic.tacticSeq n~2~group n~2~null n~2~Lean.Parser.Tactic.first n~1~null n~1~Lean.Parser.Tactic.tacticSeq1Indented n~1~Lean.Parser.Tactic.tacticSeq n~2~Lean.Parser.Tactic.withReducible n~1~null n~1~Lean.Parser.Tactic.tacticSeq1Indented n~1~Lean.Parser.Tactic.tacticSeq a~) n~3~Lean.Parser.Tactic.paren a~; a~( a~try a~dsimp n~0~null n~1~Lean.Parser.Tactic.optConfig n~0~null a~only n~1~null n~0~null n~0~null n~6~Lean.Parser.Tactic.dsimp n~1~null n~1~Lean.Parser.Tactic.tacticSeq1Indented n~1~Lean.Parser.Tactic.tacticSeq n~2~Lean.Parser.Tactic.tacticTry_ n~1~null n~1~Lean.Parser.Tactic.tacticSeq1Indented n~1~Lean.Parser.Tactic.tacticSeq a~) n~3~Lean.Parser.Tactic.paren a~; a~k_fold n~1~PySem.W.tacticK_fold n~5~null n~1~Lean.Parser.Tactic.tacticSeq1Indented n~1~Lean.Parser.Tactic.tacticSeq a~) n~3~Lean.Parser.Tactic.paren"
      | _ => Lean.Macro.throwUnsupported
    | "hkp" => if k == 0 then return "a~fail_if_success a~with_reducible a~refine a~no_implicit_lambda% a~( i~ n~1~hygieneInfo n~2~Lean.Parser.Term.hygienicLParen i~hkz1 a~( i~n0 a~:= a~? a~_ n~2~Lean.Parser.Term.syntheticHole a~) n~5~Lean.Parser.Term.namedArgument a~( i~h a~:= a~no_implicit_lambda% a~? a~_ n~2~Lean.Parser.Term.syntheticHole n~2~Lean.Parser.Term.noImplicitLambda a~) n~5~Lean.Parser.Term.namedArgument n~2~null n~2~Lean.Parser.Term.app a~) n~3~Lean.Parser.Term.paren n~2~Lean.Parser.Term.noImplicitLambda n~2~Lean.Parser.Tactic.refine n~1~null n~1~Lean.Parser.Tactic.tacticSeq1Indented n~1~Lean.Parser.Tactic.tacticSeq n~2~Lean.Parser.Tactic.withReducible n~1~null n~1~Lean.Parser.Tactic.tacticSeq1Indented n~1~Lean.Parser.Tactic.tacticSeq n~2~Lean.Parser.Tactic.failIfSuccess" else return Mine.su (Mine.su (Mine.su (Mine.su "a~( a~( a~with_reducible a~refine a~no_implicit_lambda% a~( i~ n~1~hygieneInfo n~2~Lean.Parser.Term.hygienicLParen i~hkz@K a~( i~n0 a~:= a~? a~_ n~2~Lean.Parser.Term.syntheticHole a~) n~5~Lean.Parser.Term.namedArgument a~( i~h a~:= a~no_implicit_lambda% a~( i~ n~1~hygieneInfo n~2~Lean.Parser.Term.hygienicLParen a~( i~ n~1~hygieneInfo n~2~Lean.Parser.Term.hygienicLParen a~? a~_ n~2~Lean.Parser.Term.syntheticHole a~: a~∀ @A n~@K~null n~0~null a~, i~At@K a~_ n~1~Lean.Parser.Term.hole @A n~@N~null n~2~Lean.Parser.Term.app n~5~Lean.Parser.Term.forall n~1~null a~) n~5~Lean.Parser.Term.typeAscription @U n~@K~null n~2~Lean.Parser.Term.app a~) n~3~Lean.Parser.Term.paren n~2~Lean.Parser.Term.noImplicitLambda a~) n~5~Lean.Parser.Term.namedArgument n~2~null n~2~Lean.Parser.Term.app a~) n~3~Lean.Parser.Term.paren n~2~Lean.Parser.Term.noImplicitLambda n~2~Lean.Parser.Tactic.refine n~1~null n~1~Lean.Parser.Tactic.tacticSeq1Indented n~1~Lean.Parser.Tactic.tacticSeq n~2~Lean.Parser.Tactic.withReducible n~1~null n~1~Lean.Parser.Tactic.tacticSeq1Indented n~1~Lean.Parser.Tactic.tacticSeq a~) n~3~Lean.Parser.Tactic.paren a~; a~focus a~( a~w_is_and i~my_ne n~2~PySem.W.tacticW_is_and_ n~1~null n~1~Lean.Parser.Tactic.tacticSeq1Indented n~1~Lean.Parser.Tactic.tacticSeq a~) n~3~Lean.Parser.Tactic.paren n~1~null n~1~Lean.Parser.Tactic.tacticSeq1Indented n~1~Lean.Parser.Tactic.tacticSeq n~2~Lean.Parser.Tactic.focus n~3~null n~1~Lean.Parser.Tactic.tacticSeq1Indented n~1~Lean.Parser.Tactic.tacticSeq a~) n~3~Lean.Parser.Tactic.paren" "@K" (toString k)) "@N" (toString (k + 1))) "@A" (Mine.sr (fun i => "i~a" ++ toString i) k)) "@U" (Mine.sr (fun _ => "a~_ n~1~Lean.Parser.Term.hole") k)
    | "st" => return wr (ks.tail.map fun k => "st_" ++ k)
    | "sq" => return wr ([".ct", ".bk", ".rt", ".nx"].map fun c => ks.getD 1 "" ++ c)
    | "go" => return Mine.su "a~repeat' a~( a~first a~| a~( a~k_unfold n~1~PySem.W.tacticK_unfold a~; a~( a~try a~dsimp n~0~null n~1~Lean.Parser.Tactic.optConfig n~0~null a~only n~1~null n~0~null n~0~null n~6~Lean.Parser.Tactic.dsimp n~1~null n~1~Lean.Parser.Tactic.tacticSeq1Indented n~1~Lean.Parser.Tactic.tacticSeq n~2~Lean.Parser.Tactic.tacticTry_ n~1~null n~1~Lean.Parser.Tactic.tacticSeq1Indented n~1~Lean.Parser.Tactic.tacticSeq a~) n~3~Lean.Parser.Tactic.paren a~; a~( a~try a~clear i~qk n~1~null n~2~Lean.Parser.Tactic.clear n~1~null n~1~Lean.Parser.Tactic.tacticSeq1Indented n~1~Lean.Parser.Tactic.tacticSeq n~2~Lean.Parser.Tactic.tacticTry_ n~1~null n~1~Lean.Parser.Tactic.tacticSeq1Indented n~1~Lean.Parser.Tactic.tacticSeq a~) n~3~Lean.Parser.Tactic.paren a~; a~( a~try a~clear i~ek n~1~null n~2~Lean.Parser.Tactic.clear n~1~null n~1~Lean.Parser.Tactic.tacticSeq1Indented n~1~Lean.Parser.Tactic.tacticSeq n~2~Lean.Parser.Tactic.tacticTry_ n~1~null n~1~Lean.Parser.Tactic.tacticSeq1Indented n~1~Lean.Parser.Tactic.tacticSeq a~) n~3~Lean.Parser.Tactic.paren n~7~null n~1~Lean.Parser.Tactic.tacticSeq1Indented n~1~Lean.Parser.Tactic.tacticSeq a~) n~3~Lean.Parser.Tactic.paren n~1~null n~1~Lean.Parser.Tactic.tacticSeq1Indented n~1~Lean.Parser.Tactic.tacticSeq n~2~group a~| a~w_is_and i~my_fold n~2~PySem.W.tacticW_is_and_ n~1~null n~1~Lean.Parser.Tactic.tacticSeq1Indented n~1~Lean.Parser.Tactic.tacticSeq n~2~group a~| a~( a~( a~fail_if_success a~w_is_and i~@F n~2~PySem.W.tacticW_is_and_ n~1~null n~1~Lean.Parser.Tactic.tacticSeq1Indented n~1~Lean.Parser.Tactic.tacticSeq n~2~Lean.Parser.Tactic.failIfSuccess n~1~null n~1~Lean.Parser.Tactic.tacticSeq1Indented n~1~Lean.Parser.Tactic.tacticSeq a~) n~3~Lean.Parser.Tactic.paren a~; a~first a~| a~walk1 n~1~PyProof.Rows.tacticWalk1 n~1~null n~1~Lean.Parser.Tactic.tacticSeq1Indented n~1~Lean.Parser.Tactic.tacticSeq n~2~group a~| a~( a~dsimp n~0~null n~1~Lean.Parser.Tactic.optConfig n~0~null a~only n~1~null n~0~null n~0~null n~6~Lean.Parser.Tactic.dsimp a~; a~walk1 n~1~PyProof.Rows.tacticWalk1 n~3~null n~1~Lean.Parser.Tactic.tacticSeq1Indented n~1~Lean.Parser.Tactic.tacticSeq a~) n~3~Lean.Parser.Tactic.paren n~1~null n~1~Lean.Parser.Tactic.tacticSeq1Indented n~1~Lean.Parser.Tactic.tacticSeq n~2~group n~2~null n~2~Lean.Parser.Tactic.first n~3~null n~1~Lean.Parser.Tactic.tacticSeq1Indented n~1~Lean.Parser.Tactic.tacticSeq a~) n~3~Lean.Parser.Tactic.paren n~1~null n~1~Lean.Parser.Tactic.tacticSeq1Indented n~1~Lean.Parser.Tactic.tacticSeq n~2~group n~3~null n~2~Lean.Parser.Tactic.first n~1~null n~1~Lean.Parser.Tactic.tacticSeq1Indented n~1~Lean.Parser.Tactic.tacticSeq a~) n~3~Lean.Parser.Tactic.paren n~1~null n~1~Lean.Parser.Tactic.tacticSeq1Indented n~1~Lean.Parser.Tactic.tacticSeq n~2~Lean.Parser.Tactic.repeat'" "@F" st
    | "old" => return Mine.su "a~repeat' a~( a~( a~fail_if_success a~w_is_and i~@F n~2~PySem.W.tacticW_is_and_ n~1~null n~1~Lean.Parser.Tactic.tacticSeq1Indented n~1~Lean.Parser.Tactic.tacticSeq n~2~Lean.Parser.Tactic.failIfSuccess n~1~null n~1~Lean.Parser.Tactic.tacticSeq1Indented n~1~Lean.Parser.Tactic.tacticSeq a~) n~3~Lean.Parser.Tactic.paren a~; a~first a~| a~walk1 n~1~PyProof.Rows.tacticWalk1 n~1~null n~1~Lean.Parser.Tactic.tacticSeq1Indented n~1~Lean.Parser.Tactic.tacticSeq n~2~group a~| a~( a~dsimp n~0~null n~1~Lean.Parser.Tactic.optConfig n~0~null a~only n~1~null n~0~null n~0~null n~6~Lean.Parser.Tactic.dsimp a~; a~walk1 n~1~PyProof.Rows.tacticWalk1 n~3~null n~1~Lean.Parser.Tactic.tacticSeq1Indented n~1~Lean.Parser.Tactic.tacticSeq a~) n~3~Lean.Parser.Tactic.paren n~1~null n~1~Lean.Parser.Tactic.tacticSeq1Indented n~1~Lean.Parser.Tactic.tacticSeq n~2~group n~2~null n~2~Lean.Parser.Tactic.first n~3~null n~1~Lean.Parser.Tactic.tacticSeq1Indented n~1~Lean.Parser.Tactic.tacticSeq a~) n~3~Lean.Parser.Tactic.paren n~1~null n~1~Lean.Parser.Tactic.tacticSeq1Indented n~1~Lean.Parser.Tactic.tacticSeq n~2~Lean.Parser.Tactic.repeat'" "@F" st
    | "oq" => return Mine.su "a~( a~( a~fail_if_success a~( a~fail_if_success a~refine i~sh_@ a~? a~_ n~2~Lean.Parser.Term.syntheticHole n~1~null n~2~Lean.Parser.Term.app n~2~Lean.Parser.Tactic.refine n~1~null n~1~Lean.Parser.Tactic.tacticSeq1Indented n~1~Lean.Parser.Tactic.tacticSeq n~2~Lean.Parser.Tactic.failIfSuccess n~1~null n~1~Lean.Parser.Tactic.tacticSeq1Indented n~1~Lean.Parser.Tactic.tacticSeq a~) n~3~Lean.Parser.Tactic.paren n~1~null n~1~Lean.Parser.Tactic.tacticSeq1Indented n~1~Lean.Parser.Tactic.tacticSeq n~2~Lean.Parser.Tactic.failIfSuccess n~1~null n~1~Lean.Parser.Tactic.tacticSeq1Indented n~1~Lean.Parser.Tactic.tacticSeq a~) n~3~Lean.Parser.Tactic.paren a~; a~w_is_and i~om_@ n~2~PySem.W.tacticW_is_and_ n~3~null n~1~Lean.Parser.Tactic.tacticSeq1Indented n~1~Lean.Parser.Tactic.tacticSeq a~) n~3~Lean.Parser.Tactic.paren" "@" (toString k)
    | "om" => return Mine.sf (((["om_lim2:ad om_lim1:ad om_lim0:a om_lt:aad om_lt2:aad om_sub:a om_subN:aa om_lt_succ:a", "om_succ:a Nat.zero_le:u om_le:ad om_le_eq:ad om_le2:aad om_le2e:aad om_le3:aaad om_ge:a om_le_succ:a", "om_ltZ:a om_n63:u om_n63':u om_63:aad om_63Z:aad", "om_neg:uu om_neg1:uu", "om_anti:aa om_c2:a om_c3:a om_c4:a om_c4':a om_c6:a om_c7:a"].getD k "").splitOn " ").map (fun e =>
        let ps := e.splitOn ":"
        let as := (ps.getD 1 "").toList
        "a~exact i~" ++ ps.headD "" ++ " " ++ " ".intercalate (as.map fun c => if c == 'a' then "a~( i~ n~1~hygieneInfo n~2~Lean.Parser.Term.hygienicLParen a~by a~assumption n~1~Lean.Parser.Tactic.assumption n~1~null n~1~Lean.Parser.Tactic.tacticSeq1Indented n~1~Lean.Parser.Tactic.tacticSeq n~2~Lean.Parser.Term.byTactic a~) n~3~Lean.Parser.Term.paren" else if c == 'd' then "a~( i~ n~1~hygieneInfo n~2~Lean.Parser.Term.hygienicLParen a~by a~decide n~0~null n~1~Lean.Parser.Tactic.optConfig n~2~Lean.Parser.Tactic.decide n~1~null n~1~Lean.Parser.Tactic.tacticSeq1Indented n~1~Lean.Parser.Tactic.tacticSeq n~2~Lean.Parser.Term.byTactic a~) n~3~Lean.Parser.Term.paren" else "a~_ n~1~Lean.Parser.Term.hole") ++ " n~" ++ toString as.length ++ "~null n~2~Lean.Parser.Term.app n~2~Lean.Parser.Tactic.exact") ++ ["a~decide n~0~null n~1~Lean.Parser.Tactic.optConfig n~2~Lean.Parser.Tactic.decide"])
    | "mem" =>
      let tl (t : String) : String := "i~List.Mem.tail a~_ n~1~Lean.Parser.Term.hole a~( i~ n~1~hygieneInfo n~2~Lean.Parser.Term.hygienicLParen " ++ t ++ " a~) n~3~Lean.Parser.Term.paren n~2~null n~2~Lean.Parser.Term.app"
      return Mine.sf ((List.range 8).reverse.flatMap fun i => ["i~List.Mem.head a~_ n~1~Lean.Parser.Term.hole n~1~null n~2~Lean.Parser.Term.app", "a~( i~ n~1~hygieneInfo n~2~Lean.Parser.Term.hygienicLParen a~by a~assumption n~1~Lean.Parser.Tactic.assumption n~1~null n~1~Lean.Parser.Tactic.tacticSeq1Indented n~1~Lean.Parser.Tactic.tacticSeq n~2~Lean.Parser.Term.byTactic a~) n~3~Lean.Parser.Term.paren"].map fun t => "a~exact " ++ Nat.repeat tl i t ++ " n~2~Lean.Parser.Tactic.exact")
    | _ => Lean.Macro.throwUnsupported : Lean.MacroM String)
  return Mine.sx [] s
local macro_rules | `(tactic| intros $h:ident $hs:ident*) => do
  let m := min 20 (hs.size + 1)
  let n := hs.size + 1
  let ids (a b : Nat) : String := Mine.sr (fun i => "h~" ++ toString (a + i)) (b - a)
  return Mine.sx (h.raw :: hs.toList.map (·.raw)) (Mine.sf ((List.range (m + 2)).reverse.map fun k =>
    let q := if k > m then 1 else max k 1
    "a~( " ++ (if k == 0 then "a~skip n~1~Lean.Parser.Tactic.skip" else "a~w_is_and i~hkp_" ++ toString (if k > m then 0 else k) ++ " n~2~PySem.W.tacticW_is_and_") ++ " a~; a~intro " ++ ids 0 q ++ " n~" ++ toString q ++ "~null n~2~Lean.Parser.Tactic.intro a~; "
      ++ (if q == n then "a~skip n~1~Lean.Parser.Tactic.skip" else "a~intros " ++ ids q n ++ " n~" ++ toString (n - q) ++ "~null n~2~Lean.Parser.Tactic.intros") ++ " n~5~null n~1~Lean.Parser.Tactic.tacticSeq1Indented n~1~Lean.Parser.Tactic.tacticSeq a~) n~3~Lean.Parser.Tactic.paren"))
set_option hygiene true

section
open PySem PySem.W PyProof.Rows PySem.Builtin PySem.Builtin.Str
set_option maxRecDepth 100000
namespace Mine
theorem gives_find4 (x y : Str) (i j : Int) (t u v v' : Tok) : Gives (Builtin.«str.find» ⟨[.str x t, .str y u, .int i v, .int j v'], []⟩) (.int (match occurrences x y (fromIndex x.length i) (min (fromIndex x.length j) x.length) 1 with | k :: _ => (k : Int) | [] => -1)) := by
  show Gives (match occurrences x y (fromIndex x.length i) (min (fromIndex x.length j) x.length) 1 with | k :: _ => retInt k | [] => (do rule "str.find.not-found"; retInt (-1))) _
  cases occurrences x y (fromIndex x.length i) (min (fromIndex x.length j) x.length) 1 with
  | nil => exact .rule (.of_eq rfl)
  | cons k _ => exact .of_eq rfl
theorem from_nat (len i : Nat) : fromIndex len ((i : Nat) : Int) = i := by
  unfold fromIndex
  have h : ¬ ((i : Nat) : Int) < 0 := by omega
  rw [if_neg h]; omega
theorem find4 {prog : Program} {w : World} {A : Around} {E : Value → Shared → Prop} {s : Shared} {x y : Str} {t u v v' : Tok} {i j : Nat} {Q : Value → Shared → Prop} (hj : j ≤ x.length)
    (hq : Q (.int (match occurrences x y i j 1 with | k :: _ => (k : Int) | [] => -1) s.toks) { s with toks := s.toks + 1 }) : wpAny (model prog w) A (call (.builtin "str.find") [.str x t, .str y u, .int ((i : Nat) : Int) v, .int ((j : Nat) : Int) v']) Q E s := by
  refine call_gives F.slot_str_find (typeIs_str _ _ _) F.entry_str_find (F.args_str_find_4 _ _ _ _) (gives_find4 x y _ _ t u v v') ?_
  rw [from_nat, from_nat, Nat.min_eq_left hj]
  exact hq
theorem occ_step (s sub : Str) (hi lim a : Nat) (l : List Nat) (st : Array Nat × Nat) : (forIn (a :: l) st (StrLaws.occBody s sub hi lim)) =
    forIn l (if ((st.fst.size < lim ∧ st.snd ≤ a) ∧ a + sub.length ≤ hi) ∧ subAt s sub a = true then (st.fst.push a, a + sub.length) else (st.fst, st.snd)) (StrLaws.occBody s sub hi lim) := by
  rw [List.forIn_cons]
  unfold StrLaws.occBody
  split <;> rfl
theorem occ_none (x : Str) (c : Nat) {lo hi : Nat} (h : hi ≤ lo) : occurrences x ⟨#[c]⟩ lo hi 1 = [] := by
  rw [StrLaws.occ_eq]
  rcases Nat.lt_or_eq_of_le h with h1 | h1
  · rw [show hi + 1 - lo = 0 by omega]; rfl
  · subst h1
    rw [show hi + 1 - hi = 1 by omega, show List.range' hi 1 = [hi] from rfl, occ_step, if_neg (by
      rintro ⟨⟨_, h2⟩, _⟩
      have : hi + 1 ≤ hi := h2
      omega)]
    rfl
theorem occ_second (x : Str) (c b q : Nat) (h1 : x.cps.toList[q]? = some b) (hb : b ≠ c) (h2 : x.cps.toList[q + 1]? = some c) : occurrences x ⟨#[c]⟩ q (q + 2) 1 = [q + 1] := by
  have n1 : ¬ (q + (⟨#[c]⟩ : Str).length ≤ x.length ∧ subAt x ⟨#[c]⟩ q = true) := fun h => by
    have := (StrLaws.subAt_one x c q).mp h
    rw [h1] at this; exact hb (Option.some.inj this)
  have y2 := (StrLaws.subAt_one x c (q + 1)).mpr h2
  have hlen : q + 2 ≤ x.length := by
    have := (List.getElem?_eq_some_iff.mp h2).1
    have e : x.cps.toList.length = x.length := by simp [Str.length]
    omega
  rw [StrLaws.occ_eq, show q + 2 + 1 - q = 3 by omega, show List.range' q 3 = [q, q + 1, q + 2] from rfl, occ_step, if_neg (by
    rintro ⟨⟨_, h3⟩, h4⟩
    exact n1 ⟨by show q + 1 ≤ _; omega, h4⟩), occ_step, if_pos ⟨⟨⟨Nat.lt_succ_self 0, Nat.le_succ q⟩, by show q + 1 + 1 ≤ q + 2; omega⟩, y2.2⟩, occ_step, if_neg (by
    rintro ⟨⟨⟨h3, _⟩, _⟩, _⟩
    exact absurd h3 (Nat.lt_irrefl 1))]
  rfl
end Mine
end

section
open PySem PySem.W PyProof.Rows PySem.Calls PySem.Spec
set_option maxRecDepth 100000
set_option maxHeartbeats 8000000
set_option hygiene false
namespace Mine
/-- the top's run and all that is looked at behind it, of any program (its quick twin names no text of a program, so it stays small) -/
noncomputable def runG (p q : Program) (lo mods : List Str) (R : WRecords) (as : List Addr) (w : World) := (openEnds treeTable p w 4400).map fun s => (openSeen q lo mods (fun s => xlAt q [] s && recOk R s) true s, (as.map s.heap.get?, [57].map s.heap.get?))
lay_quick Mine.runG
noncomputable def saidG (l : OpenLaw) : Bool := OpenLaw.wellSaid l
lay_quick Mine.saidG
theorem saidT : PySem.W.Fast.tw1568032226376447359 PySem.Challenge.rw_kt0032_01 = true := by kernel_rfl
theorem said : OpenLaw.wellSaid PySem.Challenge.rw_kt0032_01 = true := (congrFun PySem.W.Fast.te1568032226376447359 _).trans saidT
noncomputable abbrev RW : RowW := PySem.Challenge.rw_kt0032_01.row.toRowW
/-- the statements of the text that the walk's ground knows -/
noncomputable def keepL : List Nat := [0, 2, 3, 5, 6, 8, 9, 11, 12, 13, 15, 16, 18, 19, 20, 21, 22, 23, 24, 25, 26, 27, 28, 29, 30, 31, 32]
noncomputable def QV : Program := PySem.W.view RW.prog keepL
noncomputable abbrev LO : List Str := [Str.ofString "_twin_re_1", Str.ofString "_special_chars_map"]
noncomputable def wv (b1 b2 : Bool) (w : World) : World := (w.withFollow "special-get-raises" b2).withFollow "comprehension-iter-twice" b1
noncomputable abbrev goodK (K : Params → Frag) (w : World) := some (openGood QV LO, ((K w.params).map fun p => some p.2, [57].map fun _ => some (tabObj #[])))
noncomputable abbrev runT (as : List Addr) (w : World) := PySem.W.Fast.tw12184768622420727928 RW.prog QV LO (importedModules RW.prog.main.body) RW.records as w
theorem left_of {K : Params → Frag} {as : List Addr} {e : ∀ P, as = (K P).map (·.1)} (v1 : ∀ w, runT as (wv false false w) = goodK K (wv false false w)) (v2 : ∀ w, runT as (wv false true w) = goodK K (wv false true w))
    (v3 : ∀ w, runT as (wv true false w) = goodK K (wv true false w)) (v4 : ∀ w, runT as (wv true true w) = goodK K (wv true true w)) :
    LeftO RW.prog QV LO (fun s => xlAt QV [] s && recOk RW.records s) (Hook.obs (kmHook K as e [57])) (Hook.val (kmHook K as e [57])) 4400 := by
  have key : ∀ w, runG RW.prog QV LO (importedModules RW.prog.main.body) RW.records as w = goodK K w := fun w => by
    rw [PySem.W.Fast.te12184768622420727928]
    exact byRow2 "comprehension-iter-twice" (P := fun w => runT as w = goodK K w)
      (fun w => byRow2 "special-get-raises" (P := fun w => runT as (w.withFollow "comprehension-iter-twice" false) = goodK K (w.withFollow "comprehension-iter-twice" false)) v1 v2 w)
      (fun w => byRow2 "special-get-raises" (P := fun w => runT as (w.withFollow "comprehension-iter-twice" true) = goodK K (w.withFollow "comprehension-iter-twice" true)) v3 v4 w) w
  exact key
local macro_rules | `(tactic| o_law) => `(tactic| refine holds_law Mine.said fun said => ?_)
theorem keepK (_H : Hook) (_hw : PySem.Challenge.rw_kt0032_01.row.toRowW.promised) (h : PySem.Challenge.rw_kt0032_01.row.Holds) : PySem.Challenge.rw_kt0032_01.row.Holds := h
section
local macro_rules | `(tactic| o_head $H) => `(tactic| (refine keepK $H ?hw ?hc))
open_top kk for PySem.Challenge.rw_kt0032_01
end
/-- the addresses of the objects that the walk may look at -/
noncomputable abbrev AS : List Addr := [2, 3, 35, 36, 37, 39, 40, 42, 43, 45, 49, 51, 52, 54, 55, 56, 58, 59, 61, 62, 63, 65, 66, 68, 69, 70, 72, 73, 75, 76, 77, 79, 80, 82, 83, 84, 86, 87, 89, 90, 91, 93, 94, 96, 97, 98, 100, 101, 103, 104, 105, 107, 108, 110, 111, 112, 115, 116, 117, 120, 121, 122, 124, 125, 127, 128, 129, 131, 132, 134, 135, 136, 138, 139, 141, 142, 143, 145, 146, 148, 149, 150, 153, 154, 155, 158, 159, 160, 162, 163, 165, 166, 167, 169, 170, 172, 173, 174, 177, 178, 179, 181, 182, 184, 185, 186, 188, 189, 191, 192, 193, 196, 197]
theorem ase : ∀ P, AS = (kk.heap_1 P).map (·.1) := fun P => by kernel_rfl
theorem v1 : ∀ w, runT AS (wv false false w) = goodK kk.heap_1 (wv false false w) := fun w => by kernel_rfl
theorem v2 : ∀ w, runT AS (wv false true w) = goodK kk.heap_1 (wv false true w) := fun w => by kernel_rfl
theorem v3 : ∀ w, runT AS (wv true false w) = goodK kk.heap_1 (wv true false w) := fun w => by kernel_rfl
theorem v4 : ∀ w, runT AS (wv true true w) = goodK kk.heap_1 (wv true true w) := fun w => by kernel_rfl
section
local macro_rules | `(tactic| o_head $_H) => return Mine.sx [] "a~( a~refine' i~holds_open a~( i~q a~:= i~QV a~) n~5~Lean.Parser.Term.namedArgument a~( i~loose a~:= i~LO a~) n~5~Lean.Parser.Term.namedArgument a~( i~Xt a~:= a~fun i~s n~1~null n~0~null a~=> i~xlAt i~QV a~[ n~0~null a~] n~3~term[_] i~s n~3~null n~2~Lean.Parser.Term.app a~&& i~recOk i~RW.records i~s n~2~null n~2~Lean.Parser.Term.app n~3~term_&&_ n~4~Lean.Parser.Term.basicFun n~2~Lean.Parser.Term.fun a~) n~5~Lean.Parser.Term.namedArgument a~( i~XP a~:= i~XL i~QV a~[ n~0~null a~] n~3~term[_] n~2~null n~2~Lean.Parser.Term.app a~) n~5~Lean.Parser.Term.namedArgument a~( i~Yf a~:= i~Hook.obs a~( i~ n~1~hygieneInfo n~2~Lean.Parser.Term.hygienicLParen i~kmHook i~kk.heap_1 i~AS i~ase a~[ a~57 n~1~num n~1~null a~] n~3~term[_] n~4~null n~2~Lean.Parser.Term.app a~) n~3~Lean.Parser.Term.paren n~1~null n~2~Lean.Parser.Term.app a~) n~5~Lean.Parser.Term.namedArgument a~( i~Ya a~:= i~Hook.val a~( i~ n~1~hygieneInfo n~2~Lean.Parser.Term.hygienicLParen i~kmHook i~kk.heap_1 i~AS i~ase a~[ a~57 n~1~num n~1~null a~] n~3~term[_] n~4~null n~2~Lean.Parser.Term.app a~) n~3~Lean.Parser.Term.paren n~1~null n~2~Lean.Parser.Term.app a~) n~5~Lean.Parser.Term.namedArgument a~( i~YP a~:= i~Hook.says a~( i~ n~1~hygieneInfo n~2~Lean.Parser.Term.hygienicLParen i~kmHook i~kk.heap_1 i~AS i~ase a~[ a~57 n~1~num n~1~null a~] n~3~term[_] n~4~null n~2~Lean.Parser.Term.app a~) n~3~Lean.Parser.Term.paren n~1~null n~2~Lean.Parser.Term.app a~) n~5~Lean.Parser.Term.namedArgument a~( i~N a~:= a~4400 n~1~num a~) n~5~Lean.Parser.Term.namedArgument a~? i~hl n~2~Lean.Parser.Term.syntheticHole a~( i~ n~1~hygieneInfo n~2~Lean.Parser.Term.hygienicLParen i~Hook.of a~( i~ n~1~hygieneInfo n~2~Lean.Parser.Term.hygienicLParen i~kmHook i~kk.heap_1 i~AS i~ase a~[ a~57 n~1~num n~1~null a~] n~3~term[_] n~4~null n~2~Lean.Parser.Term.app a~) n~3~Lean.Parser.Term.paren n~1~null n~2~Lean.Parser.Term.app a~) n~3~Lean.Parser.Term.paren a~( i~ n~1~hygieneInfo n~2~Lean.Parser.Term.hygienicLParen i~Hook.keeps a~( i~ n~1~hygieneInfo n~2~Lean.Parser.Term.hygienicLParen i~kmHook i~kk.heap_1 i~AS i~ase a~[ a~57 n~1~num n~1~null a~] n~3~term[_] n~4~null n~2~Lean.Parser.Term.app a~) n~3~Lean.Parser.Term.paren n~1~null n~2~Lean.Parser.Term.app a~) n~3~Lean.Parser.Term.paren a~( i~ n~1~hygieneInfo n~2~Lean.Parser.Term.hygienicLParen a~fun i~s i~e n~2~null n~0~null a~=> i~xl_of i~s a~( i~ n~1~hygieneInfo n~2~Lean.Parser.Term.hygienicLParen i~Bool.and_eq_true_iff.mp i~e n~1~null n~2~Lean.Parser.Term.app a~) n~3~Lean.Parser.Term.paren a~. a~1 n~1~fieldIdx n~3~Lean.Parser.Term.proj n~2~null n~2~Lean.Parser.Term.app n~4~Lean.Parser.Term.basicFun n~2~Lean.Parser.Term.fun a~) n~3~Lean.Parser.Term.paren i~XL.keeps a~? i~h1 n~2~Lean.Parser.Term.syntheticHole a~? i~h2 n~2~Lean.Parser.Term.syntheticHole a~? i~h3 n~2~Lean.Parser.Term.syntheticHole a~( i~ n~1~hygieneInfo n~2~Lean.Parser.Term.hygienicLParen a~fun i~s i~e n~2~null n~0~null a~=> i~recFacts_of a~( i~ n~1~hygieneInfo n~2~Lean.Parser.Term.hygienicLParen i~Bool.and_eq_true_iff.mp i~e n~1~null n~2~Lean.Parser.Term.app a~) n~3~Lean.Parser.Term.paren a~. a~2 n~1~fieldIdx n~3~Lean.Parser.Term.proj n~1~null n~2~Lean.Parser.Term.app n~4~Lean.Parser.Term.basicFun n~2~Lean.Parser.Term.fun a~) n~3~Lean.Parser.Term.paren a~? i~h4 n~2~Lean.Parser.Term.syntheticHole a~? i~h5 n~2~Lean.Parser.Term.syntheticHole a~? i~h6 n~2~Lean.Parser.Term.syntheticHole a~? i~h7 n~2~Lean.Parser.Term.syntheticHole a~? i~hw n~2~Lean.Parser.Term.syntheticHole a~? i~hc n~2~Lean.Parser.Term.syntheticHole n~23~null n~2~Lean.Parser.Term.app n~2~Lean.Parser.Tactic.refine' a~; a~( a~case i~h1 n~1~Lean.binderIdent n~0~null n~2~Lean.Parser.Tactic.caseArg n~1~null a~=> a~rfl n~1~Lean.Parser.Tactic.tacticRfl n~1~null n~1~Lean.Parser.Tactic.tacticSeq1Indented n~1~Lean.Parser.Tactic.tacticSeq n~4~Lean.Parser.Tactic.case n~1~null n~1~Lean.Parser.Tactic.tacticSeq1Indented n~1~Lean.Parser.Tactic.tacticSeq a~) n~3~Lean.Parser.Tactic.paren a~; a~( a~case i~h2 n~1~Lean.binderIdent n~0~null n~2~Lean.Parser.Tactic.caseArg n~1~null a~=> a~rfl n~1~Lean.Parser.Tactic.tacticRfl n~1~null n~1~Lean.Parser.Tactic.tacticSeq1Indented n~1~Lean.Parser.Tactic.tacticSeq n~4~Lean.Parser.Tactic.case n~1~null n~1~Lean.Parser.Tactic.tacticSeq1Indented n~1~Lean.Parser.Tactic.tacticSeq a~) n~3~Lean.Parser.Tactic.paren a~; a~( a~case i~h3 n~1~Lean.binderIdent n~0~null n~2~Lean.Parser.Tactic.caseArg n~1~null a~=> a~rfl n~1~Lean.Parser.Tactic.tacticRfl n~1~null n~1~Lean.Parser.Tactic.tacticSeq1Indented n~1~Lean.Parser.Tactic.tacticSeq n~4~Lean.Parser.Tactic.case n~1~null n~1~Lean.Parser.Tactic.tacticSeq1Indented n~1~Lean.Parser.Tactic.tacticSeq a~) n~3~Lean.Parser.Tactic.paren a~; a~( a~case i~h4 n~1~Lean.binderIdent n~0~null n~2~Lean.Parser.Tactic.caseArg n~1~null a~=> a~rfl n~1~Lean.Parser.Tactic.tacticRfl n~1~null n~1~Lean.Parser.Tactic.tacticSeq1Indented n~1~Lean.Parser.Tactic.tacticSeq n~4~Lean.Parser.Tactic.case n~1~null n~1~Lean.Parser.Tactic.tacticSeq1Indented n~1~Lean.Parser.Tactic.tacticSeq a~) n~3~Lean.Parser.Tactic.paren a~; a~( a~case i~h5 n~1~Lean.binderIdent n~0~null n~2~Lean.Parser.Tactic.caseArg n~1~null a~=> a~assumption n~1~Lean.Parser.Tactic.assumption n~1~null n~1~Lean.Parser.Tactic.tacticSeq1Indented n~1~Lean.Parser.Tactic.tacticSeq n~4~Lean.Parser.Tactic.case n~1~null n~1~Lean.Parser.Tactic.tacticSeq1Indented n~1~Lean.Parser.Tactic.tacticSeq a~) n~3~Lean.Parser.Tactic.paren a~; a~( a~case i~h6 n~1~Lean.binderIdent n~0~null n~2~Lean.Parser.Tactic.caseArg n~1~null a~=> a~decide a~+ i~kernel n~2~Lean.Parser.Tactic.posConfigItem n~1~Lean.Parser.Tactic.configItem n~1~null n~1~Lean.Parser.Tactic.optConfig n~2~Lean.Parser.Tactic.decide n~1~null n~1~Lean.Parser.Tactic.tacticSeq1Indented n~1~Lean.Parser.Tactic.tacticSeq n~4~Lean.Parser.Tactic.case n~1~null n~1~Lean.Parser.Tactic.tacticSeq1Indented n~1~Lean.Parser.Tactic.tacticSeq a~) n~3~Lean.Parser.Tactic.paren a~; a~( a~case i~h7 n~1~Lean.binderIdent n~0~null n~2~Lean.Parser.Tactic.caseArg n~1~null a~=> a~exact a~⟨ i~rfl a~, i~rfl a~, i~rfl a~, i~rfl a~, i~rfl a~, a~by a~decide a~+ i~kernel n~2~Lean.Parser.Tactic.posConfigItem n~1~Lean.Parser.Tactic.configItem n~1~null n~1~Lean.Parser.Tactic.optConfig n~2~Lean.Parser.Tactic.decide n~1~null n~1~Lean.Parser.Tactic.tacticSeq1Indented n~1~Lean.Parser.Tactic.tacticSeq n~2~Lean.Parser.Term.byTactic n~11~null a~⟩ n~3~Lean.Parser.Term.anonymousCtor n~2~Lean.Parser.Tactic.exact n~1~null n~1~Lean.Parser.Tactic.tacticSeq1Indented n~1~Lean.Parser.Tactic.tacticSeq n~4~Lean.Parser.Tactic.case n~1~null n~1~Lean.Parser.Tactic.tacticSeq1Indented n~1~Lean.Parser.Tactic.tacticSeq a~) n~3~Lean.Parser.Tactic.paren a~; a~( a~case i~hl n~1~Lean.binderIdent n~0~null n~2~Lean.Parser.Tactic.caseArg n~1~null a~=> a~exact i~left_of i~v1 i~v2 i~v3 i~v4 n~4~null n~2~Lean.Parser.Term.app n~2~Lean.Parser.Tactic.exact n~1~null n~1~Lean.Parser.Tactic.tacticSeq1Indented n~1~Lean.Parser.Tactic.tacticSeq n~4~Lean.Parser.Tactic.case n~1~null n~1~Lean.Parser.Tactic.tacticSeq1Indented n~1~Lean.Parser.Tactic.tacticSeq a~) n~3~Lean.Parser.Tactic.paren n~17~null n~1~Lean.Parser.Tactic.tacticSeq1Indented n~1~Lean.Parser.Tactic.tacticSeq a~) n~3~Lean.Parser.Tactic.paren"
open_top hd for PySem.Challenge.rw_kt0032_01
end
end Mine
end

section
open PySem
namespace Mine
/-! ### plain: the two differences -/
noncomputable def sldF : Nat → List (List Nat) → List (List Nat) → List (List Nat) × List (List Nat)
  | 0, E, A => (E, A)
  | _ + 1, [], A => ([], A)
  | _ + 1, e :: E, [] => (e :: E, [])
  | k + 1, e :: E, a :: A => if e < a then (e :: (sldF k (E.dropWhile (· == e)) (a :: A)).1, (sldF k (E.dropWhile (· == e)) (a :: A)).2)
      else if a < e then ((sldF k (e :: E) (A.dropWhile (· == a))).1, a :: (sldF k (e :: E) (A.dropWhile (· == a))).2)
      else sldF k (E.dropWhile (· == e)) (A.dropWhile (· == a))
noncomputable def dupF (l : List (List Nat)) : List (List Nat) := l.flatMap fun c => [c, c]
theorem drop_lt {e : List Nat} : ∀ {l : List (List Nat)}, (∀ x ∈ l, e < x) → l.dropWhile (· == e) = l
  | [], _ => rfl
  | x :: r, h => by
    have hx := h x (List.mem_cons_self ..)
    have : (x == e) = false := beq_eq_false_iff_ne.mpr fun q => List.lt_irrefl e (q ▸ hx)
    rw [List.dropWhile_cons, if_neg (by rw [this]; decide)]
theorem dup_mem {l : List (List Nat)} {x : List Nat} (h : x ∈ dupF l) : x ∈ l := by
  obtain ⟨c, hc, hx⟩ := List.mem_flatMap.mp h
  simp at hx; exact hx ▸ hc
theorem sld_one (p : List Nat → Bool) : ∀ (os : List (List Nat)) (k : Nat), os.Pairwise (· < ·) → os.length ≤ k → sldF k os (dupF (os.filter p)) = (os.filter fun o => !p o, [])
  | [], 0, _, _ => rfl
  | [], k + 1, _, _ => rfl
  | e :: r, 0, _, h => by cases h
  | e :: r, k + 1, hs, hk => by
    obtain ⟨h1, h2⟩ := List.pairwise_cons.mp hs
    have ih := sld_one p r k h2 (Nat.le_of_succ_le_succ hk)
    have hd : ∀ x ∈ dupF (r.filter p), e < x := fun x hx => h1 x (List.mem_filter.mp (dup_mem hx)).1
    by_cases hp : p e = true
    · rw [List.filter_cons_of_pos hp, List.filter_cons_of_neg (by simp [hp])]
      show (if e < e then _ else if e < e then _ else sldF k (r.dropWhile (· == e)) ((e :: dupF (r.filter p)).dropWhile (· == e))) = _
      rw [if_neg (List.lt_irrefl e), if_neg (List.lt_irrefl e), drop_lt h1, List.dropWhile_cons, if_pos (by simp), drop_lt hd, ih]
    · rw [List.filter_cons_of_neg hp, List.filter_cons_of_pos (by simp [hp])]
      cases hq : dupF (r.filter p) with
      | nil =>
        have hn : r.filter p = [] := by
          cases hf : r.filter p with
          | nil => rfl
          | cons c t => rw [hf] at hq; cases hq
        have : r.filter (fun o => !p o) = r := List.filter_eq_self.mpr fun x hx => by
          have := List.filter_eq_nil_iff.mp hn x hx
          simpa using this
        rw [this]; rfl
      | cons a A =>
        have ha := hd a (by rw [hq]; exact List.mem_cons_self ..)
        show (if e < a then (e :: (sldF k (r.dropWhile (· == e)) (a :: A)).1, (sldF k (r.dropWhile (· == e)) (a :: A)).2) else _) = _
        rw [if_pos ha, drop_lt h1, ← hq, ih]
theorem sld_two (p : List Nat → Bool) : ∀ (os : List (List Nat)) (k : Nat), os.Pairwise (· < ·) → os.length ≤ k → sldF k (dupF (os.filter p)) os = ([], os.filter fun o => !p o)
  | [], 0, _, _ => rfl
  | [], k + 1, _, _ => rfl
  | e :: r, 0, _, h => by cases h
  | e :: r, k + 1, hs, hk => by
    obtain ⟨h1, h2⟩ := List.pairwise_cons.mp hs
    have ih := sld_two p r k h2 (Nat.le_of_succ_le_succ hk)
    have hd : ∀ x ∈ dupF (r.filter p), e < x := fun x hx => h1 x (List.mem_filter.mp (dup_mem hx)).1
    by_cases hp : p e = true
    · rw [List.filter_cons_of_pos hp, List.filter_cons_of_neg (by simp [hp])]
      show (if e < e then _ else if e < e then _ else sldF k ((e :: dupF (r.filter p)).dropWhile (· == e)) (r.dropWhile (· == e))) = _
      rw [if_neg (List.lt_irrefl e), if_neg (List.lt_irrefl e), drop_lt h1, List.dropWhile_cons, if_pos (by simp), drop_lt hd, ih]
    · rw [List.filter_cons_of_neg hp, List.filter_cons_of_pos (by simp [hp])]
      cases hq : dupF (r.filter p) with
      | nil =>
        have hn : r.filter p = [] := by
          cases hf : r.filter p with
          | nil => rfl
          | cons c t => rw [hf] at hq; cases hq
        have : r.filter (fun o => !p o) = r := List.filter_eq_self.mpr fun x hx => by
          have := List.filter_eq_nil_iff.mp hn x hx
          simpa using this
        rw [this]; rfl
      | cons a A =>
        have ha := hd a (by rw [hq]; exact List.mem_cons_self ..)
        have hna : ¬ a < e := fun q => List.lt_irrefl e (List.lt_trans ha q)
        show (if a < e then _ else if e < a then ((sldF k (a :: A) (r.dropWhile (· == e))).1, e :: (sldF k (a :: A) (r.dropWhile (· == e))).2) else _) = _
        rw [if_neg hna, if_pos ha, drop_lt h1, ← hq, ih]
/-- `unorderable_list_difference`: what is missing, and what is left -/
noncomputable def uldF : List (List Nat) → List (List Nat) → List (List Nat) × List (List Nat)
  | [], A => ([], A)
  | e :: E, A => if A.contains e then uldF E (A.erase e) else (e :: (uldF E A).1, (uldF E A).2)
theorem uld_filter : ∀ (E A : List (List Nat)), E.Nodup → (uldF E A).1 = E.filter fun e => !A.contains e
  | [], _, _ => rfl
  | e :: E, A, h => by
    obtain ⟨h1, h2⟩ := List.nodup_cons.mp h
    by_cases hc : A.contains e = true
    · rw [uldF, if_pos hc, List.filter_cons_of_neg (by simp at hc ⊢; exact hc), uld_filter E _ h2]
      refine List.filter_congr fun x hx => ?_
      have hxe : x ≠ e := fun q => h1 (q ▸ hx)
      simp [List.mem_erase_of_ne hxe]
    · rw [uldF, if_neg hc, List.filter_cons_of_pos (by simp at hc ⊢; exact hc)]
      exact congrArg (e :: ·) (uld_filter E A h2)
theorem uld_rest : ∀ (E A : List (List Nat)), A.Nodup → (∀ a ∈ A, a ∈ E) → (uldF E A).2 = []
  | [], A, _, hs => by
    cases A with
    | nil => rfl
    | cons a r => exact absurd (hs a (List.mem_cons_self ..)) (by simp)
  | e :: E, A, ha, hs => by
    by_cases hc : A.contains e = true
    · rw [uldF, if_pos hc]
      refine uld_rest E _ (ha.erase e) fun a hm => ?_
      have hne : a ≠ e := fun q => by rw [q] at hm; exact (List.Nodup.not_mem_erase ha) hm
      rcases List.mem_cons.mp (hs a (List.mem_of_mem_erase hm)) with q | q
      · exact absurd q hne
      · exact q
    · rw [uldF, if_neg hc]
      refine uld_rest E A ha fun a hm => ?_
      rcases List.mem_cons.mp (hs a hm) with q | q
      · exact absurd (q ▸ hm) (by simpa using hc)
      · exact q
end Mine
end

section
open PySem PySem.W PyProof.Rows PySem.Calls PySem.Spec
namespace Mine
theorem rising_pw : ∀ (l : List (List Nat)) (p : List Nat), risingS ⟨p.toArray⟩ (l.map fun r => (⟨r.toArray⟩ : Str)) = true → (p :: l).Pairwise (fun a b => ¬ b < a)
  | [], p, _ => List.pairwise_singleton _ _
  | x :: r, p, h => by
    have h' : (!ltCps x p && risingS ⟨x.toArray⟩ (r.map fun r => (⟨r.toArray⟩ : Str))) = true := h
    rw [Bool.and_eq_true] at h'
    obtain ⟨h1, h2⟩ := h'
    rw [ltCps_eq] at h1
    have hxp : ¬ x < p := by simpa using h1
    have ih := rising_pw r x h2
    refine List.pairwise_cons.mpr ⟨fun y hy => ?_, ih⟩
    rcases List.mem_cons.mp hy with rfl | hy
    · exact hxp
    · have hyx := (List.pairwise_cons.mp ih).1 y hy
      exact List.le_trans (show p ≤ x from hxp) (show x ≤ y from hyx)
theorem sorted_pw (l : List (List Nat)) (h : sortedS (l.map fun r => (⟨r.toArray⟩ : Str)) = true) : l.Pairwise (fun a b => ¬ b < a) := by
  cases l with
  | nil => exact .nil
  | cons x r => exact rising_pw r x h
theorem list_tri {a b : List Nat} (h1 : ¬ b < a) (h2 : ¬ a < b) : a = b := List.le_antisymm (show a ≤ b from h1) (show b ≤ a from h2)
theorem strict_of {l : List (List Nat)} (h : l.Pairwise (fun a b => ¬ b < a)) (hn : l.Nodup) : l.Pairwise (· < ·) := by
  induction l with
  | nil => exact .nil
  | cons x r ih =>
    obtain ⟨h1, h2⟩ := List.pairwise_cons.mp h
    obtain ⟨n1, n2⟩ := List.nodup_cons.mp hn
    refine List.pairwise_cons.mpr ⟨fun y hy => ?_, ih h2 n2⟩
    exact Classical.byContradiction fun q => n1 (list_tri (h1 y hy) q ▸ hy)
theorem dup_perm : ∀ l : List (List Nat), (dupF l).Perm (l ++ l)
  | [] => .nil
  | c :: l => by
    show (c :: c :: dupF l).Perm (c :: (l ++ c :: l))
    refine .cons c ?_
    exact ((List.Perm.cons c (dup_perm l))).trans List.perm_middle.symm
theorem dup_pw {l : List (List Nat)} (h : l.Pairwise (· < ·)) : (dupF l).Pairwise (fun a b => ¬ b < a) := by
  induction l with
  | nil => exact .nil
  | cons x r ih =>
    obtain ⟨h1, h2⟩ := List.pairwise_cons.mp h
    have hx : ∀ y ∈ dupF r, ¬ y < x := fun y hy q => List.lt_irrefl x (List.lt_trans (h1 y (dup_mem hy)) q)
    show (x :: x :: dupF r).Pairwise _
    refine List.pairwise_cons.mpr ⟨fun y hy => ?_, List.pairwise_cons.mpr ⟨hx, ih h2⟩⟩
    rcases List.mem_cons.mp hy with rfl | hy
    · exact List.lt_irrefl _
    · exact hx y hy
/-- the sorted list of those that came, each twice -/
theorem doubled_eq {os cs D : List (List Nat)} (hos : os.Pairwise (· < ·)) (hcn : cs.Nodup) (hsub : ∀ c ∈ cs, c ∈ os) (hD : D.Pairwise (fun a b => ¬ b < a)) (hp : D.Perm (cs ++ cs)) : D = dupF (os.filter fun o => cs.contains o) := by
  have hfn : (os.filter fun o => cs.contains o).Nodup := (hos.imp fun {a b} h => fun (e : a = b) => List.lt_irrefl b (e ▸ h)).filter _
  have hfp : (os.filter fun o => cs.contains o).Perm cs := by
    refine (List.perm_ext_iff_of_nodup hfn hcn).mpr fun a => ?_
    rw [List.mem_filter]
    constructor
    · rintro ⟨_, h⟩; simpa using h
    · intro h; exact ⟨hsub a h, by simpa using h⟩
  refine List.Perm.eq_of_pairwise (le := fun a b => ¬ b < a) (fun a b _ _ h1 h2 => list_tri h1 h2) hD (dup_pw (hos.filter _)) ?_
  exact hp.trans ((List.Perm.append hfp hfp).symm.trans (dup_perm _).symm)
end Mine
end

section
open PySem
namespace Mine
/-! ### plain: a piece's text is read back -/
noncomputable def enc (c : Nat) : List Nat := if c = 92 ∨ c = 45 ∨ amp c = true then [92, c] else [c]
theorem ampS_e1 (c : Nat) : ampS (e1 c) = enc c := by
  unfold e1 enc
  by_cases h1 : c = 92
  · subst h1; rfl
  · by_cases h2 : c = 45
    · subst h2; rfl
    · rw [if_neg (by simp [h1, h2])]
      by_cases h3 : amp c = true
      · rw [if_pos (by simp [h3])]; simp [ampS, h3]
      · rw [if_neg (by simp [h1, h2, h3])]; simp [ampS, h3]
theorem ampS_append (a b : List Nat) : ampS (a ++ b) = ampS a ++ ampS b := List.flatMap_append
theorem ampS_flat (l : List Nat) : ampS (l.flatMap e1) = l.flatMap enc := by
  induction l with
  | nil => rfl
  | cons c r ih => rw [List.flatMap_cons, List.flatMap_cons, ampS_append, ampS_e1, ih]
theorem scan_end (r sg : List Nat) (h : sg ≠ []) : scanB (93 :: r) sg = some (sg, 1) := by
  rw [scanB_cons, if_pos ⟨rfl, h⟩]
theorem scan_enc (c : Nat) (r sg : List Nat) (h : c ≠ 93 ∨ sg = []) : scanB (enc c ++ r) sg = (scanB r (sg ++ [c])).map (fun y => (y.1, y.2 + (enc c).length)) := by
  unfold enc
  by_cases hc : c = 92 ∨ c = 45 ∨ amp c = true
  · rw [if_pos hc]
    show scanB (92 :: c :: r) sg = _
    rw [scanB_cons, if_neg (by rintro ⟨h1, _⟩; cases h1), if_pos rfl]; rfl
  · rw [if_neg hc]
    show scanB (c :: r) sg = _
    have h92 : c ≠ 92 := fun e => hc (.inl e)
    rw [scanB_cons, if_neg (by rintro ⟨h1, h2⟩; rcases h with h | h; exact h h1; exact h2 h), if_neg h92]; rfl
noncomputable def Pc.item : Pc → Bool × List Nat
  | .bare c => (false, [c])
  | .one c => (false, [c])
  | .bar a b c => (true, [a, b, c])
theorem spec_sub : ∀ c ∈ spec9, c ∈ specE := by decide
theorem one_inner (c : Nat) (h : c ≠ 33) : Pc.inner (.one c) = (if c = 94 ∨ c = 91 then [92, c] else enc c) := by
  show (if c = 94 ∨ c = 91 then [92, c] else ampS (e1 c)) = _
  rw [ampS_e1]
theorem item_out : ∀ (p : Pc) (r : List Nat), p.ok → itemF (p.out ++ r) = some (p.item, p.out.length)
  | .bare c, r, h => by
    show itemF (escE c ++ r) = some ((false, [c]), (escE c).length)
    unfold escE
    by_cases hc : specE.contains c = true
    · rw [if_pos hc]
      show itemF (92 :: c :: r) = _
      simp [itemF]
    · rw [if_neg hc]
      have hm : c ∉ specE := by simpa using hc
      have h1 : c ≠ 92 := fun e => hm (e ▸ by decide)
      have h2 : c ≠ 46 := fun e => hm (e ▸ by decide)
      have h3 : spec9.contains c = false := by
        have : c ∉ spec9 := fun e => hm (spec_sub c e)
        simpa using this
      have h4 : c ≠ 91 := fun e => hm (e ▸ by decide)
      show itemF (c :: r) = _
      simp only [itemF, h1, h2, h3, h4, if_false, if_true, ne_eq, not_false_eq_true, Bool.false_eq_true]
      rfl
  | .one c, r, h => by
    have hi := one_inner c h
    have ho : Pc.out (.one c) = 91 :: (Pc.inner (.one c) ++ [93]) := rfl
    have hlen : (Pc.out (.one c)).length = (Pc.inner (.one c)).length + 2 := by rw [ho]; simp
    have key : ∀ l, (∃ d t, l = d :: t ∧ d ≠ 94) → ∀ k, scanB (l ++ [93] ++ r) [] = some ([c], k) → itemF (91 :: (l ++ [93]) ++ r) = some ((false, [c]), k + 1) := by
      rintro l ⟨d, t, rfl, hd⟩ k hs
      show itemF (91 :: d :: (t ++ [93] ++ r)) = _
      have hs' : scanB (d :: (t ++ [93] ++ r)) [] = some ([c], k) := hs
      simp only [itemF, show ¬ (91 = 92) from by decide, show ¬ (91 = 46) from by decide, show spec9.contains 91 = false from by decide, if_false, ne_eq, not_true_eq_false, Bool.false_eq_true, hd, hs', Option.map_some]
    by_cases h2 : c = 94 ∨ c = 91
    · have hi2 : Pc.inner (.one c) = [92, c] := by rw [hi, if_pos h2]
      rw [hlen, ho, hi2]
      have hs : scanB ([92, c] ++ [93] ++ r) [] = some ([c], 3) := by
        show scanB (92 :: c :: 93 :: r) [] = _
        rw [scanB_cons, if_neg (by rintro ⟨h1, _⟩; cases h1), if_pos rfl]
        show (scanB (93 :: r) [c]).map _ = _
        rw [scan_end _ _ (by simp)]; rfl
      exact key _ ⟨92, [c], rfl, by decide⟩ 3 hs
    · have hi2 : Pc.inner (.one c) = enc c := by rw [hi, if_neg h2]
      rw [hlen, ho, hi2]
      have hs : scanB (enc c ++ [93] ++ r) [] = some ([c], (enc c).length + 1) := by
        rw [List.append_assoc, scan_enc c _ [] (.inr rfl)]
        show (scanB (93 :: r) [c]).map _ = _
        rw [scan_end _ _ (by simp), Nat.add_comm]; rfl
      refine key _ ?_ _ hs
      unfold enc
      by_cases hc : c = 92 ∨ c = 45 ∨ amp c = true
      · rw [if_pos hc]; exact ⟨92, [c], rfl, by decide⟩
      · rw [if_neg hc]; exact ⟨c, [], rfl, fun e => h2 (.inl e)⟩
  | .bar a b c, r, h => by
    obtain ⟨hb, hc, _, _⟩ := h
    have ho : Pc.out (.bar a b c) = 91 :: 94 :: ([a, b, c].flatMap enc ++ [93]) := by
      show [91] ++ ([94] ++ ampS ([a, b, c].flatMap e1)) ++ [93] = _
      rw [ampS_flat]; rfl
    have hs : scanB ([a, b, c].flatMap enc ++ [93] ++ r) [] = some ([a, b, c], ([a, b, c].flatMap enc).length + 1) := by
      show scanB (enc a ++ (enc b ++ (enc c ++ [])) ++ [93] ++ r) [] = _
      rw [List.append_nil, List.append_assoc, List.append_assoc, List.append_assoc, scan_enc a _ [] (.inr rfl), scan_enc b _ _ (.inl hb), scan_enc c _ _ (.inl hc)]
      show (((scanB (93 :: r) [a, b, c]).map _).map _).map _ = _
      rw [scan_end _ _ (by simp)]
      show some ([a, b, c], 1 + (enc c).length + (enc b).length + (enc a).length) = some ([a, b, c], (enc a ++ (enc b ++ (enc c ++ []))).length + 1)
      congr 2
      simp only [List.length_append, List.length_nil]; omega
    rw [ho]
    show itemF (91 :: 94 :: ([a, b, c].flatMap enc ++ [93] ++ r)) = _
    simp only [itemF, show ¬ (91 = 92) from by decide, show ¬ (91 = 46) from by decide, show spec9.contains 91 = false from by decide, if_false, if_true, ne_eq, not_true_eq_false, Bool.false_eq_true, hs, Option.map_some]
    show some ((true, [a, b, c]), ([a, b, c].flatMap enc).length + 1 + 2) = some ((true, [a, b, c]), (91 :: 94 :: ([a, b, c].flatMap enc ++ [93])).length)
    congr 2
    simp only [List.length_cons, List.length_append, List.length_nil]
/-- the whole text of a pattern of three pieces -/
noncomputable def wrapF (p : Pc) : List Nat := [40, 63, 62, 46, 42, 63] ++ p.out ++ [41]
theorem reads_three (p1 p2 p3 : Pc) (h1 : p1.ok) (h2 : p2.ok) (h3 : p3.ok) : Reads (wrapF p1 ++ wrapF p2 ++ wrapF p3 ++ [46, 42, 41, 92, 90]) [p1.item, p2.item, p3.item] := by
  have st : ∀ (p : Pc) (r : List Nat) (its : List (Bool × List Nat)), p.ok → Reads r its → Reads (wrapF p ++ r) (p.item :: its) := fun p r its hp hr => by
    have e : wrapF p ++ r = [40, 63, 62, 46, 42, 63] ++ (p.out ++ (41 :: r)) := by simp [wrapF]
    rw [e]
    refine Reads.step (n := p.out.length) (item_out p _ hp) ?_ hr
    rw [List.drop_left]
  rw [List.append_assoc, List.append_assoc]
  exact st p1 _ _ h1 (st p2 _ _ h2 (st p3 _ _ h3 .done))
end Mine
end

section
open PySem
namespace Mine
/-- what stands in the brackets before it is mended at its head -/
theorem sig_of (p : Pc) (hp : p.ok) (h : ∀ c, p ≠ .bare c) : ∃ d l, ampS (p.body.flatMap e1) = d :: l ∧ (d = 33 → l ≠ []) ∧ (d :: l).length ≤ 8 ∧
    p.inner = if d = 33 then 94 :: l else if d = 94 ∨ d = 91 then 92 :: d :: l else d :: l := by
  cases p with
  | bare c => exact absurd rfl (h c)
  | one c =>
    have hc : c ≠ 33 := hp
    have hs : ampS ([c].flatMap e1) = enc c := by rw [ampS_flat]; simp
    show ∃ d l, ampS ([c].flatMap e1) = d :: l ∧ _
    rw [hs, one_inner c hc]
    unfold enc
    by_cases h1 : c = 92 ∨ c = 45 ∨ amp c = true
    · rw [if_pos h1]
      refine ⟨92, [c], rfl, (fun e => by cases e), by simp, ?_⟩
      have h2 : ¬ (c = 94 ∨ c = 91) := by
        rintro (rfl | rfl)
        · revert h1; decide
        · revert h1; decide
      rw [if_neg h2]; rfl
    · rw [if_neg h1]
      refine ⟨c, [], rfl, (fun e => absurd e hc), by simp, ?_⟩
      rw [if_neg hc]
  | bar a b c =>
    have hs : ampS ([33, a, b, c].flatMap e1) = 33 :: ampS ([a, b, c].flatMap e1) := rfl
    have hl : ∀ c, (enc c).length ≤ 2 := fun c => by unfold enc; split <;> simp
    have he : ampS ([a, b, c].flatMap e1) = enc a ++ (enc b ++ enc c) := by rw [ampS_flat]; simp
    refine ⟨33, ampS ([a, b, c].flatMap e1), hs, fun _ e => ?_, ?_, ?_⟩
    · rw [he] at e
      have : enc a ≠ [] := by unfold enc; split <;> simp
      exact this (List.append_eq_nil_iff.mp e).1
    · rw [he]
      have h1 := hl a
      have h2 := hl b
      have h3 := hl c
      simp only [List.length_cons, List.length_append]; omega
    · rw [if_pos rfl]; rfl
theorem e1_len (l : List Nat) : (l.flatMap e1).length ≤ 2 * l.length := by
  induction l with
  | nil => exact Nat.le_refl _
  | cons c r ih =>
    rw [List.flatMap_cons, List.length_append, List.length_cons]
    have : (e1 c).length ≤ 2 := by unfold e1; split <;> simp
    omega
theorem ext1 (a : Array Nat) (n : Nat) (h : n < a.size) : (⟨a.extract n (n + 1)⟩ : Str) = ⟨#[a.getD n 0]⟩ := by
  congr 1
  apply Array.ext
  · simp; omega
  · intro i h1 h2
    have h3 : i = 0 := by
      have : i < 1 := h2
      omega
    subst h3
    simp [Array.getD, h]
end Mine
end

section
open PySem PySem.W PyProof.Rows PySem.Calls PySem.Spec
set_option maxRecDepth 100000
set_option maxHeartbeats 8000000
namespace Mine

/-! ### the compiled pattern of one class of three signs, by the model's machine -/
noncomputable def reC : Array Nat := #[14, 14, 4, 1, 1, 9, 0, 64, 0, 1342177280, 0, 0, 0, 0, 0, 17, 0, 13, 11, 9, 0, 64, 0, 1342177280, 0, 0, 0, 0, 0, 17, 1, 1]
theorem reC_bit5 : ∀ c < 256, (reC.getD (5 + (1 + c / 32)) 0).testBit (c % 32) = amp c := by decide +kernel
theorem reC_bit19 : ∀ c < 256, (reC.getD (19 + (1 + c / 32)) 0).testBit (c % 32) = amp c := by decide +kernel
theorem amp_big {c : Nat} (h : ¬ c < 256) : amp c = false := by
  unfold amp
  have h1 : ¬ c = 38 := by omega
  have h2 : ¬ c = 124 := by omega
  have h3 : ¬ c = 126 := by omega
  simp [h1, h2, h3]
theorem inSet5 (c : Nat) (seen : Sre.Seen) : ∃ seen', Sre.inSet reC c reC.size 5 true seen = .ok (amp c, seen') := by
  show ∃ seen', (if (decide (c < 256) && (reC.getD (5 + (1 + c / 32)) 0).testBit (c % 32)) = true then .ok (true, seen.add 9) else Sre.inSet reC c 31 14 true (seen.add 9)) = Except.ok (amp c, seen')
  by_cases h : c < 256
  · rw [reC_bit5 c h]
    cases e : amp c with
    | true => exact ⟨_, by rw [if_pos (by simp [h])]⟩
    | false => exact ⟨_, by rw [if_neg (by simp)]; rfl⟩
  · rw [amp_big h]
    exact ⟨_, by rw [if_neg (by simp [h])]; rfl⟩
theorem accepts17 (c : Nat) (seen : Sre.Seen) (h : amp c = true) : ∃ seen', Sre.accepts reC 17 c seen = .ok (true, seen') := by
  show ∃ seen', Sre.inSet reC c 32 19 true seen = _
  show ∃ seen', (if (decide (c < 256) && (reC.getD (19 + (1 + c / 32)) 0).testBit (c % 32)) = true then .ok (true, seen.add 9) else Sre.inSet reC c 31 28 true (seen.add 9)) = Except.ok (true, seen')
  by_cases hc : c < 256
  · rw [reC_bit19 c hc, h]
    exact ⟨_, by rw [if_pos (by simp [hc])]⟩
  · rw [amp_big hc] at h; cases h

theorem admitted_hit (m : Sre.M) (hc : m.code = reC) (n : Nat) (hn : n < m.lim) (ha : amp (m.text.getD n 0) = true) :
    ∀ (k fuel s : Nat) (seen : Sre.Seen), s + k = n → k < fuel → (∀ j, s ≤ j → j < n → amp (m.text.getD j 0) = false) → ∃ seen', m.admitted fuel s seen = .ok (some n, seen')
  | 0, fuel + 1, s, seen, hs, _, _ => by
    obtain rfl : s = n := hs
    obtain ⟨s', e⟩ := inSet5 (m.text.getD s 0) seen
    refine ⟨s', ?_⟩
    rw [Sre.M.admitted, if_neg (by omega), hc, e, ha]
  | k + 1, fuel + 1, s, seen, hs, hf, hm => by
    obtain ⟨s', e⟩ := inSet5 (m.text.getD s 0) seen
    obtain ⟨s2, e2⟩ := admitted_hit m hc n hn ha k fuel (s + 1) s' (by omega) (by omega) fun j h1 h2 => hm j (by omega) h2
    refine ⟨s2, ?_⟩
    rw [Sre.M.admitted, if_neg (by omega), hc, e, hm s (Nat.le_refl _) (by omega)]
    exact e2
theorem admitted_miss (m : Sre.M) (hc : m.code = reC) :
    ∀ (fuel s : Nat) (seen : Sre.Seen), (∀ j, s ≤ j → j < m.lim → amp (m.text.getD j 0) = false) → ∃ seen', m.admitted fuel s seen = .ok (none, seen')
  | 0, s, seen, _ => ⟨_, rfl⟩
  | fuel + 1, s, seen, hm => by
    rw [Sre.M.admitted]
    by_cases h : s ≥ m.lim
    · rw [if_pos h]; exact ⟨_, rfl⟩
    · obtain ⟨s', e⟩ := inSet5 (m.text.getD s 0) seen
      rw [if_neg h, hc, e, hm s (Nat.le_refl _) (by omega)]
      exact admitted_miss m hc fuel (s + 1) s' fun j h1 h2 => hm j (by omega) h2

/-- what a search finds -/
structure FoundAt (m : Sre.M) (n : Nat) : Prop where
  out : m.outcome = some .matched
  start : m.start = n
  handed : m.handed = n + 1
  marks : m.marks = #[some n, some (n + 1)]
  lastmark : m.lastmark = 1
  lastindex : m.lastindex = 1

noncomputable def M0 (text : Array Nat) (pos : Nat) (must : Bool) : Sre.M := { code := reC, text, lim := text.size, start := pos, pc := 15, pos, handed := pos, marks := #[none, none], mustAdvance := must, seen := ({} : Sre.Seen).add 14, lastStart := text.size }
theorem search_eq (text : Array Nat) (pos : Nat) (must : Bool) (hp : pos < text.size) : Sre.forSearch reC text 1 pos text.size must = (M0 text pos must).attemptFrom pos true := by
  show (if (decide (pos > text.size) || decide (text.size - pos < 1)) = true then _ else (M0 text pos must).attemptFrom pos true) = _
  rw [if_neg]
  have h1 : ¬ pos > text.size := by omega
  have h2 : ¬ text.size - pos < 1 := by omega
  simp [h1, h2]
theorem search_over (text : Array Nat) (pos : Nat) (must : Bool) (hp : ¬ pos < text.size) : ∃ m : Sre.M, Sre.forSearch reC text 1 pos text.size must = m.say false ∧ m.outcome = none ∧ m.frames = [] := by
  have h2 : text.size - pos < 1 := by omega
  refine ⟨{ (M0 text pos must) with lastStart := 0 }, ?_, rfl, rfl⟩
  show (if (decide (pos > text.size) || decide (text.size - pos < 1)) = true then _ else (M0 text pos must).attemptFrom pos true) = _
  rw [if_pos (by simp [h2])]
  rfl
theorem run_failed (m : Sre.M) (ho : m.outcome = none) (hf : m.frames = []) : ((m.say false).runFor 4).outcome = some .failed := by
  have e : (m.say false).step = { m.say false with outcome := some .failed } := by
    unfold Sre.M.step
    show (if m.outcome.isSome = true then _ else _) = _
    rw [ho]
    show (match some false, m.frames with | some yes, [] => _ | some yes, f :: rest => _ | none, _ => _) = _
    rw [hf]; rfl
  show (if m.outcome.isSome = true then m.say false else Sre.M.runFor 3 (m.say false).step).outcome = _
  rw [ho, e]; rfl
theorem search_miss (text : Array Nat) (pos : Nat) (must : Bool) (hm : ∀ j, pos ≤ j → j < text.size → amp (text.getD j 0) = false) :
    ((Sre.forSearch reC text 1 pos text.size must).runFor 4).outcome = some .failed := by
  by_cases hp : pos < text.size
  · rw [search_eq text pos must hp]
    obtain ⟨s', e⟩ := admitted_miss (M0 text pos must) rfl (text.size + 1 - pos) pos (({} : Sre.Seen).add 14) hm
    have e2 : (M0 text pos must).attemptFrom pos true = ({ M0 text pos must with seen := s' }).say false := by
      show (match Sre.M.admitted (M0 text pos must) (text.size + 1 - pos) pos (({} : Sre.Seen).add 14) with | .ok (some s, seen) => _ | .ok (none, seen) => _ | .error why => _) = _
      rw [e]
    rw [e2]
    exact run_failed _ rfl rfl
  · obtain ⟨m, e, h1, h2⟩ := search_over text pos must hp
    rw [e]; exact run_failed m h1 h2

theorem search_hit (text : Array Nat) (pos n : Nat) (must : Bool) (hp : pos ≤ n) (hn : n < text.size) (ha : amp (text.getD n 0) = true) (hm : ∀ j, pos ≤ j → j < n → amp (text.getD j 0) = false) :
    (((Sre.forSearch reC text 1 pos text.size must).runFor 4).outcome.isSome = false) ∧ FoundAt (((Sre.forSearch reC text 1 pos text.size must).runFor 4).runFor 4) n := by
  rw [search_eq text pos must (by omega)]
  obtain ⟨s1, e⟩ := admitted_hit (M0 text pos must) rfl n hn ha (n - pos) (text.size + 1 - pos) pos (({} : Sre.Seen).add 14) (by omega) (by omega) hm
  have e2 : (M0 text pos must).attemptFrom pos true = ({ M0 text pos must with mustAdvance := false, seen := s1 }).attemptAt n true := by
    show (match Sre.M.admitted (M0 text pos must) (text.size + 1 - pos) pos (({} : Sre.Seen).add 14) with | .ok (some s, seen) => _ | .ok (none, seen) => _ | .error why => _) = _
    rw [e]
  rw [e2]
  have e3 : (({ M0 text pos must with mustAdvance := false, seen := s1 } : Sre.M).attemptAt n true) = { M0 text pos must with mustAdvance := false, seen := s1, start := n, pos := n, handed := n, weight := 1, pc := 15, frames := [{ wait := .nextStart, pc := 15, pos := n, outermost := true }] } := rfl
  rw [e3]
  obtain ⟨s4, h4⟩ := accepts17 (text.getD n 0) (((s1.add 17)).add 13) ha
  have k1 : ({ M0 text pos must with mustAdvance := false, seen := s1, start := n, pos := n, handed := n, weight := 1, pc := 15, frames := [{ wait := .nextStart, pc := 15, pos := n, outermost := true }] } : Sre.M).step =
    { M0 text pos must with mustAdvance := false, seen := s1.add 17, start := n, pos := n, handed := n, weight := 1, pc := 17, frames := [{ wait := .nextStart, pc := 15, pos := n, outermost := true }], marks := #[some n, none], lastmark := 0, lastindex := -1 } := rfl
  have k2 : ({ M0 text pos must with mustAdvance := false, seen := s1.add 17, start := n, pos := n, handed := n, weight := 1, pc := 17, frames := [{ wait := .nextStart, pc := 15, pos := n, outermost := true }], marks := #[some n, none], lastmark := 0, lastindex := -1 } : Sre.M).step =
    { M0 text pos must with mustAdvance := false, seen := s4, start := n, pos := n + 1, handed := n, weight := 1, pc := 29, frames := [{ wait := .nextStart, pc := 15, pos := n, outermost := true }], marks := #[some n, none], lastmark := 0, lastindex := -1 } := by
    show (if n ≥ text.size then _ else match Sre.accepts reC 17 (text.getD n 0) ((s1.add 17).add 13) with | .error why => _ | .ok (false, seen) => _ | .ok (true, seen) => _) = _
    rw [if_neg (by omega), h4]; rfl
  have k3 : ({ M0 text pos must with mustAdvance := false, seen := s4, start := n, pos := n + 1, handed := n, weight := 1, pc := 29, frames := [{ wait := .nextStart, pc := 15, pos := n, outermost := true }], marks := #[some n, none], lastmark := 0, lastindex := -1 } : Sre.M).step =
    { M0 text pos must with mustAdvance := false, seen := s4.add 17, start := n, pos := n + 1, handed := n, weight := 1, pc := 31, frames := [{ wait := .nextStart, pc := 15, pos := n, outermost := true }], marks := #[some n, some (n + 1)], lastmark := 1, lastindex := 1 } := by
    show Sre.M.mark _ 1 = _
    unfold Sre.M.mark
    simp

    exact ⟨by decide, rfl⟩
  have k4 : ({ M0 text pos must with mustAdvance := false, seen := s4.add 17, start := n, pos := n + 1, handed := n, weight := 1, pc := 31, frames := [{ wait := .nextStart, pc := 15, pos := n, outermost := true }], marks := #[some n, some (n + 1)], lastmark := 1, lastindex := 1 } : Sre.M).step =
    { M0 text pos must with mustAdvance := false, seen := (s4.add 17).add 1, start := n, pos := n + 1, handed := n + 1, weight := 1, pc := 31, frames := [{ wait := .nextStart, pc := 15, pos := n, outermost := true }], marks := #[some n, some (n + 1)], lastmark := 1, lastindex := 1, answer := some true } := rfl
  have r1 : ∀ (k : Nat) (a b : Sre.M), a.outcome = none → a.step = b → Sre.M.runFor (k + 1) a = Sre.M.runFor k b := fun k a b ho hs => by
    show (if a.outcome.isSome = true then a else Sre.M.runFor k a.step) = _
    rw [ho, hs]; rfl
  rw [r1 3 _ _ rfl k1, r1 2 _ _ rfl k2, r1 1 _ _ rfl k3, r1 0 _ _ rfl k4]
  exact ⟨rfl, ⟨rfl, rfl, rfl, rfl, rfl, rfl⟩⟩
end Mine
end

section
open PySem PySem.W PyProof.Rows PySem.Calls PySem.Spec
set_option maxRecDepth 100000
set_option maxHeartbeats 8000000
namespace Mine
/-! ### the names of re -/
theorem plain_pat : PlainAttrs "re.Pattern" :=
  ⟨⟨"object.__getattribute__", by rw [typeLookup_type, builtinLookup_eq_fast]; kernel_rfl, PySem.F.canon_object_ga⟩, by rw [typeLookup_type, builtinLookup_eq_fast]; kernel_rfl⟩
theorem slot_sub : Slot "re.Pattern" "sub" "re.Pattern.sub" :=
  .of (owner := "re.Pattern") (n := "sub") (by rw [typeLookup_type, builtinLookup_eq_fast]; kernel_rfl) (by decide +kernel) (by decide +kernel) (by decide +kernel)
    (by first | exact .inl (by decide +kernel) | exact .inr (by decide +kernel)) (by rw [isSubtype_type]; kernel_rfl)
theorem type_sub : typeOf (.builtin "re.Pattern.sub") = pure (.type "method_descriptor") := by show builtinType _ = _; rw [builtinType_eq_fast]; kernel_rfl
theorem entry_sub : entryFor table "re.Pattern.sub" = some Builtin.«re.Pattern.sub» := entryFor_of_tree (by kernel_rfl)
theorem entry_loop : entryFor table "re.Pattern.sub.loop" = some Builtin.«re.Pattern.sub.loop» := entryFor_of_tree (by kernel_rfl)
theorem plain_mat : PlainAttrs "re.Match" :=
  ⟨⟨"object.__getattribute__", by rw [typeLookup_type, builtinLookup_eq_fast]; kernel_rfl, PySem.F.canon_object_ga⟩, by rw [typeLookup_type, builtinLookup_eq_fast]; kernel_rfl⟩
theorem slot_group : Slot "re.Match" "group" "re.Match.group" :=
  .of (owner := "re.Match") (n := "group") (by rw [typeLookup_type, builtinLookup_eq_fast]; kernel_rfl) (by decide +kernel) (by decide +kernel) (by decide +kernel)
    (by first | exact .inl (by decide +kernel) | exact .inr (by decide +kernel)) (by rw [isSubtype_type]; kernel_rfl)
theorem type_group : typeOf (.builtin "re.Match.group") = pure (.type "method_descriptor") := by show builtinType _ = _; rw [builtinType_eq_fast]; kernel_rfl
theorem entry_group : entryFor table "re.Match.group" = some Builtin.«re.Match.group» := entryFor_of_tree (by kernel_rfl)
theorem owner_pat : Manifest.owners.lookup (String.ofList ['n', 'r', 'e', 't', 't', 'a', 'P', '.', 'e', 'r'].reverse) = some Manifest.sig_re_Pattern := by kernel_rfl
theorem owner_mat : Manifest.owners.lookup (String.ofList ['h', 'c', 't', 'a', 'M', '.', 'e', 'r'].reverse) = some Manifest.sig_re_Match := by kernel_rfl
theorem args_sub (a b c : Value) : argsOk "re.Pattern.sub" ⟨[a, b, c], []⟩ := by
  unfold argsOk; rw [signature?_of (id := "re.Pattern.sub") (n := ['b', 'u', 's']) (o := ['n', 'r', 'e', 't', 't', 'a', 'P', '.', 'e', 'r']) (by kernel_rfl) owner_pat]; kernel_rfl
theorem args_group (a b : Value) : argsOk "re.Match.group" ⟨[a, b], []⟩ := by
  unfold argsOk; rw [signature?_of (id := "re.Match.group") (n := ['p', 'u', 'o', 'r', 'g']) (o := ['h', 'c', 't', 'a', 'M', '.', 'e', 'r']) (by kernel_rfl) owner_mat]; kernel_rfl
end Mine
end

section
open PySem PySem.W PyProof.Rows PySem.Calls PySem.Spec
set_option maxRecDepth 100000
set_option maxHeartbeats 1000000
namespace Mine
section
variable {prog : Program} {w : World} {A : Around} {E : Value → Shared → Prop} {s : Shared} {Q : Value → Shared → Prop}
/-- what a match is in the heap -/
noncomputable def MatchAt (h : Heap) (a : Addr) (x : Str) (tx : Tok) (n : Nat) : Prop := ∃ o sp os pv li lim, h.get? a = some o ∧ o.cls = .type "re.Match" ∧ o.dict = none ∧ o.data = .fields #[.str x tx, pv, rawInt 0, rawInt lim, rawInt li, .ref sp] ∧
  h.get? sp = some os ∧ ∃ k, os.data = .seq #[rawInt ((n : Nat) : Int), rawInt ((n + 1 : Nat) : Int), rawInt ((n : Nat) : Int), rawInt ((n + 1 : Nat) : Int)] k
theorem fieldsOf_at {M : Model} {A : Around} {a : Addr} {o : Obj} {vs : Array Value} {Q : Array Value → Shared → Prop} {E : Value → Shared → Prop} {s : Shared} (ho : s.heap.get? a = some o) (hd : o.data = .fields vs) (h : Q vs s) : wpAny M A (fieldsOf (.ref a)) Q E s := by
  unfold fieldsOf
  refine wpAny_bind (wpAny_load ho ?_)
  rw [hd]; exact wpAny_pure h
theorem rawItems_at {M : Model} {A : Around} {a : Addr} {o : Obj} {vs : Array Value} {k : Nat} {Q : Array Int → Shared → Prop} {E : Value → Shared → Prop} {s : Shared} (ho : s.heap.get? a = some o) {us : Array Int} (hd : o.data = .seq vs k) (hu : vs.toList.map Builtin.Re.reRawOf = us.toList) (h : Q us s) : wpAny M A (Builtin.Re.reRawItems (.ref a)) Q E s := by
  unfold Builtin.Re.reRawItems seqItems?
  refine wpAny_bind (wpAny_bind (wpAny_load ho ?_))
  rw [hd]
  refine wpAny_pure (wpAny_pure ?_)
  have e : vs.map Builtin.Re.reRawOf = us := by
    apply Array.ext'
    rw [Array.toList_map]; exact hu
  show Q (vs.map Builtin.Re.reRawOf) s
  rw [e]; exact h
theorem group_call {a : Addr} {x : Str} {tx t : Tok} {n : Nat} (hm : MatchAt s.heap a x tx n) (hx : x.length ≤ 200) (h : ∀ k t', Q (.str ⟨x.cps.extract n (n + 1)⟩ t') { s with toks := k }) :
    wpAny (model prog w) A (call (.builtin "re.Match.group") [.ref a, .int 1 t]) Q E s := by
  obtain ⟨o, sp, os, pv, li, lim, ho, hc, hdn, hd, hs, ks, hsd⟩ := hm
  refine call_meets (S := fun A R s' => s' = s ∧ ∀ k t', R (.ok (.ret (.str ⟨x.cps.extract n (n + 1)⟩ t'))) { s with toks := k }) slot_group ⟨o, ho, hc⟩ entry_group (args_group _ _) ?_ ⟨rfl, h⟩
  rintro prog w A R s' ⟨rfl, hR⟩
  unfold Builtin.«re.Match.group»
  show wpAny _ _ (Builtin.Re.reFound (.ref a) >>= fun x => _) _ _ _
  refine wpAny_bind ?_
  unfold Builtin.Re.reFound
  refine wpAny_bind (fieldsOf_at ho hd (wpAny_bind ?_))
  show wpAny _ _ (Builtin.Re.reRawItems (.ref sp)) _ _ _
  refine rawItems_at (us := #[((n : Nat) : Int), ((n + 1 : Nat) : Int), ((n : Nat) : Int), ((n + 1 : Nat) : Int)]) hs hsd rfl (wpAny_pure ?_)
  dsimp only
  refine wpAny_bind ?_
  unfold Builtin.Re.reGroupNumber
  show wpAny _ _ ((pure (1 : Int) : Sem Int) >>= fun i => _) _ _ _
  refine wpAny_bind (wpAny_pure ?_)
  rw [if_pos (show (some (1 : Int)).isSome = true from rfl)]
  show wpAny _ _ ((pure (1 : Int) : Sem Int) >>= fun i => _) _ _ _
  refine wpAny_bind (wpAny_pure ?_)
  dsimp only
  rw [if_neg (by simp)]
  refine wpAny_pure (wpAny_bind ?_)
  unfold Builtin.Re.reGroupText
  show wpAny _ _ (if (decide (((n : Nat) : Int) < 0) || decide (((n + 1 : Nat) : Int) < 0)) = true then _ else (Builtin.Re.reTextOf (.str x tx) >>= fun y => match y with | (text, kind) => Builtin.Re.reSlice text kind (((n : Nat) : Int)).toNat (((n + 1 : Nat) : Int)).toNat)) _ _ _
  have h1 : ¬ ((n : Nat) : Int) < 0 := by omega
  have h2 : ¬ ((n + 1 : Nat) : Int) < 0 := by omega
  rw [if_neg (by simp only [h1, h2, decide_false, Bool.or_false]; decide)]
  refine wpAny_bind ?_
  show wpAny _ _ (pure (x.cps, 0)) _ _ _
  refine wpAny_pure ?_
  rw [Int.toNat_natCast, Int.toNat_natCast]
  show wpAny _ _ (mkStr ⟨x.cps.extract n (n + 1)⟩) _ _ _
  refine wpAny_mkStr (wpAny_pure (hR _ _)) ?_
  rw [sizeLine_eq]
  show (x.cps.extract n (n + 1)).size ≤ _
  have : x.cps.size ≤ 200 := hx
  rw [Array.size_extract]; omega
end
end Mine
end

section
open PySem PySem.W PyProof.Rows PySem.Calls PySem.Spec
set_option maxRecDepth 100000
set_option maxHeartbeats 1000000
namespace Mine
section
variable {M : Model} {A : Around} {E : Value → Shared → Prop} {s : Shared}
theorem drive1 {n : Nat} {m : Sre.M} {Q : Sre.M → Shared → Prop} (h1 : (m.runFor 4).outcome.isSome = true) (h : Q (m.runFor 4) s) : wpAny M A (Builtin.Re.reDrive (n + 1) m) Q E s := by
  show wpAny M A (if (m.runFor 4).outcome.isSome = true then pure (m.runFor 4) else (do rule "sre.turn"; Builtin.Re.reDrive n (m.runFor 4))) Q E s
  rw [if_pos h1]; exact wpAny_pure h
theorem drive2 {n : Nat} {m : Sre.M} {Q : Sre.M → Shared → Prop} (h1 : (m.runFor 4).outcome.isSome = false) (h2 : ((m.runFor 4).runFor 4).outcome.isSome = true) (h : Q ((m.runFor 4).runFor 4) s) : wpAny M A (Builtin.Re.reDrive (n + 2) m) Q E s := by
  show wpAny M A (if (m.runFor 4).outcome.isSome = true then pure (m.runFor 4) else (do rule "sre.turn"; Builtin.Re.reDrive (n + 1) (m.runFor 4))) Q E s
  rw [if_neg (by rw [h1]; decide)]
  exact wpAny_bind (wpAny_rule (drive1 h2 h))
theorem big64 : ∃ k, 2 ^ 64 = k + 2 := ⟨2 ^ 64 - 2, by decide⟩
theorem rules_loop {b : Nat → Bool} {nm : Nat → String} {Q : PUnit → Shared → Prop} (h : Q PUnit.unit s) : ∀ l : List Nat, wpAny M A (forIn l PUnit.unit fun i _ => if b i = true then do rule (nm i); pure (ForInStep.yield PUnit.unit) else pure (ForInStep.yield PUnit.unit)) Q E s
  | [] => by rw [List.forIn_nil]; exact wpAny_pure h
  | i :: r => by
    rw [List.forIn_cons]
    refine wpAny_bind ?_
    split
    · exact wpAny_bind (wpAny_rule (wpAny_pure (rules_loop h r)))
    · exact wpAny_pure (rules_loop h r)
theorem runToEnd {m m' : Sre.M} {Q : Option Sre.M → Shared → Prop} (hd : ∀ (Q' : Sre.M → Shared → Prop), Q' m' s → wpAny M A (Builtin.Re.reDrive (2 ^ 64) m) Q' E s)
    (h : (m'.outcome = some .matched ∧ Q (some m') s) ∨ (m'.outcome = some .failed ∧ Q none s)) : wpAny M A (Builtin.Re.reRunToEnd m) Q E s := by
  unfold Builtin.Re.reRunToEnd
  refine wpAny_bind (hd _ (wpAny_bind (rules_loop ?_ _)))
  rcases h with ⟨ho, h⟩ | ⟨ho, h⟩ <;> rw [ho] <;> exact wpAny_pure h
noncomputable def tgt (x : Str) (tx : Tok) : Builtin.Re.ReTarget := { pattern := .ref 36, string := .str x tx, code := reC, text := x.cps, kind := 0, groups := 1, pos := 0, lim := x.cps.size }
theorem found_hit {x : Str} {tx : Tok} {pos n : Nat} {must : Bool} {Q : Option Sre.M → Shared → Prop} (hp : pos ≤ n) (hn : n < x.cps.size) (ha : amp (x.cps.getD n 0) = true) (hm : ∀ j, pos ≤ j → j < n → amp (x.cps.getD j 0) = false)
    (h : ∀ m, FoundAt m n → Q (some m) s) : wpAny M A (Builtin.Re.reNextFound (tgt x tx) pos must) Q E s := by
  have k := search_hit x.cps pos n must hp hn ha hm
  refine runToEnd (m' := ((Sre.forSearch reC x.cps 1 pos x.cps.size must).runFor 4).runFor 4) (fun Q' q => ?_) (.inl ⟨k.2.out, h _ k.2⟩)
  obtain ⟨z, hz⟩ := big64
  rw [hz]
  exact drive2 k.1 (congrArg Option.isSome k.2.out) q
theorem found_miss {x : Str} {tx : Tok} {pos : Nat} {must : Bool} {Q : Option Sre.M → Shared → Prop} (hm : ∀ j, pos ≤ j → j < x.cps.size → amp (x.cps.getD j 0) = false)
    (h : Q none s) : wpAny M A (Builtin.Re.reNextFound (tgt x tx) pos must) Q E s := by
  have k := search_miss x.cps pos must hm
  refine runToEnd (m' := (Sre.forSearch reC x.cps 1 pos x.cps.size must).runFor 4) (fun Q' q => ?_) (.inr ⟨k, h⟩)
  obtain ⟨z, hz⟩ := big64
  rw [hz]
  exact drive1 (n := z + 1) (congrArg Option.isSome k) q
/-- the pattern object -/
noncomputable def PatAt (h : Heap) : Prop := ∃ o o2 vs k v0 v1, h.get? 36 = some o ∧ o.cls = .type "re.Pattern" ∧ o.data = .fields #[v0, v1, .int 1 0, .none, .none, .ref 35, .int 0 0] ∧ h.get? 35 = some o2 ∧ o2.data = .seq vs k ∧ vs.toList.map Builtin.Re.reRawOf = reC.toList.map Int.ofNat
theorem PatAt.keeps {h h' : Heap} (x : PatAt h) (k : ∀ b o, h.get? b = some o → h'.get? b = some o) : PatAt h' := by
  obtain ⟨o, o2, vs, n, v0, v1, h1, h2, h3, h4, r⟩ := x
  exact ⟨o, o2, vs, n, v0, v1, k _ _ h1, h2, h3, k _ _ h4, r⟩
theorem target_at {x : Str} {tx : Tok} {Q : Builtin.Re.ReTarget → Shared → Prop} (P : PatAt s.heap) (h : Q (tgt x tx) s) : wpAny M A (Builtin.Re.reWholeTarget (.ref 36) (.str x tx)) Q E s := by
  obtain ⟨o, o2, vs, n, v0, v1, h1, h2, h3, h4, h5, h6⟩ := P
  unfold Builtin.Re.reWholeTarget
  refine wpAny_bind (fieldsOf_at h1 h3 (wpAny_bind ?_))
  show wpAny _ _ (pure (x.cps, 0)) _ _ _
  refine wpAny_pure ?_
  show wpAny _ _ (Builtin.Re.reNoCollectionInside (.str x tx) 0 >>= fun _ => Builtin.Re.reRawItems (.ref 35) >>= fun c => (pure ({ pattern := .ref 36, string := .str x tx, code := c.map (·.toNat), text := x.cps, kind := 0, groups := 1, pos := 0, lim := x.cps.size } : Builtin.Re.ReTarget) : Sem Builtin.Re.ReTarget)) _ _ _
  refine wpAny_bind ?_
  show wpAny _ _ (pure ()) _ _ _
  refine wpAny_pure (wpAny_bind (rawItems_at (us := (reC.toList.map Int.ofNat).toArray) h4 h5 (by rw [h6]) (wpAny_pure ?_)))
  have e : ((reC.toList.map Int.ofNat).toArray.map (·.toNat)) = reC := by decide +kernel
  rw [e]; exact h

/-! ### the turns of sub -/
theorem ampS_none {l : List Nat} (h : ∀ c ∈ l, amp c = false) : ampS l = l := by
  induction l with
  | nil => rfl
  | cons c r ih =>
    show (if amp c then [92, c] else [c]) ++ ampS r = _
    rw [h c (List.mem_cons_self ..), ih fun d hd => h d (List.mem_cons_of_mem _ hd)]; rfl
theorem amp_next (l : Array Nat) : ∀ (k pos : Nat), k = l.size - pos → (∀ j, pos ≤ j → j < l.size → amp (l.getD j 0) = false) ∨ ∃ n, pos ≤ n ∧ n < l.size ∧ amp (l.getD n 0) = true ∧ ∀ j, pos ≤ j → j < n → amp (l.getD j 0) = false
  | 0, pos, h => .inl fun j h1 h2 => by omega
  | k + 1, pos, h => by
    cases e : amp (l.getD pos 0) with
    | true => exact .inr ⟨pos, Nat.le_refl _, by omega, e, fun j h1 h2 => by omega⟩
    | false =>
      rcases amp_next l k (pos + 1) (by omega) with h1 | ⟨n, h1, h2, h3, h4⟩
      · exact .inl fun j hj hj2 => by
          rcases Nat.lt_or_ge pos j with hlt | hge
          · exact h1 j hlt hj2
          · obtain rfl : j = pos := by omega
            exact e
      · exact .inr ⟨n, by omega, h2, h3, fun j hj hj2 => by
          rcases Nat.lt_or_ge pos j with hlt | hge
          · exact h4 j hlt hj2
          · obtain rfl : j = pos := by omega
            exact e⟩
theorem plain_loop : plainId "re.Pattern.sub.loop" = true := by decide +kernel
end
section
variable {prog : Program} {w : World} {A : Around} {s : Shared} {R : Result → Shared → Prop}
theorem codeAny_entry {id : String} {args : Args} {b : Builtin} {s : Shared} (hb : entryFor table id = some b) (hp : plainId id = true)
    (h : wpAny (model prog w) A.in1 (b args) (fun fin s' => match fin with | .done f => R (.ok f) s' | .again c' => c'.quiet = true ∧ codeAny (model prog w) A c' R s') (fun e s' => R (.error e) s') s) :
    codeAny (model prog w) A (.builtin id args) R s := by
  have e2 : (model prog w).den (.builtin id args) = b args := by
    show (match entryFor table id with | some b => b args | none => unsupported ((withoutEnding? id "#data").getD id)) = _
    rw [hb]
  refine codeAny_of_tree ?_
  rw [Around.under_plainId hp args, e2]
  exact h
theorem push_at {D : Addr} {vs : List Value} {n : Nat} {v : Value} {Q : Unit → Shared → Prop} {E : Value → Shared → Prop} (hD : s.heap.get? D = some (listOf vs.toArray n)) (hz : vs.length ≤ 1000)
    (h : ∀ h', h'.get? D = some (listOf (vs ++ [v]).toArray (n + 1)) → (∀ b o, b ≠ D → s.heap.get? b = some o → h'.get? b = some o) → Q () { s with heap := h' }) : wpAny (model prog w) A (updateSeq D fun z => z.push v) Q E s := by
  refine wpAny_updateSeq hD rfl (h _ ?_ fun b o hb e => (Heap.get?_update_other _ _ (Ne.symm hb)).trans e) (by rw [sizeLine_eq, List.size_toArray]; omega) (by rw [sizeLine_eq, Array.size_push, List.size_toArray]; omega)
  refine (Heap.get?_update_self _ hD rfl).trans (congrArg some ?_)
  show ({ cls := .type "list", data := .seq (vs.toArray.push v) (if (vs.toArray.push v).size == vs.toArray.size then n else n + 1) } : Obj) = _
  rw [if_neg (by simp), List.push_toArray]
theorem slice_at {x : Str} {tx : Tok} {a b : Nat} {Q : Value → Shared → Prop} {E : Value → Shared → Prop} (hx : x.length ≤ 200) (h : ∀ k t', Q (.str ⟨x.cps.extract a b⟩ t') { s with toks := k }) : wpAny (model prog w) A (Builtin.Re.reSlice (tgt x tx).text (tgt x tx).kind a b) Q E s := by
  show wpAny _ _ (mkStr ⟨x.cps.extract a b⟩) _ _ _
  refine wpAny_mkStr (h _ _) ?_
  rw [sizeLine_eq]
  show (x.cps.extract a b).size ≤ _
  have : x.cps.size ≤ 200 := hx
  rw [Array.size_extract]; omega
theorem sub_end {x : Str} {tx : Tok} {D : Addr} {vs : List Value} {ps : List Str} {n1 : Nat} {Q : PySem.Fin → Shared → Prop} {E : Value → Shared → Prop} (hx : x.length ≤ 200) (hD : s.heap.get? D = some (listOf vs.toArray n1)) (hvs : StrsAre vs ps) (hl : vs.length ≤ 1000) (hps : ∀ y ∈ ps, y.length ≤ 200)
    (h : ∀ k t', Q (.done (.ret (.str ⟨(ps.map (·.cps.toList)).flatten.toArray⟩ t'))) { s with toks := k }) :
    wpAny (model prog w) A (do
      let joiner ← Builtin.Re.reSlice (tgt x tx).text (tgt x tx).kind 0 0
      let it ← seqItems? (Value.ref D)
      if (it.getD #[]).isEmpty = true then do
        let y ← pure joiner
        ret y
      else do
        let y ← call (Value.builtin (if ((tgt x tx).kind == 0) = true then "str.join" else "bytes.join")) [joiner, Value.ref D]
        ret y) Q E s := by
  refine wpAny_bind (slice_at hx fun k t' => ?_)
  have e0 : (⟨x.cps.extract 0 0⟩ : Str) = Str.ofString "" := by rw [show Str.ofString "" = (⟨#[]⟩ : Str) from by decide +kernel]; congr 1; simp
  rw [e0]
  unfold seqItems?
  refine wpAny_bind (wpAny_bind (wpAny_load hD (wpAny_pure ?_)))
  cases hvs with
  | nil =>
    rw [if_pos (show ((some (#[] : Array Value)).getD #[]).isEmpty = true from rfl)]
    refine wpAny_bind (wpAny_pure (wpAny_pure ?_))
    have := h k t'
    simpa [show Str.ofString "" = (⟨#[]⟩ : Str) from by decide +kernel] using this
  | @cons y ty vs' ps' hvs' =>
    rw [if_neg (by simp)]
    refine wpAny_bind ?_
    show wpAny _ _ (call (.builtin "str.join") [_, _]) _ _ _
    have hvs2 : StrsAre (Value.str y ty :: vs') (y :: ps') := .cons y ty hvs'
    have hll := strsAre_length hvs2
    refine join_listW (items := (Value.str y ty :: vs').toArray) (ys := y :: ps') ⟨_, hD, rfl, _, rfl⟩ hvs2 (by decide) ?_ fun t2 k2 => ?_
    · have key : ∀ zs : List Str, (∀ z ∈ zs, z.length ≤ 200) → (zs.map (·.length)).sum ≤ 200 * zs.length := by
        intro zs
        induction zs with
        | nil => intro _; simp
        | cons z r ih =>
          intro hz
          have h1 := hz z (List.mem_cons_self ..)
          have h2 := ih fun z hz' => hz z (List.mem_cons_of_mem _ hz')
          simp only [List.map_cons, List.sum_cons, List.length_cons, Nat.mul_add, Nat.mul_one]
          omega
      have := key _ hps
      omega
    · refine wpAny_pure ?_
      have e : Txt.join (Str.ofString "") (y :: ps') = ⟨((y :: ps').map (·.cps.toList)).flatten.toArray⟩ := str_ext (by
        rw [show Str.ofString "" = Str.empty from by decide +kernel, join_flat])
      rw [e]
      exact h _ _
theorem newMatch_at {x : Str} {tx : Tok} {n : Nat} {m : Sre.M} {Q : Value → Shared → Prop} {E : Value → Shared → Prop} (hf : FoundAt m n) (h : ∀ a h', (∀ b o, s.heap.get? b = some o → h'.get? b = some o) → MatchAt h' a x tx n → Q (.ref a) { s with heap := h' }) :
    wpAny (model prog w) A (Builtin.Re.reNewMatch (.ref 36) (.str x tx) (tgt x tx).groups 0 (tgt x tx).lim m) Q E s := by
  obtain ⟨h1, h2, h3, h4, h5, h6⟩ := hf
  unfold Builtin.Re.reNewMatch
  rw [h4, h5, h6, h2, h3]
  show wpAny _ _ (if ((decide (((2 * 0 + 1 : Nat) : Int) ≤ 1) && decide (n + 1 < n)) || false) = true then _ else (newTuple [rawInt ((n : Nat) : Int), rawInt ((n + 1 : Nat) : Int), rawInt ((n : Nat) : Int), rawInt ((n + 1 : Nat) : Int)] >>= fun sp => newFields "re.Match" [.str x tx, .ref 36, rawInt ((0 : Nat) : Int), rawInt ((x.cps.size : Nat) : Int), rawInt 1, sp])) _ _ _
  have hlt : ¬ n + 1 < n := by omega
  rw [if_neg (by simp [hlt])]
  refine wpAny_bind (wpAny_newTuple ?_ (by show 4 ≤ sizeLine; rw [sizeLine_eq]; decide))
  unfold newFields
  refine wpAny_newObj_type (h _ _ (fun b o e => Heap.get?_push_of_some _ (Heap.get?_push_of_some _ e)) ?_) (by size_fits)
  exact ⟨_, _, _, _, _, _, Heap.get?_push_size _ rfl, rfl, rfl, rfl, Heap.get?_push_of_some _ (Heap.get?_push_size _ rfl), _, rfl⟩
theorem sub_loop {x : Str} {tx : Tok} {f : Addr} {G : Heap} (hx : x.length ≤ 200) (hG : PatAt G)
    (HL : ∀ (s' : Shared) (a : Addr) (n : Nat) (Q' E' : Value → Shared → Prop), AllBare s'.gens → (∀ b o, G.get? b = some o → s'.heap.get? b = some o) → MatchAt s'.heap a x tx n → n < x.cps.size →
      (∀ h' tk (g' : BG) t', (∀ b o, s'.heap.get? b = some o → h'.get? b = some o) → Q' (.str ⟨#[92, x.cps.getD n 0]⟩ t') { s' with heap := h', toks := tk, gens := g' }) → wpAny (model prog w) A.in1 (call (.ref f) [.ref a]) Q' E' s') :
    ∀ (k pos : Nat) (s : Shared) (D : Addr) (vs : List Value) (ps : List Str) (n1 : Nat) (cnt : Int), k = x.cps.size - pos → AllBare s.gens → pos ≤ x.cps.size → (∀ b o, G.get? b = some o → s.heap.get? b = some o) → G.get? D = none → s.heap.get? D = some (listOf vs.toArray n1) → StrsAre vs ps → vs.length ≤ 2 * pos → (∀ y ∈ ps, y.length ≤ 200) →
      (∀ h' tk (g' : BG) t', (∀ b o, G.get? b = some o → h'.get? b = some o) → R (.ok (.ret (.str ⟨((ps.map (·.cps.toList)).flatten ++ ampS (x.cps.toList.drop pos)).toArray⟩ t'))) { s with heap := h', toks := tk, gens := g' }) →
      codeAny (model prog w) A (.builtin "re.Pattern.sub.loop" ⟨[.ref 36, .str x tx, .ref f, rawInt 1, rawInt 0, rawInt cnt, rawInt ((pos : Nat) : Int), rawInt ((pos : Nat) : Int), .bool false, .ref D, .bool false], []⟩) R s := by
  intro k
  induction k using Nat.strongRecOn with
  | ind k ih =>
  intro pos s D vs ps n1 cnt hk hB hpos hGs hD0 hD hvs hvl hps hR
  w_is_and my_aa
  intros prog w A R x tx f G k pos s D vs ps n1 cnt
  intro hx hG HL ih hk hB hpos hGs hD0 hD hvs hvl hps hR
  refine codeAny_entry entry_loop plain_loop ?_
  unfold Builtin.«re.Pattern.sub.loop»
  dsimp only [rawInt]
  refine wpAny_bind (target_at (hG.keeps hGs) ?_)
  simp only [show ((1 : Int) == 0) = false from rfl, show ((0 : Int) != 0) = false from rfl, show ((1 : Int) == 1) = true from rfl, Bool.false_and, Bool.false_eq_true, if_false, if_true, Int.toNat_natCast]
  rcases amp_next x.cps _ pos rfl with hm | ⟨n, hn1, hn2, hn3, hn4⟩
  · refine wpAny_bind (found_miss hm ?_)
    dsimp only
    have hnone : ampS (x.cps.toList.drop pos) = x.cps.toList.drop pos := ampS_none fun c hc => by
      obtain ⟨i, hi⟩ := List.getElem?_of_mem hc
      rw [List.getElem?_drop] at hi
      have hlt := (List.getElem?_eq_some_iff.mp hi).1
      have := hm (pos + i) (by omega) (by simpa using hlt)
      rw [Array.getD_eq_getD_getElem?] at this
      have e : x.cps[pos + i]? = some c := by simpa using hi
      rw [e] at this; exact this
    rw [hnone] at hR
    split
    · refine wpAny_bind (slice_at hx fun k' t' => wpAny_bind (push_at hD (by have : x.cps.size ≤ 200 := hx; omega) fun h' hD' hk' => ?_))
      have hl2 : x.cps.size ≤ 200 := hx
      refine sub_end hx hD' (strsAre_append hvs (.cons ⟨x.cps.extract pos x.cps.size⟩ t' .nil)) (by simp; omega) (fun y hy => ?_) fun k2 t2 => ?_
      · rcases List.mem_append.mp hy with hy | hy
        · exact hps y hy
        · rw [List.mem_singleton.mp hy]
          show (x.cps.extract pos x.cps.size).size ≤ 200
          rw [Array.size_extract]; omega
      · have e : ((ps ++ [(⟨x.cps.extract pos x.cps.size⟩ : Str)]).map (·.cps.toList)).flatten = (ps.map (·.cps.toList)).flatten ++ x.cps.toList.drop pos := by
          rw [List.map_append, List.flatten_append]
          congr 1
          show (x.cps.extract pos x.cps.size).toList ++ [] = _
          rw [List.append_nil, Array.toList_extract, List.extract_eq_take_drop]
          exact List.take_of_length_le (by rw [List.length_drop]; simp)
        rw [e]
        exact hR h' k2 ⟨s.gens, hB⟩ t2 fun b o e => hk' b o (fun z => by rw [z, hD0] at e; cases e) (hGs b o e)
    · rename_i hlt
      have hl2 : x.cps.size ≤ 200 := hx
      have e : x.cps.toList.drop pos = [] := List.drop_of_length_le (by have : ¬ pos < x.cps.size := hlt; simpa using this)
      rw [e, List.append_nil] at hR
      exact sub_end hx hD hvs (by omega) hps fun k2 t2 => hR s.heap k2 ⟨s.gens, hB⟩ t2 hGs
  · refine wpAny_bind (found_hit hn1 hn2 hn3 hn4 fun m hf => ?_)
    dsimp only
    rw [hf.start, hf.handed]
    have hl2 : x.cps.size ≤ 200 := hx
    have hlen : x.cps.toList.length = x.cps.size := by simp
    have hc : x.cps.toList[n]? = some (x.cps.getD n 0) := by
      rw [Array.getD_eq_getD_getElem?]; simp [hn2]
    have hsplit : x.cps.toList.drop pos = (x.cps.toList.drop pos).take (n - pos) ++ x.cps.getD n 0 :: x.cps.toList.drop (n + 1) := by
      have e1 := (List.take_append_drop (n - pos) (x.cps.toList.drop pos)).symm
      rw [List.drop_drop, show pos + (n - pos) = n by omega, List.drop_eq_getElem_cons (l := x.cps.toList) (i := n) (by omega)] at e1
      have e2 : x.cps.toList[n]'(by omega) = x.cps.getD n 0 := by
        have := List.getElem?_eq_getElem (l := x.cps.toList) (i := n) (by omega)
        rw [hc] at this; exact (Option.some.inj this).symm
      rw [e2] at e1; exact e1
    have hnone : ampS ((x.cps.toList.drop pos).take (n - pos)) = (x.cps.toList.drop pos).take (n - pos) := ampS_none fun c hc => by
      obtain ⟨i, hi⟩ := List.getElem?_of_mem hc
      rw [List.getElem?_take] at hi
      split at hi
      · rename_i hlt
        rw [List.getElem?_drop] at hi
        have := hn4 (pos + i) (by omega) (by omega)
        rw [Array.getD_eq_getD_getElem?] at this
        have e : x.cps[pos + i]? = some c := by simpa using hi
        rw [e] at this; exact this
      · cases hi
    have hamp : ampS (x.cps.toList.drop pos) = (x.cps.toList.drop pos).take (n - pos) ++ [92, x.cps.getD n 0] ++ ampS (x.cps.toList.drop (n + 1)) := by
      rw [hsplit]
      have e1 : ∀ a b : List Nat, ampS (a ++ b) = ampS a ++ ampS b := fun a b => List.flatMap_append
      rw [e1, ← hsplit, hnone]
      show _ ++ ((if amp (x.cps.getD n 0) then [92, x.cps.getD n 0] else [x.cps.getD n 0]) ++ ampS (x.cps.toList.drop (n + 1))) = _
      rw [hn3, if_pos rfl, List.append_assoc]
    rw [hamp] at hR
    have tail : ∀ (s' : Shared) (vs' : List Value) (ps' : List Str) (n1' : Nat), (∃ h' tk, s' = { s with heap := h', toks := tk }) → (∀ b o, G.get? b = some o → s'.heap.get? b = some o) → s'.heap.get? D = some (listOf vs'.toArray n1') → StrsAre vs' ps' → vs'.length ≤ 2 * n + 1 → (∀ y ∈ ps', y.length ≤ 200) →
        (ps'.map (·.cps.toList)).flatten = (ps.map (·.cps.toList)).flatten ++ (x.cps.toList.drop pos).take (n - pos) →
        wpAny (model prog w) A.in1 (do
          let found ← Builtin.Re.reNewMatch (Value.ref 36) (Value.str x tx) (tgt x tx).groups 0 (tgt x tx).lim m
          let item ← holding [found] (call (Value.ref f) [found])
          if (item != Value.none) = true then do
            updateSeq D fun x => x.push item
            again (Code.builtin "re.Pattern.sub.loop" { pos := [Value.ref 36, Value.str x tx, Value.ref f, Value.int 1 0, Value.int 0 0, Value.int (cnt + 1) 0, Value.int ((n + 1 : Nat) : Int) 0, Value.int ((n + 1 : Nat) : Int) 0, Value.bool (n + 1 == n), Value.ref D, Value.bool false] })
          else
            again (Code.builtin "re.Pattern.sub.loop" { pos := [Value.ref 36, Value.str x tx, Value.ref f, Value.int 1 0, Value.int 0 0, Value.int (cnt + 1) 0, Value.int ((n + 1 : Nat) : Int) 0, Value.int ((n + 1 : Nat) : Int) 0, Value.bool (n + 1 == n), Value.ref D, Value.bool false] }))
          (fun fin s' => match fin with | .done f => R (.ok f) s' | .again c' => c'.quiet = true ∧ codeAny (model prog w) A c' R s') (fun e s' => R (.error e) s') s' := by
      rintro s' vs' ps' n1' ⟨h0, tk0, rfl⟩ hGs' hD' hvs' hvl' hps' hfl
      refine wpAny_bind (newMatch_at hf fun a h1 hk1 hm1 => wpAny_bind (wpAny_holding ?_))
      refine HL _ a n _ _ hB (fun b o e => hk1 b o (hGs' b o e)) hm1 hn2 fun h2 tk2 g2 t2 hk2 => ?_
      rw [if_pos (show (Value.str (⟨#[92, x.cps.getD n 0]⟩ : Str) t2 != Value.none) = true from rfl)]
      refine wpAny_bind (push_at (hk2 _ _ (hk1 _ _ hD')) (by omega) fun h3 hD3 hk3 => wpAny_pure ⟨plainId_quiet plain_loop _, ?_⟩)
      have e1 : (n + 1 == n) = false := by simp
      rw [e1]
      have up : ∀ b o, G.get? b = some o → h3.get? b = some o := fun b o e => hk3 b o (fun z => by rw [z, hD0] at e; cases e) (hk2 _ _ (hk1 _ _ (hGs' b o e)))
      refine ih _ (by omega) (n + 1) _ D (vs' ++ [_]) (ps' ++ [⟨#[92, x.cps.getD n 0]⟩]) (n1' + 1) (cnt + 1) rfl g2.2 (by omega) up hD0 hD3 (strsAre_append hvs' (.cons _ _ .nil)) (by rw [List.length_append]; simp only [List.length_cons, List.length_nil]; omega) (fun y hy => ?_) fun h4 tk4 g4 t4 hk4 => ?_
      · rcases List.mem_append.mp hy with hy | hy
        · exact hps' y hy
        · rw [List.mem_singleton.mp hy]; show (2 : Nat) ≤ 200; decide
      · have e2 : ((ps' ++ [(⟨#[92, x.cps.getD n 0]⟩ : Str)]).map (·.cps.toList)).flatten ++ ampS (x.cps.toList.drop (n + 1)) = (ps.map (·.cps.toList)).flatten ++ ((x.cps.toList.drop pos).take (n - pos) ++ [92, x.cps.getD n 0] ++ ampS (x.cps.toList.drop (n + 1))) := by
          rw [List.map_append, List.flatten_append, hfl]
          simp only [List.map_cons, List.map_nil, List.flatten_cons, List.flatten_nil, List.append_nil, List.append_assoc]
        rw [e2]
        exact hR h4 tk4 g4 t4 hk4
    split
    · refine wpAny_bind (slice_at hx fun k' t' => wpAny_bind (push_at hD (by omega) fun h' hD' hk' => ?_))
      refine tail _ (vs ++ [_]) (ps ++ [⟨x.cps.extract pos n⟩]) (n1 + 1) ⟨h', k', rfl⟩ (fun b o e => hk' b o (fun z => by rw [z, hD0] at e; cases e) (hGs b o e)) hD' (strsAre_append hvs (.cons _ _ .nil)) (by rw [List.length_append]; simp only [List.length_cons, List.length_nil]; omega) (fun y hy => ?_) ?_
      · rcases List.mem_append.mp hy with hy | hy
        · exact hps y hy
        · rw [List.mem_singleton.mp hy]
          show (x.cps.extract pos n).size ≤ 200
          rw [Array.size_extract]; omega
      · rw [List.map_append, List.flatten_append]
        congr 1
        show (x.cps.extract pos n).toList ++ [] = _
        rw [List.append_nil, Array.toList_extract, List.extract_eq_take_drop]
    · refine tail _ vs ps n1 ⟨s.heap, s.toks, rfl⟩ hGs hD hvs (by omega) hps ?_
      rename_i hlt
      rw [show n - pos = 0 by omega, List.take_zero, List.append_nil]
end
end Mine
end

section
open PySem PySem.W PyProof.Rows PySem.Calls PySem.Spec
set_option maxRecDepth 100000
set_option maxHeartbeats 1000000
namespace Mine
theorem fun_called : typeLookup (.type "function") "__call__" = pure (some (.builtin "function.__call__")) := by rw [typeLookup_type, builtinLookup_eq_fast]; kernel_rfl
theorem str_bytearray : isSubtype (.type "str") (.type "bytearray") = pure false := by rw [isSubtype_type]; kernel_rfl
theorem named_sub (a b : Value) : Builtin.Re.reNamed "re.Pattern.sub" "sub" ["repl", "string", "count"] 2 [a, b] [] = pure [some a, some b, none] := by rfl
section
variable {prog : Program} {w : World} {A : Around} {s : Shared} {Q E : Value → Shared → Prop}
theorem sub_call {x : Str} {tx : Tok} {f : Addr} {of : Obj} (hx : x.length ≤ 200) (hP : PatAt s.heap) (hf : s.heap.get? f = some of) (hfc : of.cls = .type "function")
    (HL : ∀ (s' : Shared) (a : Addr) (n : Nat) (Q' E' : Value → Shared → Prop), AllBare s'.gens → (∀ b o, s.heap.get? b = some o → s'.heap.get? b = some o) → MatchAt s'.heap a x tx n → n < x.cps.size →
      (∀ h' tk (g' : BG) t', (∀ b o, s'.heap.get? b = some o → h'.get? b = some o) → Q' (.str ⟨#[92, x.cps.getD n 0]⟩ t') { s' with heap := h', toks := tk, gens := g' }) → wpAny (model prog w) A.in1 (call (.ref f) [.ref a]) Q' E' s')
    (h : ∀ h' tk (g' : BG) t', (∀ b o, s.heap.get? b = some o → h'.get? b = some o) → Q (.str ⟨(ampS x.cps.toList).toArray⟩ t') { s with heap := h', toks := tk, gens := g' }) (hB : AllBare s.gens := by first | assumption | exact BG.ok _) :
    wpAny (model prog w) A (call (.builtin "re.Pattern.sub") [.ref 36, .ref f, .str x tx]) Q E s := by
  obtain ⟨o, o2, vs, n, v0, v1, h1, h2, h3, h4, h5, h6⟩ := id hP
  refine wpAny_call (codeAny_call_builtin slot_sub.plain entry_sub (slot_sub.check _ _ _ _ _ _ _ _ ⟨o, h1, h2⟩ (args_sub _ _ _) ?_))
  unfold Builtin.«re.Pattern.sub» Builtin.Re.reSubstitute
  dsimp only
  rw [named_sub]
  refine wpAny_bind (wpAny_pure ?_)
  dsimp only
  refine wpAny_bind (wpAny_pure ?_)
  refine wpAny_bind (wpAny_specialOf ⟨of, hf, hfc⟩ fun_called ?_)
  rw [if_pos (show (some (Value.builtin "function.__call__")).isSome = true from rfl)]
  refine wpAny_bind (wpAny_pure ?_)
  rw [if_pos (show (some (Value.builtin "function.__call__")).isSome = true from rfl)]
  refine wpAny_bind (wpAny_pure ?_)
  refine wpAny_bind (wpAny_holding (target_at hP ?_))
  dsimp only
  rw [if_pos (show ((1 : Int) == 1) = true from rfl)]
  unfold Builtin.Re.reNotHeld
  refine wpAny_bind (wpAny_bind (wpAny_isInstance_val rfl str_bytearray ?_))
  rw [if_neg (by decide)]
  refine wpAny_pure (wpAny_bind (wpAny_newList ?_))
  refine wpAny_pure ⟨plainId_quiet plain_loop _, ?_⟩
  have hlt : ∀ b o, s.heap.get? b = some o → b ≠ s.heap.objs.size := fun b o e => Nat.ne_of_lt (Heap.lt_size e)
  have hD0 : s.heap.get? s.heap.objs.size = none := by
    cases q : s.heap.get? s.heap.objs.size with
    | none => rfl
    | some o => exact absurd rfl (hlt _ o q)
  refine sub_loop (G := s.heap) hx hP HL (x.cps.size - 0) 0 _ s.heap.objs.size [] [] 0 0 rfl hB (Nat.zero_le _) (fun b o e => Heap.get?_push_of_some _ e) hD0 (Heap.get?_push_size _ rfl) .nil (Nat.zero_le _) (fun _ h => nomatch h) fun h' tk g' t' hk => ?_
  exact h h' tk g' t' hk
end
end Mine
end

section
open PySem PySem.W PyProof.Rows
namespace Mine
noncomputable def rep (c : Nat) (z : List Nat) (l : List Nat) : List Nat := l.flatMap fun d => if d = c then z else [d]
theorem rep_append (c : Nat) (z a b : List Nat) : rep c z (a ++ b) = rep c z a ++ rep c z b := List.flatMap_append
theorem rep_free {c : Nat} {z : List Nat} : ∀ l : List Nat, c ∉ l → rep c z l = l
  | [], _ => rfl
  | k :: r, h => by
    have h1 : ¬ k = c := fun e => h (e ▸ List.mem_cons_self ..)
    show (if k = c then z else [k]) ++ rep c z r = _
    rw [if_neg h1, rep_free r fun m => h (List.mem_cons_of_mem _ m)]; rfl
theorem rep_join (c : Nat) (z : List Nat) : ∀ parts : List Str, (∀ p ∈ parts, c ∉ p.cps.toList) → rep c z (Str.join ⟨#[c]⟩ parts).cps.toList = (Str.join ⟨z.toArray⟩ parts).cps.toList
  | [], _ => rfl
  | [p], h => rep_free _ (h p (List.mem_singleton.mpr rfl))
  | p :: q :: r, h => by
    have ih := rep_join c z (q :: r) fun a ha => h a (List.mem_cons_of_mem _ ha)
    show rep c z (p ++ ⟨#[c]⟩ ++ Str.join ⟨#[c]⟩ (q :: r)).cps.toList = (p ++ ⟨z.toArray⟩ ++ Str.join ⟨z.toArray⟩ (q :: r)).cps.toList
    simp only [Str.cps_append, Array.toList_append]
    rw [rep_append, rep_append, ih, rep_free _ (h p (List.mem_cons_self ..))]
    have e : rep c z [c] = z := by simp [rep]
    show p.cps.toList ++ rep c z [c] ++ _ = _
    rw [e]
theorem replace_rep (x : Str) (c : Nat) (z : List Nat) : Txt.replace x ⟨#[c]⟩ ⟨z.toArray⟩ = ⟨(rep c z x.cps.toList).toArray⟩ := str_ext (by
  rw [StrLaws.replace_one, ← rep_join c z _ (StrLaws.split_free x c), StrLaws.join_split])
theorem rep_e1 (l : List Nat) : rep 45 [92, 45] (rep 92 [92, 92] l) = l.flatMap e1 := by
  induction l with
  | nil => rfl
  | cons d r ih =>
    show rep 45 [92, 45] ((if d = 92 then [92, 92] else [d]) ++ rep 92 [92, 92] r) = e1 d ++ r.flatMap e1
    rw [rep_append, ih]
    congr 1
    by_cases h1 : d = 92
    · subst h1; rfl
    · rw [if_neg h1]
      by_cases h2 : d = 45
      · subst h2; rfl
      · simp [rep, e1, h1, h2]
theorem rep_e1_free (l : List Nat) (h : l.contains 45 = false) : rep 92 [92, 92] l = l.flatMap e1 := by
  have hn : 45 ∉ l := by simpa using h
  have hn2 : 45 ∉ rep 92 [92, 92] l := by
    intro hm
    obtain ⟨d, hd, hm⟩ := List.mem_flatMap.mp hm
    by_cases h1 : d = 92
    · rw [if_pos h1] at hm; simp at hm
    · rw [if_neg h1] at hm
      rw [List.mem_singleton] at hm
      exact hn (hm ▸ hd)
  rw [← rep_e1, rep_free _ hn2]
end Mine
end

section
open PySem PySem.W PyProof.Rows PySem.Calls PySem.Spec
set_option maxRecDepth 100000
set_option maxHeartbeats 8000000
namespace Mine
theorem one_eq (c d : Nat) : ((⟨#[c]⟩ : Str) == (⟨#[d]⟩ : Str)) = decide (c = d) := by
  by_cases h : c = d
  · subst h; simp
  · rw [decide_eq_false h]
    refine beq_eq_false_iff_ne.mpr fun e => h ?_
    have := congrArg (fun s : Str => s.cps.toList) e
    simpa using this
theorem one_ne (c d : Nat) : ((⟨#[c]⟩ : Str) != (⟨#[d]⟩ : Str)) = !decide (c = d) := by rw [bne, one_eq]
theorem o92 : Str.ofString "\\" = (⟨#[92]⟩ : Str) := by decide +kernel
theorem o46 : Str.ofString "." = (⟨#[46]⟩ : Str) := by decide +kernel
theorem o91 : Str.ofString "[" = (⟨#[91]⟩ : Str) := by decide +kernel
theorem o93 : Str.ofString "]" = (⟨#[93]⟩ : Str) := by decide +kernel
theorem o94 : Str.ofString "^" = (⟨#[94]⟩ : Str) := by decide +kernel
theorem o33 : Str.ofString "!" = (⟨#[33]⟩ : Str) := by decide +kernel
theorem o42 : Str.ofString "*" = (⟨#[42]⟩ : Str) := by decide +kernel
theorem o63 : Str.ofString "?" = (⟨#[63]⟩ : Str) := by decide +kernel
theorem o45 : Str.ofString "-" = (⟨#[45]⟩ : Str) := by decide +kernel
theorem o40 : Str.ofString "(" = (⟨#[40]⟩ : Str) := by decide +kernel
theorem o41 : Str.ofString ")" = (⟨#[41]⟩ : Str) := by decide +kernel
theorem o0 : Str.ofString "" = (⟨#[]⟩ : Str) := by decide +kernel
theorem ospec : Str.ofString "^$*+?{}|()]" = (⟨spec9.toArray⟩ : Str) := by decide +kernel
end Mine
end

section
open PySem PySem.W PyProof.Rows PySem.Calls PySem.Spec
set_option maxRecDepth 100000
set_option maxHeartbeats 1000000
namespace Mine
theorem lk_append : typeLookup (.type "list") "append" = pure (some (.builtin "list.append")) := by rw [typeLookup_type, builtinLookup_eq_fast]; kernel_rfl
theorem md_get : typeLookup (.type "method_descriptor") "__get__" = pure (some (.builtin "method_descriptor.__get__")) := by rw [typeLookup_type, builtinLookup_eq_fast]; kernel_rfl
theorem md_set : typeLookup (.type "method_descriptor") "__set__" = pure none := by rw [typeLookup_type, builtinLookup_eq_fast]; kernel_rfl
theorem md_del : typeLookup (.type "method_descriptor") "__delete__" = pure none := by rw [typeLookup_type, builtinLookup_eq_fast]; kernel_rfl
theorem slot_md_get : Slot "method_descriptor" "__get__" "method_descriptor.__get__" :=
  .of (owner := "method_descriptor") (n := "__get__") (by rw [typeLookup_type, builtinLookup_eq_fast]; kernel_rfl) (by decide +kernel) (by decide +kernel) (by decide +kernel)
    (by first | exact .inl (by decide +kernel) | exact .inr (by decide +kernel)) (by rw [isSubtype_type]; kernel_rfl)
theorem entry_md_get : entryFor table "method_descriptor.__get__" = some Builtin.«method_descriptor.__get__» := entryFor_of_tree (by kernel_rfl)
theorem owner_md : Manifest.owners.lookup (String.ofList ['r', 'o', 't', 'p', 'i', 'r', 'c', 's', 'e', 'd', '_', 'd', 'o', 'h', 't', 'e', 'm'].reverse) = some Manifest.sig_method_descriptor := by kernel_rfl
theorem args_md_get (a b c : Value) : argsOk "method_descriptor.__get__" ⟨[a, b, c], []⟩ := by
  unfold argsOk; rw [signature?_of (id := "method_descriptor.__get__") (n := ['_', '_', 't', 'e', 'g', '_', '_']) (o := ['r', 'o', 't', 'p', 'i', 'r', 'c', 's', 'e', 'd', '_', 'd', 'o', 'h', 't', 'e', 'm']) (by kernel_rfl) owner_md]; kernel_rfl
theorem owner_append : isSubtype (.type "list") (.type (".".intercalate ("list.append".cutAt '.').dropLast)) = pure true := by rw [show ".".intercalate ("list.append".cutAt '.').dropLast = "list" from by decide +kernel, isSubtype_type]; kernel_rfl
section
variable {prog : Program} {w : World} {A : Around} {E : Value → Shared → Prop} {h : Heap} {g : Array GenState} {d : Drawn} {t : Nat} {os : OsState} {a : Addr} {o : Obj}
theorem append_entry {tk : Tok} {xs : Array Value} {k : Nat} {Q : PySem.Fin → Shared → Prop} (hx : h.get? a = some (listOf xs k))
    (hq : ∀ h' b t', (∀ c o, h.get? c = some o → h'.get? c = some o) → h.get? b = none → h'.get? b = some { cls := .type "builtin_function_or_method", data := .fields #[.builtin "list.append", .ref a] } → Q (.done (.ret (.ref b))) ⟨h', g, d, t', os⟩) :
    wpAny (model prog w) A (Builtin.«object.__getattribute__» ⟨[.ref a, .str "append" tk], []⟩) Q E ⟨h, g, d, t, os⟩ := by
  have hT : (⟨h, g, d, t, os⟩ : Shared).TypeIs (.ref a) "list" := ⟨_, hx, rfl⟩
  have f1 := lk_append
  have f2 := PySem.F.type_list_append
  have f3 := md_get
  have f4 := md_set
  have f5 := md_del
  repeat (any_goals (first | with_reducible assumption | with_reducible refine wpAny_pure ?_ | with_reducible refine wpAny_bind ?_ | with_reducible refine wpAny_holding ?_ | with_reducible refine wpAny_rule ?_ | with_reducible refine wpAny_of_eq (by assumption) ?_ | with_reducible refine wpAny_typeOf (by assumption) ?_ | with_reducible refine wpAny_specialOf_val (by assumption) (by assumption) ?_ | with_reducible refine wpAny_isInstance (by assumption) (by assumption) ?_ | with_reducible refine wpAny_call ?_ | with_reducible refine wpAny_attempt ?_ | with_reducible refine wpAny_standAt ?_ | with_reducible refine wpAny_point ?_ | with_reducible refine wpAny_letGo ?_ | with_reducible refine wpAny_alloc' ?_ | with_reducible refine wpAny_runValue ?_ | with_reducible refine wpAny_specialOf (by assumption) (by assumption) ?_ | wp_delta | wp_step))
  refine codeAny_call_builtin slot_md_get.plain entry_md_get (slot_md_get.check _ _ _ _ _ _ _ _ (show (⟨h, g, d, t, os⟩ : Shared).TypeIs (.builtin "list.append") "method_descriptor" from f2) (args_md_get _ _ _) ?_)
  have f8 := owner_append
  repeat (any_goals (first | with_reducible assumption | with_reducible refine wpAny_pure ?_ | with_reducible refine wpAny_bind ?_ | with_reducible refine wpAny_holding ?_ | with_reducible refine wpAny_rule ?_ | with_reducible refine wpAny_of_eq (by assumption) ?_ | with_reducible refine wpAny_typeOf (by assumption) ?_ | with_reducible refine wpAny_specialOf_val (by assumption) (by assumption) ?_ | with_reducible refine wpAny_isInstance (by assumption) (by assumption) ?_ | with_reducible refine wpAny_call ?_ | with_reducible refine wpAny_attempt ?_ | with_reducible refine wpAny_standAt ?_ | with_reducible refine wpAny_point ?_ | with_reducible refine wpAny_letGo ?_ | with_reducible refine wpAny_alloc' ?_ | with_reducible refine wpAny_runValue ?_ | with_reducible refine wpAny_specialOf (by assumption) (by assumption) ?_ | wp_delta | wp_step))
  refine hq _ _ _ (fun c o e => Heap.get?_push_of_some _ e) ?_ (Heap.get?_push_size _ rfl)
  cases q : h.get? h.objs.size with
  | none => rfl
  | some o => exact absurd (Heap.lt_size q) (Nat.lt_irrefl _)

theorem append_getattr {xs : Array Value} {k : Nat} {Q : Value → Shared → Prop} (hx : h.get? a = some (listOf xs k))
    (hq : ∀ h' b t', (∀ c o, h.get? c = some o → h'.get? c = some o) → h.get? b = none → h'.get? b = some { cls := .type "builtin_function_or_method", data := .fields #[.builtin "list.append", .ref a] } → Q (.ref b) ⟨h', g, d, t', os⟩) :
    wpAny (model prog w) A (getAttr (.ref a) (Str.ofString "append") true) Q E ⟨h, g, d, t, os⟩ := by
  have hT : ∀ tk', (⟨h, g, d, tk', os⟩ : Shared).TypeIs (.ref a) "list" := fun _ => ⟨_, hx, rfl⟩
  have f3 := PySem.F.slot_list_getattribute.lookup
  have f4 := PySem.F.slot_list_getattribute.bind (.ref a)
  unfold getAttr getAttrBy
  repeat (any_goals (first | with_reducible assumption | with_reducible exact hT _ | with_reducible refine wpAny_pure ?_ | with_reducible refine wpAny_bind ?_ | with_reducible refine wpAny_holding ?_ | with_reducible refine wpAny_rule ?_ | with_reducible refine wpAny_of_eq (by assumption) ?_ | with_reducible refine wpAny_typeOf (by assumption) ?_ | with_reducible refine wpAny_specialOf_val (by assumption) (by assumption) ?_ | with_reducible refine wpAny_isInstance (by assumption) (by assumption) ?_ | with_reducible refine wpAny_call ?_ | with_reducible refine wpAny_attempt ?_ | with_reducible refine wpAny_standAt ?_ | with_reducible refine wpAny_point ?_ | with_reducible refine wpAny_letGo ?_ | with_reducible refine wpAny_alloc' ?_ | with_reducible refine wpAny_runValue ?_ | with_reducible refine wpAny_specialOf (by assumption) (by assumption) ?_ | wp_delta | wp_step))
  refine codeAny_call_builtin PySem.F.slot_list_getattribute.plain PySem.am_entry_list_getattribute (PySem.F.slot_list_getattribute.check _ _ _ _ _ _ _ _ (hT _) (PySem.F.args_list_getattribute_2 _ _) (append_entry hx fun h' b t' e1 e2 e3 => ?_))
  show wpAny _ _ (handedOut (.ref b)) _ _ _
  repeat (any_goals (first | with_reducible exact hq _ _ _ e1 e2 e3 | with_reducible assumption | with_reducible refine wpAny_pure ?_ | with_reducible refine wpAny_bind ?_ | with_reducible refine wpAny_holding ?_ | with_reducible refine wpAny_rule ?_ | with_reducible refine wpAny_of_eq (by assumption) ?_ | with_reducible refine wpAny_typeOf (by assumption) ?_ | with_reducible refine wpAny_specialOf_val (by assumption) (by assumption) ?_ | with_reducible refine wpAny_isInstance (by assumption) (by assumption) ?_ | with_reducible refine wpAny_call ?_ | with_reducible refine wpAny_attempt ?_ | with_reducible refine wpAny_standAt ?_ | with_reducible refine wpAny_point ?_ | with_reducible refine wpAny_letGo ?_ | with_reducible refine wpAny_alloc' ?_ | with_reducible refine wpAny_runValue ?_ | with_reducible refine wpAny_specialOf (by assumption) (by assumption) ?_ | wp_delta | wp_step))
end
end Mine
end

section
open PySem PySem.W PyProof.Rows PySem.Calls PySem.Spec
set_option maxRecDepth 100000
set_option maxHeartbeats 1000000
namespace Mine
theorem sgA_some : (Manifest.sig_list.lookup "append").isSome = true := by kernel_rfl
noncomputable def sgA : Manifest.Signature := (Manifest.sig_list.lookup "append").get sgA_some
theorem sig_a1 : Manifest.signature? "list.append" = some sgA := by
  rw [signature?_of (id := "list.append") (n := ['d', 'n', 'e', 'p', 'p', 'a']) (o := ['t', 's', 'i', 'l']) (by kernel_rfl) PySem.F.owner_list]
  exact (Option.some_get sgA_some).symm
theorem sig_a2 (a b : Value) : Bind.checkArgs "list.append" { sgA with full := s!"{Bind.lastOf "list"}.{Bind.lastOf "list.append"}" } ⟨[a, b], []⟩ = pure () := by kernel_rfl
theorem list_module : isSubtype (.type "list") (.type "module") = pure false := by rw [isSubtype_type]; kernel_rfl
theorem kind_append : builtinKind "list.append" = some .method := by decide +kernel
theorem varargs_append : Manifest.varargsMethods.contains "list.append" = false := by decide +kernel
theorem plain_append : plainId "list.append" = true := by decide +kernel
section
variable {prog : Program} {w : World} {A : Around} {E : Value → Shared → Prop} {s : Shared}
theorem bound_check {M : Model} {D : Addr} {its : Array Value} {n : Nat} {x : Value} {Q : Unit → Shared → Prop} (hD : s.heap.get? D = some (listOf its n)) (h : Q () s) : wpAny M A (checkBoundCall "list.append" ⟨[.ref D, x], []⟩) Q E s := by
  have hT : s.TypeIs (.ref D) "list" := ⟨_, hD, rfl⟩
  unfold checkBoundCall
  rw [sig_a1, kind_append]
  dsimp only
  rw [if_neg (by decide)]
  refine wpAny_bind (wpAny_isInstance hT list_module ?_)
  rw [if_neg (by rw [varargs_append]; decide)]
  unfold isType loadHead
  refine wpAny_bind (wpAny_bind (wpAny_loadPart hD (wpAny_pure ?_)))
  dsimp only
  rw [if_neg Bool.false_ne_true]
  refine wpAny_bind (wpAny_typeOf hT ?_)
  dsimp only
  exact wpAny_of_eq (sig_a2 _ _) h
theorem bound_append {D b : Addr} {its : Array Value} {n : Nat} {x : Value} {Q : Value → Shared → Prop} (hb : s.heap.get? b = some { cls := .type "builtin_function_or_method", data := .fields #[.builtin "list.append", .ref D] }) (hD : s.heap.get? D = some (listOf its n)) (hz : its.size ≤ sizeLine)
    (h : ∀ h', Heap.SameBut D s.heap h' → h'.get? D = some (listOf (its.push x) (n + 1)) → Q .none { s with heap := h' }) : wpAny (model prog w) A (call (.ref b) [x]) Q E s := by
  refine wpAny_call (codeAny_of_tree ?_)
  show wpAny _ A.in1 (callAny (.ref b) ⟨[x], []⟩) _ _ s
  unfold callAny
  refine wpAny_bind (wpAny_load hb ?_)
  dsimp only
  rw [if_pos (by decide)]
  show wpAny _ _ (if (Value.type "builtin_function_or_method" != Value.type "method") = true then (checkBoundCall "list.append" ⟨[.ref D, x], []⟩ >>= fun _ => again (.builtin "list.append" ⟨[.ref D, x], []⟩)) else _) _ _ _
  rw [if_pos (by decide)]
  refine wpAny_bind (bound_check hD (wpAny_pure ⟨plainId_quiet plain_append _, ?_⟩))
  refine codeAny_entry entry_list_append plain_append ?_
  show wpAny _ _ (updateSeq D (·.push x) >>= fun _ => ret .none) _ _ s
  refine wpAny_bind ?_
  refine wpAny_updateSeq hD rfl (wpAny_pure (h _ (Heap.SameBut.update ..) ?_)) (by exact hz) (by rw [Array.size_push]; omega)
  rw [Heap.get?_update_self _ hD (by rw [mapSeq_push]; rfl), mapSeq_push]
theorem bound_K {h₀ : Heap} {L : Addr} {m : Str → Option Value} {news news' : List (Addr × Obj)} {D b : Addr} {its : Array Value} {n : Nat} {x : Value} {Q : Value → Shared → Prop} (F : Fr h₀ L s.heap m) (N : News h₀ L s.heap news) (U : Upd D (listOf its n) (listOf (its.push x) (n + 1)) news news')
    (hb : s.heap.get? b = some { cls := .type "builtin_function_or_method", data := .fields #[.builtin "list.append", .ref D] }) (hz : its.size ≤ sizeLine)
    (h : ∀ h', Fr h₀ L h' m → News h₀ L h' news' → Q .none { s with heap := h' }) : wpAny (model prog w) A (call (.ref b) [x]) Q E s := by
  obtain ⟨pre, post, rfl, rfl, a, b⟩ := U.split
  have z := N (D, listOf its n) (List.mem_append.mpr (.inr (.head _)))
  exact bound_append hb z.1 hz fun h' hs ho' => h h' (F.change hs z.2.1 z.2.2) (news_set N a b hs ho')
end
end Mine
end

section
open PySem PySem.W PyProof.Rows PySem.Calls PySem.Spec
set_option maxRecDepth 100000
set_option maxHeartbeats 1000000
namespace Mine
theorem mro_object : mroOf (.type "object") = pure [.type "object"] := by rw [mroOf_type]; kernel_rfl
theorem lookup_object_new : typeLookup (.type "object") "__new__" = pure (some (.builtin "object.__new__")) := by rw [typeLookup_type, builtinLookup_eq_fast]; kernel_rfl
theorem called_object : TypeCalled "object" "object.__new__" "object.__init__" :=
  ⟨by decide +kernel, by decide +kernel, ⟨_, _, mro_object⟩, madeBy_type mro_object lookup_object_new (by decide +kernel), by decide +kernel, by rw [isSubtype_type]; kernel_rfl, PySem.F.slot_object_init⟩
theorem typeCall_object : checkTypeCall "object" ⟨[], []⟩ = pure () := by kernel_rfl
theorem both_object : checkBuiltinCall "object.__new__" ⟨[.type "object"], []⟩ = pure () ∧ Builtin.«object.__new__» ⟨[.type "object"], []⟩ = (newObj (.type "object") .plain none >>= fun v => ret v) := ⟨by kernel_rfl, by kernel_rfl⟩
theorem plain_object_new : plainId "object.__new__" = true := by decide +kernel
section
variable {prog : Program} {w : World} {A : Around} {E : Value → Shared → Prop} {s : Shared}
theorem code_object_new {Q₁ : Value → Shared → Prop}
    (h : Q₁ (.ref s.heap.objs.size) { s with heap := s.heap.push { cls := .type "object", data := .plain } }) :
    codeAny (model prog w) A (.call (.builtin "object.__new__") ⟨[.type "object"], []⟩) (wants Q₁ E) s := by
  refine codeAny_call_builtin plain_object_new PySem.F.objNew.entry (wpAny_of_eq both_object.1 ?_)
  rw [both_object.2]
  exact wpAny_bind (wpAny_newObj_type (wpAny_pure h) trivial)
theorem object_call {Q : Value → Shared → Prop} (h : Q (.ref s.heap.objs.size) { s with heap := s.heap.push { cls := .type "object", data := .plain } }) :
    wpAny (model prog w) A (call (.type "object") []) Q E s := by
  refine callType_codes (Q₁ := fun obj s₁ => obj = .ref s.heap.objs.size ∧ s₁ = { s with heap := s.heap.push { cls := .type "object", data := .plain } }) called_object typeCall_object PySem.F.entry_object_init (code_object_new ⟨rfl, rfl⟩) fun obj s₁ h₁ => ?_
  obtain ⟨rfl, rfl⟩ := h₁
  refine ⟨⟨_, Heap.get?_push_size _ rfl, rfl⟩, PySem.F.args_object_init_1 _, ?_⟩
  unfold Builtin.«object.__init__»
  show wpAny _ _ (ret .none) _ _ _
  exact wpAny_pure ⟨rfl, h⟩
end
end Mine
end

section
open PySem PySem.W PyProof.Rows PySem.Calls PySem.Spec
namespace Mine
theorem at_eq {x : Str} {i c d : Nat} {o : Str} {b : Bool} (h : x.cps.toList[i]? = some c) (ho : o = ⟨#[d]⟩) (e : (Txt.item x ((i : Nat) : Int) == o) = b) : decide (c = d) = b := by
  rw [PyProof.Rows.item_meets (by omega) (by simpa using h), ho, one_eq] at e; exact e
theorem at_ne {x : Str} {i c d : Nat} {o : Str} {b : Bool} (h : x.cps.toList[i]? = some c) (ho : o = ⟨#[d]⟩) (e : (Txt.item x ((i : Nat) : Int) != o) = b) : (!decide (c = d)) = b := by
  rw [PyProof.Rows.item_meets (by omega) (by simpa using h), ho, one_ne] at e; exact e
end Mine
end

section
open PySem PySem.W PyProof.Rows PySem.Calls PySem.Spec
set_option maxRecDepth 100000
set_option maxHeartbeats 8000000
namespace Mine
noncomputable abbrev PG : Program := PySem.Challenge.rw_kt0032_01.row.prog
noncomputable abbrev KK (w : World) : Frag := kk.heap_1 w.params

/-! ### a def that yields: its statements inside a run -/
section
variable {M : Model} {A : Around} {R : GenEnd} {Y : Protocol} {n : Nat} {s₀ : Shared} {c : Code} {fs : List Frame} {s : Shared} {env : Env}
  {K : Flow → Sem Fin} {H : Value → Sem Fin} {gd : Bool → Bool} {lv : List Value → List Value}

theorem sgIf {test : Expr} {body orelse : List Stmt} {pos : Pos}
    (h : wpAny M (A.over c fs) (isTrue test env (eval test env)) (fun b s' =>
      if b = true then Seg M A R Y n s₀ c ((execs body env).wrap K H gd lv) fs s' else Seg M A R Y n s₀ c ((execs orelse env).wrap K H gd lv) fs s')
      (fun x s' => Seg M A R Y n s₀ c (H x) fs s') s) :
    Seg M A R Y n s₀ c ((exec (.If test body orelse pos) env).wrap K H gd lv) fs s := by
  show Seg M A R Y n s₀ c ((standAt pos >>= fun _ => isTrue test env (eval test env) >>= fun b => if b = true then execs body env else execs orelse env).wrap K H gd lv) fs s
  refine seg_bind_wrap (wpAny_standAt (seg_bind_wrap (wpAny_mono h (fun b s' hb => ?_) fun _ _ e => e)))
  cases b with
  | true => simpa using hb
  | false => simpa using hb

theorem sgStmt {st : Stmt} (h : wpAny M (A.over c fs) (exec st env) (fun f s' => Seg M A R Y n s₀ c (K f) fs s') (fun x s' => Seg M A R Y n s₀ c (H x) fs s') s) :
    Seg M A R Y n s₀ c ((exec st env).wrap K H gd lv) fs s := seg_wrap h

theorem sgFor {target iter : Expr} {body : List Stmt} {pos : Pos}
    (h : wpAny M (A.over c fs) (eval iter env) (fun x s₁ => wpAny M (A.over c fs) (pyIter x) (fun it s₂ =>
      ∀ p, Seg M A R Y n s₀ (.forLoop target it body [] env) (M.den (.forLoop target it body [] env))
        (.ret (fun r => ((match r with | .ok f => (.pure f : Sem Flow) | .error e => .raise e).onRaise fun (x : Value) => do
          if (← field x 1) == Value.none then unsupported "frame.own-activation:exception-without-traceback"
          setFlight x env.frame).wrap K H gd lv) none (gd false) (lv []) c p [] :: fs) s₂)
        (fun x s' => Seg M A R Y n s₀ c (H x) fs s') s₁) (fun x s' => Seg M A R Y n s₀ c (H x) fs s') s)
    (hs : ∀ x, foldedSetIterable iter env x = pure x := by intro _; rfl) :
    Seg M A R Y n s₀ c ((exec (.For target iter body [] pos) env).wrap K H gd lv) fs s := by
  rw [exec_For]
  refine seg_bind_wrap (wpAny_standAt (seg_bind_wrap (wpAny_mono h (fun x s₁ h₁ => ?_) fun _ _ e => e)))
  refine seg_bind_wrap (wpAny_of_eq (hs x) (seg_bind_wrap (wpAny_standAt (seg_bind_wrap (wpAny_holding (wpAny_mono h₁ (fun it s₂ h₂ => ?_) fun _ _ e => e))))))
  exact seg_call h₂

theorem sgForTurn {target : Expr} {it : Value} {body : List Stmt} {prog : Program} {w : World}
    (h : wpAny (model prog w) (A.over (.forLoop target it body [] env) fs) (pyNext it) (fun r s₁ => match r with
      | none => Seg (model prog w) A R Y n s₀ (.block [] env) ((model prog w).den (.block [] env)) fs s₁
      | some v => wpAny (model prog w) (A.over (.forLoop target it body [] env) fs) (letOwnedTupleGo target it v) (fun _ s₂ =>
          wpAny (model prog w) (A.over (.forLoop target it body [] env) fs) (assign target env v) (fun _ s₃ =>
            Seg (model prog w) A R Y n s₀ (.forLoop target it body [] env) ((execs body env).wrap (fun f => match f with
              | .next | .cont => .pure (.again (.forLoop target it body [] env))
              | .brk => .pure (.done .next)
              | .ret v => .pure (.done (.ret v))) (fun e => (do noteFrame e env; theTreesLotGoes e : Sem Unit).wrap (fun _ => .raise e) .raise id id) id id) fs s₃) (fun _ _ => False) s₂) (fun _ _ => False) s₁) (fun _ _ => False) s) :
    Seg (model prog w) A R Y n s₀ (.forLoop target it body [] env) ((model prog w).den (.forLoop target it body [] env)) fs s := by
  show Seg _ A R Y n s₀ _ ((forTurn target it body [] env).onRaise (fun x => do noteFrame x env; theTreesLotGoes x)) fs s
  unfold forTurn
  rw [Sem.onRaise_eq_wrap]
  refine seg_bind_wrap (wpAny_standAt ?_)
  refine seg_bind_wrap (wpAny_onRaise (wpAny_mono h (fun r s₁ h₁ => ?_) fun _ _ e => e.elim))
  cases r with
  | none => exact seg_again rfl h₁
  | some v =>
    refine seg_bind_wrap (wpAny_mono h₁ (fun _ s₂ h₂ => ?_) fun _ _ e => e.elim)
    refine seg_bind_wrap (wpAny_mono h₂ (fun _ s₃ h₃ => ?_) fun _ _ e => e.elim)
    rw [Sem.bind_eq_wrap', Sem.wrap_wrap]
    rw [Sem.wrap_congr (execs body env) _ _ (K' := fun f => match f with
            | .next | .cont => .pure (.again (.forLoop target it body [] env))
            | .brk => .pure (.done .next)
            | .ret v => .pure (.done (.ret v))) (H' := (fun e => (do noteFrame e env; theTreesLotGoes e : Sem Unit).wrap (fun _ => .raise e) .raise id id))
        (fun f => by cases f <;> rfl)
        (fun e => by first | exact Sem.bind_eq_wrap _ _ | (show (do noteFrame e env; theTreesLotGoes e : Sem Unit).bind (fun _ => .raise e) = _; rw [Sem.bind_eq_wrap]))]
    exact h₃

theorem sgBlockNil {prog : Program} {w : World} {k : Result → Sem Fin} {h g l c₁ p₁ kp} (hk : Seg (model prog w) A R Y n s₀ c₁ (k (.ok .next)) fs s) :
    Seg (model prog w) A R Y n s₀ (.block [] env) ((model prog w).den (.block [] env)) (.ret k h g l c₁ p₁ kp :: fs) s := seg_leaf (.ok .next) hk
end
end Mine
end

section
open PySem PySem.W PyProof.Rows PySem.Calls PySem.Spec
set_option maxRecDepth 100000
set_option maxHeartbeats 8000000
namespace Mine

/-- what `_iter_escaped_chars` yields, from the signs that are left, the place of the first of them, and whether a backslash stands open -/
noncomputable def pcs : List Nat → Nat → Bool → List (Nat × Str)
  | [], _, false => []
  | [], i, true => [(i - 1, ⟨#[92]⟩)]
  | c :: r, i, true => (i, ⟨#[92, c]⟩) :: pcs r (i + 1) false
  | c :: r, i, false => if c = 92 then pcs r (i + 1) true else (i, ⟨#[c]⟩) :: pcs r (i + 1) false

noncomputable def Kp (h₀ : Heap) (pv : List Addr) (h h'' : Heap) : Prop := (∀ b o, h₀.get? b = some o → h''.get? b = some o) ∧ ∀ b ∈ pv, ∀ o, h.get? b = some o → h''.get? b = some o
noncomputable def Has (own : List Addr) (h : Heap) : Prop := ∀ b ∈ own, ∃ o, h.get? b = some o
noncomputable def Sn (h₀ : Heap) (own : List Addr) (s₀ s : Shared) : Prop := ∃ h' tk, s = { s₀ with heap := h', toks := tk } ∧ ∀ b o, (b ∈ own ∨ h₀.get? b = some o) → s₀.heap.get? b = some o → h'.get? b = some o
theorem Sn.refl (h₀ : Heap) (own : List Addr) (s : Shared) : Sn h₀ own s s := ⟨s.heap, s.toks, rfl, fun _ _ _ e => e⟩
theorem Sn.step {h₀ : Heap} {own : List Addr} {s₀ s : Shared} (x : Sn h₀ own s₀ s) {h' : Heap} {tk : Nat} (hk : ∀ b o, (b ∈ own ∨ h₀.get? b = some o) → s.heap.get? b = some o → h'.get? b = some o) :
    Sn h₀ own s₀ { s with heap := h', toks := tk } := by
  obtain ⟨h₁, tk₁, rfl, hk₁⟩ := x
  exact ⟨h', tk, rfl, fun b o hb e => hk b o hb (hk₁ b o hb e)⟩
noncomputable def itR (h₀ : Heap) (own : List Addr) : GenEnd := fun n s₀ r s₁ => r = .ok (.ret .none) ∧ (n = 0 ∧ Sn h₀ own s₀ s₁)
noncomputable def itY (h₀ : Heap) (own : List Addr) (ps : List (Nat × Str)) : Protocol := fun m s₀ v s kap =>
  ∃ T pc tk tk' pv, v = .ref T ∧ ps[ps.length - 1 - m]? = some pc ∧ s.heap.get? T = some { cls := .type "tuple", data := .seq #[.int (pc.1 : Nat) tk, .str pc.2 tk'] } ∧
    T ∉ own ∧ h₀.get? T = none ∧ Sn h₀ own s₀ s ∧ (∀ b ∈ pv, b ∉ own ∧ h₀.get? b = none) ∧ ∀ s'', Kp h₀ pv s.heap s''.heap → Has own s''.heap → kap (.send .none) s''

theorem drawsStr {prog : Program} {w : World} {A : Around} (hh : A.handled = none) (it : Addr) (x : Str) (t : Tok) :
    Draws prog w A it [it] x.cps.size (fun i v => ∃ c u, x.cps[i]? = some c ∧ v = .str ⟨#[c]⟩ u) (fun i h => h.IsStrIter it (strIterType x) x t i) := by
  unfold strIterType
  cases ha : x.cps.all (· < 128)
  · simpa using Draws.strWide hh it x t
  · simpa using Draws.strAscii hh it x t

section
variable {prog : Program} {w : World} {A : Around} {h₀ : Heap} {L e it : Addr} {x : Str} {t : Tok} {ps : List (Nat × Str)} {env : Env} {body : List Stmt} {fs : List Frame} {xp xc : Str} {px pc pt : Pos} {k1 : Nat}

/-- the loop's state ahead of a turn -/
noncomputable def LS (h₀ : Heap) (own : List Addr) (L e it : Addr) (x : Str) (t : Tok) (i : Nat) (b : Bool) (s₀ s : Shared) : Prop :=
  ∃ m old, Fr h₀ L s.heap m ∧ m "escape" = some (.bool b) ∧ (0 < i → ∃ tk, m "pos" = some (.int ((i - 1 : Nat) : Int) tk)) ∧ IsEnum s.heap e it (i : Int) old ∧ s.heap.IsStrIter it (strIterType x) x t i ∧ Sn h₀ own s₀ s ∧ Has own s.heap

noncomputable def LE (h₀ : Heap) (own : List Addr) (L : Addr) (i : Nat) (b : Bool) (s₀ s : Shared) : Prop :=
  ∃ m, Fr h₀ L s.heap m ∧ m "escape" = some (.bool b) ∧ (0 < i → ∃ tk, m "pos" = some (.int ((i - 1 : Nat) : Int) tk)) ∧ Sn h₀ own s₀ s ∧ Has own s.heap

theorem fr_of {h₀ h h' : Heap} {L : Addr} {m : Str → Option Value} (F : Fr h₀ L h m) (hl : ∀ o, h.get? L = some o → h'.get? L = some o) (hk : ∀ b o, h₀.get? b = some o → h.get? b = some o → h'.get? b = some o) : Fr h₀ L h' m := by
  obtain ⟨⟨oL, es, ep, hoL, hLd⟩, k, a⟩ := F
  exact ⟨⟨oL, es, ep, hl _ hoL, hLd⟩, fun b o q => hk b o q (k b o q), a⟩

theorem sgEnum {own : List Addr} (hO : ∀ b ∈ own, b ≠ L ∧ b ≠ e ∧ b ≠ it) (hLe : L ≠ e) (hLi : L ≠ it) (hei : e ≠ it) (h₀e : h₀.get? e = none) (h₀i : h₀.get? it = none) (hL : env.locals = L)
    (hkp : env.kindOf "pos" = some .local) (hkc : env.kindOf "ch" = some .local) (hp : (env.scope.kind == .class || (env.scope.kind == .module && env.locals != env.globals)) = false)
    (hfs : (A.over (.forLoop (.Tuple [.Name "pos" px, .Name "ch" pc] k1 pt) (.ref e) body [] env) fs).handled = none)
    (turn : ∀ i c r b (s₀ s : Shared) m tk tc old, x.cps[i]? = some c → Fr h₀ L s.heap m → m "escape" = some (.bool b) → m "ch" = some (.str ⟨#[c]⟩ tc) → m "pos" = some (.int (i : Nat) tk) →
      IsEnum s.heap e it ((i + 1 : Nat) : Int) old → s.heap.IsStrIter it (strIterType x) x t (i + 1) → Sn h₀ own s₀ s → Has own s.heap →
      (∀ b' (s₀' s' : Shared), LS h₀ own L e it x t (i + 1) b' s₀' s' → (∃ pre, ps = pre ++ pcs r (i + 1) b') →
        Seg (model prog w) A (itR h₀ own) (itY h₀ own ps) (pcs r (i + 1) b').length s₀' (.forLoop (.Tuple [.Name "pos" px, .Name "ch" pc] k1 pt) (.ref e) body [] env) ((model prog w).den (.forLoop (.Tuple [.Name "pos" px, .Name "ch" pc] k1 pt) (.ref e) body [] env)) fs s') →
      (∃ pre, ps = pre ++ pcs (c :: r) i b) →
      Seg (model prog w) A (itR h₀ own) (itY h₀ own ps) (pcs (c :: r) i b).length s₀ (.forLoop (.Tuple [.Name "pos" px, .Name "ch" pc] k1 pt) (.ref e) body [] env)
        ((execs body env).wrap (fun f => match f with
              | .next | .cont => .pure (.again (.forLoop (.Tuple [.Name "pos" px, .Name "ch" pc] k1 pt) (.ref e) body [] env))
              | .brk => .pure (.done .next)
              | .ret v => .pure (.done (.ret v))) (fun e => (do noteFrame e env; theTreesLotGoes e : Sem Unit).wrap (fun _ => .raise e) .raise id id) id id) fs s)
    (done : ∀ b (s₀ s : Shared), LE h₀ own L x.cps.size b s₀ s → (∃ pre, ps = pre ++ pcs [] x.cps.size b) →
      Seg (model prog w) A (itR h₀ own) (itY h₀ own ps) (pcs [] x.cps.size b).length s₀ (.block [] env) ((model prog w).den (.block [] env)) fs s) :
    ∀ (r : List Nat) (i : Nat) (b : Bool) (s₀ s : Shared), x.cps.toList.drop i = r → i ≤ x.cps.size → LS h₀ own L e it x t i b s₀ s → (∃ pre, ps = pre ++ pcs r i b) →
      Seg (model prog w) A (itR h₀ own) (itY h₀ own ps) (pcs r i b).length s₀ (.forLoop (.Tuple [.Name "pos" px, .Name "ch" pc] k1 pt) (.ref e) body [] env) ((model prog w).den (.forLoop (.Tuple [.Name "pos" px, .Name "ch" pc] k1 pt) (.ref e) body [] env)) fs s := by
  revert hO hLe hLi hei h₀e h₀i hL hkp hkc hp hfs turn done
  revert prog w A h₀ L e it x t ps env body fs px pc pt k1 own
  intros prog w A h₀ L e it x t ps env body fs px pc pt k1 own hO hLe hLi hei h₀e h₀i hL hkp hkc hp hfs turn done
  intro r
  subst hL
  induction r with
  | nil =>
    intro i b s₀ s hd hi ⟨m, old, F, hm, hpos, he, hit, hs, ho⟩ hps
    have hin : i = x.cps.size := by
      have := congrArg List.length hd
      simp at this; omega
    subst hin
    refine sgForTurn (wpAny_pyNext_enum_endD (St := fun i h => h.IsStrIter it (strIterType x) x t i) (drawsStr (show (Around.in1 _).handled = none from hfs) it x t) he hit fun h' hx => ?_)
    have hx' : ∀ b o, b ≠ it → s.heap.get? b = some o → h'.get? b = some o := fun b o hb e => hx b o hb e
    refine done b s₀ _ ⟨m, fr_of F (fun o q => hx' _ _ hLi q) fun b o q => hx' b o (fun z => by rw [z, h₀i] at q; cases q), hm, hpos, hs.step (tk := s.toks) fun b o hb q => hx' b o (fun z => hb.elim (fun z' => (hO b z').2.2 z) fun z' => by rw [z, h₀i] at z'; cases z') q,
      fun b hb => let ⟨o, q⟩ := ho b hb; ⟨o, hx' b o (hO b hb).2.2 q⟩⟩ hps
  | cons c r ih =>
    intro i b s₀ s hd hi ⟨m, old, F, hm, hpos, he, hit, hs, ho⟩ hps
    have hlt : i < x.cps.size := by
      have := congrArg List.length hd
      simp at this; omega
    have hci : x.cps[i]? = some c := by
      have := congrArg List.head? hd
      rw [List.head?_drop] at this
      simpa using this
    have hd' : x.cps.toList.drop (i + 1) = r := by
      have := congrArg List.tail hd
      simpa using this
    refine sgForTurn (wpAny_pyNext_enum_itemD (St := fun i h => h.IsStrIter it (strIterType x) x t i) (drawsStr (show (Around.in1 _).handled = none from hfs) it x t) he hit hlt hei (by simpa using hei) fun v h₁ tk₁ hv he₁ hit₁ hT₁ hz₁ hk₁ => ?_)
    obtain ⟨c', u, hc', rfl⟩ := hv
    obtain rfl : c = c' := by rw [hci] at hc'; exact Option.some.inj hc'
    have hes : e < s.heap.objs.size := Heap.lt_size he
    have his : it < s.heap.objs.size := let ⟨_, q, _⟩ := hit; Heap.lt_size q
    have hLs : env.locals < s.heap.objs.size := F.ns.lt
    refine wpAny_letOwnedTupleGo_enum he₁ fun h₂ he₂ hs₂ => ?_
    replace hs₂ : Heap.SameBut e h₁ h₂ := hs₂
    have ht₂ : h₂.IsTuple s.heap.objs.size #[.int i tk₁, .str ⟨#[c]⟩ u] := ⟨_, (hs₂.2 _ (Nat.ne_of_gt hes)).trans hT₁, rfl, _, rfl⟩
    refine wpAny_assign_Tuple hfs ht₂ rfl rfl fun h₃ hx₃ => ?_
    replace hx₃ : Heap.ExtBut h₂.objs.size h₂ h₃ := hx₃
    have hz₂ : h₂.objs.size = s.heap.objs.size + 1 := hs₂.1.trans hz₁
    have up₃ : ∀ b o, b < s.heap.objs.size → h₂.get? b = some o → h₃.get? b = some o := fun b o hb q => hx₃ b o (fun z => absurd hb (by rw [z, hz₂]; exact Nat.not_lt.mpr (Nat.le_succ _))) q
    have F₃ : Fr h₀ env.locals h₃ m := fr_of F (fun o q => up₃ _ _ hLs (hs₂.extBut _ _ hLe (hk₁ _ _ hLe hLi q)))
      fun b o q q' => up₃ _ _ (Heap.lt_size q') (hs₂.extBut b o (fun z => by rw [z, h₀e] at q; cases q) (hk₁ b o (fun z => by rw [z, h₀e] at q; cases q) (fun z => by rw [z, h₀i] at q; cases q) q'))
    show wpAny _ _ (do holding [_] (assign (.Name "pos" px) env (.int i tk₁)); do holding [] (assign (.Name "ch" pc) env (.str ⟨#[c]⟩ u)); pure ()) _ _ _
    refine wpAny_bind (wpAny_holding (wpAny_assign_Name (wpAny_storeName_local hkp F₃.ns (fun h₄ hn₄ hs₄ => ?_) hp)))
    have F₄ := F₃.set hn₄ hs₄
    refine wpAny_bind (wpAny_holding (wpAny_assign_Name (wpAny_storeName_local hkc F₄.ns (fun h₅ hn₅ hs₅ => wpAny_pure ?_) hp)))
    have F₅ := F₄.set hn₅ hs₅
    replace hs₄ : Heap.SameBut env.locals h₃ h₄ := hs₄
    replace hs₅ : Heap.SameBut env.locals h₄ h₅ := hs₅
    have up₅ : ∀ b o, b ≠ env.locals → b < s.heap.objs.size → h₂.get? b = some o → h₅.get? b = some o := fun b o hb hz q => hs₅.extBut b o hb (hs₄.extBut b o hb (up₃ b o hz q))
    refine turn i c r b s₀ _ _ tk₁ u (.str ⟨#[c]⟩ u) hci F₅ ?_ ?_ ?_ ?_ ?_ (hs.step fun b o hb q => ?_) (fun b hb => ?_) (fun b' s₀' s' hls hp' => ih (i + 1) b' s₀' s' hd' hlt hls hp') hps
    · show (if Str.ofString "escape" = Str.ofString "ch" then _ else if Str.ofString "escape" = Str.ofString "pos" then _ else m (Str.ofString "escape")) = _
      rw [if_neg (by decide), if_neg (by decide)]; exact hm
    · rfl
    · show (if Str.ofString "pos" = Str.ofString "ch" then _ else if Str.ofString "pos" = Str.ofString "pos" then _ else _) = _
      rw [if_neg (by decide), if_pos rfl]
    · have : ((i + 1 : Nat) : Int) = (i : Int) + 1 := by omega
      rw [this]; exact up₅ e _ (Ne.symm hLe) hes he₂
    · obtain ⟨oi, hoi, hr⟩ := hit₁
      exact ⟨oi, up₅ it _ (Ne.symm hLi) his (hs₂.extBut _ _ (Ne.symm hei) hoi), hr⟩
    · have hb' : b ≠ env.locals ∧ b ≠ e ∧ b ≠ it := hb.elim (fun z => hO b z) fun z => ⟨(fun (y : b = env.locals) => absurd (Heap.lt_size z) (by rw [y]; exact Nat.not_lt.mpr F.above)), (fun (y : b = e) => by rw [y, h₀e] at z; cases z), (fun (y : b = it) => by rw [y, h₀i] at z; cases z)⟩
      exact up₅ b o hb'.1 (Heap.lt_size q) (hs₂.extBut _ _ hb'.2.1 (hk₁ b o hb'.2.1 hb'.2.2 q))
    · obtain ⟨o, q⟩ := ho b hb
      have hb' := hO b hb
      exact ⟨o, up₅ b o hb'.1 (Heap.lt_size q) (hs₂.extBut _ _ hb'.2.1 (hk₁ b o hb'.2.1 hb'.2.2 q))⟩
end
end Mine
end

section
open PySem PySem.W PyProof.Rows PySem.Calls PySem.Spec
set_option maxRecDepth 100000
set_option maxHeartbeats 8000000
namespace Mine
theorem fresh_G2 : True := by w_top off; trivial

noncomputable def ItAt (w : World) (A : Around) (h₀ : Heap) (own : List Addr) (a : Addr) (g : Nat) (ps : List (Nat × Str)) (j : Nat) (s : Shared) : Prop :=
  s.heap.IsGen a g ∧ a ∈ own ∧ ∃ gs pv, s.gens[g]? = some gs ∧ (∀ b ∈ pv, b ∉ own ∧ h₀.get? b = none) ∧
    ∀ s'', Kp h₀ pv s.heap s''.heap → Has own s''.heap → gs.Goes (model PG w) A.in1 (itR h₀ own) (itY h₀ own ps) (ps.length - j) (.send .none) s''

/-- the next of a def's generator; how it is left is bare -/
theorem pyNext_genQ {prog : Program} {w : World} {A : Around} {E : Value → Shared → Prop} {s : Shared} {a : Addr} {g n : Nat} {gs : GenState} {P : Nat → Shared → Shared → Prop} {Y : Protocol} {Q : Option Value → Shared → Prop} (hh : A.handled = none)
    (hl : s.heap.NoLimit) (hroom : A.depth < recursionLimit) (hg : s.heap.IsGen a g) (hgs : s.gens[g]? = some gs)
    (hgo : gs.Goes (model prog w) A.in1 (fun n s₀ r s₁ => r = .ok (.ret .none) ∧ P n s₀ s₁) Y n (.send .none) (s.setGen g .running))
    (hY : ∀ v s₁ gs', gs'.bare = true → Y (n - 1) (s.setGen g .running) v s₁ (fun r' s'' => match n with
        | 0 => False
        | m + 1 => gs'.Goes (model prog w) A.in1 (fun n s₀ r s₁ => r = .ok (.ret .none) ∧ P n s₀ s₁) Y m r' s'') → Q (some v) (s₁.setGen g gs'))
    (hP : ∀ s₁, P n (s.setGen g .running) s₁ → ∀ h', (∀ b o, s₁.heap.get? b = some o → h'.get? b = some o) → Q none { s₁.setGen g .finished with heap := h' }) :
    wpAny (model prog w) A (pyNext (.ref a)) Q E s := by
  revert Y hh hl hroom hg hgs hgo hY hP
  revert prog w A E s a g n gs P Q
  intros prog w A E s a g n gs P Q Y hh hl hroom hg hgs hgo hY hP
  unfold pyNext
  refine wpAny_bind (wpAny_attempt (wpAny_callSpecial?_slot (name := Str.ofString "__next__") hg.typeIs slot_gen_next (wpAny_call_entry slot_gen_next hg.typeIs entry_gen_next ?_ (args_gen_next _))))
  show wpAny _ _ (Builtin.Generator.genWake (.ref a) (.send .none)) _ _ s
  unfold Builtin.Generator.genWake
  refine wpAny_bind (wpAny_holding (wpAny_genNumber hg (wpAny_bind (wpAny_genState hgs ?_))))
  have woken : ∀ gs₀ : GenState, gs₀.Goes (model prog w) A.in1 (fun n s₀ r s₁ => r = .ok (.ret .none) ∧ P n s₀ s₁) Y n (.send .none) (s.setGen g .running) → gs₀ ≠ .running ∧ gs₀ ≠ .finished := fun gs₀ h => by
    constructor <;> (rintro rfl; exact h.elim)
  cases gs with
  | running => exact absurd rfl (woken _ hgo).1
  | finished => exact absurd rfl (woken _ hgo).2
  | _ =>
    refine wpAny_bind (wpAny_roomToWake hl hroom ?_)
    show wpAny _ _ (.resume g (.send .none) [] _) _ _ s
    refine wpAny_resumeQ hgs hgo (fun x s₁ hx => ?_) (fun v s₁ gs' hb hv => wpAny_pure ⟨v, rfl, wpAny_pure (hY v s₁ gs' hb hv)⟩)
    obtain ⟨rfl, hp⟩ := hx
    show wpAny _ _ (newExc (.type "StopIteration") [] >>= _) _ _ _
    refine wpAny_bind ?_
    simp only [newExc, newTuple]
    refine wpAny_bind (wpAny_newObj_type ?_ (by size_fits))
    refine wpAny_bind (m := firstArgMember _ _) (wpAny_of_eq (a := Value.none) (by first | rfl | (simp only [firstArgMember]; rfl)) (wpAny_newObj_type ?_ (by size_fits)))
    simp only [raiseNew]
    refine wpAny_bind (wpAny_bind (wpAny_handled ?_))
    rw [show A.in1.handled = none from hh]
    exact wpAny_throw (wpAny_bind (wpAny_isInstance (T := "StopIteration") (b := true) ⟨_, Heap.get?_push_size _ rfl, rfl⟩ isSubtype_stop (wpAny_pure (hP s₁ hp _ fun b o hb => Heap.get?_push_of_some _ (Heap.get?_push_of_some _ hb)))))

theorem it_next {w : World} {A : Around} {h₀ : Heap} {own : List Addr} {a : Addr} {g : Nat} {ps : List (Nat × Str)} {j : Nat} {s : Shared} {Q : Option Value → Shared → Prop} {E : Value → Shared → Prop}
    (hh : A.handled = none) (hroom : A.depth < recursionLimit) (hl : h₀.NoLimit) (hk : ∀ b o, h₀.get? b = some o → s.heap.get? b = some o) (ho : Has own s.heap) (hj : j ≤ ps.length) (st : ItAt w A h₀ own a g ps j s)
    (hitem : ∀ pc T tk tk' h' t' (gens' : BG), ps[j]? = some pc → h'.get? T = some { cls := .type "tuple", data := .seq #[.int (pc.1 : Nat) tk, .str pc.2 tk'] } → T ∉ own → h₀.get? T = none →
      ItAt w A h₀ own a g ps (j + 1) { s with heap := h', toks := t', gens := gens' } → (∀ b o, (b ∈ own ∨ h₀.get? b = some o) → s.heap.get? b = some o → h'.get? b = some o) → Q (some (.ref T)) { s with heap := h', toks := t', gens := gens' })
    (hdone : j = ps.length → ∀ h' t' (gens' : BG), (∀ b o, (b ∈ own ∨ h₀.get? b = some o) → s.heap.get? b = some o → h'.get? b = some o) → Q none { s with heap := h', toks := t', gens := gens' }) (hB : AllBare s.gens := by first | assumption | exact BG.ok _) :
    wpAny (model PG w) A (pyNext (.ref a)) Q E s := by
  revert hh hroom hl hk ho hj st hitem hdone hB
  revert w A h₀ own a g ps j s Q E
  intros w A h₀ own a g ps j s Q E hh hroom hl hk ho hj st hitem hdone hB
  obtain ⟨hg, hao, gs, pv, hgs, hpv, hgo⟩ := st
  refine pyNext_genQ (P := fun n s₀ s₁ => n = 0 ∧ Sn h₀ own s₀ s₁) (Y := itY h₀ own ps) (n := ps.length - j) hh (hl.keeps hk) hroom hg hgs (hgo _ ⟨hk, fun b _ o e => e⟩ ho) (fun v s₁ gs' hb hv => ?_) (fun s₁ hp h' hk' => ?_)
  · obtain ⟨T, pc, tk, tk', pv', rfl, hpc, hT, hTo, hTn, ⟨h₁, t₁, rfl, hk₁⟩, hpv', hkap⟩ := hv
    have hjl : j < ps.length := by
      rcases Nat.lt_or_ge j ps.length with q | q
      · exact q
      · have e0 : ps.length - j = 0 := by omega
        rw [e0] at hkap
        exact (hkap { s with heap := h₁ } ⟨fun b o q => hk₁ b o (.inr q) (hk b o q), fun _ _ _ q => q⟩ fun b hb => let ⟨o, q⟩ := ho b hb; ⟨o, hk₁ b o (.inl hb) q⟩).elim
    obtain ⟨n, hn⟩ : ∃ n, ps.length - j = n + 1 := ⟨ps.length - j - 1, by omega⟩
    rw [hn] at hkap hpc
    have hix : ps.length - 1 - (n + 1 - 1) = j := by omega
    rw [hix] at hpc
    refine hitem pc T tk tk' h₁ t₁ ⟨_, AllBare.moved hB (GenOnlyQ.of ((GenOnly.setGen s g .running).trans (GenOnly.setGen _ g gs')) (setGen_self (gs := .running) (setGen_self hgs)) hb)⟩ hpc hT hTo hTn ⟨?_, hao, gs', pv', setGen_self (gs := .running) (setGen_self hgs), hpv', fun s'' hs'' ho'' => ?_⟩ hk₁
    · obtain ⟨o, nm, qn, ho, r⟩ := hg
      exact ⟨o, nm, qn, hk₁ a o (.inl hao) ho, r⟩
    · have e1 : ps.length - (j + 1) = n := by omega
      rw [e1]
      exact hkap s'' hs'' ho''
  · obtain ⟨hn, h₁, t₁, rfl, hk₁⟩ := hp
    exact hdone (by omega) h' t₁ ⟨_, AllBare.moved hB (GenOnlyQ.of ((GenOnly.setGen s g .running).trans (GenOnly.setGen _ g .finished)) (setGen_self (gs := .running) (setGen_self hgs)) rfl)⟩ fun b o hb q => hk' b o (hk₁ b o hb q)

theorem itY_intro {h₀ : Heap} {own : List Addr} {ps pre r : List (Nat × Str)} {m : Nat} {s₀ s : Shared} {p : Int} {q : Str} {pc : Nat × Str} {tk tk' : Tok} {kap : Resume → Shared → Prop} (pv : List Addr) (hps : ps = pre ++ pc :: r) (hm : m = r.length) (hp : p = (pc.1 : Nat)) (hq : q = pc.2)
    (hsn : Sn h₀ own s₀ s) (hha : Has own s.heap) (hk0 : ∀ b o, h₀.get? b = some o → s.heap.get? b = some o) (hpv : ∀ b ∈ pv, b ∉ own ∧ h₀.get? b = none)
    (hkap : ∀ s'', Kp h₀ pv (s.heap.push { cls := .type "tuple", data := .seq #[.int p tk, .str q tk'] }) s''.heap → Has own s''.heap → kap (.send .none) s'') :
    itY h₀ own ps m s₀ (.ref s.heap.objs.size) { s with heap := s.heap.push { cls := .type "tuple", data := .seq #[.int p tk, .str q tk'] } } kap := by
  subst hp hq
  refine ⟨_, pc, tk, tk', pv, rfl, ?_, Heap.get?_push_size _ rfl, fun hm => ?_, ?_, hsn.step (tk := s.toks) fun b o _ q => Heap.get?_push_of_some _ q, hpv, hkap⟩
  · rw [hm, hps]
    simp [List.length_append]
  · obtain ⟨o, q⟩ := hha _ hm
    exact absurd (Heap.lt_size q) (Nat.lt_irrefl _)
  · cases q : h₀.get? s.heap.objs.size with
    | none => rfl
    | some o => exact absurd (Heap.lt_size (hk0 _ _ q)) (Nat.lt_irrefl _)

theorem it_call {w : World} {A : Around} {p : Program} {loose : List Str} {mean : ExcName → Option Value} {mg mb : Str → Option Value} {h₀ : Heap} {Lc : Addr} {mc : Str → Option Value} {s : Shared} {x : Str} {t : Tok} {Q E : Value → Shared → Prop} (own : List Addr)
    (F : Fr h₀ Lc s.heap mc) (X : (KK w).In h₀) (T : Top p loose mean mg mb h₀) (hh : A.handled = none) (hroom : A.depth + 8 < recursionLimit) (ho : Has own s.heap)
    (h : ∀ a g h' t' (gens' : BG), ItAt w A h₀ (a :: own) a g (pcs x.cps.toList 0 false) 0 { s with heap := h', toks := t', gens := gens' } → s.heap.get? a = none →
      (∀ b o, s.heap.get? b = some o → h'.get? b = some o) → Q (.ref a) { s with heap := h', toks := t', gens := gens' }) (hB : AllBare s.gens := by first | assumption | exact BG.ok _) :
    wpAny (model PG w) A (call (.ref 76) [.str x t]) Q E s := by
  revert F X T hh hroom ho h hB
  revert w A p loose mean mg mb h₀ Lc mc s x t Q E own
  intros w A p loose mean mg mb h₀ Lc mc s x t Q E own F X T hh hroom ho h hB
  revert X; unfold PG KK
  k_fill; intro X
  refine wpAny_call ?_
  refine codeAny_call_generator (by omega) ((X.keeps F.keep) 76 _ (by k_is)) rfl rfl rfl rfl (codeRec_of (X.keeps F.keep) (by k_is)) ?_
  refine BindsTo.of_eq (binds := [(Str.ofString "addr", .str x t)]) rfl _ _ _ _ ?_
  have hL₀ : h₀.objs.size ≤ s.heap.objs.size := Nat.le_trans F.above (Nat.le_of_lt F.ns.lt)
  refine wpAny_newFunctionEnv (by decide) (locs rfl) (fun h₁ hn₁ hs₁ => ⟨(T.nolimit.keeps F.keep).fresh _ hs₁, ?_⟩) rfl
  have hz₁ : h₁.objs.size = s.heap.objs.size + 1 := by rw [hs₁.1]; exact Heap.size_push ..
  have hk₁ : ∀ b o, s.heap.get? b = some o → h₁.get? b = some o := fun b o q => hs₁.extBut b o (Nat.ne_of_lt (Heap.lt_size q)) (Heap.get?_push_of_some _ q)
  refine h h₁.objs.size _ _ _ ⟨_, hB.push rfl⟩ ⟨⟨_, _, _, Heap.get?_push_size _ rfl, rfl, rfl, rfl⟩, List.mem_cons_self .., _, [s.heap.objs.size], Array.getElem?_push_size .., ?_, fun s'' hs'' ho'' => ⟨rfl, ?_⟩⟩ ?_ ?_
  · intro b hb
    rw [List.mem_singleton.mp hb]
    refine ⟨fun hm => ?_, ?_⟩
    · rcases List.mem_cons.mp hm with q | q
      · have q' : s.heap.objs.size = h₁.objs.size := q
        rw [hz₁] at q'
        exact absurd q' (Nat.ne_of_lt (Nat.lt_succ_self _))
      · obtain ⟨o, q⟩ := ho _ q
        exact absurd (Heap.lt_size q) (Nat.lt_irrefl _)
    · cases q : h₀.get? s.heap.objs.size with
      | none => rfl
      | some o => exact absurd (Nat.lt_of_lt_of_le (Heap.lt_size q) hL₀) (Nat.lt_irrefl _)
  · have hLo : s.heap.objs.size ∉ (h₁.objs.size :: own) := by
      intro hm
      rcases List.mem_cons.mp hm with q | q
      · have q' : s.heap.objs.size = h₁.objs.size := q
        rw [hz₁] at q'
        exact absurd q' (Nat.ne_of_lt (Nat.lt_succ_self _))
      · obtain ⟨o, q⟩ := ho _ q
        exact absurd (Heap.lt_size q) (Nat.lt_irrefl _)
    have F₁ : Fr h₀ s.heap.objs.size s''.heap (fun y => [(Str.ofString "addr", Value.str x t)].reverse.lookup y) := by
      obtain ⟨oL, es, ep, hoL, hLd⟩ := hn₁
      exact ⟨⟨oL, es, ep, hs''.2 _ (List.mem_singleton.mpr rfl) _ (Heap.get?_push_of_some _ hoL), hLd⟩, hs''.1, hL₀⟩
    generalize hown : (h₁.objs.size :: own) = ow at *
    generalize s.heap.objs.size = L at *
    show Seg _ _ _ _ _ _ (.func _ (envOf (Str.ofString "_iter_escaped_chars") _ L 76 (.ref 75))) _ _ _
    clear hn₁ hs₁ hz₁ hk₁ hs'' h
    refine seg_func (seg_execs_cons (sgStmt (wpAny_Assign_Name (wpAny_Constant_int (wpAny_storeName_local rfl F₁.ns (fun h₂ hn₂ hs₂ => ?_) rfl)))))
    have F₂ := F₁.set hn₂ hs₂
    refine seg_execs_cons (sgStmt (wpAny_Assign_Name (wpAny_Constant_bool (wpAny_storeName_local rfl F₂.ns (fun h₃ hn₃ hs₃ => ?_) rfl))))
    have F₃ := F₂.set hn₃ hs₃
    have k₃ : ∀ b o, b ≠ L → s''.heap.get? b = some o → h₃.get? b = some o := fun b o hb q => hs₃.extBut b o hb (hs₂.extBut b o hb q)
    clear hn₂ hs₂ hn₃ hs₃ F₁ F₂
    refine seg_execs_cons (sgFor ?_)
    have N₃ : News h₀ L h₃ [] := News.nil
    iterate 6 walk1
    refine call_enumerate_str fun h₄ he₄ hit₄ hz₄ hk₄ => ?_
    have hLh := ltN F₃.ns.lt
    have F₄ := F₃.keeps hk₄
    have hh₃ : ∀ b, h₃.objs.size ≤ b → h₀.get? b = none := fun b hb => by
      cases q : h₀.get? b with
      | none => rfl
      | some o => exact absurd (Heap.lt_size (F₃.keep b o q)) (Nat.not_lt.mpr hb)
    have hL0 : ∀ b o, h₀.get? b = some o → b ≠ L := fun b o q z => absurd (Heap.lt_size q) (by rw [z]; exact Nat.not_lt.mpr hL₀)
    have hO : ∀ b ∈ ow, b ≠ L ∧ b ≠ h₃.objs.size + 1 ∧ b ≠ h₃.objs.size := fun b hb => by
      obtain ⟨o, q⟩ := ho'' b hb
      have hbL : b ≠ L := fun z => hLo (z ▸ hb)
      have := ltN (Heap.lt_size (k₃ b o hbL q))
      exact ⟨hbL, neN (by omega), neN (by omega)⟩
    refine wpAny_pyIter_enum he₄ (fun pp => ?_)
    refine sgEnum (L := L) (e := h₃.objs.size + 1) (it := h₃.objs.size) (x := x) (t := t) hO (neN (by omega)) (neN (by omega)) (neN (by omega)) (hh₃ _ (by omega)) (hh₃ _ (by omega)) rfl rfl rfl rfl ?hfs ?_ ?_ x.cps.toList 0 false s'' _ (by first | w_is_and mem | simp) (Nat.zero_le _)
      ⟨_, _, F₄, rfl, fun z => absurd z (Nat.lt_irrefl _), he₄, hit₄, (Sn.refl h₀ ow s'').step fun b o hb q => hk₄ b o (k₃ b o (hb.elim (fun z => (hO b z).1) (hL0 b o)) q), fun b hb => let ⟨o, q⟩ := ho'' b hb; ⟨o, hk₄ b o (k₃ b o (hO b hb).1 q)⟩⟩ ⟨[], rfl⟩
    case hfs => exact hh
    · intro i c r b s₀ s₁ m tk tc old hci F he hch hpos hE hS hsn hha hnext hps
      refine seg_execs_cons (sgIf (isTrue_plain (ld F he (wpAny_truthy_bool ?_))))
      have hpv : ∀ b ∈ [L, h₃.objs.size + 1, h₃.objs.size], b ∉ ow ∧ h₀.get? b = none := fun b hb => by
        refine ⟨fun hm => ?_, ?_⟩
        · have := hO b hm
          simp [this.1, this.2.1, this.2.2] at hb
        · rcases List.mem_cons.mp hb with z | hb
          · cases q : h₀.get? b with
            | none => rfl
            | some o => exact absurd z (hL0 b o q)
          rcases List.mem_cons.mp hb with z | hb
          · rw [z]; exact hh₃ _ (Nat.le_succ _)
          · rw [List.mem_singleton.mp hb]; exact hh₃ _ (Nat.le_refl _)
      obtain ⟨pre, hps'⟩ := hps
      cases b with
      | true =>
        rw [if_pos rfl]
        refine seg_execs_cons ?_
        show Seg _ _ _ _ ((pcs r (i + 1) false).length + 1) _ _ _ _ _
        refine seg_Expr_Yield rfl rfl rfl ?_
        refine Tuple_ (wpAny_items_cons (ld F hpos (wpAny_items_cons (wpAny_BinOp (wpAny_Constant_str (ld F hch (add_str (fun t' tk' => wpAny_items_nil (wpAny_newTuple ?_)) (by rw [sizeLine_eq]; exact Nat.le_of_ble_eq_true rfl))))))))
        intro kap hkap
        refine itY_intro (r := pcs r (i + 1) false) [L, h₃.objs.size + 1, h₃.objs.size] hps' rfl rfl rfl (s := { s₁ with toks := tk' }) ?_ hha F.keep hpv fun s'' hs'' ho'' => hkap _ _ ?_
        · exact hsn.step (h' := s₁.heap) (tk := tk') fun b o _ q => q
        show Seg _ _ _ _ _ _ _ _ _ _
        have up : ∀ b ∈ [L, h₃.objs.size + 1, h₃.objs.size], ∀ o, s₁.heap.get? b = some o → s''.heap.get? b = some o := fun b hb o q => hs''.2 b hb o (Heap.get?_push_of_some _ q)
        have F'' : Fr h₀ L s''.heap m := fr_of F (up L (by first | w_is_and mem | simp)) fun b o q _ => hs''.1 b o q
        refine seg_execs_cons (sgStmt (wpAny_Assign_Name (wpAny_Constant_bool (wpAny_storeName_local rfl F''.ns (fun h₅ hn₅ hs₅ => ?_) rfl))))
        have F₅ := F''.set hn₅ hs₅
        have k₅ : ∀ b o, b ≠ L → s''.heap.get? b = some o → h₅.get? b = some o := fun b o hb q => hs₅.extBut b o hb q
        refine seg_execs_nil (seg_again rfl (hnext false s'' _ ⟨_, _, F₅, rfl, fun _ => ⟨tk, ?_⟩, k₅ _ _ (neN (by omega)) (up _ (by first | w_is_and mem | simp) _ hE), ?_, (Sn.refl h₀ ow s'').step fun b o hb q => k₅ b o (hb.elim (fun z => (hO b z).1) (hL0 b o)) q, ?_⟩ ⟨pre ++ [(i, ⟨#[92, c]⟩)], by rw [hps']; simp [pcs]⟩))
        · show (if Str.ofString "pos" = Str.ofString "escape" then _ else m (Str.ofString "pos")) = _
          rw [if_neg (by decide), hpos]; rfl
        · obtain ⟨oi, hoi, hr⟩ := hS
          exact ⟨oi, k₅ _ _ (neN (by omega)) (up _ (by first | w_is_and mem | simp) _ hoi), hr⟩
        · exact fun b hb => let ⟨o, q⟩ := ho'' b hb; ⟨o, k₅ b o (hO b hb).1 q⟩
      | false =>
        rw [if_neg Bool.false_ne_true]
        refine seg_execs_cons (sgIf (wpAny_isTrue_Compare1 (ld F hch (wpAny_Constant_str (eq_str (wpAny_truthy_bool ?_))))))
        by_cases hc : c = 92
        · subst hc
          rw [if_pos (by decide)]
          rw [show pcs (92 :: r) i false = pcs r (i + 1) true from rfl] at hps' ⊢
          refine seg_execs_cons (sgStmt (wpAny_Assign_Name (wpAny_Constant_bool (wpAny_storeName_local rfl F.ns (fun h₅ hn₅ hs₅ => ?_) rfl))))
          have F₅ := F.set hn₅ hs₅
          have k₅ : ∀ b o, b ≠ L → s₁.heap.get? b = some o → h₅.get? b = some o := fun b o hb q => hs₅.extBut b o hb q
          refine seg_execs_nil (seg_execs_nil (seg_again rfl (hnext true s₀ _ ⟨_, _, F₅, rfl, fun _ => ⟨tk, ?_⟩, k₅ _ _ (neN (by omega)) hE, ?_, hsn.step fun b o hb q => k₅ b o (hb.elim (fun z => (hO b z).1) (hL0 b o)) q, ?_⟩ ⟨pre, hps'⟩)))
          · show (if Str.ofString "pos" = Str.ofString "escape" then _ else m (Str.ofString "pos")) = _
            rw [if_neg (by decide), hpos]; rfl
          · obtain ⟨oi, hoi, hr⟩ := hS
            exact ⟨oi, k₅ _ _ (neN (by omega)) hoi, hr⟩
          · exact fun b hb => let ⟨o, q⟩ := hha b hb; ⟨o, k₅ b o (hO b hb).1 q⟩
        · have hc' : ((⟨#[c]⟩ : Str) == Str.ofString "\\") = false := by
            rw [show Str.ofString "\\" = (⟨#[92]⟩ : Str) from by decide +kernel]
            simpa using hc
          have hp2 : pcs (c :: r) i false = (i, ⟨#[c]⟩) :: pcs r (i + 1) false := by simp [pcs, hc]
          rw [hc', if_neg Bool.false_ne_true]
          rw [hp2] at hps' ⊢
          refine seg_execs_cons ?_
          show Seg _ _ _ _ ((pcs r (i + 1) false).length + 1) _ _ _ _ _
          refine seg_Expr_Yield rfl rfl rfl ?_
          refine Tuple_ (wpAny_items_cons (ld F hpos (wpAny_items_cons (ld F hch (wpAny_items_nil (wpAny_newTuple ?_))))))
          intro kap hkap
          refine itY_intro (r := pcs r (i + 1) false) [L, h₃.objs.size + 1, h₃.objs.size] hps' rfl rfl rfl (s := { s₁ with toks := s₁.toks + 1 }) ?_ hha F.keep hpv fun s'' hs'' ho'' => hkap _ _ ?_
          · exact hsn.step (h' := s₁.heap) (tk := s₁.toks + 1) fun b o _ q => q
          show Seg _ _ _ _ _ _ _ _ _ _
          have up : ∀ b ∈ [L, h₃.objs.size + 1, h₃.objs.size], ∀ o, s₁.heap.get? b = some o → s''.heap.get? b = some o := fun b hb o q => hs''.2 b hb o (Heap.get?_push_of_some _ q)
          have F'' : Fr h₀ L s''.heap m := fr_of F (up L (by first | w_is_and mem | simp)) fun b o q _ => hs''.1 b o q
          refine seg_execs_nil (seg_execs_nil (seg_again rfl (hnext false s'' _ ⟨_, _, F'', he, fun _ => ⟨tk, hpos⟩, up _ (by first | w_is_and mem | simp) _ hE, ?_, Sn.refl h₀ ow s'', ho''⟩ ⟨pre ++ [(i, ⟨#[c]⟩)], by rw [hps']; simp⟩)))
          obtain ⟨oi, hoi, hr⟩ := hS
          exact ⟨oi, up _ (by first | w_is_and mem | simp) _ hoi, hr⟩
    · intro b s₀ s₁ ⟨m, F, he, hpos, hsn, hha⟩ hps
      refine sgBlockNil (seg_execs_cons (sgIf (isTrue_plain (ld F he (wpAny_truthy_bool ?_)))))
      cases b with
      | false =>
        rw [if_neg Bool.false_ne_true]
        refine seg_execs_nil (seg_execs_nil ?_)
        exact seg_end (.ok (.ret .none)) ⟨rfl, rfl, hsn⟩
      | true =>
        rw [if_pos rfl]
        refine seg_execs_cons ?_
        refine seg_Expr_Yield rfl rfl rfl ?_
        obtain ⟨pre, hps'⟩ := hps
        have hxp : 0 < x.cps.size := by
          rcases Nat.eq_zero_or_pos x.cps.size with z | z
          · rw [z] at hps'
            have hx0 : x.cps.toList = [] := List.eq_nil_of_length_eq_zero (by simpa using z)
            rw [hx0] at hps'
            simp [pcs] at hps'
          · exact z
        obtain ⟨tk, hpos⟩ := hpos hxp
        refine Tuple_ (wpAny_items_cons (ld F hpos (wpAny_items_cons (wpAny_Constant_str (wpAny_items_nil (wpAny_newTuple ?_))))))
        intro kap hkap
        refine itY_intro (r := []) [L] hps' rfl rfl (show Str.ofString "\\" = (⟨#[92]⟩ : Str) from by decide +kernel) (s := { s₁ with toks := s₁.toks + 1 }) ?_ hha F.keep ?_ fun s'' hs'' ho'' => hkap _ _ ?_
        · exact hsn.step (h' := s₁.heap) (tk := s₁.toks + 1) fun b o _ q => q
        · intro b hb
          rw [List.mem_singleton.mp hb]
          refine ⟨hLo, ?_⟩
          cases q : h₀.get? L with
          | none => rfl
          | some o => exact absurd rfl (hL0 L o q)
        · show Seg _ _ _ _ _ _ _ _ _ _
          refine seg_execs_nil (seg_execs_nil ?_)
          exact seg_end (.ok (.ret .none)) ⟨rfl, rfl, Sn.refl h₀ ow s''⟩
  · cases q : s.heap.get? h₁.objs.size with
    | none => rfl
    | some o => exact absurd (Heap.lt_size q) (by rw [hz₁]; exact Nat.not_lt.mpr (Nat.le_succ _))
  · intro b o q
    exact Heap.get?_push_of_some _ (hk₁ b o q)
end Mine
end

section
open PySem PySem.W PyProof.Rows PySem.Calls PySem.Spec
set_option maxRecDepth 100000
set_option maxHeartbeats 8000000
namespace Mine

theorem letGo_gen {prog : Program} {w : World} {A : Around} {E : Value → Shared → Prop} {s : Shared} {elts : List Expr} {x1} {pos : Pos} {a T : Addr} {g : Nat} {Q : Unit → Shared → Prop} (hg : s.heap.IsGen a g) (hQ : Q () s) :
    wpAny (model prog w) A (letOwnedTupleGo (.Tuple elts x1 pos) (.ref a) (.ref T)) Q E s := by
  obtain ⟨o, nm, qn, ho, hc, hd, _⟩ := hg
  unfold letOwnedTupleGo
  refine wpAny_bind (wpAny_load ho ?_)
  rw [hc, hd]
  show wpAny _ A (if (["enumerate", "zip", "dict_itemiterator", "dict_reverseitemiterator", "odict_iterator", "itertools.zip_longest", "itertools.pairwise"].contains "generator" &&
      (#[.int g 0, nm, qn] : Array Value)[0]? == some (rawInt T)) = true then _ else _) Q E s
  rw [if_neg (by
    intro h
    rw [show (["enumerate", "zip", "dict_itemiterator", "dict_reverseitemiterator", "odict_iterator", "itertools.zip_longest", "itertools.pairwise"].contains "generator") = false from by decide, Bool.false_and] at h
    cases h)]
  exact wpAny_pure hQ


/-- a for over the generator, in a def's own frame -/
theorem for_it {w : World} {A : Around} {h₀ : Heap} {Lc a : Addr} {g : Nat} {ps : List (Nat × Str)} {nw : List (Addr × Obj)} {env : Env} {body : List Stmt} {px pc pt : Pos} {k1 : Nat} {R : Result → Shared → Prop} {s : Shared} {m : Str → Option Value}
    (J : Nat → (Str → Option Value) → List (Addr × Obj) → Prop)
    (hh : A.handled = none) (hroom : A.depth < recursionLimit) (hl : h₀.NoLimit) (hat : a ∉ Lc :: nw.map (·.1)) (ha0 : h₀.get? a = none) (hL : env.locals = Lc)
    (hkp : env.kindOf "pos" = some .local) (hkc : env.kindOf "ch" = some .local) (hp : (env.scope.kind == .class || (env.scope.kind == .module && env.locals != env.globals)) = false)
    (F : Fr h₀ Lc s.heap m) (N : News h₀ Lc s.heap nw) (st : ItAt w A h₀ (a :: Lc :: nw.map (·.1)) a g ps 0 s) (hj0 : J 0 m nw)
    (turn : ∀ j pc m₁ nw₁ (s₁ : Shared) tk tk' own, ps[j]? = some pc → J j m₁ nw₁ → nw₁.map (·.1) = nw.map (·.1) → OwnOff own (nw.map (·.1)) →
      Fr h₀ Lc s₁.heap (fun y => if y = "ch" then some (.str pc.2 tk') else if y = "pos" then some (.int (pc.1 : Nat) tk) else m₁ y) → News h₀ Lc s₁.heap (nw₁ ++ own) →
      (∃ h' t', ∃ (g' : BG), s₁ = { s with heap := h', toks := t', gens := g' }) →
      wpAny (model PG w) A (execs body env) (InvPostN h₀ Lc (J (j + 1)) own (nw.map (·.1)) s₁ (fun f s₂ => R (.ok f) s₂)) (notedBy (model PG w) A env fun e s' => R (.error e) s') s₁)
    (done : ∀ m₁ nw₁ h' t' (g' : BG), J ps.length m₁ nw₁ → Fr h₀ Lc h' m₁ → News h₀ Lc h' nw₁ → R (.ok .next) { s with heap := h', toks := t', gens := g' }) (hB : AllBare s.gens := by first | assumption | exact BG.ok _) :
    codeAny (model PG w) A (.forLoop (.Tuple [.Name "pos" px, .Name "ch" pc] k1 pt) (.ref a) body [] env) R s := by
  revert hh hroom hl hat ha0 hL hkp hkc hp F N st hj0 turn done hB
  revert w A h₀ Lc a g ps nw env body px pc pt k1 R s m J
  intros w A h₀ Lc a g ps nw env body px pc pt k1 R s m J hh hroom hl hat ha0 hL hkp hkc hp F N st hj0 turn done hB
  subst hL
  have hasOf : ∀ {h' : Heap} {m' : Str → Option Value} {nw' : List (Addr × Obj)}, Fr h₀ env.locals h' m' → News h₀ env.locals h' nw' → nw'.map (·.1) = nw.map (·.1) → (∃ o, h'.get? a = some o) → Has (a :: env.locals :: nw.map (·.1)) h' := by
    intro h' m' nw' F' N' e ha b hb
    rcases List.mem_cons.mp hb with rfl | hb
    · exact ha
    rcases List.mem_cons.mp hb with rfl | hb
    · obtain ⟨o, _, _, q, _⟩ := F'.ns
      exact ⟨o, q⟩
    · rw [← e] at hb
      obtain ⟨p, hp, rfl⟩ := List.mem_map.mp hb
      exact ⟨_, (N' p hp).1⟩
  refine codeAny_forLoop_any (fun k s' => ∃ j m₁ nw₁ h' t', ∃ (g' : BG), s' = { s with heap := h', toks := t', gens := g' } ∧ k = ps.length - j ∧ j ≤ ps.length ∧ J j m₁ nw₁ ∧ nw₁.map (·.1) = nw.map (·.1) ∧ Fr h₀ env.locals h' m₁ ∧ News h₀ env.locals h' nw₁ ∧ ItAt w A h₀ (a :: env.locals :: nw.map (·.1)) a g ps j s') ?_ ps.length
    ⟨0, m, nw, s.heap, s.toks, ⟨s.gens, hB⟩, rfl, by omega, by omega, hj0, rfl, F, N, st⟩
  rintro k s' ⟨j, m₁, nw₁, h', t', g', rfl, rfl, hj, hJ1, hnw, F1, N1, st1⟩
  have ho1 := hasOf F1 N1 hnw (let ⟨o, _, _, q, _⟩ := st1.1; ⟨o, q⟩)
  have inOwn : ∀ p ∈ nw₁, p.1 ∈ (a :: env.locals :: nw.map (·.1)) := fun p hp => List.mem_cons_of_mem _ (List.mem_cons_of_mem _ (hnw ▸ List.mem_map_of_mem hp))
  refine it_next hh hroom hl F1.keep ho1 hj st1 (fun pc T tk tk' h₁ t₁ g₁ hpc hT hTo hTn st2 hk => ?_) (fun hjl h₁ t₁ g₁ hk => ?_)
  · have hT' : h₁.IsTuple T #[.int (pc.1 : Nat) tk, .str pc.2 tk'] := ⟨_, hT, rfl, _, rfl⟩
    have hg := st2.1
    have F2 : Fr h₀ env.locals h₁ m₁ := fr_of F1 (fun o q => hk _ o (.inl (by simp)) q) fun b o q q' => hk b o (.inr q) q'
    have N2 : News h₀ env.locals h₁ nw₁ := fun p hp => ⟨hk _ _ (.inl (inOwn p hp)) (N1 p hp).1, (N1 p hp).2⟩
    refine letGo_gen hg ?_
    refine wpAny_assign_Tuple hh hT' rfl rfl fun h₃ hx₃ => ?_
    replace hx₃ : Heap.ExtBut h₁.objs.size h₁ h₃ := hx₃
    have up₃ : ∀ b o, h₁.get? b = some o → h₃.get? b = some o := fun b o q => hx₃ b o (Nat.ne_of_lt (Heap.lt_size q)) q
    have F₃ := F2.keeps up₃
    show wpAny _ _ (do holding [_] (assign (.Name "pos" px) env (.int (pc.1 : Nat) tk)); do holding [] (assign (.Name "ch" _) env (.str pc.2 tk')); pure ()) _ _ _
    refine wpAny_bind (wpAny_holding (wpAny_assign_Name (wpAny_storeName_local hkp F₃.ns (fun h₄ hn₄ hs₄ => ?_) hp)))
    have F₄ := F₃.set hn₄ hs₄
    refine wpAny_bind (wpAny_holding (wpAny_assign_Name (wpAny_storeName_local hkc F₄.ns (fun h₅ hn₅ hs₅ => wpAny_pure ?_) hp)))
    have F₅ := F₄.set hn₅ hs₅
    have up₅ : ∀ b o, b ≠ env.locals → h₁.get? b = some o → h₅.get? b = some o := fun b o hb q => hs₅.extBut b o hb (hs₄.extBut b o hb (up₃ b o q))
    obtain ⟨⟨oa, nm, qn, qa, ra⟩, hao, gs, pv, hgs, hpv, hgo⟩ := st2
    have haL : a ≠ env.locals := fun z => hat (z ▸ List.mem_cons_self ..)
    let own : List (Addr × Obj) := (a, oa) :: pv.filterMap fun b => (h₁.get? b).map fun o => (b, o)
    have hown : ∀ p ∈ own, h₁.get? p.1 = some p.2 ∧ p.1 ≠ env.locals ∧ h₀.get? p.1 = none ∧ p.1 ∉ nw.map (·.1) := by
      intro p hp
      rcases List.mem_cons.mp hp with rfl | hp
      · exact ⟨qa, haL, ha0, fun z => hat (List.mem_cons_of_mem _ z)⟩
      · obtain ⟨b, hb, hbo⟩ := List.mem_filterMap.mp hp
        cases q : h₁.get? b with
        | none => rw [q] at hbo; cases hbo
        | some o =>
          rw [q] at hbo
          cases hbo
          exact ⟨q, fun z => (hpv b hb).1 (by rw [show b = env.locals from z]; simp), (hpv b hb).2, fun z => (hpv b hb).1 (List.mem_cons_of_mem _ (List.mem_cons_of_mem _ z))⟩
    have N₅ : News h₀ env.locals h₅ (nw₁ ++ own) := by
      intro p hp
      rcases List.mem_append.mp hp with hp | hp
      · exact ⟨up₅ _ _ (N2 p hp).2.1 (N2 p hp).1, (N2 p hp).2⟩
      · have := hown p hp
        exact ⟨up₅ _ _ this.2.1 this.1, this.2.1, this.2.2.1⟩
    refine wpAny_mono (turn j pc m₁ nw₁ _ tk tk' own hpc hJ1 hnw (fun p hp b hb z => (hown p hp).2.2.2 (z ▸ hb)) F₅ N₅ ⟨h₅, _, g₁, rfl⟩) (fun f s₂ q => ?_) fun _ _ e => e
    have fin : ∀ t₅, InvEndN h₀ env.locals (J (j + 1)) own (nw.map (·.1)) { s with heap := h₅, toks := t₅, gens := g₁ } s₂ →
        ∃ k', k' < ps.length - j ∧ ∃ j m₁ nw₁ h' t', ∃ (g' : BG), s₂ = { s with heap := h', toks := t', gens := g' } ∧ k' = ps.length - j ∧ j ≤ ps.length ∧ J j m₁ nw₁ ∧ nw₁.map (·.1) = nw.map (·.1) ∧ Fr h₀ env.locals h' m₁ ∧ News h₀ env.locals h' nw₁ ∧ ItAt w A h₀ (a :: env.locals :: nw.map (·.1)) a g ps j s₂ := by
      rintro t₅ ⟨h₆, t₆, m₂, news', nw₂, rfl, F₆, N₆, hn₆, ho₆, e₆, hJ₆⟩
      have hjl : j < ps.length := (List.getElem?_eq_some_iff.mp hpc).1
      have N₆o : ∀ p ∈ own, h₆.get? p.1 = some p.2 := fun p hp => (N₆ p (ho₆ p hp)).1
      refine ⟨ps.length - (j + 1), by omega, j + 1, m₂, nw₂, h₆, t₆, g₁, rfl, rfl, hjl, hJ₆, e₆, F₆, fun p hp => N₆ p (hn₆ p hp), ⟨oa, nm, qn, N₆o _ (List.mem_cons_self ..), ra⟩, hao, gs, pv, hgs, hpv, fun s'' hs'' ho'' => hgo s'' ⟨hs''.1, fun b hb o q => ?_⟩ ho''⟩
      exact hs''.2 b hb o (N₆o (b, o) (List.mem_cons_of_mem _ (List.mem_filterMap.mpr ⟨b, hb, by rw [show h₁.get? b = some o from q]; rfl⟩)))
    cases f with
    | next => exact fin _ q
    | cont => exact fin _ q
    | brk => exact q
    | ret v => exact q
  · subst hjl
    refine wpAny_execs_nil ?_
    exact done m₁ nw₁ h₁ t₁ g₁ hJ1 (fr_of F1 (fun o q => hk _ o (.inl (by simp)) q) fun b o q q' => hk b o (.inr q) q') fun p hp => ⟨hk _ _ (.inl (inOwn p hp)) (N1 p hp).1, (N1 p hp).2⟩
end Mine
end

section
open PySem PySem.W PyProof.Rows PySem.Calls PySem.Spec
set_option maxRecDepth 100000
set_option maxHeartbeats 8000000
namespace Mine


noncomputable abbrev Ar (dp un : Nat) (fr : Option (List Env)) (gd : Option (List Code)) : Around := { handled := none, depth := dp, frames := fr, guards := gd, units := un }

/-- a def is entered; all that stood is the frame's ground -/
theorem enterX {prog : Program} {w : World} {dp un : Nat} {fr : Option (List Env)} {gd : Option (List Code)} {s : Shared} {K : Frag} {name qual : Str} {params : Arguments} {body : List Stmt} {scope : Scope} {dV kV doc pm cdv ct oc : Value} {an od : Option Addr} {osl : Array (Option Value)} {f : Addr} {pos : List Value} {binds : List (Str × Value)} {Q : Value → Shared → Prop} {E : Value → Shared → Prop}
    (X : K.In s.heap) (hlim : s.heap.NoLimit) (ho : K.lookup f = some ⟨oc, od, .func (fnOf name qual params body scope dV kV doc pm an cdv ct), osl⟩) (hcd : codeIn K cdv qual = true) (hroom : dp + 1 < recursionLimit)
    (hbind : bindArgs (fnOf name qual params body scope dV kV doc pm an cdv ct) ⟨pos, []⟩ = pure binds) (hloc : (binds.all fun x => decide (scope.names.lookup x.1 = some .local)) = true)
    (h : ∀ L h₁, s.heap.objs.size = L → Fr s.heap L h₁ (fun y => binds.reverse.lookup y) → News s.heap L h₁ [] →
      wpAny (model prog w) (Ar (dp + 1) (un + 3) (fr.map (envOf qual scope L f cdv :: ·)) gd) (execs body (envOf qual scope L f cdv))
        (fun fl s' => Q (match fl with | .ret v => v | _ => .none) s')
        (fun e s' => wpAny (model prog w) (Ar (dp + 1) (un + 3) (fr.map (envOf qual scope L f cdv :: ·)) gd) (leaving (envOf qual scope L f cdv) e) (fun _ s'' => E e s'') (fun e' s'' => E e' s'') s')
        { s with heap := h₁, toks := s.toks + binds.length })
    (hcell : ∀ x ∈ scope.names, x.2 ≠ .cell := by decide) (hco : scope.isCoroutine = false := by rfl) (hgen : scope.isGenerator = false := by rfl) (hk : scope.kind = .function := by rfl) :
    wpAny (model prog w) (Ar dp un fr gd) (call (.ref f) pos) Q E s :=
  wpAny_call (codeAny_call_def (fd := fnOf name qual params body scope dV kV doc pm an cdv ct) (body := body) (binds := binds) (by show dp < _; omega) (X _ _ ho) rfl hlim (codeRec_of X hcd) rfl (BindsTo.of_eq hbind) hcell (locs hloc)
    (fun h₁ hns hk₁ => h s.heap.objs.size h₁ rfl ⟨hns, hk₁, Nat.le_refl _⟩ News.nil) hco hgen hk)

/-- the brackets' depth over the pieces; none where it falls below nought -/
noncomputable def dep : List Str → Int → Option Int
  | [], d => some d
  | q :: r, d => if q = Str.ofString "(" then dep r (d + 1) else if q = Str.ofString ")" then (if d - 1 < 0 then none else dep r (d - 1)) else dep r d
theorem dep1 {q : Str} {r : List Str} {d : Int} (h : (q == Str.ofString "(") = true) : dep (q :: r) d = dep r (d + 1) := by
  rw [dep, if_pos (beq_iff_eq.mp h)]
theorem dep2 {q : Str} {r : List Str} {d : Int} (h : (q == Str.ofString "(") = false) (h2 : (q == Str.ofString ")") = true) (h3 : d - 1 < 0) : dep (q :: r) d = none := by
  rw [dep, if_neg (beq_eq_false_iff_ne.mp h), if_pos (beq_iff_eq.mp h2), if_pos h3]
theorem dep3 {q : Str} {r : List Str} {d : Int} (h : (q == Str.ofString "(") = false) (h2 : (q == Str.ofString ")") = true) (h3 : ¬ d - 1 < 0) : dep (q :: r) d = dep r (d - 1) := by
  rw [dep, if_neg (beq_eq_false_iff_ne.mp h), if_pos (beq_iff_eq.mp h2), if_neg h3]
theorem dep4 {q : Str} {r : List Str} {d : Int} (h : (q == Str.ofString "(") = false) (h2 : (q == Str.ofString ")") = false) : dep (q :: r) d = dep r d := by
  rw [dep, if_neg (beq_eq_false_iff_ne.mp h), if_neg (beq_eq_false_iff_ne.mp h2)]
/-- `_strip_quoted_realnames`: the loop over the pieces -/
noncomputable def stq (x : List Nat) : List (Nat × Str) → Nat → Option Nat → List Str → Nat × List Str
  | [], st, _, res => (st, res)
  | (p, q) :: r, st, op, res => if q = Str.ofString "\"" then (match op with
      | none => stq x r st (some p) res
      | some o => stq x r (p + 1) none (if st ≠ o then res ++ [⟨((x.drop st).take (o - st)).toArray⟩] else res))
    else stq x r st op res
theorem stq1 {x : List Nat} {pc : Nat × Str} {r : List (Nat × Str)} {st : Nat} {res : List Str} (h : (pc.2 == Str.ofString "\"") = true) : stq x (pc :: r) st none res = stq x r st (some pc.1) res := by
  obtain ⟨p, q⟩ := pc
  rw [stq, if_pos (beq_iff_eq.mp h)]
theorem stq2 {x : List Nat} {pc : Nat × Str} {r : List (Nat × Str)} {st o : Nat} {res : List Str} (h : (pc.2 == Str.ofString "\"") = true) : stq x (pc :: r) st (some o) res = stq x r (pc.1 + 1) none (if st ≠ o then res ++ [⟨((x.drop st).take (o - st)).toArray⟩] else res) := by
  obtain ⟨p, q⟩ := pc
  rw [stq, if_pos (beq_iff_eq.mp h)]
theorem stq3 {x : List Nat} {pc : Nat × Str} {r : List (Nat × Str)} {st : Nat} {op : Option Nat} {res : List Str} (h : (pc.2 == Str.ofString "\"") = false) : stq x (pc :: r) st op res = stq x r st op res := by
  obtain ⟨p, q⟩ := pc
  cases op <;> rw [stq, if_neg (beq_eq_false_iff_ne.mp h)]
theorem pcs_len : ∀ (l : List Nat) (i : Nat) (b : Bool), (pcs l i b).length ≤ l.length + 1
  | [], _, false => Nat.zero_le _
  | [], _, true => Nat.le_refl _
  | c :: r, i, true => by rw [pcs]; simp only [List.length_cons]; have := pcs_len r (i + 1) false; omega
  | c :: r, i, false => by
    rw [pcs]
    split
    · have := pcs_len r (i + 1) true
      simp only [List.length_cons]; omega
    · have := pcs_len r (i + 1) false
      simp only [List.length_cons]; omega
noncomputable def strp' (x : List Nat) : List Nat :=
  if x.contains 34 then
    (let y := stq x (pcs x 0 false) 0 none []
     ((if y.1 < x.length then y.2 ++ [⟨(x.drop y.1).toArray⟩] else y.2).map (·.cps.toList)).flatten)
  else x
noncomputable def chk (x : List Nat) : Bool := dep ((pcs (strp' x) 0 false).map (·.2)) 0 == some 0

noncomputable def Ext (h h' : Heap) : Prop := ∀ b o, h.get? b = some o → h'.get? b = some o

section
variable {w : World} {p : Program} {loose : List Str} {mean : ExcName → Option Value} {mg mb : Str → Option Value} {dp un : Nat} {fr : Option (List Env)} {gd : Option (List Code)} {s : Shared} {Q E : Value → Shared → Prop}

theorem sum_bound {ys : List Str} {n k : Nat} (h : ∀ y ∈ ys, y.length ≤ n) (hk : ys.length ≤ k) (hb : (n + 1) * k ≤ 1048576) : (ys.map (·.length)).sum + ys.length ≤ 1048576 := by
  have key : ∀ zs : List Str, (∀ y ∈ zs, y.length ≤ n) → (zs.map (·.length)).sum ≤ n * zs.length := by
    intro zs
    induction zs with
    | nil => intro _; simp
    | cons z r ih =>
      intro hz
      have h1 := hz z (List.mem_cons_self ..)
      have h2 := ih fun y hy => hz y (List.mem_cons_of_mem _ hy)
      simp only [List.map_cons, List.sum_cons, List.length_cons, Nat.mul_add, Nat.mul_one]
      omega
  have h1 := key ys h
  have h2 : n * ys.length + ys.length ≤ (n + 1) * k := by
    rw [Nat.add_mul, Nat.one_mul]
    exact Nat.add_le_add (Nat.mul_le_mul_left _ hk) hk
  omega

end

end Mine
end

section
open PySem PySem.W PyProof.Rows PySem.Calls PySem.Spec
set_option maxRecDepth 100000
set_option maxHeartbeats 1000000
namespace Mine
section
variable {prog : Program} {w : World} {A : Around}

noncomputable def oneY (C : Addr) (fp wr : List Addr) (F : Value → Prop) : Protocol := fun m s₀ v s kap =>
  m = 0 ∧ F v ∧ GenSince C wr s₀ s ∧ ∀ s'' : Shared, (∀ b ∈ C :: fp, ∀ o, s.heap.get? b = some o → s''.heap.get? b = some o) → kap (.send .none) s''
noncomputable def oneR (C : Addr) (wr : List Addr) : GenEnd := fun n s₀ r s₁ => r = .ok .next ∧ (n = 0 ∧ GenSince C wr s₀ s₁)
noncomputable abbrev oneG (elt iter : Expr) (x : Str) (px : Pos) (scope : Scope) (pos : Pos) : Expr := .GeneratorExp elt [⟨.Name x px, iter, [], 0⟩] scope pos

section
variable {elt iter : Expr} {x : Str} {px : Pos} {scope : Scope} {pos : Pos} {I : Addr} {fp wr : List Addr} {P : Nat → Value → Prop} {St₀ : Nat → Heap → Prop} {cenv : Env} {F : Value → Prop}
theorem oneEnd (hh : A.handled = none) (W₀ : ∀ A' : Around, A'.handled = none → Walks prog w A' I fp wr 1 P St₀) (s₀ s : Shared) (hst : St₀ 1 s.heap) (hsince : GenSince cenv.locals wr s₀ s) :
    Seg (model prog w) A (oneR cenv.locals wr) (oneY cenv.locals fp wr F) 0 s₀ (.compLoop (oneG elt iter x px scope pos) 0 (.ref I) .none cenv)
      ((model prog w).den (.compLoop (oneG elt iter x px scope pos) 0 (.ref I) .none cenv)) [] s := by
  have hh' : (A.over (.compLoop (oneG elt iter x px scope pos) 0 (.ref I) .none cenv) []).handled = none := hh
  show Seg _ A _ _ _ s₀ _ ((compTurn (.GeneratorExp elt [⟨.Name x px, iter, [], 0⟩] scope pos) 0 (.ref I) .none cenv).onRaise (leaving cenv)) [] s
  rw [compTurn_gen, Sem.onRaise_eq_wrap]
  refine seg_bind_wrap (wpAny_standAt ?_)
  refine seg_bind_wrap ((W₀ _ hh').done s _ _ hst fun h' tk hk' => ?_)
  exact seg_end (.ok .next) ⟨rfl, rfl, hsince.step fun b o _ hw e => hk' b o hw e⟩

theorem oneLoop (hh : A.handled = none) (W₀ : ∀ A' : Around, A'.handled = none → Walks prog w A' I fp wr 1 P St₀)
    (hx : cenv.kindOf x = some .local) (hp : (cenv.scope.kind == .class || (cenv.scope.kind == .module && cenv.locals != cenv.globals)) = false)
    (hco : cenv.scope.isCoroutine = false) (hCf : cenv.locals ∉ fp)
    (hq : ∀ (A' : Around) E' v (s₂ : Shared) m₂, A'.handled = none → P 0 v → 0 < s₂.toks → s₂.heap.Ns cenv.locals m₂ → m₂ x = some v → wpAny (model prog w) A' (eval elt cenv) (fun y s₃ => F y ∧ Keeps s₂ s₃) E' s₂)
    (s₀ s : Shared) (m : Str → Option Value) (htk : 0 < s.toks) (hst : St₀ 0 s.heap) (hn : s.heap.Ns cenv.locals m) (hsince : GenSince cenv.locals wr s₀ s) :
    Seg (model prog w) A (oneR cenv.locals wr) (oneY cenv.locals fp wr F) 1 s₀ (.compLoop (oneG elt iter x px scope pos) 0 (.ref I) .none cenv)
      ((model prog w).den (.compLoop (oneG elt iter x px scope pos) 0 (.ref I) .none cenv)) [] s := by
  have hh' : (A.over (.compLoop (oneG elt iter x px scope pos) 0 (.ref I) .none cenv) []).handled = none := hh
  have hCw : cenv.locals ∉ wr := fun h => hCf ((W₀ A hh).sub _ h)
  show Seg _ A _ _ _ s₀ _ ((compTurn (.GeneratorExp elt [⟨.Name x px, iter, [], 0⟩] scope pos) 0 (.ref I) .none cenv).onRaise (leaving cenv)) [] s
  rw [compTurn_gen, Sem.onRaise_eq_wrap]
  refine seg_bind_wrap (wpAny_standAt ?_)
  refine seg_bind_wrap (wpAny_with_toks (Nat.le_refl s.toks) ((W₀ _ hh').item 0 s _ _ Nat.zero_lt_one hst fun v h₁ tk₁ hPv hst₁ hk₁ htk₁ => ?_))
  replace htk₁ : s.toks ≤ tk₁ := htk₁
  refine seg_bind_wrap (wpAny_of_eq (rfl : letOwnedTupleGo (.Name x px) (.ref I) v = pure ()) ?_)
  refine seg_bind_wrap (wpAny_assign_Name (wpAny_storeName_local hx (hn.at' fun o e => hk₁ _ o hCw e) (fun h₂ hn₂ hs₂ => ?_) hp))
  have up₂ : ∀ b o, b ≠ cenv.locals → b ∉ wr → s.heap.get? b = some o → h₂.get? b = some o := fun b o hbC hbw e => hs₂.extBut b o hbC (hk₁ b o hbw e)
  have hst₂ : St₀ 1 h₂ := (W₀ A hh).frame _ _ _ hst₁ fun b hb o e => hs₂.extBut b o (fun h => hCf (h ▸ hb)) e
  refine seg_bind_wrap (wpAny_pure ?_)
  simp only [if_true]
  have hy : ∀ v, yieldOut cenv v = yieldValue v := fun v => by simp only [yieldOut, hco, Bool.false_eq_true, if_false]
  simp only [hy]
  rw [Sem.bind_eq_wrap', Sem.bind_eq_wrap', Sem.wrap_wrap, Sem.wrap_wrap]
  refine seg_wrap (wpAny_mono (hq _ _ v _ _ hh' hPv (Nat.succ_pos _) hn₂ (by simp)) (fun y s₄ h₄ => ?_) fun _ _ e => e)
  obtain ⟨hFy, h₄, tk₄, rfl, hk₄⟩ := h₄
  refine seg_at (seg_yield rfl rfl rfl ⟨rfl, hFy, hsince.step fun b o hbC hbw e => hk₄ b o (up₂ b o hbC hbw e), fun s'' hal => ?_⟩)
  exact seg_again rfl (oneEnd hh W₀ s'' s'' ((W₀ A hh).frame _ _ _ hst₂ fun b hb o e => hal b (List.mem_cons_of_mem _ hb) o (hk₄ b o e)) (GenSince.refl _ _ _))

theorem oneStart (hh : A.handled = none) (W₀ : ∀ A' : Around, A'.handled = none → Walks prog w A' I fp wr 1 P St₀)
    (hx : cenv.kindOf x = some .local) (hp : (cenv.scope.kind == .class || (cenv.scope.kind == .module && cenv.locals != cenv.globals)) = false)
    (hco : cenv.scope.isCoroutine = false) (hCf : cenv.locals ∉ fp)
    (hq : ∀ (A' : Around) E' v (s₂ : Shared) m₂, A'.handled = none → P 0 v → 0 < s₂.toks → s₂.heap.Ns cenv.locals m₂ → m₂ x = some v → wpAny (model prog w) A' (eval elt cenv) (fun y s₃ => F y ∧ Keeps s₂ s₃) E' s₂)
    (s₀ s : Shared) (m : Str → Option Value) (htk : 0 < s.toks) (hst : St₀ 0 s.heap) (hn : s.heap.Ns cenv.locals m) (hsince : GenSince cenv.locals wr s₀ s) :
    Seg (model prog w) A (oneR cenv.locals wr) (oneY cenv.locals fp wr F) 1 s₀ (.compStart (oneG elt iter x px scope pos) 0 (.ref I) .none cenv)
      ((model prog w).den (.compStart (oneG elt iter x px scope pos) 0 (.ref I) .none cenv)) [] s := by
  have hh' : (A.over (.compStart (oneG elt iter x px scope pos) 0 (.ref I) .none cenv) []).handled = none := hh
  have loop := oneLoop (iter := iter) (px := px) (scope := scope) (pos := pos) hh W₀ hx hp hco hCf hq s₀ s m htk hst hn hsince
  show Seg _ A _ _ _ s₀ _ ((compStart (.GeneratorExp elt [⟨.Name x px, iter, [], 0⟩] scope pos) 0 (.ref I) .none cenv).onRaise (leaving cenv)) [] s
  unfold compStart
  rw [Sem.onRaise_eq_wrap]
  show Seg _ A _ _ _ s₀ _ ((ask >>= _).wrap _ _ _ _) [] s
  refine seg_bind_wrap (wpAny_askSetting ?_)
  split
  · exact seg_again rfl loop
  · first
      | exact seg_bind_wrap (wpAny_rule (seg_bind_wrap (wpAny_standAt (seg_bind_wrap ((W₀ _ hh').self 0 s _ _ hst (seg_again rfl loop))))))
      | (refine seg_bind_wrap (wpAny_rule ?_); show Seg _ A _ _ _ s₀ _ ((standAt iter.pos >>= _).wrap _ _ _ _) [] s; exact seg_bind_wrap (wpAny_standAt (seg_bind_wrap ((W₀ _ hh').self 0 s _ _ hst (seg_again rfl loop)))))
end

noncomputable def OneAt (prog : Program) (w : World) (A : Around) (a : Addr) (g : Nat) (C : Addr) (fp wr : List Addr) (F : Value → Prop) (j : Nat) (s : Shared) : Prop :=
  s.heap.IsGen a g ∧ s.heap.NoLimit ∧ 0 < s.toks ∧ ∃ gs, s.gens[g]? = some gs ∧ ∀ s'' : Shared, 0 < s''.toks → (∀ b ∈ C :: fp, ∀ o, s.heap.get? b = some o → s''.heap.get? b = some o) →
    gs.Goes (model prog w) A.in1 (oneR C wr) (oneY C fp wr F) (1 - j) (.send .none) s''

theorem oneWalks (hh : A.handled = none) (a : Addr) (g : Nat) (C : Addr) (fp wr : List Addr) (F : Value → Prop) (haC : a ≠ C) (haf : a ∉ fp) (hsub : ∀ b ∈ wr, b ∈ fp)
    (hroom : A.depth < recursionLimit) (hcs : cStatics ∈ fp) (hcC : cStatics ≠ C) (hcw : cStatics ∉ wr) :
    WalksS prog w A a (a :: C :: fp) (C :: wr) (GenOnlyQ g) 1 (fun _ y => F y) (OneAt prog w A a g C fp wr F) where
  sub := fun b hb => by
    rcases List.mem_cons.mp hb with rfl | hb
    · simp
    · exact List.mem_cons_of_mem _ (List.mem_cons_of_mem _ (hsub b hb))
  grefl := fun _ => .inl rfl
  gtrans := fun _ _ _ x y => x.trans y
  frame := fun j s h' tk st htk hk =>
    ⟨let ⟨o, nm, qn, ho, r⟩ := st.1; ⟨o, nm, qn, hk a (List.mem_cons_self ..) o ho, r⟩,
     (let ⟨mc, hns, hnn⟩ := st.2.1; ⟨mc, hns.at' fun o e => hk cStatics (List.mem_cons_of_mem _ (List.mem_cons_of_mem _ hcs)) o e, hnn⟩),
     Nat.lt_of_lt_of_le st.2.2.1 htk,
     let ⟨gs, hgs, hgo⟩ := st.2.2.2; ⟨gs, hgs, fun s'' h0 hal => hgo s'' h0 fun b hb o e => hal b hb o (hk b (List.mem_cons_of_mem _ hb) o e)⟩⟩
  item := fun j s Q E hj st hQ => by
    obtain ⟨hg, hl, h0, gs, hgs, hgo⟩ := st
    have hj0 : j = 0 := by omega
    subst hj0
    refine wpAny_with_toks (Nat.le_refl s.toks) ?_
    refine wpAny_pyNext_genexpQ (P := fun n s₀ s₁ => n = 0 ∧ GenSince C wr s₀ s₁) hh hl hroom hg hgs (hgo _ h0 fun _ _ _ e => e) (fun v s₁ gs' hb hv => ?_) (fun s₁ hp h' hk => ?_)
    · obtain ⟨_, hF, ⟨h₁, tk₁, rfl, hk₁⟩, hkap⟩ := hv
      have haw : a ∉ wr := fun h => haf (hsub a h)
      intro htk
      refine hQ v _ hF ⟨let ⟨o, nm, qn, ho, r⟩ := hg; ⟨o, nm, qn, hk₁ a o haC haw ho, r⟩, (let ⟨mc, hns, hnn⟩ := hl; ⟨mc, hns.at' fun o e => hk₁ cStatics o hcC hcw e, hnn⟩), Nat.lt_of_lt_of_le h0 htk, gs', setGen_self (gs := .running) (setGen_self hgs), fun s'' _ hal => ?_⟩
        ⟨fun b o hb e => hk₁ b o (fun h => hb (h ▸ List.mem_cons_self ..)) (fun h => hb (List.mem_cons_of_mem _ h)) e, GenOnlyQ.of ((GenOnly.setGen s g .running).trans (GenOnly.setGen _ g gs')) (setGen_self (gs := .running) (setGen_self hgs)) hb, rfl, rfl, htk⟩
      exact hkap s'' hal
    · exact absurd hp.1 (Nat.succ_ne_zero 0)
  done := fun s Q E st hQ => by
    obtain ⟨hg, hl, h0, gs, hgs, hgo⟩ := st
    refine wpAny_with_toks (Nat.le_refl s.toks) ?_
    refine wpAny_pyNext_genexpQ (P := fun n s₀ s₁ => n = 0 ∧ GenSince C wr s₀ s₁) hh hl hroom hg hgs (hgo _ h0 fun _ _ _ e => e) (fun v s₁ gs' hb hv => ?_) (fun s₁ hp h' hk => ?_)
    · obtain ⟨_, _, _, hkap⟩ := hv
      exact False.elim (hkap s₁ fun _ _ _ e => e)
    · obtain ⟨_, h₁, tk₁, rfl, hk₁⟩ := hp
      intro htk
      exact hQ _ ⟨fun b o hb e => hk b o (hk₁ b o (fun h => hb (h ▸ List.mem_cons_self ..)) (fun h => hb (List.mem_cons_of_mem _ h)) e), GenOnlyQ.of ((GenOnly.setGen s g .running).trans (GenOnly.setGen _ g .finished)) (setGen_self (gs := .running) (setGen_self hgs)) rfl, rfl, rfl, htk⟩
  self := fun _ _ _ _ st hQ => wpAny_pyIter_gen st.1 hQ

variable {E : Value → Shared → Prop} {s : Shared}
/-- the generator expression over a list of one value -/
theorem oneMake {env : Env} {elt iter : Expr} {x : Str} {px : Pos} {scope : Scope} {cl : List (Str × Addr)} {pos : Pos} {Q : Value → Shared → Prop}
    (hh : A.handled = none) (hco : scope.isCoroutine = false) (hclos : closureFor scope env = pure cl) (hcell : ∀ y ∈ scope.names, y.2 ≠ .cell) (h0 : scope.names.lookup (".0" : Str) = some NameKind.local)
    (hx : scope.names.lookup x = some .local) (hkind : scope.kind = .function) (hroom : A.depth < recursionLimit)
    (h : wpAny (model prog w) A (eval iter env) (fun xv s₁ => wpAny (model prog w) A (pyIter xv) (fun it s₂ => s₂.heap.NoLimit ∧
      wpAny (model prog w) A (genexprCode env pos (env.qual ++ "<genexpr>") scope) (fun code s₃ => wpAny (model prog w) A (builtinsFor env.globals env.builtins) (fun bi s₄ =>
        ∃ I fp wr P St₀ F, it = .ref I ∧ (∀ A' : Around, A'.handled = none → Walks prog w A' I fp wr 1 P St₀) ∧ St₀ 0 s₄.heap ∧ (∀ b ∈ fp, b < s₄.heap.objs.size) ∧ s₄.heap.NoLimit ∧ cStatics ∉ wr ∧
          (∀ (A' : Around) E' v (s₂ : Shared) m₂, A'.handled = none → P 0 v → 0 < s₂.toks → s₂.heap.Ns s₄.heap.objs.size m₂ → m₂ x = some v → wpAny (model prog w) A' (eval elt (genEnv scope cl s₄.heap.objs.size code bi env)) (fun y s₃ => F y ∧ Keeps s₂ s₃) E' s₂) ∧
          (∀ a h₅ tk gs, gs.bare = true → s₄.heap.objs.size < a → h₅.objs.size = a + 1 → (∀ b o, s₄.heap.get? b = some o → h₅.get? b = some o) →
            WalksS prog w A.in4 a (a :: s₄.heap.objs.size :: List.range s₄.heap.objs.size) (s₄.heap.objs.size :: wr) (GenOnlyQ s₄.gens.size) 1 (fun _ y => F y) (OneAt prog w A.in4 a s₄.gens.size s₄.heap.objs.size (List.range s₄.heap.objs.size) wr F) →
            OneAt prog w A.in4 a s₄.gens.size s₄.heap.objs.size (List.range s₄.heap.objs.size) wr F 0 { s₄ with gens := s₄.gens.push gs, toks := tk, heap := h₅ } →
            Q (.ref a) { s₄ with gens := s₄.gens.push gs, toks := tk, heap := h₅ })) E s₃) E s₂) E s₁) E s)
    (hs : ∀ x, genFold iter env x = pure x) :
    wpAny (model prog w) A (eval (oneG elt iter x px scope pos) env) Q E s := by
  refine wpAny_GeneratorExp_make hco hclos hcell h0 hkind hroom (wpAny_mono h (fun xv s₁ h₁ => wpAny_mono h₁ (fun it s₂ h₂ => ⟨h₂.1, wpAny_mono h₂.2 (fun code s₃ h₃ => wpAny_mono h₃ (fun bi s₄ h₄ => ?_)
    fun _ _ e => e) fun _ _ e => e⟩) fun _ _ e => e) fun _ _ e => e) hs
  obtain ⟨I, fp, wr, P, St₀, F, rfl, W₀, hst, hfp, hl₄, hcw, hq, hQ⟩ := h₄
  have hclt : cStatics < s₄.heap.objs.size := let ⟨_, hn, _⟩ := hl₄; hn.lt
  intro h' hn' hs'
  have hsz : h'.objs.size = s₄.heap.objs.size + 1 := by rw [hs'.1, Heap.size_push]
  have keep' : ∀ b o, s₄.heap.get? b = some o → h'.get? b = some o := fun b o e => hs'.extBut b o (Nat.ne_of_lt (Heap.lt_size e)) (Heap.get?_push_of_some _ e)
  have hsub : ∀ b ∈ wr, b ∈ List.range s₄.heap.objs.size := fun b hb => List.mem_range.mpr (hfp b ((W₀ A hh).sub b hb))
  have haC : h'.objs.size ≠ s₄.heap.objs.size := by rw [hsz]; exact Nat.succ_ne_self _
  have haf : h'.objs.size ∉ List.range s₄.heap.objs.size := fun hm => by have := List.mem_range.mp hm; omega
  have keep₅ : ∀ b o, s₄.heap.get? b = some o → (h'.push { cls := .type "generator", data := .fields #[.int s₄.gens.size 0, .str "<genexpr>" (s₄.toks + 1), .str (env.qual ++ "<genexpr>") (s₄.toks + 1 + 1)] }).get? b = some o :=
    fun b o e => Heap.get?_push_of_some _ (keep' b o e)
  refine hQ _ _ _ _ rfl (by omega) (by rw [Heap.size_push]) keep₅ (oneWalks (A := A.in4) hh _ _ _ _ wr F haC haf hsub hroom (List.mem_range.mpr hclt) (Nat.ne_of_lt hclt) hcw) ?_
  refine ⟨⟨_, _, _, Heap.get?_push_size _ rfl, rfl, rfl, rfl⟩, hl₄.keeps keep₅, Nat.succ_pos _, _, Array.getElem?_push_size .., fun s'' ht hal => ⟨rfl, ?_⟩⟩
  exact oneStart (A := A.in4.in1) (cenv := genEnv scope cl s₄.heap.objs.size code bi env) (m := fun y => if y = ".0" then some (.ref I) else none) hh
    (fun A' hA => (W₀ A' hA).mono_fp fun b hb => List.mem_range.mpr (hfp b hb)) hx (by simp [genEnv, hkind]) hco (fun hm => Nat.lt_irrefl _ (List.mem_range.mp hm)) hq s'' s'' ht
    ((W₀ A hh).frame _ _ _ hst fun b hb o e => hal b (List.mem_cons_of_mem _ (List.mem_range.mpr (hfp b hb))) o (keep₅ b o e)) ((hn'.push _).at' fun o e => hal _ (List.mem_cons_self ..) o e) (GenSince.refl _ _ _)
end
end Mine
end

section
open PySem PySem.W PyProof.Rows PySem.Calls PySem.Spec
set_option maxRecDepth 100000
set_option maxHeartbeats 1000000
namespace Mine
theorem codeAmong_other {pos p' : Pos} {c : Value} (hne : ¬ (p'.line = pos.line ∧ p'.col = pos.col)) (l : List Value) (h : TriplesOk l) : codeAmong p' (l ++ [rawInt pos.line, rawInt pos.col, c]) = codeAmong p' l := by
  fun_induction TriplesOk l with
  | case1 =>
    simp only [List.nil_append, rawInt, codeAmong]
    rw [if_neg]
    intro e
    rw [Bool.and_eq_true, beq_iff_eq, beq_iff_eq] at e
    exact hne ⟨by omega, by omega⟩
  | case2 a t b u x rest ih =>
    simp only [List.cons_append, codeAmong]
    rw [ih h]
  | case3 => exact h.elim

section
variable {prog : Program} {w : World} {A : Around} {E : Value → Shared → Prop} {s : Shared} {h₀ : Heap} {L P c : Addr} {m mg mb : Str → Option Value} {news : List (Addr × Obj)} {g : Obj → List (Addr × Obj)} {p : Program} {loose : List Str} {mean : ExcName → Option Value} {ps : Array Value}
noncomputable def One (prog : Program) (w : World) (A : Around) (a : Addr) (N₀ : Nat) (FF : Value → Prop) (s : Shared) : Prop := ∃ fp wr gn St, WalksS prog w A.in4 a fp wr (GenOnlyQ gn) 1 (fun _ y => FF y) St ∧ St 0 s ∧ (∀ i s', St i s' → s'.TypeIs (.ref a) "generator") ∧ a ∈ fp ∧ (∀ b ∈ fp, b < s.heap.objs.size) ∧ ∀ b ∈ wr, N₀ ≤ b

theorem gen_one {env : Env} {elt iter : Expr} {x : Str} {px : Pos} {scope : Scope} {cl : List (Str × Addr)} {pos : Pos} {Ch : Addr} {v : Value} {nc : Nat} {FF : Value → Prop} {Q : Value → Shared → Prop}
    (F : Fr h₀ L s.heap m) (N : News h₀ L s.heap news) (T : Top p loose mean mg mb h₀) (C : CodeHd h₀ c P) (hcd : env.code = .ref c) (hgl : env.globals = mainGlobals) (U : UpdF P (tabObj ps) news g) (ht : TriplesOk ps.toList) (hCh : (Ch, listOf #[v] nc) ∈ news)
    (hh : A.handled = none) (hco : scope.isCoroutine = false) (hclos : closureFor scope env = pure cl) (hcell : ∀ y ∈ scope.names, y.2 ≠ .cell) (h0 : scope.names.lookup (".0" : Str) = some NameKind.local)
    (hx : scope.names.lookup x = some .local) (hkind : scope.kind = .function) (hroom : A.depth < recursionLimit)
    (hit : ∀ (Q' : Value → Shared → Prop), Q' (.ref Ch) s → wpAny (model prog w) A (eval iter env) Q' E s)
    (hq : ∀ (bi C' : Addr) (code : Value) (A' : Around) (E' : Value → Shared → Prop) (s₂ : Shared) m₂, A'.handled = none → 0 < s₂.toks → s₂.heap.Ns C' m₂ → m₂ x = some v → wpAny (model prog w) A' (eval elt (genEnv scope cl C' code bi env)) (fun y s₃ => FF y ∧ Keeps s₂ s₃) E' s₂)
    (h : ∀ a h' tk (g' : BG) ps', TriplesOk ps'.toList → (∀ p' : Pos, ¬ (p'.line = pos.line ∧ p'.col = pos.col) → codeAmong p' ps'.toList = codeAmong p' ps.toList) → Fr h₀ L h' m → News h₀ L h' (g (tabObj ps')) →
      One prog w A a s.heap.objs.size FF { s with heap := h', toks := tk, gens := g' } → Q (.ref a) { s with heap := h', toks := tk, gens := g' })
    (hs : ∀ x, genFold iter env x = pure x) (hB : AllBare s.gens := by first | assumption | exact BG.ok _) :
    wpAny (model prog w) A (eval (oneG elt iter x px scope pos) env) Q E s := by
  revert F N T C hcd hgl U ht hCh hh hco hclos hcell h0 hx hkind hroom hit hq h hs hB
  revert prog w A E s h₀ L P c m mg mb news g p loose mean ps env elt iter x px scope cl pos Ch v nc FF Q
  intros prog w A E s h₀ L P c m mg mb news g p loose mean ps env elt iter x px scope cl pos Ch v nc FF Q F N T C hcd hgl U ht hCh hh hco hclos hcell h0 hx hkind hroom hit hq h hs hB
  obtain ⟨own, rest, hnw, hgr, h1, h2⟩ := U.split
  have hm := N (P, tabObj ps) (hnw ▸ List.mem_append_right _ (.head _))
  have hc := N _ hCh
  have hgs := T.g.keeps F.keep
  obtain ⟨bm, ob, b1, b2, b3, b4, b5, b6⟩ := T.bmain
  have hgP : mainGlobals ≠ P := fun q => by
    obtain ⟨o, es, ep, e, hd, _⟩ := hgs
    rw [q, hm.1] at e; cases e; cases hd
  have hbP : bm ≠ P := fun q => by
    have e := F.keep _ _ b3
    rw [q, hm.1] at e; cases e; cases b4
  have hlim := T.nolimit.keeps F.keep
  have hsP : cStatics ≠ P := fun q => by
    obtain ⟨_, ⟨o, es, ep, e, hd, _⟩, _⟩ := hlim
    rw [q, hm.1] at e; cases e; cases hd
  have hslt : cStatics < s.heap.objs.size := let ⟨_, hn, _⟩ := hlim; hn.lt
  have hChlt : Ch < s.heap.objs.size := Heap.lt_size hc.1
  have hPlt : P < s.heap.objs.size := Heap.lt_size hm.1
  have hChP : Ch ≠ P := fun q => by
    have e := hc.1
    rw [q, hm.1] at e; cases e
  refine oneMake hh hco hclos hcell h0 hx hkind hroom (hit _ ?_) hs
  refine wpAny_pyIter_list (N.isList hCh) ⟨hlim.push _, ?_⟩
  have fin : ∀ (code : Value) (h₃ : Heap) (tk₃ : Nat) (ps' : Array Value), Heap.ExtBut P (s.heap.push { cls := .type "list_iterator", data := .fields #[.ref Ch, .int 0 0] }) h₃ → s.heap.objs.size < h₃.objs.size → h₃.get? P = some (tabObj ps') → TriplesOk ps'.toList →
      (∀ p' : Pos, ¬ (p'.line = pos.line ∧ p'.col = pos.col) → codeAmong p' ps'.toList = codeAmong p' ps.toList) →
      wpAny (model prog w) A (builtinsFor env.globals env.builtins) (fun bi s₄ =>
        ∃ I fp wr P St₀ F, Value.ref s.heap.objs.size = .ref I ∧ (∀ A' : Around, A'.handled = none → Walks prog w A' I fp wr 1 P St₀) ∧ St₀ 0 s₄.heap ∧ (∀ b ∈ fp, b < s₄.heap.objs.size) ∧ s₄.heap.NoLimit ∧ cStatics ∉ wr ∧
          (∀ (A' : Around) E' v (s₂ : Shared) m₂, A'.handled = none → P 0 v → 0 < s₂.toks → s₂.heap.Ns s₄.heap.objs.size m₂ → m₂ x = some v → wpAny (model prog w) A' (eval elt (genEnv scope cl s₄.heap.objs.size code bi env)) (fun y s₃ => F y ∧ Keeps s₂ s₃) E' s₂) ∧
          (∀ a h₅ tk gs, gs.bare = true → s₄.heap.objs.size < a → h₅.objs.size = a + 1 → (∀ b o, s₄.heap.get? b = some o → h₅.get? b = some o) →
            WalksS prog w A.in4 a (a :: s₄.heap.objs.size :: List.range s₄.heap.objs.size) (s₄.heap.objs.size :: wr) (GenOnlyQ s₄.gens.size) 1 (fun _ y => F y) (OneAt prog w A.in4 a s₄.gens.size s₄.heap.objs.size (List.range s₄.heap.objs.size) wr F) →
            OneAt prog w A.in4 a s₄.gens.size s₄.heap.objs.size (List.range s₄.heap.objs.size) wr F 0 { s₄ with gens := s₄.gens.push gs, toks := tk, heap := h₅ } →
            Q (.ref a) { s₄ with gens := s₄.gens.push gs, toks := tk, heap := h₅ })) E { s with heap := h₃, toks := tk₃ } := by
    intro code h₃ tk₃ ps' hx₃ hlt₃ hP₃ ht₃ ho₃
    have old : ∀ b o, b ≠ P → s.heap.get? b = some o → h₃.get? b = some o := fun b o hb e => hx₃ b o hb (Heap.get?_push_of_some _ e)
    rw [hgl]
    refine wpAny_builtinsFor (hgs.extBut (fun b o hb e => old b o hb e) hgP) b1 b2 (old _ _ hbP (F.keep _ _ b3)) b4 b5 b6 ?_
    refine ⟨s.heap.objs.size, [s.heap.objs.size, Ch], [s.heap.objs.size], _, _, FF, rfl, (fun A' hA => Walks.list hA s.heap.objs.size Ch (Nat.ne_of_lt hChlt) #[v]), ⟨⟨_, hx₃ _ _ (Nat.ne_of_gt hPlt) (Heap.get?_push_size _ rfl), rfl, rfl⟩, ⟨_, old _ _ hChP hc.1, rfl, _, rfl⟩⟩, ?_, hlim.extBut (fun b o hb e => old b o hb e) hsP, ?_, ?_, ?_⟩
    · intro b hb
      show b < h₃.objs.size
      rcases List.mem_cons.mp hb with rfl | hb
      · exact hlt₃
      · rw [List.mem_singleton.mp hb]; exact Nat.lt_trans hChlt hlt₃
    · intro hm
      rw [List.mem_singleton] at hm
      exact absurd (hm ▸ hslt) (Nat.lt_irrefl _)
    · intro A' E' v' s₂ m₂ hA hv h0 hn hm
      have : v' = v := by simpa using hv.symm
      subst this
      exact hq _ _ _ A' E' s₂ m₂ hA h0 hn hm
    · intro a h₅ tk gs hgb hag hsz₅ hk₅ W hat
      have hag' : h₃.objs.size < a := hag
      have hk : ∀ b o, b ≠ P → s.heap.get? b = some o → h₅.get? b = some o := fun b o hb e => hk₅ b o (old b o hb e)
      refine h a h₅ tk ⟨_, hB.push hgb⟩ ps' ht₃ ho₃ ⟨F.ns.extBut (fun b o hb e => hk b o hb e) hm.2.1.symm, fun b o e => hk b o (fun q => by rw [q, hm.2.2] at e; cases e) (F.keep b o e), F.above⟩ (fun q hq => ?_) ⟨_, _, _, _, W, hat, (fun i s' st => st.1.typeIs), List.mem_cons_self .., ?_, ?_⟩
      · rw [hgr] at hq
        rcases List.mem_append.mp hq with hq | hq
        · have n := N q (hnw ▸ List.mem_append_left _ hq)
          exact ⟨hk _ _ (h1 q hq) n.1, n.2⟩
        · rcases List.mem_cons.mp hq with rfl | hq
          · exact ⟨hk₅ _ _ hP₃, hm.2⟩
          · have n := N q (hnw ▸ List.mem_append_right _ (.tail _ hq))
            exact ⟨hk _ _ (h2 q hq) n.1, n.2⟩
      · intro b hb
        show b < h₅.objs.size
        rw [hsz₅]
        rcases List.mem_cons.mp hb with rfl | hb
        · exact Nat.lt_succ_self _
        · rcases List.mem_cons.mp hb with rfl | hb
          · exact Nat.lt_succ_of_lt hag'
          · exact Nat.lt_succ_of_lt (Nat.lt_trans (List.mem_range.mp hb) hag')
      · intro b hb
        rcases List.mem_cons.mp hb with rfl | hb
        · exact Nat.le_of_lt hlt₃
        · rw [List.mem_singleton.mp hb]; exact Nat.le_refl _
  have C' := C.keeps F.keep
  have C₂ := C'.keeps (h' := s.heap.push { cls := .type "list_iterator", data := .fields #[.ref Ch, .int 0 0] }) fun b o e => Heap.get?_push_of_some _ e
  have hP₂ : (s.heap.push { cls := .type "list_iterator", data := .fields #[.ref Ch, .int 0 0] }).get? P = some (tabObj ps) := Heap.get?_push_of_some _ hm.1
  cases hcA : codeAmong pos ps.toList with
  | none =>
    refine wpAny_genexprCodeX hcd (C₂.code hP₂ ht) (C₂.tab hP₂) hcA fun c' h₃ tk₃ hx₃ hge hlt hcode₃ _ htab₃ _ => ?_
    have hl : (ps ++ #[rawInt pos.line, rawInt pos.col, Value.ref c']).toList = ps.toList ++ [rawInt pos.line, rawInt pos.col, .ref c'] := by simp
    refine fin _ h₃ tk₃ _ hx₃ ?_ htab₃.2 (by rw [hl]; exact TriplesOk_snoc _ _ _ _ ht) fun p' hp => by rw [hl]; exact codeAmong_other hp _ ht
    have hge' : (s.heap.push _).objs.size ≤ c' := hge
    rw [Heap.size_push] at hge'
    exact Nat.lt_of_lt_of_le (Nat.lt_of_lt_of_le (Nat.lt_succ_self _) hge') (Nat.le_of_lt hlt)
  | some cv =>
    exact wpAny_genexprCode_hit hcd (C₂.code hP₂ ht) hcA (fin _ _ s.toks ps (Heap.ExtBut.refl _ _) (by rw [Heap.size_push]; exact Nat.lt_succ_self _) hP₂ ht fun _ _ => rfl)

theorem join_one {sep tx : Str} {t : Tok} {a : Addr} {N₀ : Nat} {FF : Value → Prop} {Q : Value → Shared → Prop} (F : Fr h₀ L s.heap m) (N : News h₀ L s.heap news) (hL : L < N₀) (hN : ∀ q ∈ news, q.1 < N₀) (X : One prog w A a N₀ FF s) (htx : ∀ y, FF y → ∃ u, y = .str tx u) (hlen : tx.length + sep.length ≤ 1000)
    (hQ : ∀ h' tk (g' : BG) t', Fr h₀ L h' m → News h₀ L h' news → Q (.str tx t') { s with heap := h', toks := tk, gens := g' }) (hB : AllBare s.gens := by first | assumption | exact BG.ok _) : wpAny (model prog w) A (call (.builtin "str.join") [.str sep t, .ref a]) Q E s := by
  obtain ⟨fp, wr, gn, St, W, hst, hT, ha, hfp, hwr⟩ := X
  refine SC.joinGen W.in4_2 hT hst hfp ha (fun j v hv => let ⟨u, e⟩ := htx v hv; ⟨_, u, e⟩) (fun s' lt hm hacc => ?_) (by decide)
  have hsz : lt.length = 1 := by simpa [strValues] using hacc.1
  obtain ⟨q, rfl⟩ := List.length_eq_one_iff.mp hsz
  obtain ⟨y, u⟩ := q
  obtain ⟨u', hv⟩ := htx _ (hacc.2 0 (.str y u) rfl)
  cases hv
  have hk : ∀ b o, b < N₀ → s.heap.get? b = some o → s'.heap.get? b = some o := fun b o hb e => hm.heap b o (fun hb' => absurd (hwr b hb') (Nat.not_le_of_lt hb)) e
  refine ⟨?_, fun t' k => ?_⟩
  · show (!Builtin.Str.tooLong (0 + tx.length + sep.length)) = true
    simp only [Builtin.Str.tooLong, Nat.zero_add]
    have : ¬ (tx.length + sep.length > sizeLine) := by rw [sizeLine_eq]; omega
    simp [this]
  · obtain ⟨hs, hg, hd, tk, os⟩ := s'
    have e1 := hm.drawn
    have e2 := hm.os
    dsimp only at e1 e2 hk ⊢
    rw [e1, e2]
    exact hQ hs k ⟨hg, AllBare.moved hB hm.gens⟩ t' ⟨F.ns.at' fun o e => hk _ o hL e, fun b o e => hk b o (Nat.lt_of_lt_of_le (Heap.lt_size e) (Nat.le_trans F.above (Nat.le_of_lt hL))) (F.keep b o e), F.above⟩ fun q hq => ⟨hk _ _ (hN q hq) (N q hq).1, (N q hq).2⟩
end
end Mine
end

section
open PySem PySem.W PyProof.Rows PySem.Calls PySem.Spec
set_option maxRecDepth 100000
set_option maxHeartbeats 8000000
namespace Mine

/-! ### for over a list of any values; what the turns keep is said of the frame's map and the ledger; generators may be made -/
noncomputable def OffG (nx own : List (Addr × Obj)) : Prop := ∀ p ∈ nx, ∀ q ∈ own, p.1 ≠ q.1
noncomputable def EndG (h₀ : Heap) (L : Addr) (J : (Str → Option Value) → List (Addr × Obj) → Prop) (own : List (Addr × Obj)) (s₁ s₂ : Shared) : Prop :=
  ∃ h' tk, ∃ (g' : BG), ∃ m' news' nx, s₂ = { s₁ with heap := h', toks := tk, gens := g' } ∧ Fr h₀ L h' m' ∧ News h₀ L h' news' ∧ (∀ p ∈ nx, p ∈ news') ∧ (∀ p ∈ own, p ∈ news') ∧ OffG nx own ∧ J m' nx
noncomputable def PostG (h₀ : Heap) (L : Addr) (J : (Str → Option Value) → List (Addr × Obj) → Prop) (own : List (Addr × Obj)) (s₁ : Shared) (Q : Flow → Shared → Prop) (f : Flow) (s₂ : Shared) : Prop :=
  match f with
  | .ret v => Q (.ret v) s₂
  | .brk => Q .next s₂
  | _ => EndG h₀ L J own s₁ s₂
section
variable {h₀ : Heap} {L : Addr} {J : (Str → Option Value) → List (Addr × Obj) → Prop} {own : List (Addr × Obj)} {s₁ s₂ : Shared} {Q : Flow → Shared → Prop}
theorem PostG.nx (h : EndG h₀ L J own s₁ s₂) : PostG h₀ L J own s₁ Q .next s₂ := h
theorem PostG.ct (h : EndG h₀ L J own s₁ s₂) : PostG h₀ L J own s₁ Q .cont s₂ := h
theorem PostG.bk (h : Q .next s₂) : PostG h₀ L J own s₁ Q .brk s₂ := h
theorem PostG.rt {v : Value} (h : Q (.ret v) s₂) : PostG h₀ L J own s₁ Q (.ret v) s₂ := h
end
theorem EndG.intro {h₀ : Heap} {L : Addr} {J : (Str → Option Value) → List (Addr × Obj) → Prop} {m' : Str → Option Value} {own news' nx : List (Addr × Obj)} {s₁ : Shared} {h' : Heap} {tk : Nat} {g' : Array GenState} (F : Fr h₀ L h' m') (N : News h₀ L h' news')
    (hj : J m' nx) (hd : OffG nx own) (hn : ∀ p ∈ nx, p ∈ news') (ho : ∀ p ∈ own, p ∈ news') (hBG : AllBare g' := by first | assumption | exact BG.ok _) : EndG h₀ L J own s₁ { s₁ with heap := h', toks := tk, gens := g' } := ⟨h', tk, ⟨g', hBG⟩, m', news', nx, rfl, F, N, hn, ho, hd, hj⟩

theorem OffG.same {nw nx own : List (Addr × Obj)} (h : OffG nw own) (e : nx.map (·.1) = nw.map (·.1)) : OffG nx own := fun p hp q hq => by
  have : p.1 ∈ nw.map (·.1) := e ▸ List.mem_map_of_mem hp
  obtain ⟨p', hp', he⟩ := List.mem_map.mp this
  rw [← he]; exact h p' hp' q hq

section
variable {prog : Program} {w : World} {A : Around} {h₀ : Heap} {l : Addr} {vs : List Value} {nw : List (Addr × Obj)} {env : Env} {body : List Stmt} {E : Value → Shared → Prop} {Q : Flow → Shared → Prop} {s : Shared} {m : Str → Option Value} {target : Expr} {R : Result → Shared → Prop}
theorem for_vals (J : Nat → (Str → Option Value) → List (Addr × Obj) → Prop)
    (hh : A.handled = none) (hlist : ∀ j m nw h', J j m nw → Fr h₀ env.locals h' m → News h₀ env.locals h' nw → h'.IsList l vs.toArray)
    (F : Fr h₀ env.locals s.heap m) (N : News h₀ env.locals s.heap nw) (hj0 : J 0 m nw) (hl0 : s.heap.IsList l vs.toArray)
    (hgo : ∀ (I : Addr) v (s₁ : Shared) i (Q' : Unit → Shared → Prop) E', s₁.heap.IsListIter I l i → Q' () s₁ → wpAny (model prog w) A (letOwnedTupleGo target (.ref I) v) Q' E' s₁)
    (turn : ∀ j v m₁ nw₁ h tk (g : BG) own, vs[j]? = some v → J j m₁ nw₁ → OffG nw₁ own → Fr h₀ env.locals h m₁ → News h₀ env.locals h (nw₁ ++ own) →
      wpAny (model prog w) A (assign target env v) (fun _ s₂ => wpAny (model prog w) A (execs body env) (PostG h₀ env.locals (J (j + 1)) own { s with heap := h, toks := tk, gens := g } (fun f s₂ => R (.ok f) s₂)) (notedBy (model prog w) A env fun e s' => R (.error e) s') s₂)
        (notedBy (model prog w) A env fun e s' => R (.error e) s') { s with heap := h, toks := tk, gens := g })
    (done : ∀ m₁ nw₁ h' t' (g' : BG), J vs.length m₁ nw₁ → Fr h₀ env.locals h' m₁ → News h₀ env.locals h' nw₁ → R (.ok .next) { s with heap := h', toks := t', gens := g' }) (hB : AllBare s.gens := by first | assumption | exact BG.ok _) :
    wpAny (model prog w) A (pyIter (.ref l)) (fun it s₂ => codeAny (model prog w) A (.forLoop target it body [] env) R s₂) E s := by
  revert hh hlist F N hj0 hl0 hgo turn done hB
  revert prog w A h₀ l vs nw env body E s m target R J
  intros prog w A h₀ l vs nw env body E s m target R J hh hlist F N hj0 hl0 hgo turn done hB
  refine wpAny_pyIter_list hl0 ?_
  refine codeAny_forLoop_any (fun k s' => ∃ j m₁ nw₁ h' t', ∃ (g' : BG), s' = { s with heap := h', toks := t', gens := g' } ∧ k = vs.length - j ∧ j ≤ vs.length ∧ J j m₁ nw₁ ∧ Fr h₀ env.locals h' m₁ ∧ News h₀ env.locals h' nw₁ ∧ h'.IsListIter s.heap.objs.size l j ∧ ∀ p ∈ nw₁, p.1 ≠ s.heap.objs.size) ?_ vs.length
    ⟨0, m, nw, _, s.toks, ⟨s.gens, hB⟩, rfl, by omega, by omega, hj0, F.push _, (fun p hp => ⟨Heap.get?_push_of_some _ (N p hp).1, (N p hp).2⟩), ⟨_, Heap.get?_push_size _ rfl, rfl, rfl⟩, fun p hp => Nat.ne_of_lt (Heap.lt_size (N p hp).1)⟩
  rintro k s' ⟨j, m₁, nw₁, h', t', g', rfl, rfl, hj, hJ1, F1, N1, hit, hni⟩
  have hIL : s.heap.objs.size ≠ env.locals := fun z => by
    have := ltN F.ns.lt
    rw [← z] at this; exact Nat.lt_irrefl _ this
  have hI0' : h₀.get? s.heap.objs.size = none := by
    cases q : h₀.get? s.heap.objs.size with
    | none => rfl
    | some o => exact absurd (Heap.lt_size (F.keep _ _ q)) (Nat.lt_irrefl _)
  have hls := hlist j m₁ nw₁ h' hJ1 F1 N1
  by_cases hlt : j < vs.length
  · refine wpAny_pyNext_list_item hit hls (x := vs[j]) (by simp [hlt]) fun h₁ hit₁ hs₁ => ?_
    replace hs₁ : Heap.SameBut s.heap.objs.size h' h₁ := hs₁
    obtain ⟨oI, hoI, hcI, hdI⟩ := id hit₁
    have F2 : Fr h₀ env.locals h₁ m₁ := fr_of F1 (fun o q => hs₁.extBut _ o (Ne.symm hIL) q) fun b o q q' => hs₁.extBut b o (fun z => by rw [z, hI0'] at q; cases q) q'
    have N2 : News h₀ env.locals h₁ (nw₁ ++ [(s.heap.objs.size, oI)]) := fun p hp => by
      rcases List.mem_append.mp hp with hp | hp
      · exact ⟨hs₁.extBut _ _ (hni p hp) (N1 p hp).1, (N1 p hp).2⟩
      · rw [List.mem_singleton.mp hp]
        exact ⟨hoI, hIL, hI0'⟩
    refine hgo _ _ _ _ _ _ hit₁ ?_
    refine wpAny_mono (turn j vs[j] m₁ nw₁ h₁ t' g' _ (by simp [hlt]) hJ1 (fun p hp q hq => by rw [List.mem_singleton.mp hq]; exact hni p hp) F2 N2) (fun _ s₂ q => wpAny_mono q (fun f s₃ q => ?_) fun _ _ e => e) fun _ _ e => e
    have fin : EndG h₀ env.locals (J (j + 1)) [(s.heap.objs.size, oI)] { s with heap := h₁, toks := t', gens := g' } s₃ → ∃ k', k' < vs.length - j ∧ ∃ j m₁ nw₁ h' t', ∃ (g' : BG), s₃ = { s with heap := h', toks := t', gens := g' } ∧ k' = vs.length - j ∧ j ≤ vs.length ∧ J j m₁ nw₁ ∧ Fr h₀ env.locals h' m₁ ∧ News h₀ env.locals h' nw₁ ∧ h'.IsListIter s.heap.objs.size l j ∧ ∀ p ∈ nw₁, p.1 ≠ s.heap.objs.size := by
      rintro ⟨h₆, t₆, g₆, m₂, news', nw₂, rfl, F₆, N₆, hn₆, ho₆, hd₆, hJ₆⟩
      exact ⟨vs.length - (j + 1), by omega, j + 1, m₂, nw₂, h₆, t₆, g₆, rfl, rfl, hlt, hJ₆, F₆, fun p hp => N₆ p (hn₆ p hp), ⟨oI, (N₆ _ (ho₆ _ (List.mem_singleton.mpr rfl))).1, hcI, hdI⟩, fun p hp => hd₆ p hp _ (List.mem_singleton.mpr rfl)⟩
    cases f with
    | next => exact fin q
    | cont => exact fin q
    | brk => exact q
    | ret v => exact q
  · have hjl : j = vs.length := by omega
    subst hjl
    refine wpAny_pyNext_list_end hh hit hls (by simp) fun h₁ he₁ => ?_
    refine wpAny_execs_nil (done m₁ nw₁ h₁ t' g' hJ1 (fr_of F1 (fun o q => he₁ _ o (Ne.symm hIL) q) fun b o q q' => he₁ b o (fun z => by rw [z, hI0'] at q; cases q) q') fun p hp => ⟨he₁ _ _ (hni p hp) (N1 p hp).1, (N1 p hp).2⟩)
end
end Mine
end

section
open PySem PySem.W PyProof.Rows PySem.Calls PySem.Spec
set_option maxRecDepth 100000
set_option maxHeartbeats 1000000
namespace Mine
/-- a lambda is entered -/
theorem enterL {prog : Program} {w : World} {dp un : Nat} {fr : Option (List Env)} {gd : Option (List Code)} {s : Shared} {name qual : Str} {params : Arguments} {body : Expr} {scope : Scope} {pm ct : Value} {f c' : Addr} {o : Obj} {pos : List Value} {binds : List (Str × Value)} {Q : Value → Shared → Prop} {E : Value → Shared → Prop}
    (hlim : s.heap.NoLimit) (ho : s.heap.get? f = some o) (hod : o.data = .func (kla_fn name qual params body scope [] pm (.ref c') ct)) (hcd : s.heap.CodeRec (.ref c') qual) (hroom : dp + 1 < recursionLimit)
    (hbind : bindArgs (kla_fn name qual params body scope [] pm (.ref c') ct) ⟨pos, []⟩ = pure binds) (hloc : (binds.all fun x => decide (scope.names.lookup x.1 = some .local)) = true)
    (h : ∀ L h₁ tk, s.heap.objs.size = L → Fr s.heap L h₁ (fun y => binds.reverse.lookup y) → News s.heap L h₁ [] →
      wpAny (model prog w) (Ar (dp + 1) (un + 3) (fr.map (envOf qual scope L f (.ref c') :: ·)) gd) (eval body (envOf qual scope L f (.ref c')))
        (fun v s' => Q v s')
        (fun e s' => wpAny (model prog w) (Ar (dp + 1) (un + 3) (fr.map (envOf qual scope L f (.ref c') :: ·)) gd) (leaving (envOf qual scope L f (.ref c')) e) (fun _ s'' => E e s'') (fun e' s'' => E e' s'') s')
        { s with heap := h₁, toks := tk })
    (hcell : ∀ x ∈ scope.names, x.2 ≠ .cell := by decide) (hco : scope.isCoroutine = false := by rfl) (hgen : scope.isGenerator = false := by rfl) (hk : scope.kind = .function := by rfl) :
    wpAny (model prog w) (Ar dp un fr gd) (call (.ref f) pos) Q E s := by
  refine wpAny_call (kla_callFunE (by show dp < _; omega) ho hod hco hgen rfl hcd ?_)
  rw [hbind]
  refine wpAny_pure (wpAny_newFunctionEnv hcell (locs hloc) (fun h₁ hns hsb => ⟨hlim.fresh _ hsb, ?_⟩) hk)
  have hk₁ : ∀ b o, s.heap.get? b = some o → h₁.get? b = some o := fun b o e => hsb.extBut b o (Nat.ne_of_lt (Heap.lt_size e)) (Heap.get?_push_of_some _ e)
  exact kla_codeExpr (h s.heap.objs.size h₁ _ rfl ⟨hns, hk₁, Nat.le_refl _⟩ News.nil)
end Mine
end

section
open PySem PySem.W PyProof.Rows PySem.Calls PySem.Spec
set_option maxRecDepth 100000
set_option maxHeartbeats 1000000
namespace Mine
theorem one_translate (x : Str) (t : Tok) (b : Value) : Builtin.Str.strOneArg "translate" ⟨[.str x t, b], []⟩ = pure (.str x t, x, b) := by rfl
theorem key_lookup : isSubtype (.type "KeyError") (.type "LookupError") = pure true := by rw [isSubtype_type]; kernel_rfl
section
variable {prog : Program} {w : World} {A : Around} {s : Shared} {E : Value → Shared → Prop}
theorem table_keep {c : Nat} {d : Addr} {f : Int → Option Value} {Q : Builtin.Str.Mapped → Shared → Prop} (hh : A.handled = none) (hd : (d == sysModules) = false) (hm : s.heap.MapOf (intKind prog w) d f) (hf : f ((c : Nat) : Int) = none)
    (h : ∀ h' tk, (∀ b o, s.heap.get? b = some o → h'.get? b = some o) → Q .keep { s with heap := h', toks := tk }) : wpAny (model prog w) A (Builtin.Str.tableLookup (.ref d) c) Q E s := by
  unfold Builtin.Str.tableLookup
  refine wpAny_bind (wpAny_attempt (wpAny_bind (wpAny_mkInt ?_)))
  refine wpAny_getItem_missing_of (knd := intKind prog w) (k := ((c : Nat) : Int)) (by simp [intKind, Value.isInt]) hd hh hm hf fun h' e hx => ?_
  dsimp only
  obtain ⟨ob, tt, h1, h2, h3⟩ := hx.there
  refine wpAny_bind (wpAny_isInstance ⟨ob, h1, h2⟩ key_lookup ?_)
  rw [if_pos rfl]
  exact wpAny_bind (wpAny_rule (wpAny_pure (h _ _ hx.keeps)))
theorem table_text {c : Nat} {d : Addr} {f : Int → Option Value} {y : Str} {tk : Tok} {Q : Builtin.Str.Mapped → Shared → Prop} (hm : s.heap.MapOf (intKind prog w) d f) (hf : f ((c : Nat) : Int) = some (.str y tk))
    (h : ∀ tk, Q (.text y) { s with toks := tk }) : wpAny (model prog w) A (Builtin.Str.tableLookup (.ref d) c) Q E s := by
  unfold Builtin.Str.tableLookup
  refine wpAny_bind (wpAny_attempt (wpAny_bind (wpAny_mkInt ?_)))
  refine wpAny_getItem_of (knd := intKind prog w) (k := ((c : Nat) : Int)) (by simp [intKind, Value.isInt]) hm hf ?_
  dsimp only
  refine wpAny_bind (wpAny_of_eq (a := (none : Option Int)) rfl ?_)
  dsimp only
  exact wpAny_bind (wpAny_pure (wpAny_pure (h _)))
theorem translate_call {c : Nat} {t : Tok} {d : Addr} {f : Int → Option Value} {Q : Value → Shared → Prop} (hh : A.handled = none) (hd : (d == sysModules) = false) (hm : s.heap.MapOf (intKind prog w) d f) {r : List Nat}
    (hf : (f ((c : Nat) : Int) = none ∧ r = [c]) ∨ (∃ tk, f ((c : Nat) : Int) = some (.str ⟨#[92, c]⟩ tk) ∧ r = [92, c]))
    (h : ∀ h' tk t', (∀ b o, s.heap.get? b = some o → h'.get? b = some o) → Q (.str ⟨r.toArray⟩ t') { s with heap := h', toks := tk }) :
    wpAny (model prog w) A (call (.builtin "str.translate") [.str ⟨#[c]⟩ t, .ref d]) Q E s := by
  revert hh hd hm hf h
  revert prog w A s E c t d f Q r
  intros prog w A s E c t d f Q r hh hd hm hf h
  refine wpAny_call (codeAny_call_builtin F.slot_str_translate.plain F.entry_str_translate (F.slot_str_translate.check _ _ _ _ _ _ _ _ (typeIs_str _ _ _) (F.args_str_translate_2 _ _) ?_))
  unfold Builtin.«str.translate»
  rw [one_translate]
  refine wpAny_bind (wpAny_pure ?_)
  dsimp only
  rw [if_neg (show ¬ ((⟨#[c]⟩ : Str).length == 0) = true from by show ¬ ((1 : Nat) == 0) = true; decide), ← Array.forIn_toList]
  refine wpAny_bind ?_
  show wpAny _ _ (forIn [c] _ _) _ _ _
  rw [List.forIn_cons]
  refine wpAny_bind ?_
  dsimp only
  rw [if_neg (show ¬ Builtin.Str.tooLong 0 = true from by decide)]
  have fin : ∀ (pc : List Str) (n : Nat) (bb : Bool) (kn : List (Nat × Option Nat)) (b3 : Bool) (h' : Heap) (tk : Nat), (∀ b o, s.heap.get? b = some o → h'.get? b = some o) → n ≤ 2 → pc = [⟨r.toArray⟩] → r.length ≤ 2 →
      wpAny (model prog w) A.in1 (if Builtin.Str.tooLong n = true then do
          unsupported "str.translate:memory"
          retStr ⟨List.foldl (fun acc p => acc ++ p.cps) #[] pc.reverse⟩
        else retStr ⟨List.foldl (fun acc p => acc ++ p.cps) #[] pc.reverse⟩)
        (fun fin s' => match fin with | .done f => (match (Except.ok f : Result) with | .ok (.ret v) => Q v s' | .ok _ => False | .error e => E e s') | .again c' => c'.quiet = true ∧ codeAny (model prog w) A c' (wants Q E) s') (fun e s' => E e s') { s with heap := h', toks := tk } := by
    rintro pc n bb kn b3 h' tk hk hn rfl hr
    have hl : ¬ Builtin.Str.tooLong n = true := by
      unfold Builtin.Str.tooLong
      rw [sizeLine_eq]; simp; omega
    rw [if_neg hl]
    have e : (⟨List.foldl (fun acc p => acc ++ p.cps) #[] ([(⟨r.toArray⟩ : Str)].reverse)⟩ : Str) = ⟨r.toArray⟩ := by
      apply str_ext; simp
    rw [e]
    unfold retStr
    refine wpAny_bind (wpAny_mkStr (wpAny_pure (h h' _ _ hk)) ?_)
    rw [sizeLine_eq]
    show r.toArray.size ≤ _
    rw [List.size_toArray]; omega
  cases hfast : (#[c].all fun x => decide (x < 128)) with
  | true =>
    rw [if_pos rfl]
    show wpAny _ _ (Builtin.Str.tableLookup (.ref d) c >>= _) _ _ _
    rcases hf with ⟨hf, rfl⟩ | ⟨tk0, hf, rfl⟩
    · refine wpAny_bind (table_keep hh hd hm hf fun h' tk hk => ?_)
      dsimp only
      refine wpAny_bind (wpAny_pure ?_)
      dsimp only
      refine wpAny_pure ?_
      dsimp only
      rw [List.forIn_nil]
      refine wpAny_pure ?_
      dsimp only
      exact fin _ _ true [] false h' tk hk (by decide) rfl (by simp)
    · refine wpAny_bind (table_text hm hf fun tk => ?_)
      dsimp only
      rw [if_neg (show ¬ (((⟨#[92, c]⟩ : Str).length == 1) && (⟨#[92, c]⟩ : Str).cps.all fun x => decide (x < 128)) = true from fun h => Bool.false_ne_true h)]
      refine wpAny_bind (wpAny_pure ?_)
      dsimp only
      refine wpAny_bind (wpAny_rule ?_)
      rw [if_neg Bool.false_ne_true]
      refine wpAny_bind (table_text hm hf fun tk => ?_)
      dsimp only
      refine wpAny_pure ?_
      dsimp only
      rw [List.forIn_nil]
      refine wpAny_pure ?_
      dsimp only
      exact fin _ _ true [] false s.heap tk (fun _ _ e => e) (by show (2 : Nat) ≤ 2; decide) rfl (by simp)
  | false =>
    rw [if_neg Bool.false_ne_true]
    rw [if_neg Bool.false_ne_true]
    rcases hf with ⟨hf, rfl⟩ | ⟨tk0, hf, rfl⟩
    · refine wpAny_bind (table_keep hh hd hm hf fun h' tk hk => ?_)
      dsimp only
      refine wpAny_pure ?_
      dsimp only
      rw [List.forIn_nil]
      refine wpAny_pure ?_
      dsimp only
      exact fin _ _ true [] false h' tk hk (by decide) rfl (by simp)
    · refine wpAny_bind (table_text hm hf fun tk => ?_)
      dsimp only
      refine wpAny_pure ?_
      dsimp only
      rw [List.forIn_nil]
      refine wpAny_pure ?_
      dsimp only
      exact fin _ _ true [] false s.heap tk (fun _ _ e => e) (by show (2 : Nat) ≤ 2; decide) rfl (by simp)
end
end Mine
end

section
open PySem PySem.W PyProof.Rows PySem.Calls PySem.Spec
set_option maxRecDepth 100000
set_option maxHeartbeats 1000000
namespace Mine
noncomputable abbrev bobj (D : Addr) : Obj := { cls := .type "builtin_function_or_method", data := .fields #[.builtin "list.append", .ref D] }
noncomputable def lamPos : Pos := ⟨63, 39, 63, 76⟩
noncomputable abbrev lamQ : Str := Str.ofString "_translate.<locals>.<lambda>"
noncomputable def TabOk (h : Heap) (ps : Array Value) : Prop := TriplesOk ps.toList ∧ ∀ cv, codeAmong lamPos ps.toList = some cv → ∃ c' oc vs t, cv = .ref c' ∧ c' ≠ 57 ∧ h.get? c' = some oc ∧ oc.data = .fields vs ∧ vs[1]? = some (.str lamQ t)
noncomputable def TabIn (G : Heap) (R : Addr) (ps : Array Value) (cs : List (Addr × Obj)) : Prop := TriplesOk ps.toList ∧ (∀ q ∈ cs, q.1 ≠ R ∧ q.1 ≠ 57 ∧ ∃ vs, q.2.data = .fields vs) ∧ ∀ cv, codeAmong lamPos ps.toList = some cv → ∃ c' oc vs t, cv = .ref c' ∧ (G.get? c' = some oc ∨ (c', oc) ∈ cs) ∧ oc.data = .fields vs ∧ vs[1]? = some (.str lamQ t)

theorem pat_at {w : World} {h : Heap} (X : (KK w).In h) (P : PG = PG := rfl) : PatAt h ∧ ∃ o, h.get? 36 = some o ∧ o.dict = none := by
  revert P X; unfold PG KK
  k_fill; intro X _
  have h1 : h.get? 36 = some _ := X 36 _ (by k_is)
  have h2 : h.get? 35 = some _ := X 35 _ (by k_is)
  exact ⟨⟨_, _, _, _, _, _, h1, rfl, rfl, h2, rfl, by decide +kernel⟩, _, h1, rfl⟩

section
variable {M : Model} {A : Around} {E : Value → Shared → Prop} {s : Shared} {h₀ : Heap} {L a b R : Addr} {oR : Obj} {m mg mb : Str → Option Value} {cn : Str} {sc : Scope} {ccd : Value} {cl : List (Str × Addr)} {cs : List (Addr × Obj)}
  {p : Program} {loose : List Str} {mean : ExcName → Option Value} {params : Arguments} {body : Expr} {scope : Scope} {ps : Array Value}
theorem gm_sub {pl : Sem Bool} {Q : Value × List Value → Shared → Prop} (hP : PatAt s.heap) (hd : ∃ o, s.heap.get? 36 = some o ∧ o.dict = none) (h : Q (.builtin "re.Pattern.sub", [.ref 36]) s) : wpAny M A (getMethod (.ref 36) "sub" pl) Q E s := by
  obtain ⟨o, o2, vs, n, v0, v1, h1, h2, _⟩ := hP
  exact getMethod_builtin ⟨o, h1, h2⟩ plain_pat slot_sub type_sub (fun a e => by cases e; exact hd) h
theorem gm_group {x : Str} {tx : Tok} {n : Nat} {pl : Sem Bool} {Q : Value × List Value → Shared → Prop} (hm : MatchAt s.heap a x tx n) (h : Q (.builtin "re.Match.group", [.ref a]) s) : wpAny M A (getMethod (.ref a) "group" pl) Q E s := by
  obtain ⟨o, sp, os, pv, li, lim, ho, hc, hdn, _⟩ := hm
  exact getMethod_builtin ⟨o, ho, hc⟩ plain_mat slot_group type_group (fun b e => by cases e; exact ⟨o, ho, hdn⟩) h

theorem lam_make {Q : Value → Shared → Prop} (F : Fr h₀ L s.heap m) (N : News h₀ L s.heap ((b, bobj R) :: (R, oR) :: ((57 : Addr), tabObj ps) :: cs)) (T : Top p loose mean mg mb h₀) (C : CodeHd h₀ 61 57) (hcd : ccd = .ref 61) (hb : b ≠ 57) (hR : R ≠ 57) (ht : TabIn h₀ R ps cs)
    (hq : (cn ++ ".<locals>." : Str) ++ "<lambda>" = lamQ) (hdef : defaultsOf params (envX cn sc L a ccd cl) = ([], [])) (hcl : closureFor scope (envX cn sc L a ccd cl) = pure [])
    (h : ∀ f c' ctv h' tk ps' cs', Fr h₀ L h' m → News h₀ L h' ((f, kla_obj "<lambda>" lamQ params body scope [] ((mg "__name__").getD .none) c' ctv) :: (b, bobj R) :: (R, oR) :: ((57 : Addr), tabObj ps') :: cs') → TabIn h₀ R ps' cs' → h'.CodeRec (.ref c') lamQ → Q (.ref f) { s with heap := h', toks := tk }) :
    wpAny M A (eval (.Lambda params body scope lamPos) (envX cn sc L a ccd cl)) Q E s := by
  refine kla_eval hdef ?_
  show wpAny M A (makeFunction "<lambda>" ((cn ++ ".<locals>." : Str) ++ "<lambda>") params (.expr body) scope (envX cn sc L a ccd cl) [] [] [] lamPos lamPos.line) Q E s
  rw [hq]
  obtain ⟨t1, t2, t3⟩ := ht
  have hcs : ∀ q ∈ cs, q.1 ≠ (57 : Addr) := fun q hq => (t2 q hq).2.1
  cases hc : codeAmong lamPos ps.toList with
  | none =>
    refine kla_nest (c := 61) (P := 57) F N T C hcd (.tail hb (.tail hR (.head hcs))) t1 hc hcl fun f c' oc vs t ctv h' tk F' N' hd hv hlt hcf => ?_
    have hl : (ps ++ #[rawInt lamPos.line, rawInt lamPos.col, Value.ref c']).toList = ps.toList ++ [rawInt lamPos.line, rawInt lamPos.col, .ref c'] := by simp
    refine h f c' ctv h' tk (ps ++ #[rawInt lamPos.line, rawInt lamPos.col, .ref c']) ((c', oc) :: cs) F' (fun q hq => ?_) ⟨?_, fun q hq => ?_, fun cv e => ?_⟩ ⟨c', oc, vs, t, rfl, (N' (c', oc) (.tail _ (.head _))).1, hd, hv⟩
    · refine N' q ?_
      simp only [List.mem_cons] at hq ⊢
      rcases hq with h | h | h | h | h | h <;> simp [h]
    · rw [hl]; exact TriplesOk_snoc _ _ _ _ t1
    · rcases List.mem_cons.mp hq with rfl | hq
      · exact ⟨Ne.symm (Nat.ne_of_lt (hlt (R, oR) (.tail _ (.head _)))), Ne.symm (Nat.ne_of_lt (hlt ((57 : Addr), tabObj ps) (.tail _ (.tail _ (.head _))))), vs, hd⟩
      · exact t2 q hq
    · rw [hl, codeAmong_snoc _ t1 hc] at e
      exact ⟨c', oc, vs, t, (Option.some.inj e).symm, .inr (.head _), hd, hv⟩
  | some cv =>
    obtain ⟨c', oc, vs, t, rfl, hor, hd, hv⟩ := t3 cv hc
    refine kla_hit (c := 61) (P := 57) F N T C hcd (.tail _ (.tail _ (.head _))) t1 hc hcl fun f ctv h' tk F' N' hlt => ?_
    refine h f c' ctv h' tk ps cs F' N' ⟨t1, t2, t3⟩ ⟨c', oc, vs, t, rfl, ?_, hd, hv⟩
    rcases hor with e | e
    · exact F'.keep _ _ e
    · exact (N' _ (.tail _ (.tail _ (.tail _ (.tail _ e))))).1
end
end Mine
end

section
open PySem PySem.W PyProof.Rows PySem.Calls PySem.Spec
set_option maxRecDepth 100000
set_option maxHeartbeats 8000000
namespace Mine

/-- a def with cells is entered -/
theorem enterC {prog : Program} {w : World} {dp un : Nat} {fr : Option (List Env)} {gd : Option (List Code)} {s : Shared} {K : Frag} {name qual : Str} {params : Arguments} {body : List Stmt} {scope : Scope} {dV kV doc pm cdv ct oc : Value} {an od : Option Addr} {osl : Array (Option Value)} {f : Addr} {pos : List Value} {binds : List (Str × Value)} {Q : Value → Shared → Prop} {E : Value → Shared → Prop}
    (X : K.In s.heap) (hlim : s.heap.NoLimit) (ho : K.lookup f = some ⟨oc, od, .func (fnOf name qual params body scope dV kV doc pm an cdv ct), osl⟩) (hcd : codeIn K cdv qual = true) (hroom : dp + 1 < recursionLimit)
    (hbind : bindArgs (fnOf name qual params body scope dV kV doc pm an cdv ct) ⟨pos, []⟩ = pure binds) (hkind : (binds.all fun y => scope.names.lookup y.1 == some .local || scope.names.lookup y.1 == some .cell) = true)
    (h : ∀ L h₁ tk cells, s.heap.objs.size = L → Fr s.heap L h₁ (bindL (envOfC qual scope L f cdv).kindOf binds fun _ => none) → News s.heap L h₁ cells →
      CellsAre (bindC (envOfC qual scope L f cdv).kindOf binds fun _ => none) (cellsFrom (L + 1) scope.names []) cells →
      wpAny (model prog w) (Ar (dp + 1) (un + 3) (fr.map (envOfC qual scope L f cdv :: ·)) gd) (execs body (envOfC qual scope L f cdv))
        (fun fl s' => Q (match fl with | .ret v => v | _ => .none) s')
        (fun e s' => wpAny (model prog w) (Ar (dp + 1) (un + 3) (fr.map (envOfC qual scope L f cdv :: ·)) gd) (leaving (envOfC qual scope L f cdv) e) (fun _ s'' => E e s'') (fun e' s'' => E e' s'') s')
        { s with heap := h₁, toks := tk })
    (hnd : ((cellsFrom 0 scope.names []).map (·.1)).Nodup := by decide +kernel) (hco : scope.isCoroutine = false := by rfl) (hgen : scope.isGenerator = false := by rfl) (hk : scope.kind = .function := by rfl) :
    wpAny (model prog w) (Ar dp un fr gd) (call (.ref f) pos) Q E s := by
  refine wpAny_call (codeAny_call_cells (fd := fnOf name qual params body scope dV kV doc pm an cdv ct) (body := body) (binds := binds) (by show dp < _; omega) (X _ _ ho) rfl hlim (codeRec_of X hcd) rfl hbind rfl (kindsX hkind _) (fun s₁ IC => ?_) hco hgen hk)
  obtain ⟨⟨hsame, hns, hkeep, hfresh⟩, hcell, hap, hab⟩ := IC
  obtain ⟨h₁, tk, rfl⟩ := hsame
  have hcl : ∃ cells, News s.heap s.heap.objs.size h₁ cells ∧ CellsAre (bindC (envOfC qual scope s.heap.objs.size f cdv).kindOf binds fun _ => none) (cellsFrom (s.heap.objs.size + 1) scope.names []) cells := by
    refine Cl.news (Nat.le_refl _) fun n c hm => ⟨?_, hab n c hm⟩
    exact hcell n c (lookup_of_mem_nodup (cellsFrom_names scope.names 0 (s.heap.objs.size + 1) [] [] rfl ▸ hnd) hm)
  obtain ⟨cells, N, Y⟩ := hcl
  exact h s.heap.objs.size h₁ tk cells rfl ⟨hns, hkeep, Nat.le_refl _⟩ N Y

/-! ### a list comprehension of one clause, any source, any tests; elements may call -/
open LCg in
noncomputable def CEnd (h₀ : Heap) (L : Addr) (m : Str → Option Value) (I C D : Addr) (oI : Obj) (ys : List Value) (J : List (Addr × Obj) → Prop) (s₁ s₂ : Shared) : Prop :=
  ∃ h' tk, ∃ (g' : BG), ∃ oC mC news' nx, s₂ = { s₁ with heap := h', toks := tk, gens := g' } ∧ Fr h₀ L h' m ∧ News h₀ L h' news' ∧ (I, oI) ∈ news' ∧ (C, oC) ∈ news' ∧ (D, lst ys) ∈ news' ∧ NsObj oC mC ∧ (∀ p ∈ nx, p ∈ news') ∧ Off3 I C D nx ∧ J nx
theorem CEnd.intro {h₀ : Heap} {L : Addr} {m : Str → Option Value} {I C D : Addr} {oI oC : Obj} {ys : List Value} {J : List (Addr × Obj) → Prop} {s₁ : Shared} {h' : Heap} {tk : Nat} {g' : Array GenState} {news' nx : List (Addr × Obj)} {mC : Str → Option Value}
    (F : Fr h₀ L h' m) (N : News h₀ L h' news') (hI : (I, oI) ∈ news') (hC : (C, oC) ∈ news') (hD : (D, LCg.lst ys) ∈ news') (hns : LCg.NsObj oC mC) (hn : ∀ p ∈ nx, p ∈ news') (ho : LCg.Off3 I C D nx) (hj : J nx) (hBG : AllBare g' := by first | assumption | exact BG.ok _) :
    CEnd h₀ L m I C D oI ys J s₁ { s₁ with heap := h', toks := tk, gens := g' } := ⟨h', tk, ⟨g', hBG⟩, oC, mC, news', nx, rfl, F, N, hI, hC, hD, hns, hn, ho, hj⟩
theorem CEnd.introN {h₀ : Heap} {L : Addr} {m : Str → Option Value} {I C D : Addr} {oI oC : Obj} {ys : List Value} {J : List (Addr × Obj) → Prop} {s₁ : Shared} {h' : Heap} {tk : Nat} {news' nx : List (Addr × Obj)} {mC : Str → Option Value}
    (F : Fr h₀ L h' m) (N : News h₀ L h' news') (hI : (I, oI) ∈ news') (hC : (C, oC) ∈ news') (hD : (D, LCg.lst ys) ∈ news') (hns : LCg.NsObj oC mC) (hn : ∀ p ∈ nx, p ∈ news') (ho : LCg.Off3 I C D nx) (hj : J nx) (hBG : AllBare s₁.gens := by first | assumption | exact BG.ok _) :
    CEnd h₀ L m I C D oI ys J s₁ { s₁ with heap := h', toks := tk } := CEnd.intro (g' := s₁.gens) F N hI hC hD hns hn ho hj hBG

section
open LCg
variable {prog : Program} {w : World} {A : Around} {E : Value → Shared → Prop} {s : Shared} {h₀ : Heap} {L : Addr} {m : Str → Option Value} {env : Env}

/-- the library's loop rule, with what is let go of an owned tuple said by a rule of its own -/
theorem compLoop_testsW {prog : Program} {w : World} {A : Around} {R : Result → Shared → Prop} {s : Shared} {elt target iter : Expr} {ifs : List Expr} {scope : Scope} {pos : Pos} {it acc : Value} {env : Env} (I : Nat → Shared → Prop)
    (turn : ∀ n s, I n s → wpAny (model prog w) A (pyNext it) (fun r s₁ => match r with
      | none => R (.ok .next) s₁
      | some v => wpAny (model prog w) A (letOwnedTupleGo target it v) (fun _ s₁ => wpAny (model prog w) A (assign target env v) (fun _ s₂ =>
          wpAny (model prog w) A (forIn ifs true fun c r => if r = true then do let ok ← isTrue c env (eval c env); pure (ForInStep.yield ok) else pure (ForInStep.yield r)) (fun ok s₃ =>
            if ok = true then wpAny (model prog w) A (eval elt env) (fun x s₄ =>
              wpAny (model prog w) A (call (.builtin "list.append") [acc, x]) (fun _ s₅ => ∃ m, m < n ∧ I m s₅) (notedBy (model prog w) A env fun e s' => R (.error e) s') s₄) (notedBy (model prog w) A env fun e s' => R (.error e) s') s₃
            else ∃ m, m < n ∧ I m s₃) (notedBy (model prog w) A env fun e s' => R (.error e) s') s₂) (notedBy (model prog w) A env fun e s' => R (.error e) s') s₁) (notedBy (model prog w) A env fun e s' => R (.error e) s') s₁) (notedBy (model prog w) A env fun e s' => R (.error e) s') s)
    (n : Nat) (h : I n s) :
    codeAny (model prog w) A (.compLoop (.ListComp elt [⟨target, iter, ifs, 0⟩] scope pos) 0 it acc env) R s := by
  refine codeAny_loop rfl I (fun n s hI => ?_) n h
  show wpAny _ A ((compTurn (.ListComp elt [⟨target, iter, ifs, 0⟩] scope pos) 0 it acc env).onRaise (fun x => do noteFrame x env; theTreesLotGoes x)) _ _ s
  refine wpAny_noted ?_
  rw [compTurn_list]
  refine wpAny_bind (wpAny_standAt (wpAny_bind (wpAny_mono (turn n s hI) (fun r s₁ h₁ => ?_) fun _ _ h' => h')))
  cases r with
  | none => exact wpAny_pure h₁
  | some v =>
    refine wpAny_bind (wpAny_mono h₁ (fun _ s₁ h₁ => ?_) fun _ _ h' => h')
    refine wpAny_bind (wpAny_mono h₁ (fun _ s₂ h₂ => wpAny_bind (wpAny_mono h₂ (fun ok s₃ h₃ => ?_) fun _ _ h' => h')) fun _ _ h' => h')
    cases ok with
    | false => exact wpAny_pure ⟨rfl, h₃⟩
    | true =>
      exact wpAny_bind (wpAny_bind (wpAny_mono h₃ (fun x s₄ h₄ => wpAny_bind (wpAny_mono h₄ (fun _ s₅ h₅ => wpAny_pure (wpAny_pure ⟨rfl, h₅⟩)) fun _ _ h' => h')) fun _ _ h' => h'))

/-- the object of an iterator: no code -/
noncomputable def ItObj (o : Obj) : Prop := ∀ vs, o.data = .fields vs → ∃ z t, vs[1]? = some (.int z t)
/-- one turn -/
noncomputable def CTurn (prog : Program) (w : World) (A : Around) (h₀ : Heap) (L : Addr) (m : Str → Option Value) (env : Env) (target elt : Expr) (ifs : List Expr) (scope : Scope) (cl : List (Str × Addr)) (s : Shared) (P : Nat → Value → Prop) (J : Nat → List Value → List (Addr × Obj) → Prop) : Prop :=
  ∀ i v I oI C oC D mC h tk (g : BG) ys nw (E' : Value → Shared → Prop), ItObj oI → P i v → J i ys nw → NsObj oC mC → Fr h₀ L h m → News h₀ L h ((I, oI) :: (C, oC) :: (D, lst ys) :: nw) → Off3 I C D nw → (@Ne Nat I C) → (@Ne Nat I D) → (@Ne Nat C D) →
    wpAny (model prog w) A (assign target (compEnvC scope cl C env) v) (fun _ s₂ =>
      wpAny (model prog w) A (forIn ifs true fun c r => if r = true then do let ok ← isTrue c (compEnvC scope cl C env) (eval c (compEnvC scope cl C env)); pure (ForInStep.yield ok) else pure (ForInStep.yield r)) (fun ok s₃ =>
        if ok = true then wpAny (model prog w) A (eval elt (compEnvC scope cl C env)) (fun y s₄ => CEnd h₀ L m I C D oI ys (J (i + 1) (ys ++ [y])) { s with heap := h, toks := tk, gens := g } s₄) E' s₃
        else CEnd h₀ L m I C D oI ys (J (i + 1) ys) { s with heap := h, toks := tk, gens := g } s₃) E' s₂) E' { s with heap := h, toks := tk, gens := g }

theorem comp_block {target elt iter : Expr} {ifs : List Expr} {scope : Scope} {cl : List (Str × Addr)} {pos : Pos} {s₂ : Shared} {I : Addr} {fp : List Addr} {n : Nat} {P : Nat → Value → Prop} {St : Nat → Heap → Prop} {news : List (Addr × Obj)}
    {RR : Value → Addr → Result → Shared → Prop} (J : Nat → List Value → List (Addr × Obj) → Prop)
    (W : Walks prog w A I fp [I] n P St) (hsz : n ≤ sizeLine) (hIo : ∀ i h, St i h → ∃ o, h.get? I = some o ∧ ItObj o)
    (hSt : ∀ i i' ys nw h h' o, J i' ys nw → St i h → h.get? I = some o → h'.get? I = some o → Fr h₀ L h' m → News h₀ L h' nw → St i h')
    (hcell : ∀ y ∈ scope.names, y.2 ≠ .cell) (hkind : scope.kind = .function) (hst : St 0 s₂.heap) (hfp : ∀ b ∈ fp, b < s₂.heap.objs.size)
    (F : Fr h₀ L s₂.heap m) (N : News h₀ L s₂.heap news) (hIL : L ≠ I) (hI₀ : h₀.get? I = none) (off : ∀ p ∈ news, p.1 ≠ I) (hJ : J 0 [] news)
    (R : CTurn prog w A h₀ L m env target elt ifs scope cl s₂ P J)
    (hRR : ∀ D C h tk (g : BG) m' ys nw, Fr h₀ L h m → News h₀ L h ((D, lst ys) :: nw) → Off1 D nw → h.Ns C m' → h₀.get? C = none → h₀.get? D = none → C ≠ L → D ≠ L → C ≠ D → (∀ p ∈ nw, p.1 ≠ C) → J n ys nw → RR (.ref D) C (.ok .next) { s₂ with heap := h, toks := tk, gens := g })
    (ht : ∀ i v (s' : Shared) (Q' : Unit → Shared → Prop) (E' : Value → Shared → Prop), St i s'.heap → Q' () s' → wpAny (model prog w) A (letOwnedTupleGo target (.ref I) v) Q' E' s') (hB : AllBare s₂.gens := by first | assumption | exact BG.ok _) :
    wpAny (model prog w) A (newList []) (fun acc s₃ => wpAny (model prog w) A (newFunctionEnv scope env.globals cl [] env.qual none .none (some env)) (fun cenv s₄ =>
      codeAny (model prog w) A (.compStart (.ListComp elt [⟨target, iter, ifs, 0⟩] scope pos) 0 (.ref I) acc { cenv with scope := relabel scope env }) (RR acc cenv.locals) s₄) E s₃) E s₂ := by
  revert W hsz hIo hSt hcell hkind hst hfp F N hIL hI₀ off hJ R hRR ht hB
  revert prog w A E h₀ L m env target elt iter ifs scope cl pos s₂ I fp n P St news RR J
  intros prog w A E h₀ L m env target elt iter ifs scope cl pos s₂ I fp n P St news RR J W hsz hIo hSt hcell hkind hst hfp F N hIL hI₀ off hJ R hRR ht hB
  refine wpAny_newObj_type (wpAny_newFunctionEnv hcell (by intro y hy; simp at hy) (fun h₁ hns₁ hsb₁ => ?_) hkind)
  dsimp only at hns₁ hsb₁ ⊢
  generalize hH2 : s₂.heap.push { cls := .type "list", dict := none, data := .seq ([] : List Value).toArray } = H2 at hns₁ hsb₁ ⊢
  have hC : H2.objs.size = s₂.heap.objs.size + 1 := by rw [← hH2, Heap.size_push]
  have hDC : s₂.heap.objs.size ≠ H2.objs.size := by rw [hC]; exact Nat.ne_of_lt (Nat.lt_succ_self _)
  have below : ∀ b, b < s₂.heap.objs.size → b ≠ H2.objs.size ∧ b ≠ s₂.heap.objs.size := fun b hb => ⟨by rw [hC]; exact Nat.ne_of_lt (Nat.lt_succ_of_lt hb), Nat.ne_of_lt hb⟩
  have hDf : s₂.heap.objs.size ∉ fp := fun hm => Nat.lt_irrefl _ (hfp _ hm)
  have hCf : H2.objs.size ∉ fp := fun hm => by have := hfp _ hm; rw [hC] at this; exact Nat.lt_irrefl _ (Nat.lt_of_succ_lt this)
  have hIf : I ∈ fp := W.sub I (List.mem_singleton.mpr rfl)
  have hIlt : I < s₂.heap.objs.size := hfp I hIf
  have old : ∀ b o, s₂.heap.get? b = some o → h₁.get? b = some o := fun b o e => hsb₁.extBut b o (below b (Heap.lt_size e)).1 (Heap.get?_push_of_some _ (hH2 ▸ Heap.get?_push_of_some _ e))
  have hacc : h₁.get? s₂.heap.objs.size = some (lst []) := hsb₁.extBut _ _ hDC (Heap.get?_push_of_some _ (hH2 ▸ Heap.get?_push_size _ rfl))
  have hst₁ : St 0 h₁ := W.frame _ _ _ hst fun b _ o e => old b o e
  have fresh : ∀ a, s₂.heap.objs.size ≤ a → s₂.heap.get? a = none := fun a ha => by
    cases e : s₂.heap.get? a with
    | none => rfl
    | some o' => exact absurd (Heap.lt_size e) (Nat.not_lt.mpr ha)
  have fresh₀ : ∀ a, s₂.heap.objs.size ≤ a → h₀.get? a = none := fun a ha => by
    cases e : h₀.get? a with
    | none => rfl
    | some o' => have := F.keep a o' e; rw [fresh a ha] at this; cases this
  have hD₀ : h₀.get? s₂.heap.objs.size = none := fresh₀ _ (Nat.le_refl _)
  have hC₀ : h₀.get? H2.objs.size = none := fresh₀ _ (by rw [hC]; exact Nat.le_succ _)
  have hLlt : L < s₂.heap.objs.size := F.ns.lt
  have hDL : s₂.heap.objs.size ≠ L := Ne.symm (below L hLlt).2
  have hCL : H2.objs.size ≠ L := Ne.symm (below L hLlt).1
  have hCI : I ≠ H2.objs.size := (below I hIlt).1
  have hDI : I ≠ s₂.heap.objs.size := (below I hIlt).2
  have off₀ : Off3 I H2.objs.size s₂.heap.objs.size news := Off3.of fun p hp => ⟨off p hp, (below _ (Heap.lt_size (N p hp).1)).1, (below _ (Heap.lt_size (N p hp).1)).2⟩
  have loop : ∀ s₃ : Shared, s₃ = { s₂ with heap := h₁, toks := s₂.toks + ([] : List (Str × Value)).length } →
      codeAny (model prog w) A (.compLoop (.ListComp elt [⟨target, iter, ifs, 0⟩] scope pos) 0 (.ref I) (.ref s₂.heap.objs.size) (compEnvC scope cl H2.objs.size env))
        (RR (.ref s₂.heap.objs.size) H2.objs.size) s₃ := by
    rintro s₃ rfl
    refine compLoop_testsW
      (fun k s' => ∃ h' tk, ∃ (g : BG), ∃ i ys m' nw, s' = { s₂ with heap := h', toks := tk, gens := g } ∧ i ≤ n ∧ k = n + 1 - i ∧ ys.length ≤ i ∧ St i h' ∧ Fr h₀ L h' m ∧ h'.Ns H2.objs.size m' ∧ News h₀ L h' ((s₂.heap.objs.size, lst ys) :: nw) ∧
        Off3 I H2.objs.size s₂.heap.objs.size nw ∧ J i ys nw) ?_ (n + 1)
      ⟨h₁, _, ⟨s₂.gens, hB⟩, 0, [], _, news, rfl, Nat.zero_le _, rfl, Nat.le_refl _, hst₁, F.keeps old, hns₁, fun p hp => ?_, off₀, hJ⟩
    · rintro k s' ⟨h', tk, g, i, ys, m', nw, rfl, hi, rfl, hyl, hst', F', hn', N', off', hJ'⟩
      by_cases hlt : i < n
      · refine W.item i _ _ _ hlt hst' fun v h₂ tk₂ hPv hst₂ hk₂ => ?_
        refine ht (i + 1) v _ _ _ hst₂ ?_
        obtain ⟨oI, heI, hiI⟩ := hIo _ _ hst₂
        have hn₂ : h₂.Ns H2.objs.size m' := hn'.at' fun o e => hk₂ _ o (by simpa using Ne.symm hCI) e
        obtain ⟨oC, heC, hoC⟩ := ns_obj hn₂
        have F₂ : Fr h₀ L h₂ m := fr_but F' hk₂ hIL hI₀
        have off3 := off'.mem
        have N₂ : News h₀ L h₂ ((s₂.heap.objs.size, lst ys) :: nw) := news_but N' hk₂ fun p hp => by
          rcases List.mem_cons.mp hp with rfl | hp
          · exact Ne.symm hDI
          · exact (off3 p hp).1
        have N₃ : News h₀ L h₂ ((I, oI) :: (H2.objs.size, oC) :: (s₂.heap.objs.size, lst ys) :: nw) := fun p hp => by
          rcases List.mem_cons.mp hp with rfl | hp
          · exact ⟨heI, Ne.symm hIL, hI₀⟩
          · rcases List.mem_cons.mp hp with rfl | hp
            · exact ⟨heC, hCL, hC₀⟩
            · exact N₂ p hp
        refine wpAny_mono (R i v I oI H2.objs.size oC s₂.heap.objs.size m' h₂ tk₂ g ys nw _ hiI hPv hJ' hoC F₂ N₃ off' hCI hDI (Ne.symm hDC)) (fun _ s₃ h₃ => ?_) fun _ _ e => e
        refine wpAny_mono h₃ (fun ok s₄ h₄ => ?_) fun _ _ e => e
        cases ok with
        | true =>
          simp only [if_true] at h₄ ⊢
          refine wpAny_mono h₄ (fun y s₅ h₅ => ?_) fun _ _ e => e
          obtain ⟨h₆, tk₆, g₆, oC', mC', news₆, nx, rfl, F₆, N₆, zI, zC, zD, hns₆, hnx, off₆, hJ₆⟩ := h₅
          have hst₆ : St (i + 1) h₆ := hSt _ _ _ _ _ _ _ hJ₆ hst₂ heI (N₆ _ zI).1 F₆ fun p hp => N₆ p (hnx p hp)
          refine append_at (hsz := by show ys.toArray.size ≤ sizeLine; rw [List.size_toArray]; exact Nat.le_trans (Nat.le_trans hyl hi) hsz) (N₆ _ zD).1 fun h₇ hs₇ hD₇ => ?_
          have off4 := off₆.mem
          refine ⟨n + 1 - (i + 1), by omega, h₇, tk₆, g₆, i + 1, ys ++ [y], _, nx, rfl, hlt, rfl, by rw [List.length_append, List.length_singleton]; exact Nat.succ_le_succ hyl, W.frame _ _ _ hst₆ fun b hb o e => hs₇.extBut b o (fun q => hDf (q ▸ hb)) e, F₆.change hs₇ hDL hD₀,
            (hns₆.ns (N₆ _ zC).1).sameBut hs₇ (Ne.symm hDC), fun p hp => ?_, off₆, hJ₆⟩
          rcases List.mem_cons.mp hp with rfl | hp
          · exact ⟨hD₇.trans (congrArg some (lst_snoc ys y)), hDL, hD₀⟩
          · exact ⟨hs₇.extBut _ _ (off4 p hp).2.2 (N₆ p (hnx p hp)).1, (N₆ p (hnx p hp)).2⟩
        | false =>
          simp only [Bool.false_eq_true, if_false] at h₄ ⊢
          obtain ⟨h₆, tk₆, g₆, oC', mC', news₆, nx, rfl, F₆, N₆, zI, zC, zD, hns₆, hnx, off₆, hJ₆⟩ := h₄
          have hst₆ : St (i + 1) h₆ := hSt _ _ _ _ _ _ _ hJ₆ hst₂ heI (N₆ _ zI).1 F₆ fun p hp => N₆ p (hnx p hp)
          refine ⟨n + 1 - (i + 1), by omega, h₆, tk₆, g₆, i + 1, ys, _, nx, rfl, hlt, rfl, Nat.le_succ_of_le hyl, hst₆, F₆, hns₆.ns (N₆ _ zC).1, fun p hp => ?_, off₆, hJ₆⟩
          rcases List.mem_cons.mp hp with rfl | hp
          · exact N₆ _ zD
          · exact N₆ p (hnx p hp)
      · obtain rfl : i = n := Nat.le_antisymm hi (Nat.not_lt.mp hlt)
        refine W.done _ _ _ hst' fun h₂ tk₂ hk₂ => ?_
        have off3 := off'.mem
        exact hRR _ _ h₂ tk₂ g _ ys nw (fr_but F' hk₂ hIL hI₀) (news_but N' hk₂ fun p hp => by
          rcases List.mem_cons.mp hp with rfl | hp
          · exact Ne.symm hDI
          · exact (off3 p hp).1) off'.one (hn'.at' fun o e => hk₂ _ o (by simpa using Ne.symm hCI) e) hC₀ hD₀ hCL hDL (Ne.symm hDC) (fun p hp => (off3 p hp).2.1) hJ'
    · rcases List.mem_cons.mp hp with rfl | hp
      · exact ⟨hacc, hDL, hD₀⟩
      · exact ⟨old _ _ (N p hp).1, (N p hp).2⟩
  exact codeAny_compStart_list (loop _ rfl) (W.self 0 _ _ _ hst₁ (loop _ rfl))
end
end Mine
end

section
open PySem PySem.W PyProof.Rows PySem.Calls PySem.Spec
set_option maxRecDepth 100000
set_option maxHeartbeats 8000000
namespace Mine
section
open LCg
variable {prog : Program} {w : World} {A : Around} {E : Value → Shared → Prop} {s : Shared} {h₀ : Heap} {L : Addr} {m : Str → Option Value} {env : Env}

theorem CTurn.n0K {x : Str} {px : Pos} {elt : Expr} {scope : Scope} {cl : List (Str × Addr)} {P : Nat → Value → Prop} {J : Nat → List Value → List (Addr × Obj) → Prop} (hkind : scope.kind = .function) (hx : scope.names.lookup x = some .local)
    (h : ∀ i v I oI C oC D mC h tk (g : BG) ys nw (E' : Value → Shared → Prop), ItObj oI → P i v → J i ys nw → NsObj oC mC → mC x = some v → Fr h₀ L h m → News h₀ L h ((I, oI) :: (C, oC) :: (D, lst ys) :: nw) → Off3 I C D nw → ((@Ne Nat I C) ∧ (@Ne Nat I D) ∧ (@Ne Nat C D)) →
      wpAny (model prog w) A (eval elt (compEnvC scope cl C env)) (fun y s₄ => CEnd h₀ L m I C D oI ys (J (i + 1) (ys ++ [y])) { s with heap := h, toks := tk, gens := g } s₄) E' { s with heap := h, toks := tk, gens := g }) :
    CTurn prog w A h₀ L m env (.Name x px) elt [] scope cl s P J := by
  intro i v I oI C oC D mC h₁ tk g ys nw E' hiI hP hJ hns F N off n1 n2 n3
  refine wpAny_assign_Name (wpAny_storeName_local (lookup_relabel_local hx) (hns.ns (N (C, oC) (List.mem_cons_of_mem _ List.mem_cons_self)).1) (fun h₃ hn₃ hs₃ => ?_) (by simp [compEnvC, relabel, hkind]))
  obtain ⟨oC', heC, hoC⟩ := ns_obj hn₃
  have hC := (N (C, oC) (List.mem_cons_of_mem _ List.mem_cons_self))
  refine wpAny_tests_nil ?_
  simp only [if_true]
  have off3 := off.mem
  have key := h i v I oI C oC' D _ h₃ (tk + 1) g ys nw E' hiI hP hJ hoC (by simp) (F.change hs₃ hC.2.1 hC.2.2) (fun p hp => ?_) off ⟨n1, n2, n3⟩
  · refine wpAny_mono key (fun y s₄ q => ?_) fun _ _ e => e
    obtain ⟨h₆, tk₆, g₆, oC', mC', news₆, nx, rfl, r⟩ := q
    exact ⟨h₆, tk₆, g₆, oC', mC', news₆, nx, rfl, r⟩
  · rcases List.mem_cons.mp hp with rfl | hp
    · have z := N _ List.mem_cons_self
      exact ⟨hs₃.extBut _ _ n1 z.1, z.2⟩
    · rcases List.mem_cons.mp hp with rfl | hp
      · exact ⟨heC, hC.2⟩
      · have z := N p (List.mem_cons_of_mem _ (List.mem_cons_of_mem _ hp))
        refine ⟨hs₃.extBut _ _ ?_ z.1, z.2⟩
        rcases List.mem_cons.mp hp with rfl | hp
        · exact Ne.symm n3
        · exact (off3 p hp).2.1

theorem CTurn.n0 {x : Str} {px : Pos} {elt : Expr} {scope : Scope} {cl : List (Str × Addr)} {P : Nat → Value → Prop} {J : Nat → List Value → List (Addr × Obj) → Prop} (hkind : scope.kind = .function) (hx : scope.names.lookup x = some .local)
    (h : ∀ i v I oI C oC D mC h tk (g : BG) ys nw (E' : Value → Shared → Prop), P i v → J i ys nw → NsObj oC mC → mC x = some v → Fr h₀ L h m → News h₀ L h ((I, oI) :: (C, oC) :: (D, lst ys) :: nw) → Off3 I C D nw → ((@Ne Nat I C) ∧ (@Ne Nat I D) ∧ (@Ne Nat C D)) →
      wpAny (model prog w) A (eval elt (compEnvC scope cl C env)) (fun y s₄ => CEnd h₀ L m I C D oI ys (J (i + 1) (ys ++ [y])) { s with heap := h, toks := tk, gens := g } s₄) E' { s with heap := h, toks := tk, gens := g }) :
    CTurn prog w A h₀ L m env (.Name x px) elt [] scope cl s P J :=
  CTurn.n0K hkind hx fun i v I oI C oC D mC h' tk g ys nw E' _ => h i v I oI C oC D mC h' tk g ys nw E'

theorem CTurn.n1 {x : Str} {px : Pos} {elt c : Expr} {scope : Scope} {cl : List (Str × Addr)} {P : Nat → Value → Prop} {J : Nat → List Value → List (Addr × Obj) → Prop} (hkind : scope.kind = .function) (hx : scope.names.lookup x = some .local)
    (h : ∀ i v I oI C oC D mC h tk (g : BG) ys nw (E' : Value → Shared → Prop), P i v → J i ys nw → NsObj oC mC → mC x = some v → Fr h₀ L h m → News h₀ L h ((I, oI) :: (C, oC) :: (D, lst ys) :: nw) → Off3 I C D nw → ((@Ne Nat I C) ∧ (@Ne Nat I D) ∧ (@Ne Nat C D)) →
      wpAny (model prog w) A (isTrue c (compEnvC scope cl C env) (eval c (compEnvC scope cl C env))) (fun ok s₃ => if ok = true then
        wpAny (model prog w) A (eval elt (compEnvC scope cl C env)) (fun y s₄ => CEnd h₀ L m I C D oI ys (J (i + 1) (ys ++ [y])) { s with heap := h, toks := tk, gens := g } s₄) E' s₃
        else CEnd h₀ L m I C D oI ys (J (i + 1) ys) { s with heap := h, toks := tk, gens := g } s₃) E' { s with heap := h, toks := tk, gens := g }) :
    CTurn prog w A h₀ L m env (.Name x px) elt [c] scope cl s P J := by
  intro i v I oI C oC D mC h₁ tk g ys nw E' hiI hP hJ hns F N off n1 n2 n3
  refine wpAny_assign_Name (wpAny_storeName_local (lookup_relabel_local hx) (hns.ns (N (C, oC) (List.mem_cons_of_mem _ List.mem_cons_self)).1) (fun h₃ hn₃ hs₃ => ?_) (by simp [compEnvC, relabel, hkind]))
  obtain ⟨oC', heC, hoC⟩ := ns_obj hn₃
  have hC := (N (C, oC) (List.mem_cons_of_mem _ List.mem_cons_self))
  refine wpAny_tests_one ?_
  have off3 := off.mem
  have key := h i v I oI C oC' D _ h₃ (tk + 1) g ys nw E' hP hJ hoC (by simp) (F.change hs₃ hC.2.1 hC.2.2) (fun p hp => ?_) off ⟨n1, n2, n3⟩
  · refine wpAny_mono key (fun ok s₃ q => ?_) fun _ _ e => e
    cases ok with
    | true =>
      simp only [if_true] at q ⊢
      refine wpAny_mono q (fun y s₄ q => ?_) fun _ _ e => e
      obtain ⟨h₆, tk₆, g₆, oC', mC', news₆, nx, rfl, r⟩ := q
      exact ⟨h₆, tk₆, g₆, oC', mC', news₆, nx, rfl, r⟩
    | false =>
      simp only [Bool.false_eq_true, if_false] at q ⊢
      obtain ⟨h₆, tk₆, g₆, oC', mC', news₆, nx, rfl, r⟩ := q
      exact ⟨h₆, tk₆, g₆, oC', mC', news₆, nx, rfl, r⟩
  · rcases List.mem_cons.mp hp with rfl | hp
    · have z := N _ List.mem_cons_self
      exact ⟨hs₃.extBut _ _ n1 z.1, z.2⟩
    · rcases List.mem_cons.mp hp with rfl | hp
      · exact ⟨heC, hC.2⟩
      · have z := N p (List.mem_cons_of_mem _ (List.mem_cons_of_mem _ hp))
        refine ⟨hs₃.extBut _ _ ?_ z.1, z.2⟩
        rcases List.mem_cons.mp hp with rfl | hp
        · exact Ne.symm n3
        · exact (off3 p hp).2.1

/-- the source stands: its iterator walks, the turns hold, and the end -/
noncomputable def CSrc (prog : Program) (w : World) (A : Around) (h₀ : Heap) (L : Addr) (m : Str → Option Value) (env : Env) (target elt : Expr) (ifs : List Expr) (scope : Scope) (cl : List (Str × Addr)) (E : Value → Shared → Prop)
    (Fin : Shared → List Value → List (Addr × Obj) → Prop) (xv : Value) (s₁ : Shared) : Prop :=
  wpAny (model prog w) A (pyIter xv) (fun it s₂ => ∃ I fp n P St J nw, it = .ref I ∧ AllBare s₂.gens ∧ Walks prog w A I fp [I] n P St ∧ n ≤ sizeLine ∧ (∀ i h, St i h → ∃ o, h.get? I = some o ∧ ItObj o) ∧
    (∀ i i' ys nw h h' o, J i' ys nw → St i h → h.get? I = some o → h'.get? I = some o → Fr h₀ L h' m → News h₀ L h' nw → St i h') ∧ St 0 s₂.heap ∧ (∀ b ∈ fp, b < s₂.heap.objs.size) ∧
    Fr h₀ L s₂.heap m ∧ News h₀ L s₂.heap nw ∧ L ≠ I ∧ h₀.get? I = none ∧ (∀ p ∈ nw, p.1 ≠ I) ∧ J 0 [] nw ∧ CTurn prog w A h₀ L m env target elt ifs scope cl s₂ P J ∧ (∀ i v (s' : Shared) (Q' : Unit → Shared → Prop) (E' : Value → Shared → Prop), St i s'.heap → Q' () s' → wpAny (model prog w) A (letOwnedTupleGo target (.ref I) v) Q' E' s') ∧
    ∀ ys nw, J n ys nw → Fin s₂ ys nw) E s₁

noncomputable def FinEG (h₀ : Heap) (L : Addr) (m : Str → Option Value) (Q : Value → Shared → Prop) (s : Shared) (ys : List Value) (news : List (Addr × Obj)) : Prop :=
  ∀ D h tk (g : BG), Fr h₀ L h m → News h₀ L h ((D, lst ys) :: news) → Off1 D news → Q (.ref D) { s with heap := h, toks := tk, gens := g }
noncomputable def FinAG (h₀ : Heap) (L : Addr) (m : Str → Option Value) (y : Str) (Q : Flow → Shared → Prop) (s : Shared) (ys : List Value) (news : List (Addr × Obj)) : Prop :=
  ∀ D h tk (g : BG), Fr h₀ L h (fun z => if z = y then some (.ref D) else m z) → News h₀ L h ((D, lst ys) :: news) → Off1 D news → Q .next { s with heap := h, toks := tk, gens := g }

theorem comp_E {target elt iter : Expr} {ifs : List Expr} {scope : Scope} {cl : List (Str × Addr)} {pos : Pos} {Q : Value → Shared → Prop} (F₀ : Fr h₀ L s.heap m)
    (hclos : closureFor scope env = pure cl) (hcell : ∀ y ∈ scope.names, y.2 ≠ .cell) (hkind : scope.kind = .function)
    (hnames : ∀ y ∈ scope.names, y.2 = .local → scope.names.lookup y.1 = some .local)
    (h : wpAny (model prog w) A (eval iter env) (CSrc prog w A h₀ L m env target elt ifs scope cl E (FinEG h₀ L m Q)) E s)
    (hs : ∀ x, foldedSetIterable iter env x = pure x := by intro _; rfl) :
    wpAny (model prog w) A (eval (.ListComp elt [⟨target, iter, ifs, 0⟩] scope pos) env) Q E s := by
  revert F₀ hclos hcell hkind hnames h hs
  revert prog w A E s h₀ L m env target elt iter ifs scope cl pos Q
  intros prog w A E s h₀ L m env target elt iter ifs scope cl pos Q F₀ hclos hcell hkind hnames h hs
  rw [eval_ListComp]
  refine wpAny_comprehension_free (use := none) rfl hs hclos hkind hnames (wpAny_mono h (fun xv s₁ h₁ => wpAny_mono h₁ (fun it s₂ h₂ => ?_) fun _ _ e => e) fun _ _ e => e)
  obtain ⟨I, fp, n, P, St, J, nw, rfl, hBg, W, hsz, hIo, hSt, hst, hfp, F, N, hLI, hI0, off, hJ, T, hgo, fin⟩ := h₂
  refine comp_block J W hsz hIo hSt hcell hkind hst hfp F N hLI hI0 off hJ T (fun D C h tk g m' ys nw F' N' o1 hn hC₀ hD₀ hCL hDL hCD offC hJ => ?_) hgo
  refine ⟨m', hn, fun h'' hs'' => fin ys nw hJ D h'' tk g (F'.change hs'' hCL hC₀) (fun p hp => ?_) o1⟩
  refine ⟨hs''.extBut _ _ ?_ (N' p hp).1, (N' p hp).2⟩
  rcases List.mem_cons.mp hp with rfl | hp
  · exact Ne.symm hCD
  · exact offC p hp

theorem comp_A {target elt iter : Expr} {ifs : List Expr} {y : Str} {py : Pos} {scope : Scope} {cl : List (Str × Addr)} {pos spos : Pos} {Q : Flow → Shared → Prop} (F₀ : Fr h₀ env.locals s.heap m)
    (hsw : swapsWith (.ListComp elt [⟨target, iter, ifs, 0⟩] scope pos) (some (.Name y py)) spos.line env = pure true)
    (hclos : closureFor scope env = pure cl) (hcell : ∀ z ∈ scope.names, z.2 ≠ .cell) (hkind : scope.kind = .function)
    (hnames : ∀ z ∈ scope.names, z.2 = .local → scope.names.lookup z.1 = some .local)
    (hy : env.kindOf y = some .local) (hp : (env.scope.kind == .class || (env.scope.kind == .module && env.locals != env.globals)) = false)
    (h : wpAny (model prog w) A (eval iter env) (CSrc prog w A h₀ env.locals m env target elt ifs scope cl E (FinAG h₀ env.locals m y Q)) E s)
    (hs : ∀ x, foldedSetIterable iter env x = pure x := by intro _; rfl) :
    wpAny (model prog w) A (exec (.Assign [.Name y py] (.ListComp elt [⟨target, iter, ifs, 0⟩] scope pos) spos) env) Q E s := by
  revert F₀ hsw hclos hcell hkind hnames hy hp h hs
  revert prog w A E s h₀ m env target elt iter ifs y py scope cl pos spos Q
  intros prog w A E s h₀ m env target elt iter ifs y py scope cl pos spos Q F₀ hsw hclos hcell hkind hnames hy hp h hs
  rw [exec_Assign_Name_used _ _ _ _ hsw]
  refine wpAny_bind (wpAny_standAt (wpAny_bind ?_))
  show wpAny _ A (do let _ ← comprehension (.ListComp elt [⟨target, iter, ifs, 0⟩] scope pos) scope env _ (newList []) false (eval iter env) (some (assign (.Name y py) env))) _ _ s
  refine wpAny_bind (wpAny_mono (wpAny_comprehension_free (use := some (assign (.Name y py) env)) (Q := fun _ s' => Q .next s') rfl hs hclos hkind hnames
    (wpAny_mono h (fun xv s₁ h₁ => wpAny_mono h₁ (fun it s₂ h₂ => ?_) fun _ _ e => e) fun _ _ e => e)) (fun _ s' hq => wpAny_pure (wpAny_pure hq)) fun _ _ e => e)
  obtain ⟨I, fp, n, P, St, J, nw, rfl, hBg, W, hsz, hIo, hSt, hst, hfp, F, N, hLI, hI0, off, hJ, T, hgo, fin⟩ := h₂
  refine comp_block J W hsz hIo hSt hcell hkind hst hfp F N hLI hI0 off hJ T (fun D C h' tk g m' ys nw F' N' o1 hn hC₀ hD₀ hCL hDL hCD offC hJ => ?_) hgo
  show wpAny _ A (assign (.Name y py) env (.ref D)) _ _ _
  refine wpAny_assign_Name (wpAny_storeName_local hy F'.ns (fun h₂ hn₂ hs₂ => ?_) hp)
  have hL₀ : h₀.get? env.locals = none := Heap.get?_none_of_le F'.above
  have F₂ : Fr h₀ env.locals h₂ (fun z => if z = y then some (.ref D) else m z) := ⟨hn₂, fun b o e => hs₂.extBut b o (fun q => by rw [q, hL₀] at e; cases e) (F'.keep b o e), F'.above⟩
  refine ⟨m', hn.sameBut hs₂ hCL, fun h'' hs'' => fin ys nw hJ D h'' _ g (F₂.change hs'' hCL hC₀) (fun p hp => ?_) o1⟩
  have z : h₂.get? p.1 = some p.2 := hs₂.extBut _ _ (N' p hp).2.1 (N' p hp).1
  refine ⟨hs''.extBut _ _ ?_ z, (N' p hp).2⟩
  rcases List.mem_cons.mp hp with rfl | hp
  · exact Ne.symm hCD
  · exact offC p hp

theorem CSrc.list {target elt : Expr} {ifs : List Expr} {scope : Scope} {cl : List (Str × Addr)} {Fin : Shared → List Value → List (Addr × Obj) → Prop} {ax : Addr} {vs : List Value} {nw : List (Addr × Obj)} {s₁ : Shared}
    (J : Nat → List Value → List (Addr × Obj) → Prop) (hh : A.handled = none) (F : Fr h₀ L s₁.heap m) (N : News h₀ L s₁.heap nw) (hl : s₁.heap.IsList ax vs.toArray) (hsz : vs.length ≤ sizeLine)
    (hJl : ∀ i ys nw h', J i ys nw → Fr h₀ L h' m → News h₀ L h' nw → h'.IsList ax vs.toArray) (hJ : J 0 [] nw)
    (T : ∀ g, CTurn prog w A h₀ L m env target elt ifs scope cl { s₁ with heap := g } (fun i v => vs[i]? = some v) J) (fin : ∀ g ys nw, J vs.length ys nw → Fin { s₁ with heap := g } ys nw)
    (hgo : ∀ I v, letOwnedTupleGo target (.ref I) v = pure () := by intro _ _; rfl) (hB : AllBare s₁.gens := by first | assumption | exact BG.ok _) :
    CSrc prog w A h₀ L m env target elt ifs scope cl E Fin (.ref ax) s₁ := by
  revert hh F N hl hsz hJl hJ T fin hgo hB
  revert prog w A E h₀ L m env target elt ifs scope cl Fin ax vs nw s₁ J
  intros prog w A E h₀ L m env target elt ifs scope cl Fin ax vs nw s₁ J hh F N hl hsz hJl hJ T fin hgo hB
  have hlt : ax < s₁.heap.objs.size := by obtain ⟨_, e, _⟩ := hl; exact Heap.lt_size e
  refine wpAny_pyIter_list hl ?_
  have up : ∀ b o, s₁.heap.get? b = some o → (s₁.heap.push { cls := .type "list_iterator", data := .fields #[.ref ax, .int 0 0] }).get? b = some o := fun b o e => Heap.get?_push_of_some _ e
  refine ⟨s₁.heap.objs.size, _, vs.length, _, _, J, nw, rfl, hB, Walks.list hh s₁.heap.objs.size ax (Nat.ne_of_lt hlt) vs.toArray, hsz, (fun i h st => by obtain ⟨o, e, _, hd⟩ := st.1; exact ⟨o, e, fun vs hv => by rw [hd] at hv; cases hv; exact ⟨_, _, rfl⟩⟩), ?_, ⟨⟨_, Heap.get?_push_size _ rfl, rfl, rfl⟩, hl.push _⟩, (fun b hb => ?_),
      F.keeps up, N.grown up, Nat.ne_of_lt F.ns.lt, next_is_new F, (fun p hp => Nat.ne_of_lt (Heap.lt_size (N p hp).1)), hJ, ?_, (fun i v s' Q' E' _ q => wpAny_of_eq (hgo _ v) q), fin _⟩
  · intro i i' ys nw h h' o hJ st e e' F' N'
    exact ⟨by obtain ⟨o', q, r⟩ := st.1; rw [e] at q; cases q; exact ⟨o, e', r⟩, hJl i' ys nw h' hJ F' N'⟩
  · show b < (s₁.heap.push _).objs.size
    rw [Heap.size_push]
    rcases List.mem_cons.mp hb with rfl | hb
    · exact Nat.lt_succ_self _
    · rw [List.mem_singleton.mp hb]; exact Nat.lt_succ_of_lt hlt
  · have := T (s₁.heap.push { cls := .type "list_iterator", data := .fields #[.ref ax, .int 0 0] })
    simpa using this

theorem CSrc.range {target elt : Expr} {ifs : List Expr} {scope : Scope} {cl : List (Str × Addr)} {Fin : Shared → List Value → List (Addr × Obj) → Prop} {r : Addr} {b : Int} {t u v : Tok} {n : Nat} {nw : List (Addr × Obj)} {s₁ : Shared}
    (J : Nat → List Value → List (Addr × Obj) → Prop) (hh : A.handled = none) (F : Fr h₀ L s₁.heap m) (N : News h₀ L s₁.heap nw) (hr : IsRange s₁.heap r 0 b 1 t u v) (hsm : Builtin.Range.small 0 b 1 = true) (hn : Builtin.Range.rangeSize 0 b 1 = ((n : Nat) : Int)) (hsz : n ≤ sizeLine)
    (hJ : J 0 [] nw)
    (T : ∀ g, CTurn prog w A h₀ L m env target elt ifs scope cl { s₁ with heap := g } (fun i v => i < n ∧ ∃ t, v = .int ((i : Nat) : Int) t) J) (fin : ∀ g ys nw, J n ys nw → Fin { s₁ with heap := g } ys nw)
    (hgo : ∀ I v, letOwnedTupleGo target (.ref I) v = pure () := by intro _ _; rfl) (hB : AllBare s₁.gens := by first | assumption | exact BG.ok _) :
    CSrc prog w A h₀ L m env target elt ifs scope cl E Fin (.ref r) s₁ := by
  revert hh F N hr hsm hn hsz hJ T fin hgo hB
  revert prog w A E h₀ L m env target elt ifs scope cl Fin r b t u v n nw s₁ J
  intros prog w A E h₀ L m env target elt ifs scope cl Fin r b t u v n nw s₁ J hh F N hr hsm hn hsz hJ T fin hgo hB
  refine wpAny_pyIter_range hr hsm ?_
  refine ⟨_, _, n, _, _, J, nw, rfl, hB, (Walks.range hh _ 0 1 n).bound, hsz, fun i h st => ⟨_, st, fun vs hv => by cases hv; exact ⟨_, _, rfl⟩⟩, ?_, by show IsRangeIter _ _ _ _ _; rw [hn]; simpa using Heap.get?_push_size _ rfl, (fun b hb => ?_),
      (F.keeps fun _ _ e => Heap.get?_push_of_some _ e), (N.grown fun _ _ e => Heap.get?_push_of_some _ e), (Nat.ne_of_lt F.ns.lt), (next_is_new F), (fun p hp => Nat.ne_of_lt (Heap.lt_size (N p hp).1)), hJ, ?_, (fun i v s' Q' E' _ q => wpAny_of_eq (hgo _ v) q), fin _⟩
  · intro i i' ys nw h h' o hJ st e e' F' N'
    have st' : h.get? _ = some _ := st
    show h'.get? _ = some _
    rw [e', ← e]; exact st'
  · rw [List.mem_singleton.mp hb]
    show s₁.heap.objs.size < (s₁.heap.push _).objs.size
    rw [Heap.size_push]; exact Nat.lt_succ_self _
  · have := T (s₁.heap.push { cls := .type "range_iterator", data := .fields #[.int 0 0, .int (n : Int) 0, .int 1 0] })
    intro i v I oI C oC D mC h tk g ys nw E' hiI hP
    exact this i v I oI C oC D mC h tk g ys nw E' hiI (by obtain ⟨hi, t, rfl⟩ := hP; exact ⟨hi, t, by simp⟩)
end
end Mine
end

section
open PySem PySem.W PyProof.Rows PySem.Calls PySem.Spec
set_option maxRecDepth 100000
set_option maxHeartbeats 8000000
namespace Mine
/-! ### a list comprehension of two clauses -/
section
variable {prog : Program} {w : World} {A : Around} {R : Result → Shared → Prop} {s : Shared}

theorem compTurn_in (elt t1 i1 t2 i2 : Expr) (scope : Scope) (pos : Pos) (it acc : Value) (env : Env) :
    compTurn (.ListComp elt [⟨t1, i1, [], 0⟩, ⟨t2, i2, [], 0⟩] scope pos) 1 it acc env = (standAt i2.pos >>= fun _ => pyNext it >>= fun r => match r with
      | none => pure (.done .next)
      | some v => letOwnedTupleGo t2 it v >>= fun _ => assign t2 env v >>= fun _ =>
        (eval elt env >>= fun x => call (.builtin "list.append") [acc, x] >>= fun _ => pure ()) >>= fun _ =>
          again (.compLoop (.ListComp elt [⟨t1, i1, [], 0⟩, ⟨t2, i2, [], 0⟩] scope pos) 1 it acc env)) := by rfl

theorem compTurn_out (elt t1 i1 t2 i2 : Expr) (scope : Scope) (pos : Pos) (it acc : Value) (env : Env) :
    compTurn (.ListComp elt [⟨t1, i1, [], 0⟩, ⟨t2, i2, [], 0⟩] scope pos) 0 it acc env = (standAt i1.pos >>= fun _ => pyNext it >>= fun r => match r with
      | none => pure (.done .next)
      | some v => letOwnedTupleGo t1 it v >>= fun _ => assign t1 env v >>= fun _ =>
        eval i2 env >>= fun x => standAt i2.pos >>= fun _ => foldedSetIterable i2 env x >>= fun x => holding [x] (pyIter x) >>= fun it2 => runOwn (.compStart (.ListComp elt [⟨t1, i1, [], 0⟩, ⟨t2, i2, [], 0⟩] scope pos) 1 it2 acc env) env >>= fun _ =>
          again (.compLoop (.ListComp elt [⟨t1, i1, [], 0⟩, ⟨t2, i2, [], 0⟩] scope pos) 0 it acc env)) := by rfl

theorem codeAny_compLoop_in {elt t1 i1 t2 i2 : Expr} {scope : Scope} {pos : Pos} {it acc : Value} {env : Env} (I : Nat → Shared → Prop)
    (turn : ∀ n s, I n s → wpAny (model prog w) A (pyNext it) (fun r s₁ => match r with
      | none => R (.ok .next) s₁
      | some v => wpAny (model prog w) A (assign t2 env v) (fun _ s₂ => wpAny (model prog w) A (eval elt env) (fun x s₃ =>
          wpAny (model prog w) A (call (.builtin "list.append") [acc, x]) (fun _ s₄ => ∃ m, m < n ∧ I m s₄) (notedBy (model prog w) A env fun e s' => R (.error e) s') s₃)
          (notedBy (model prog w) A env fun e s' => R (.error e) s') s₂) (notedBy (model prog w) A env fun e s' => R (.error e) s') s₁) (notedBy (model prog w) A env fun e s' => R (.error e) s') s)
    (n : Nat) (h : I n s) (ht : ∀ v, letOwnedTupleGo t2 it v = pure ()) :
    codeAny (model prog w) A (.compLoop (.ListComp elt [⟨t1, i1, [], 0⟩, ⟨t2, i2, [], 0⟩] scope pos) 1 it acc env) R s := by
  refine codeAny_loop rfl I (fun n s hI => ?_) n h
  show wpAny _ _ ((compTurn (.ListComp elt [⟨t1, i1, [], 0⟩, ⟨t2, i2, [], 0⟩] scope pos) 1 it acc env).onRaise (fun x => do noteFrame x env; theTreesLotGoes x)) _ _ s
  refine wpAny_noted ?_
  rw [compTurn_in]
  refine wpAny_bind (wpAny_standAt (wpAny_bind (wpAny_mono (turn n s hI) (fun r s₁ h₁ => ?_) fun _ _ h' => h')))
  cases r with
  | none => exact wpAny_pure h₁
  | some v =>
    refine wpAny_bind (wpAny_of_eq (ht v) ?_)
    exact wpAny_bind (wpAny_mono h₁ (fun _ s₂ h₂ => wpAny_bind (wpAny_bind (wpAny_mono h₂ (fun x s₃ h₃ => wpAny_bind (wpAny_mono h₃
      (fun _ s₄ h₄ => wpAny_pure (wpAny_pure ⟨rfl, h₄⟩)) fun _ _ h' => h')) fun _ _ h' => h'))) fun _ _ h' => h')

theorem codeAny_compLoop_out {elt t1 i1 t2 i2 : Expr} {scope : Scope} {pos : Pos} {it acc : Value} {env : Env} (hA : A.mark none = A) (I : Nat → Shared → Prop)
    (turn : ∀ n s, I n s → wpAny (model prog w) A (pyNext it) (fun r s₁ => match r with
      | none => R (.ok .next) s₁
      | some v => wpAny (model prog w) A (assign t1 env v) (fun _ s₂ => wpAny (model prog w) A (eval i2 env) (fun x s₃ =>
          wpAny (model prog w) A (pyIter x) (fun it2 s₄ => codeAny (model prog w) A (.compStart (.ListComp elt [⟨t1, i1, [], 0⟩, ⟨t2, i2, [], 0⟩] scope pos) 1 it2 acc env)
            (fun r s₅ => match r with | .ok _ => ∃ m, m < n ∧ I m s₅ | .error _ => False) s₄) (notedBy (model prog w) A env fun e s' => R (.error e) s') s₃)
          (notedBy (model prog w) A env fun e s' => R (.error e) s') s₂) (notedBy (model prog w) A env fun e s' => R (.error e) s') s₁) (notedBy (model prog w) A env fun e s' => R (.error e) s') s)
    (n : Nat) (h : I n s) (ht : ∀ v, letOwnedTupleGo t1 it v = pure ()) (hs : ∀ x, foldedSetIterable i2 env x = pure x) :
    codeAny (model prog w) A (.compLoop (.ListComp elt [⟨t1, i1, [], 0⟩, ⟨t2, i2, [], 0⟩] scope pos) 0 it acc env) R s := by
  refine codeAny_loop rfl I (fun n s hI => ?_) n h
  show wpAny _ A ((compTurn (.ListComp elt [⟨t1, i1, [], 0⟩, ⟨t2, i2, [], 0⟩] scope pos) 0 it acc env).onRaise (fun x => do noteFrame x env; theTreesLotGoes x)) _ _ s
  refine wpAny_noted ?_
  rw [compTurn_out]
  refine wpAny_bind (wpAny_standAt (wpAny_bind (wpAny_mono (turn n s hI) (fun r s₁ h₁ => ?_) fun _ _ h' => h')))
  cases r with
  | none => exact wpAny_pure h₁
  | some v =>
    refine wpAny_bind (wpAny_of_eq (ht v) ?_)
    refine wpAny_bind (wpAny_mono h₁ (fun _ s₂ h₂ => wpAny_bind (wpAny_mono h₂ (fun x s₃ h₃ => wpAny_bind (wpAny_standAt (wpAny_bind (wpAny_of_eq (hs x) (wpAny_bind (wpAny_holding (wpAny_mono h₃ (fun it2 s₄ h₄ => ?_) fun _ _ h' => h'))))))) fun _ _ h' => h')) fun _ _ h' => h')
    refine wpAny_bind (wpAny_runOwn (c := .compStart (.ListComp elt [⟨t1, i1, [], 0⟩, ⟨t2, i2, [], 0⟩] scope pos) 1 it2 acc env) (h := none) ?_)
    rw [hA]
    refine codeAny_mono h₄ fun r s₅ q => ?_
    cases r with
    | ok f => exact wpAny_pure ⟨rfl, q⟩
    | error e => exact q.elim

theorem codeAny_compStart_in {elt t1 i1 t2 i2 scope pos it acc env}
    (h0 : codeAny (model prog w) A (.compLoop (.ListComp elt [⟨t1, i1, [], 0⟩, ⟨t2, i2, [], 0⟩] scope pos) 1 it acc env) R s)
    (h : wpAny (model prog w) A (pyIter it) (fun it' s' => codeAny (model prog w) A (.compLoop (.ListComp elt [⟨t1, i1, [], 0⟩, ⟨t2, i2, [], 0⟩] scope pos) 1 it' acc env) R s')
      (notedBy (model prog w) A env fun x s' => R (.error x) s') s) :
    codeAny (model prog w) A (.compStart (.ListComp elt [⟨t1, i1, [], 0⟩, ⟨t2, i2, [], 0⟩] scope pos) 1 it acc env) R s := by
  refine codeAny_of_tree ?_
  show wpAny _ _ ((compStart (.ListComp elt [⟨t1, i1, [], 0⟩, ⟨t2, i2, [], 0⟩] scope pos) 1 it acc env).onRaise (fun x => do noteFrame x env; standAt theWindowsPlace)) _ _ s
  refine wpAny_notedAt ?_
  unfold compStart
  show wpAny _ _ (ask >>= _) _ _ s
  refine wpAny_bind (wpAny_askSetting (wpAny_ite ?_))
  split
  · first
      | exact wpAny_bind (wpAny_pure (wpAny_pure (And.intro rfl h0)))
      | exact wpAny_pure (And.intro rfl h0)
  · first
      | exact wpAny_bind (wpAny_rule (wpAny_bind (wpAny_standAt (wpAny_bind (wpAny_mono h (fun it' s' h' => wpAny_pure (And.intro rfl h')) fun _ _ x => x)))))
      | (refine wpAny_bind (wpAny_rule ?_); show wpAny _ _ (standAt i2.pos >>= _) _ _ s; exact wpAny_bind (wpAny_standAt (wpAny_bind (wpAny_mono h (fun it' s' h' => wpAny_pure (And.intro rfl h')) fun _ _ x => x))))
end

section
open LCg
variable {prog : Program} {w : World} {A : Around} {E : Value → Shared → Prop} {s : Shared} {h₀ : Heap} {L : Addr} {m : Str → Option Value} {env : Env}

theorem strsAre_get {vs : List Value} {ss : List Str} (h : StrsAre vs ss) : ∀ {i : Nat} {v : Value} {x : Str}, vs[i]? = some v → ss[i]? = some x → ∃ t, v = .str x t := by
  induction h with
  | nil => intro i v x hv; simp at hv
  | cons y t _ ih =>
    intro i v x hv hx
    cases i with
    | zero => simp at hv hx; subst hv; subst hx; exact ⟨t, rfl⟩
    | succ i => simp at hv hx; exact ih hv hx
theorem off1_of {D : Addr} : ∀ {l : List (Addr × Obj)}, (∀ p ∈ l, p.1 ≠ D) → Off1 D l
  | [], _ => trivial
  | _ :: _, h => ⟨h _ List.mem_cons_self, off1_of fun p hp => h p (List.mem_cons_of_mem _ hp)⟩
/-- all that stood stands -/
noncomputable def KEnd (h₀ : Heap) (L : Addr) (m : Str → Option Value) (own : List (Addr × Obj)) (s₁ s₂ : Shared) : Prop :=
  ∃ h' tk, ∃ (g' : BG), ∃ news', s₂ = { s₁ with heap := h', toks := tk, gens := g' } ∧ Fr h₀ L h' m ∧ News h₀ L h' news' ∧ ∀ p ∈ own, p ∈ news'
theorem KEnd.introN {own news' : List (Addr × Obj)} {s₁ : Shared} {h' : Heap} {tk : Nat} (F : Fr h₀ L h' m) (N : News h₀ L h' news') (hs : ∀ p ∈ own, p ∈ news') (hBG : AllBare s₁.gens := by first | assumption | exact BG.ok _) : KEnd h₀ L m own s₁ { s₁ with heap := h', toks := tk } := ⟨h', tk, ⟨s₁.gens, hBG⟩, news', rfl, F, N, hs⟩

/-- a value whose iterator walks alone -/
noncomputable def Src2 (prog : Program) (w : World) (A : Around) (n : Nat) (P : Nat → Value → Prop) (xv : Value) (s : Shared) : Prop := ∀ (Q : Value → Shared → Prop) (E : Value → Shared → Prop),
  (∀ (o : Obj) (St : Nat → Heap → Prop), Walks prog w A s.heap.objs.size [s.heap.objs.size] [s.heap.objs.size] n P St → St 0 (s.heap.push o) → (∀ i h, St i h → ∃ o, h.get? s.heap.objs.size = some o) → Q (.ref s.heap.objs.size) { s with heap := s.heap.push o }) →
  wpAny (model prog w) A (pyIter xv) Q E s
theorem Src2.str (hh : A.handled = none) (x : Str) (t : Tok) : Src2 prog w A x.cps.size (SignAt x) (.str x t) s := fun Q E h => by
  cases ha : x.cps.all (· < 128)
  · exact wpAny_pyIter_wide ha (h _ _ (Walks.strWide hh _ x t) ⟨_, Heap.get?_push_size _ rfl, rfl, rfl⟩ fun i h st => let ⟨o, ho, _⟩ := st; ⟨o, ho⟩)
  · exact wpAny_pyIter_ascii ha (h _ _ (Walks.strAscii hh _ x t) ⟨_, Heap.get?_push_size _ rfl, rfl, rfl⟩ fun i h st => let ⟨o, ho, _⟩ := st; ⟨o, ho⟩)
theorem Src2.range {r : Addr} {b : Int} {t u v : Tok} {n : Nat} (hh : A.handled = none) (hr : IsRange s.heap r 0 b 1 t u v) (hsm : Builtin.Range.small 0 b 1 = true) (hn : Builtin.Range.rangeSize 0 b 1 = ((n : Nat) : Int)) :
    Src2 prog w A n (fun i v => i < n ∧ ∃ t, v = .int ((i : Nat) : Int) t) (.ref r) s := fun Q E h => by
  refine wpAny_pyIter_range hr hsm ?_
  have W := (Walks.range (prog := prog) (w := w) hh s.heap.objs.size 0 1 n).bound
  refine h _ _ (Walks.mk W.sub W.frame (fun i s Q E hi st hQ => W.item i s Q E hi st fun v h' tk hP => hQ v h' tk (by obtain ⟨hi, t, rfl⟩ := hP; exact ⟨hi, t, by simp⟩)) W.done W.self) (by show IsRangeIter _ _ _ _ _; rw [hn]; simpa using Heap.get?_push_size _ rfl) fun i h st => ⟨_, st⟩


/-- the inner loop -/
theorem comp_inner {elt i1 i2 : Expr} {t1 : Expr} {x1 x2 : Str} {p2 : Pos} {scope : Scope} {cl : List (Str × Addr)} {pos : Pos} {s₂ : Shared} {I2 C D : Addr} {n2 : Nat} {P2 : Nat → Value → Prop} {St2 : Nat → Heap → Prop} {x : Str} {tx : Tok} {fx yl : List Str} {own : List (Addr × Obj)} {oC₀ : Obj} {ys₀ : List Value} {mC₀ : Str → Option Value}
    {R : Result → Shared → Prop} (hkind : scope.kind = .function) (hx2 : scope.names.lookup x2 = some .local) (hne : x1 ≠ x2) (hn2 : n2 = fx.length) (hB : (yl ++ fx).length ≤ 200)
    (W : Walks prog w A I2 [I2] [I2] n2 P2 St2) (hSo : ∀ i h, St2 i h → ∃ o, h.get? I2 = some o) (hst : St2 0 s₂.heap) (hI2L : I2 ≠ L) (hI20 : h₀.get? I2 = none) (hI2C : I2 ≠ C) (hI2D : I2 ≠ D) (hCD : C ≠ D) (hoff : ∀ p ∈ own, p.1 ≠ I2 ∧ p.1 ≠ C ∧ p.1 ≠ D)
    (F : Fr h₀ L s₂.heap m) (N : News h₀ L s₂.heap ((C, oC₀) :: (D, lst ys₀) :: own)) (hns : NsObj oC₀ mC₀) (hm1 : mC₀ x1 = some (.str x tx)) (hys : StrsAre ys₀ yl)
    (helt : ∀ j v y oC mC h tk (g : BG) own' (E' : Value → Shared → Prop), P2 j v → fx[j]? = some y → NsObj oC mC → mC x1 = some (.str x tx) → mC x2 = some v → Fr h₀ L h m → News h₀ L h own' → (C, oC) ∈ own' → (∀ p ∈ own, p ∈ own') →
      wpAny (model prog w) A (eval elt (compEnvC scope cl C env)) (fun yv s₁ => (∃ ty, yv = .str y ty) ∧ KEnd h₀ L m own' { s₂ with heap := h, toks := tk, gens := g } s₁) E' { s₂ with heap := h, toks := tk, gens := g })
    (fin : ∀ h tk (g : BG) oC mC ys, Fr h₀ L h m → News h₀ L h ((C, oC) :: (D, lst ys) :: own) → NsObj oC mC → StrsAre ys (yl ++ fx) → R (.ok .next) { s₂ with heap := h, toks := tk, gens := g }) (hBB : AllBare s₂.gens := by first | assumption | exact BG.ok _) :
    codeAny (model prog w) A (.compStart (.ListComp elt [⟨t1, i1, [], 0⟩, ⟨.Name x2 p2, i2, [], 0⟩] scope pos) 1 (.ref I2) (.ref D) (compEnvC scope cl C env)) R s₂ := by
  revert hkind hx2 hne hn2 hB W hSo hst hI2L hI20 hI2C hI2D hCD hoff F N hns hm1 hys helt fin hBB
  revert prog w A h₀ L m env elt i1 i2 t1 x1 x2 p2 scope cl pos s₂ I2 C D n2 P2 St2 x tx fx yl own oC₀ ys₀ mC₀ R
  intros prog w A h₀ L m env elt i1 i2 t1 x1 x2 p2 scope cl pos s₂ I2 C D n2 P2 St2 x tx fx yl own oC₀ ys₀ mC₀ R hkind hx2 hne hn2 hB W hSo hst hI2L hI20 hI2C hI2D hCD hoff F N hns hm1 hys helt fin hBB
  have loop : codeAny (model prog w) A (.compLoop (.ListComp elt [⟨t1, i1, [], 0⟩, ⟨.Name x2 p2, i2, [], 0⟩] scope pos) 1 (.ref I2) (.ref D) (compEnvC scope cl C env)) R s₂ := by
    refine codeAny_compLoop_in (fun k s' => ∃ h' tk, ∃ (g : BG), ∃ j ys oC mC, s' = { s₂ with heap := h', toks := tk, gens := g } ∧ j ≤ n2 ∧ k = n2 - j ∧ St2 j h' ∧ Fr h₀ L h' m ∧ News h₀ L h' ((C, oC) :: (D, lst ys) :: own) ∧ NsObj oC mC ∧ mC x1 = some (.str x tx) ∧ StrsAre ys (yl ++ fx.take j)) ?_ n2
      ⟨s₂.heap, s₂.toks, ⟨s₂.gens, hBB⟩, 0, ys₀, oC₀, mC₀, rfl, Nat.zero_le _, rfl, hst, F, N, hns, hm1, by simpa using hys⟩ (fun _ => rfl)
    rintro k s' ⟨h', tk, g, j, ys, oC, mC, rfl, hj, rfl, hst', F', N', hns', hm1', hys'⟩
    have zC := N' (C, oC) List.mem_cons_self
    have zD := N' (D, lst ys) (List.mem_cons_of_mem _ List.mem_cons_self)
    by_cases hlt : j < n2
    · refine W.item j _ _ _ hlt hst' fun v h₂ tk₂ hPv hst₂ hk₂ => ?_
      have F₂ : Fr h₀ L h₂ m := fr_but F' hk₂ (Ne.symm hI2L) hI20
      have keepN : ∀ p ∈ (C, oC) :: (D, lst ys) :: own, p.1 ≠ I2 := fun p hp => by
        rcases List.mem_cons.mp hp with rfl | hp
        · exact Ne.symm hI2C
        · rcases List.mem_cons.mp hp with rfl | hp
          · exact Ne.symm hI2D
          · exact (hoff p hp).1
      have N₂ : News h₀ L h₂ ((C, oC) :: (D, lst ys) :: own) := news_but N' hk₂ keepN
      refine wpAny_assign_Name (wpAny_storeName_local (lookup_relabel_local hx2) (hns'.ns (N₂ (C, oC) List.mem_cons_self).1) (fun h₃ hn₃ hs₃ => ?_) (by simp [compEnvC, relabel, hkind]))
      obtain ⟨oC', heC, hoC⟩ := ns_obj hn₃
      have F₃ : Fr h₀ L h₃ m := F₂.change hs₃ zC.2.1 zC.2.2
      have hst₃ : St2 (j + 1) h₃ := W.frame _ _ _ hst₂ fun b hb o e => hs₃.extBut b o (by rw [List.mem_singleton.mp hb]; exact hI2C) e
      obtain ⟨oI, heI⟩ := hSo _ _ hst₃
      have N₃ : News h₀ L h₃ ((I2, oI) :: (C, oC') :: (D, lst ys) :: own) := fun p hp => by
        rcases List.mem_cons.mp hp with rfl | hp
        · exact ⟨heI, hI2L, hI20⟩
        · rcases List.mem_cons.mp hp with rfl | hp
          · exact ⟨heC, zC.2⟩
          · have z := N₂ p (List.mem_cons_of_mem _ hp)
            refine ⟨hs₃.extBut _ _ ?_ z.1, z.2⟩
            rcases List.mem_cons.mp hp with rfl | hp
            · exact Ne.symm hCD
            · exact (hoff p hp).2.1
      have hj2 : j < fx.length := hn2 ▸ hlt
      refine wpAny_mono (helt j v fx[j] oC' _ h₃ _ _ _ _ hPv (by simp [hj2]) hoC (by simp [hne, hm1']) (by first | w_is_and mem | simp) F₃ N₃ (by first | w_is_and mem | simp) (fun p hp => by first | w_is_and mem | simp [hp])) (fun yv s₄ q => ?_) fun _ _ e => e
      obtain ⟨⟨ty, rfl⟩, h₄, tk₄, g₄, news₄, rfl, F₄, N₄, hs₄⟩ := q
      have hyn := strsAre_length hys'
      refine append_at (hsz := by
        show ys.toArray.size ≤ sizeLine
        rw [List.size_toArray, hyn, sizeLine_eq, List.length_append, List.length_take]
        rw [List.length_append] at hB; omega) (N₄ (D, lst ys) (hs₄ _ (by first | w_is_and mem | simp))).1 fun h₅ hs₅ hD₅ => ?_
      refine ⟨n2 - (j + 1), by omega, h₅, tk₄, g₄, j + 1, ys ++ [.str fx[j] ty], oC', _, rfl, hlt, rfl, W.frame _ _ _ hst₃ (fun b hb o e => ?_), F₄.change hs₅ zD.2.1 zD.2.2, (fun p hp => ?_), hoC, by simp [hne, hm1'], ?_⟩
      · rw [List.mem_singleton.mp hb] at e ⊢
        rw [heI] at e; cases e
        exact hs₅.extBut _ _ hI2D (N₄ _ (hs₄ (I2, oI) (by first | w_is_and mem | simp))).1
      · rcases List.mem_cons.mp hp with rfl | hp
        · exact ⟨hs₅.extBut _ _ hCD (N₄ _ (hs₄ (C, oC') (by first | w_is_and mem | simp))).1, zC.2⟩
        · rcases List.mem_cons.mp hp with rfl | hp
          · exact ⟨hD₅.trans (congrArg some (lst_snoc ys _)), zD.2⟩
          · have z := N₄ p (hs₄ p (by first | w_is_and mem | simp [hp]))
            exact ⟨hs₅.extBut _ _ (hoff p hp).2.2 z.1, z.2⟩
      · rw [List.take_add_one, List.getElem?_eq_getElem hj2, ← List.append_assoc]
        exact strsAre_append hys' (.cons _ _ .nil)
    · obtain rfl : j = n2 := Nat.le_antisymm hj (Nat.not_lt.mp hlt)
      refine W.done _ _ _ hst' fun h₂ tk₂ hk₂ => ?_
      refine fin h₂ tk₂ g oC mC ys (fr_but F' hk₂ (Ne.symm hI2L) hI20) (news_but N' hk₂ fun p hp => ?_) hns' (by rw [hn2, List.take_length] at hys'; exact hys')
      rcases List.mem_cons.mp hp with rfl | hp
      · exact Ne.symm hI2C
      · rcases List.mem_cons.mp hp with rfl | hp
        · exact Ne.symm hI2D
        · exact (hoff p hp).1
  exact codeAny_compStart_in loop (W.self 0 _ _ _ hst loop)

theorem comp2_A {elt i1 i2 : Expr} {x1 x2 yn : Str} {p1 p2 py : Pos} {scope : Scope} {cl : List (Str × Addr)} {pos spos : Pos} {ax : Addr} {vs : List Value} {xs : List Str} {f : Str → List Str} {P2 : Str → Nat → Value → Prop} {nw : List (Addr × Obj)}
    {Q : Flow → Shared → Prop} (_F₀ : Fr h₀ L s.heap m) (hA : A.mark none = A) (hh : A.handled = none)
    (hsw : swapsWith (.ListComp elt [⟨.Name x1 p1, i1, [], 0⟩, ⟨.Name x2 p2, i2, [], 0⟩] scope pos) (some (.Name yn py)) spos.line env = pure true)
    (hclos : closureFor scope env = pure cl) (hcell : ∀ y ∈ scope.names, y.2 ≠ .cell) (hkind : scope.kind = .function) (hnames : ∀ z ∈ scope.names, z.2 = .local → scope.names.lookup z.1 = some .local)
    (hx1 : scope.names.lookup x1 = some .local) (hx2 : scope.names.lookup x2 = some .local) (hne : x1 ≠ x2)
    (hy : env.kindOf yn = some .local) (hp : (env.scope.kind == .class || (env.scope.kind == .module && env.locals != env.globals)) = false) (hLe : env.locals = L)
    (hs1 : ∀ env x, foldedSetIterable i1 env x = pure x) (hs : ∀ env x, foldedSetIterable i2 env x = pure x)
    (h1 : wpAny (model prog w) A (eval i1 env) (fun xv s₁ => xv = .ref ax ∧ KEnd h₀ L m nw s s₁) E s)
    (hax : ∃ o, (ax, o) ∈ nw ∧ o.cls = .type "list" ∧ ∃ n, o.data = .seq vs.toArray n) (hvs : StrsAre vs xs) (hB : (xs.flatMap f).length ≤ 200)
    (hin : ∀ x tx C oC mC h tk (g : BG) own (E' : Value → Shared → Prop), x ∈ xs → NsObj oC mC → mC x1 = some (.str x tx) → Fr h₀ L h m → News h₀ L h own → (C, oC) ∈ own → (∀ p ∈ nw, p ∈ own) →
      wpAny (model prog w) A (eval i2 (compEnvC scope cl C env)) (fun xv s₁ => KEnd h₀ L m own { s with heap := h, toks := tk, gens := g } s₁ ∧ Src2 prog w A (f x).length (P2 x) xv s₁) E' { s with heap := h, toks := tk, gens := g })
    (helt : ∀ x tx j v y C oC mC h tk (g : BG) own (E' : Value → Shared → Prop), x ∈ xs → P2 x j v → (f x)[j]? = some y → NsObj oC mC → mC x1 = some (.str x tx) → mC x2 = some v → Fr h₀ L h m → News h₀ L h own → (C, oC) ∈ own → (∀ p ∈ nw, p ∈ own) →
      wpAny (model prog w) A (eval elt (compEnvC scope cl C env)) (fun yv s₁ => (∃ ty, yv = .str y ty) ∧ KEnd h₀ L m own { s with heap := h, toks := tk, gens := g } s₁) E' { s with heap := h, toks := tk, gens := g })
    (done : ∀ D h tk (g : BG) ys, Fr h₀ L h (fun z => if z = yn then some (.ref D) else m z) → News h₀ L h ((D, lst ys) :: nw) → Off1 D nw → StrsAre ys (xs.flatMap f) → Q .next { s with heap := h, toks := tk, gens := g }) :
    wpAny (model prog w) A (exec (.Assign [.Name yn py] (.ListComp elt [⟨.Name x1 p1, i1, [], 0⟩, ⟨.Name x2 p2, i2, [], 0⟩] scope pos) spos) env) Q E s := by
  revert _F₀ hA hh hsw hclos hcell hkind hnames hx1 hx2 hne hy hp hLe hs1 hs h1 hax hvs hB hin helt done
  revert prog w A E s h₀ L m env elt i1 i2 x1 x2 yn p1 p2 py scope cl pos spos ax vs xs f P2 nw Q
  intros prog w A E s h₀ L m env elt i1 i2 x1 x2 yn p1 p2 py scope cl pos spos ax vs xs f P2 nw Q _F₀ hA hh hsw hclos hcell hkind hnames hx1 hx2 hne hy hp hLe hs1 hs h1 hax hvs hB hin helt done
  subst hLe
  rw [exec_Assign_Name_used _ _ _ _ hsw]
  refine wpAny_bind (wpAny_standAt (wpAny_bind ?_))
  show wpAny _ A (do let _ ← comprehension (.ListComp elt [⟨.Name x1 p1, i1, [], 0⟩, ⟨.Name x2 p2, i2, [], 0⟩] scope pos) scope env _ (newList []) false (eval i1 env) (some (assign (.Name yn py) env))) _ _ s
  refine wpAny_bind (wpAny_mono (wpAny_comprehension_free (use := some (assign (.Name yn py) env)) (Q := fun _ s' => Q .next s') rfl (hs1 env) hclos hkind hnames
    (wpAny_mono h1 (fun xv s₁ q₁ => ?_) fun _ _ e => e)) (fun _ s' hq => wpAny_pure (wpAny_pure hq)) fun _ _ e => e)
  obtain ⟨rfl, h₁, tk₁, g₁, news₁, rfl, F, N₁, hs₁⟩ := q₁
  have N : News h₀ env.locals h₁ nw := fun p hp => N₁ p (hs₁ p hp)
  obtain ⟨oax, hoax, hcax, nax, hdax⟩ := hax
  have hl : h₁.IsList ax vs.toArray := ⟨oax, (N _ hoax).1, hcax, nax, hdax⟩
  refine wpAny_pyIter_list hl ?_
  have hlt : ax < h₁.objs.size := by obtain ⟨_, e, _⟩ := hl; exact Heap.lt_size e
  refine wpAny_newObj_type (wpAny_newFunctionEnv hcell (by intro y hy; simp at hy) (fun h₂ hns₂ hsb₂ => ?_) hkind)
  dsimp only at hns₂ hsb₂ ⊢
  generalize hH1 : h₁.push { cls := .type "list_iterator", data := .fields #[.ref ax, .int 0 0] } = H1 at hns₂ hsb₂ ⊢
  have hD : H1.objs.size = h₁.objs.size + 1 := by rw [← hH1, Heap.size_push]
  generalize hH2 : H1.push { cls := .type "list", dict := none, data := .seq ([] : List Value).toArray } = H2 at hns₂ hsb₂ ⊢
  have hC : H2.objs.size = H1.objs.size + 1 := by rw [← hH2, Heap.size_push]
  have hID : h₁.objs.size ≠ H1.objs.size := neN (by omega)
  have hIC : h₁.objs.size ≠ H2.objs.size := neN (by omega)
  have hDC : H1.objs.size ≠ H2.objs.size := neN (by omega)
  have g1 : ∀ b o, h₁.get? b = some o → H1.get? b = some o := fun b o e => by
    have := Heap.get?_push_of_some { cls := .type "list_iterator", data := .fields #[.ref ax, .int 0 0] } e
    rw [hH1] at this; exact this
  have g2 : ∀ b o, H1.get? b = some o → H2.get? b = some o := fun b o e => by
    have := Heap.get?_push_of_some { cls := .type "list", dict := none, data := .seq ([] : List Value).toArray } e
    rw [hH2] at this; exact this
  have old : ∀ b o, h₁.get? b = some o → h₂.get? b = some o := fun b o e => hsb₂.extBut b o (neN (by have := ltN (Heap.lt_size e); omega)) (Heap.get?_push_of_some _ (g2 _ _ (g1 _ _ e)))
  have fresh₀ : ∀ a, h₁.objs.size ≤ a → h₀.get? a = none := fun a ha => by
    cases e : h₀.get? a with
    | none => rfl
    | some o' => exact absurd (Heap.lt_size (F.keep a o' e)) (Nat.not_lt.mpr ha)
  have hI₀ : h₀.get? h₁.objs.size = none := fresh₀ _ (Nat.le_refl _)
  have hD₀ : h₀.get? H1.objs.size = none := fresh₀ _ (by rw [hD]; exact Nat.le_succ _)
  have hC₀ : h₀.get? H2.objs.size = none := fresh₀ _ (by rw [hC, hD]; exact Nat.le_trans (Nat.le_succ _) (Nat.le_succ _))
  have hLlt : env.locals < h₁.objs.size := F.ns.lt
  have hIL : h₁.objs.size ≠ env.locals := neN (by have := ltN hLlt; omega)
  have hDL : H1.objs.size ≠ env.locals := neN (by have := ltN hLlt; omega)
  have hCL : H2.objs.size ≠ env.locals := neN (by have := ltN hLlt; omega)
  have hgI : h₂.get? h₁.objs.size = some { cls := .type "list_iterator", data := .fields #[.ref ax, .int 0 0] } := hsb₂.extBut _ _ hIC (Heap.get?_push_of_some _ <| g2 _ _ (by
    have := Heap.get?_push_size h₁ (o := { cls := .type "list_iterator", data := .fields #[.ref ax, .int 0 0] }) rfl
    rw [hH1] at this; exact this))
  have hgD : h₂.get? H1.objs.size = some (lst []) := hsb₂.extBut _ _ hDC (Heap.get?_push_of_some _ <| by
    have := Heap.get?_push_size H1 (o := { cls := .type "list", dict := none, data := .seq ([] : List Value).toArray }) rfl
    rw [hH2] at this; exact this)
  have offN : ∀ p ∈ nw, p.1 ≠ h₁.objs.size ∧ p.1 ≠ H2.objs.size ∧ p.1 ≠ H1.objs.size := fun p hp => by
    have := ltN (Heap.lt_size (N p hp).1)
    exact ⟨neN (by omega), neN (by omega), neN (by omega)⟩
  obtain ⟨oC, heC, hoC⟩ := ns_obj hns₂
  generalize hIe : h₁.objs.size = I at *
  generalize hDe : H1.objs.size = D at *
  generalize hCe : H2.objs.size = C at *
  have hW := Walks.list (prog := prog) (w := w) hh I ax (neN (by have := ltN hlt; omega)) vs.toArray
  have hvl := strsAre_length hvs
  have loop : ∀ s₃ : Shared, s₃ = { s with heap := h₂, toks := tk₁ + ([] : List (Str × Value)).length, gens := g₁ } →
      codeAny (model prog w) A (.compLoop (.ListComp elt [⟨.Name x1 p1, i1, [], 0⟩, ⟨.Name x2 p2, i2, [], 0⟩] scope pos) 0 (.ref I) (.ref D) (compEnvC scope cl C env))
        (compPost (model prog w) A E (some (assign (.Name yn py) env)) (fun _ s' => Q .next s') (.ref D) C) s₃ := by
    rintro s₃ rfl
    refine codeAny_compLoop_out hA (fun k s' => ∃ h' tk, ∃ (g : BG), ∃ i ys oI oC mC, s' = { s with heap := h', toks := tk, gens := g } ∧ i ≤ vs.length ∧ k = vs.length - i ∧ (h'.IsListIter I ax i) ∧ Fr h₀ env.locals h' m ∧ News h₀ env.locals h' ((I, oI) :: (C, oC) :: (D, lst ys) :: nw) ∧ NsObj oC mC ∧ StrsAre ys ((xs.take i).flatMap f)) ?_ vs.length
      ⟨h₂, _, g₁, 0, [], { cls := .type "list_iterator", data := .fields #[.ref ax, .int 0 0] }, oC, _, rfl, Nat.zero_le _, rfl, ⟨_, hgI, rfl, rfl⟩, F.keeps old, (fun p hp => ?_), hoC, .nil⟩ (fun _ => rfl) (hs _)
    · rintro k s' ⟨h', tk, g, i, ys, oI, oC, mC, rfl, hi, rfl, hit, F', N', hoC, hys⟩
      have zI := N' (I, oI) List.mem_cons_self
      have zC := N' (C, oC) (List.mem_cons_of_mem _ List.mem_cons_self)
      have zD := N' (D, lst ys) (List.mem_cons_of_mem _ (List.mem_cons_of_mem _ List.mem_cons_self))
      have zN : ∀ p ∈ nw, h'.get? p.1 = some p.2 ∧ p.1 ≠ env.locals ∧ h₀.get? p.1 = none := fun p hp => N' p (List.mem_cons_of_mem _ (List.mem_cons_of_mem _ (List.mem_cons_of_mem _ hp)))
      have hlst : h'.IsList ax vs.toArray := ⟨oax, (zN _ hoax).1, hcax, nax, hdax⟩
      by_cases hlt' : i < vs.length
      · refine hW.item i _ _ _ (by simpa using hlt') ⟨hit, hlst⟩ fun v h₃ tk₃ hPv hst₃ hk₃ => ?_
        have F₃ : Fr h₀ env.locals h₃ m := fr_but F' hk₃ (Ne.symm hIL) hI₀
        have hn₃ : h₃.Ns C mC := (hoC.ns zC.1).at' fun o e => hk₃ _ o (by simpa using Ne.symm hIC) e
        have hxi : i < xs.length := hvl ▸ hlt'
        obtain ⟨tx, rfl⟩ : ∃ tx, v = .str xs[i] tx := by
          have hv : vs[i]? = some v := by simpa using hPv
          exact strsAre_get hvs hv (by simp [hxi])
        refine wpAny_assign_Name (wpAny_storeName_local (lookup_relabel_local hx1) hn₃ (fun h₄ hn₄ hs₄ => ?_) (by simp [compEnvC, relabel, hkind]))
        obtain ⟨oC', heC', hoC'⟩ := ns_obj hn₄
        obtain ⟨oI', heI', hcI', hdI'⟩ := hst₃.1
        have F₄ : Fr h₀ env.locals h₄ m := F₃.change hs₄ hCL hC₀
        have N₄ : News h₀ env.locals h₄ ((I, oI') :: (C, oC') :: (D, lst ys) :: nw) := fun p hp => by
          rcases List.mem_cons.mp hp with rfl | hp
          · exact ⟨hs₄.extBut _ _ hIC heI', zI.2⟩
          · rcases List.mem_cons.mp hp with rfl | hp
            · exact ⟨heC', zC.2⟩
            · rcases List.mem_cons.mp hp with rfl | hp
              · exact ⟨hs₄.extBut _ _ hDC (hk₃ _ _ (by simpa using Ne.symm hID) zD.1), zD.2⟩
              · exact ⟨hs₄.extBut _ _ (offN p hp).2.1 (hk₃ _ _ (by simpa using (offN p hp).1) (zN p hp).1), (zN p hp).2⟩
        have hmem : xs[i] ∈ xs := List.getElem_mem hxi
        refine wpAny_mono (hin xs[i] tx C oC' _ h₄ _ _ _ _ hmem hoC' (by first | w_is_and mem | simp) F₄ N₄ (by first | w_is_and mem | simp) (fun p hp => by first | w_is_and mem | simp [hp])) (fun xv s₅ q => ?_) fun _ _ e => e
        obtain ⟨⟨h₅, tk₅, g₅, news₅, rfl, F₅, N₅, hs₅⟩, hsrc⟩ := q
        refine hsrc _ _ fun o St2 W2 hst2 hSo => ?_
        have N₅' : News h₀ env.locals h₅ ((C, oC') :: (D, lst ys) :: (I, oI') :: nw) := fun p hp => N₅ p (hs₅ p (by
          simp only [List.mem_cons] at hp ⊢
          rcases hp with hp | hp | hp | hp
          · exact .inr (.inl hp)
          · exact .inr (.inr (.inl hp))
          · exact .inl hp
          · exact .inr (.inr (.inr hp))))
        have lt5 : ∀ p ∈ (C, oC') :: (D, lst ys) :: (I, oI') :: nw, p.1 ≠ h₅.objs.size := fun p hp => Nat.ne_of_lt (Heap.lt_size (N₅' p hp).1)
        have hL5 : env.locals < h₅.objs.size := F₅.ns.lt
        refine comp_inner (s₂ := { s with heap := h₅.push o, toks := tk₅, gens := g₅ }) (x1 := x1) (x := xs[i]) (tx := tx) (yl := (xs.take i).flatMap f) (fx := f xs[i]) (own := (I, oI') :: nw) hkind hx2 hne rfl ?_ W2 hSo hst2 (Ne.symm (Nat.ne_of_lt hL5)) (next_is_new F₅) (Ne.symm (lt5 (C, oC') (by first | w_is_and mem | simp))) (Ne.symm (lt5 (D, lst ys) (by first | w_is_and mem | simp))) (Ne.symm hDC) ?_ (F₅.push _) (fun p hp => ⟨Heap.get?_push_of_some _ (N₅' p hp).1, (N₅' p hp).2⟩) hoC' (by first | w_is_and mem | simp) hys ?_ ?_
        · have hle : ((xs.take i).flatMap f ++ f xs[i]).length ≤ (xs.flatMap f).length := by
            have e : (xs.take (i + 1)).flatMap f = (xs.take i).flatMap f ++ f xs[i] := by
              rw [List.take_add_one, List.getElem?_eq_getElem hxi, List.flatMap_append]; simp
            rw [← e]
            conv => rhs; rw [← List.take_append_drop (i + 1) xs, List.flatMap_append, List.length_append]
            exact Nat.le_add_right _ _
          exact Nat.le_trans hle hB
        · intro p hp
          rcases List.mem_cons.mp hp with rfl | hp
          · exact ⟨lt5 (I, oI') (by first | w_is_and mem | simp), hIC, hID⟩
          · exact ⟨lt5 p (by first | w_is_and mem | simp [hp]), (offN p hp).2.1, (offN p hp).2.2⟩
        · intro j v y oC₂ mC₂ hh₂ tk₂ g₂ own' E' hP hy' hns hm1 hm2 FF NN hmC hown
          exact helt xs[i] tx j v y C oC₂ mC₂ hh₂ tk₂ g₂ own' E' hmem hP hy' hns hm1 hm2 FF NN hmC (fun p hp => hown p (List.mem_cons_of_mem _ hp))
        · intro h₆ tk₆ g₆ oC₆ mC₆ ys₆ F₆ N₆ hns₆ hys₆
          refine ⟨vs.length - (i + 1), by omega, h₆, tk₆, g₆, i + 1, ys₆, oI', oC₆, mC₆, rfl, hlt', rfl, ⟨oI', (N₆ (I, oI') (by first | w_is_and mem | simp)).1, hcI', hdI'⟩, F₆, (fun p hp => N₆ p ?_), hns₆, ?_⟩
          · simp only [List.mem_cons] at hp ⊢
            rcases hp with hp | hp | hp | hp
            · exact .inr (.inr (.inl hp))
            · exact .inl hp
            · exact .inr (.inl hp)
            · exact .inr (.inr (.inr hp))
          · rw [List.take_add_one, List.getElem?_eq_getElem hxi, List.flatMap_append]
            simpa using hys₆
      · obtain rfl : i = vs.length := Nat.le_antisymm hi (Nat.not_lt.mp hlt')
        refine hW.done _ _ _ (by simpa using And.intro hit hlst) fun h₃ tk₃ hk₃ => ?_
        have F₃ : Fr h₀ env.locals h₃ m := fr_but F' hk₃ (Ne.symm hIL) hI₀
        have hn₃ : h₃.Ns C mC := (hoC.ns zC.1).at' fun o e => hk₃ _ o (by simpa using Ne.symm hIC) e
        show wpAny _ A (assign (.Name yn py) env (.ref D)) _ _ _
        refine wpAny_assign_Name (wpAny_storeName_local hy F₃.ns (fun h₄ hn₄ hs₄ => ?_) hp)
        have hL₀ : h₀.get? env.locals = none := Heap.get?_none_of_le F₃.above
        have F₄ : Fr h₀ env.locals h₄ (fun z => if z = yn then some (.ref D) else m z) := ⟨hn₄, fun b o e => hs₄.extBut b o (fun q => by rw [q, hL₀] at e; cases e) (F₃.keep b o e), F₃.above⟩
        refine ⟨mC, hn₃.sameBut hs₄ hCL, fun h'' hs'' => done D h'' _ g ys (F₄.change hs'' hCL hC₀) (fun p hp => ?_) (off1_of fun p hp => (offN p hp).2.2) (by rw [show vs.length = xs.length from hvl, List.take_length] at hys; exact hys)⟩
        rcases List.mem_cons.mp hp with rfl | hp
        · exact ⟨hs''.extBut _ _ hDC (hs₄.extBut _ _ hDL (hk₃ _ _ (by simpa using Ne.symm hID) zD.1)), zD.2⟩
        · exact ⟨hs''.extBut _ _ (offN p hp).2.1 (hs₄.extBut _ _ (zN p hp).2.1 (hk₃ _ _ (by simpa using (offN p hp).1) (zN p hp).1)), (zN p hp).2⟩
    · rcases List.mem_cons.mp hp with rfl | hp
      · exact ⟨hgI, hIL, hI₀⟩
      · rcases List.mem_cons.mp hp with rfl | hp
        · exact ⟨heC, hCL, hC₀⟩
        · rcases List.mem_cons.mp hp with rfl | hp
          · exact ⟨hgD, hDL, hD₀⟩
          · exact ⟨old _ _ (N p hp).1, (N p hp).2⟩
  exact codeAny_compStart_list (loop _ rfl) (hW.self 0 _ _ _ ⟨⟨_, hgI, rfl, rfl⟩, ⟨oax, old _ _ (N _ hoax).1, hcax, nax, hdax⟩⟩ (loop _ rfl))
end
end Mine
end

section
open PySem PySem.W PyProof.Rows PySem.Calls PySem.Spec
open LCg
set_option maxRecDepth 100000
set_option maxHeartbeats 1000000
namespace Mine
section
variable {prog : Program} {w : World} {A : Around} {h₀ : Heap} {L : Addr} {m : Str → Option Value} {env : Env} {E : Value → Shared → Prop} {s : Shared}
theorem CTurn.t3 {x y z : Str} {px py pz pt : Pos} {kt : Nat} {elt : Expr} {scope : Scope} {cl : List (Str × Addr)} {P : Nat → Value → Prop} {J : Nat → List Value → List (Addr × Obj) → Prop} (R : Nat → Value → Value → Value → Prop) (hh : A.handled = none) (hkind : scope.kind = .function)
    (hx : scope.names.lookup x = some .local) (hy : scope.names.lookup y = some .local) (hz : scope.names.lookup z = some .local) (hxy : x ≠ y) (hxz : x ≠ z) (hyz : y ≠ z)
    (ht : ∀ i v h ys nw, P i v → J i ys nw → Fr h₀ L h m → News h₀ L h nw → ∃ T a b c, v = .ref T ∧ h.IsTuple T #[a, b, c] ∧ R i a b c)
    (h : ∀ i a b c I oI C oC D mC h tk (g : BG) ys nw (E' : Value → Shared → Prop), R i a b c → J i ys nw → NsObj oC mC → mC x = some a → mC y = some b → mC z = some c → Fr h₀ L h m → News h₀ L h ((I, oI) :: (C, oC) :: (D, lst ys) :: nw) → Off3 I C D nw → ((@Ne Nat I C) ∧ (@Ne Nat I D) ∧ (@Ne Nat C D)) →
      wpAny (model prog w) A (eval elt (compEnvC scope cl C env)) (fun y s₄ => CEnd h₀ L m I C D oI ys (J (i + 1) (ys ++ [y])) { s with heap := h, toks := tk, gens := g } s₄) E' { s with heap := h, toks := tk, gens := g }) :
    CTurn prog w A h₀ L m env (.Tuple [.Name x px, .Name y py, .Name z pz] kt pt) elt [] scope cl s P J := by
  intro i v I oI C oC D mC h₁ tk g ys nw E' hiI hP hJ hns F N off n1 n2 n3
  obtain ⟨T, a, b, c, rfl, hT, hR⟩ := ht i v h₁ ys nw hP hJ F fun p hp => N p (.tail _ (.tail _ (.tail _ hp)))
  have hC := (N (C, oC) (List.mem_cons_of_mem _ List.mem_cons_self))
  have hp : ((compEnvC scope cl C env).scope.kind == .class || ((compEnvC scope cl C env).scope.kind == .module && (compEnvC scope cl C env).locals != (compEnvC scope cl C env).globals)) = false := by simp [compEnvC, relabel, hkind]
  refine wpAny_assign_Tuple hh hT rfl rfl fun h₂ hx₂ => ?_
  replace hx₂ : Heap.ExtBut h₁.objs.size h₁ h₂ := hx₂
  have old : ∀ b o, h₁.get? b = some o → h₂.get? b = some o := fun b o e => hx₂ b o (Nat.ne_of_lt (Heap.lt_size e)) e
  show wpAny _ _ (do holding [b, c] (assign (.Name x px) _ a); holding [c] (assign (.Name y py) _ b); holding [] (assign (.Name z pz) _ c); pure ()) _ _ _
  refine wpAny_bind (wpAny_holding (wpAny_assign_Name (wpAny_storeName_local (lookup_relabel_local hx) ((hns.ns hC.1).at' fun o e => old _ o e) (fun h₃ hn₃ hs₃ => ?_) hp)))
  replace hs₃ : Heap.SameBut C h₂ h₃ := hs₃
  refine wpAny_bind (wpAny_holding (wpAny_assign_Name (wpAny_storeName_local (lookup_relabel_local hy) hn₃ (fun h₄ hn₄ hs₄ => ?_) hp)))
  replace hs₄ : Heap.SameBut C h₃ h₄ := hs₄
  refine wpAny_bind (wpAny_holding (wpAny_assign_Name (wpAny_storeName_local (lookup_relabel_local hz) hn₄ (fun h₅ hn₅ hs₅ => wpAny_pure ?_) hp)))
  replace hs₅ : Heap.SameBut C h₄ h₅ := hs₅
  have up : ∀ b o, b ≠ C → h₁.get? b = some o → h₅.get? b = some o := fun b o hb e => hs₅.extBut b o hb (hs₄.extBut b o hb (hs₃.extBut b o hb (old b o e)))
  obtain ⟨oC', heC, hoC⟩ := ns_obj hn₅
  refine wpAny_tests_nil ?_
  simp only [if_true]
  have off3 := off.mem
  have key := h i a b c I oI C oC' D _ h₅ (tk + 1 + 1 + 1) g ys nw E' hR hJ hoC (by simp [hxy, hxz]) (by simp [hyz]) (by simp) ⟨F.ns.at' fun o e => up _ o (Ne.symm hC.2.1) e, fun b o e => up b o (fun q => by rw [q, hC.2.2] at e; cases e) (F.keep b o e), F.above⟩ (fun p hp => ?_) off ⟨n1, n2, n3⟩
  · refine wpAny_mono key (fun y s₄ q => ?_) fun _ _ e => e
    obtain ⟨h₆, tk₆, g₆, oC', mC', news₆, nx, rfl, r⟩ := q
    exact ⟨h₆, tk₆, g₆, oC', mC', news₆, nx, rfl, r⟩
  · rcases List.mem_cons.mp hp with rfl | hp
    · have z := N _ List.mem_cons_self
      exact ⟨up _ _ n1 z.1, z.2⟩
    · rcases List.mem_cons.mp hp with rfl | hp
      · exact ⟨heC, hC.2⟩
      · have z := N p (List.mem_cons_of_mem _ (List.mem_cons_of_mem _ hp))
        refine ⟨up _ _ ?_ z.1, z.2⟩
        rcases List.mem_cons.mp hp with rfl | hp
        · exact Ne.symm n3
        · exact (off3 p hp).2.1

theorem CSrc.tup {target elt : Expr} {ifs : List Expr} {scope : Scope} {cl : List (Str × Addr)} {Fin : Shared → List Value → List (Addr × Obj) → Prop} {ax : Addr} {vs : Array Value} {nw : List (Addr × Obj)} {s₁ : Shared}
    (J : Nat → List Value → List (Addr × Obj) → Prop) (hh : A.handled = none) (F : Fr h₀ L s₁.heap m) (N : News h₀ L s₁.heap nw) (hl : s₁.heap.IsTuple ax vs) (hsz : vs.size ≤ sizeLine)
    (hJl : ∀ i ys nw h', J i ys nw → Fr h₀ L h' m → News h₀ L h' nw → h'.IsTuple ax vs) (hJ : J 0 [] nw)
    (T : ∀ g, CTurn prog w A h₀ L m env target elt ifs scope cl { s₁ with heap := g } (fun i v => vs[i]? = some v) J) (fin : ∀ g ys nw, J vs.size ys nw → Fin { s₁ with heap := g } ys nw)
    (hgo : ∀ (I : Addr) v (s' : Shared) i (Q' : Unit → Shared → Prop) (E' : Value → Shared → Prop), s'.heap.IsTupleIter I ax i → Q' () s' → wpAny (model prog w) A (letOwnedTupleGo target (.ref I) v) Q' E' s') (hB : AllBare s₁.gens := by first | assumption | exact BG.ok _) :
    CSrc prog w A h₀ L m env target elt ifs scope cl E Fin (.ref ax) s₁ := by
  revert hh F N hl hsz hJl hJ T fin hgo hB
  revert prog w A h₀ L m env E target elt ifs scope cl Fin ax vs nw s₁ J
  intros prog w A h₀ L m env E target elt ifs scope cl Fin ax vs nw s₁ J hh F N hl hsz hJl hJ T fin hgo hB
  have hlt : ax < s₁.heap.objs.size := by obtain ⟨_, e, _⟩ := hl; exact Heap.lt_size e
  refine wpAny_pyIter_tuple hl ?_
  have up : ∀ b o, s₁.heap.get? b = some o → (s₁.heap.push { cls := .type "tuple_iterator", data := .fields #[.ref ax, .int 0 0] }).get? b = some o := fun b o e => Heap.get?_push_of_some _ e
  refine ⟨s₁.heap.objs.size, _, vs.size, _, _, J, nw, rfl, hB, Walks.tuple hh s₁.heap.objs.size ax (Nat.ne_of_lt hlt) vs, hsz, (fun i h st => by obtain ⟨o, e, _, hd⟩ := st.1; exact ⟨o, e, fun vs hv => by rw [hd] at hv; cases hv; exact ⟨_, _, rfl⟩⟩), ?_, ⟨⟨_, Heap.get?_push_size _ rfl, rfl, rfl⟩, by obtain ⟨o, e, r⟩ := hl; exact ⟨o, up _ _ e, r⟩⟩, (fun b hb => ?_),
      F.keeps up, N.grown up, Nat.ne_of_lt F.ns.lt, next_is_new F, (fun p hp => Nat.ne_of_lt (Heap.lt_size (N p hp).1)), hJ, ?_, (fun i v s' Q' E' st q => hgo _ v s' i Q' E' st.1 q), fin _⟩
  · intro i i' ys nw h h' o hJ st e e' F' N'
    exact ⟨by obtain ⟨o', q, r⟩ := st.1; rw [e] at q; cases q; exact ⟨o, e', r⟩, hJl i' ys nw h' hJ F' N'⟩
  · show b < (s₁.heap.push _).objs.size
    rw [Heap.size_push]
    rcases List.mem_cons.mp hb with rfl | hb
    · exact Nat.lt_succ_self _
    · rw [List.mem_singleton.mp hb]; exact Nat.lt_succ_of_lt hlt
  · exact T (s₁.heap.push { cls := .type "tuple_iterator", data := .fields #[.ref ax, .int 0 0] })
theorem letGo_tupr {elts : List Expr} {x1} {pos : Pos} {I ax T : Addr} {i : Nat} {Q : Unit → Shared → Prop} (hg : s.heap.IsTupleIter I ax i) (hQ : Q () s) :
    wpAny (model prog w) A (letOwnedTupleGo (.Tuple elts x1 pos) (.ref I) (.ref T)) Q E s := by
  obtain ⟨o, ho, hc, hd⟩ := hg
  unfold letOwnedTupleGo
  refine wpAny_bind (wpAny_load ho ?_)
  rw [hc, hd]
  show wpAny _ A (if (["enumerate", "zip", "dict_itemiterator", "dict_reverseitemiterator", "odict_iterator", "itertools.zip_longest", "itertools.pairwise"].contains "tuple_iterator" &&
      (#[.ref ax, .int i 0] : Array Value)[0]? == some (rawInt T)) = true then _ else _) Q E s
  rw [if_neg (by
    intro h
    rw [show (["enumerate", "zip", "dict_itemiterator", "dict_reverseitemiterator", "odict_iterator", "itertools.zip_longest", "itertools.pairwise"].contains "tuple_iterator") = false from by decide, Bool.false_and] at h
    cases h)]
  exact wpAny_pure hQ
theorem letGo_tupi {elts : List Expr} {x1} {pos : Pos} {I ax : Addr} {v : Value} {i : Nat} {Q : Unit → Shared → Prop} (hg : s.heap.IsTupleIter I ax i) (hQ : Q () s) :
    wpAny (model prog w) A (letOwnedTupleGo (.Tuple elts x1 pos) (.ref I) v) Q E s := by
  cases v with
  | ref T => exact letGo_tupr hg hQ
  | _ => exact wpAny_pure hQ
end
end Mine
end

section
open PySem PySem.W PyProof.Rows PySem.Calls PySem.Spec
set_option maxRecDepth 100000
set_option maxHeartbeats 1000000
namespace Mine
example (dp un : Nat) (l : List Env) (gd : Option (List Code)) (env : Env) : ∃ A₀ : Around, A₀.frames = some l ∧ A₀.deeper env = Ar (dp + 1) (un + 3) (some (env :: l)) gd := ⟨Ar dp un (some l) gd, rfl, rfl⟩
section
variable {prog : Program} {w : World} {A₀ : Around} {E : Value → Shared → Prop} {s' : Shared} {hb h : Heap} {L a e : Addr} {m : Str → Option Value} {name : Str} {scope : Scope} {cd : Value} {Q : Flow → Shared → Prop} {X T : String} {l : List Env} {frs new : List (Addr × Obj)}
theorem try_E {body orelse : List Stmt} {h₀ : ExceptHandler} {hs : List ExceptHandler} {pos : Pos} {A : Around} {env : Env} {s : Shared}
    (k : ∀ (E' : Value → Shared → Prop) (Nt : Value → (Unit → Shared → Prop) → (Value → Shared → Prop) → Shared → Prop), (∀ e Q₁ E₁ s₁, wpAny (model prog w) A (noteFrame e env) Q₁ E₁ s₁ → Nt e Q₁ E₁ s₁) → (∀ e s₁, Nt e (fun _ s₂ => wpAny (model prog w) A (setFlight e none) (fun _ s₃ => wpAny (model prog w) A (handleBy e env (h₀ :: hs)) Q E s₃) E s₂) E s₁ → E' e s₁) →
      PassesOwn (model prog w) A env E' → (∀ hd A'', PassesOwnAt (model prog w) (A.mark hd) A'' env E') →
      wpAny (model prog w) A (execs body env) (fun f s₁ => match f with | .next => wpAny (model prog w) A (execs orelse env) Q E s₁ | f => Q f s₁) E' s) :
    wpAny (model prog w) A (exec (.Try body (h₀ :: hs) orelse [] pos) env) Q E s :=
  wpAny_Try_except (k _ (fun e Q₁ E₁ s₁ => wpAny (model prog w) A (noteFrame e env) Q₁ E₁ s₁) (fun _ _ _ _ h => h) (fun _ _ h => h) PassesOwn.looking fun hd _ => PassesOwnAt.lookingOf (SameStack.mark A hd))
end
end Mine
end

section
open PySem PySem.W PyProof.Rows PySem.Calls PySem.Spec
set_option maxRecDepth 100000
set_option maxHeartbeats 1000000
namespace Mine
theorem entry_unchain : entryFor table "proto.unchain" = some Builtin.«proto.unchain» := entryFor_of_tree (by kernel_rfl)
theorem plain_unchain : plainId "proto.unchain" = true := by decide +kernel
section
variable {M : Model} {prog : Program} {w : World} {A : Around} {E : Value → Shared → Prop} {s : Shared}
/-- an exception is raised while another is handled -/
theorem raise_ctx {α : Type} {cls msg : String} {Q : α → Shared → Prop} {e0 : Addr} {o0 : Obj} {v0 : Array Value} (hp : PlainExc cls) (hh : A.handled = some (.ref e0)) (h0 : s.heap.get? e0 = some o0) (hd0 : o0.data = .fields v0) (hc0 : v0[2]? = some .none)
    (h : ∀ h' tk e tp ob, (∀ b o, s.heap.get? b = some o → h'.get? b = some o) → s.heap.get? e = none → h'.get? e = some ob → ob.cls = .type cls → ob.data = .fields #[tp, .none, .ref e0, .none, .bool false, .none] → E (.ref e) { s with heap := h', toks := tk }) :
    wpAny (model prog w) A (raiseErrorWords cls msg : Sem α) Q E s := by
  unfold raiseErrorWords
  refine wpAny_bind (wpAny_mkText (wpAny_bind ?_))
  unfold newExc newTuple
  refine wpAny_bind (wpAny_newObj_type ?_)
  refine wpAny_bind (m := firstArgMember _ _) (wpAny_of_eq (a := Value.none) (by simp only [firstArgMember, hp.first]; rfl) ?_)
  rw [hp.own]
  refine wpAny_newObj_type ?_
  unfold raiseNew
  refine wpAny_bind (wpAny_handled ?_)
  rw [hh]
  dsimp only
  have hlt := Heap.lt_size h0
  have hne : (Value.ref e0 != Value.ref (s.heap.push { cls := Value.type "tuple", data := Data.seq #[Value.str (Str.ofString msg) s.toks] }).objs.size) = true := by
    rw [Heap.size_push]
    have : e0 ≠ s.heap.objs.size + 1 := Nat.ne_of_lt (Nat.lt_succ_of_lt hlt)
    simpa using this
  rw [if_pos hne]
  generalize hh1 : s.heap.push { cls := Value.type "tuple", data := Data.seq #[Value.str (Str.ofString msg) s.toks] } = h1
  have k1 : ∀ b o, s.heap.get? b = some o → h1.get? b = some o := fun b o e => hh1 ▸ Heap.get?_push_of_some _ e
  have hs1 : h1.objs.size = s.heap.objs.size + 1 := by rw [← hh1, Heap.size_push]
  refine wpAny_bind (wpAny_holding (wpAny_runValue (codeAny_entry entry_unchain plain_unchain ?_)))
  unfold Builtin.«proto.unchain»
  dsimp only
  refine wpAny_bind (wpAny_field (Heap.get?_push_of_some _ (k1 _ _ h0)) hd0 hc0 ?_)
  refine wpAny_pure ?_
  show wpAny _ _ (updateField h1.objs.size 2 (.ref e0) >>= fun _ => throw _) _ _ _
  have hnew : (h1.push { cls := Value.type cls, data := Data.fields (#[Value.ref s.heap.objs.size, Value.none, Value.none, Value.none, Value.bool false, Value.none] ++ #[]) }).get? h1.objs.size = some _ := Heap.get?_push_size _ rfl
  refine wpAny_bind (wpAny_setField (a := h1.objs.size) (i := 2) (x := .ref e0) hnew rfl (by simp) ?_)
  refine wpAny_throw ?_
  refine h _ _ h1.objs.size (.ref s.heap.objs.size) _ (fun b o e => ?_) ?_ (Heap.get?_update_self _ hnew rfl) rfl ?_
  · have hb : b ≠ h1.objs.size := by
      have := Heap.lt_size e
      rw [hs1]
      exact Nat.ne_of_lt (Nat.lt_succ_of_lt this)
    exact (Heap.get?_update_other _ _ (Ne.symm hb)).trans (Heap.get?_push_of_some _ (k1 _ _ e))
  · exact Heap.get?_none_of_le (by rw [hs1]; exact Nat.le_succ _)
  · simp [Obj.mapFields]
theorem getItem_outH {l : Addr} {items : Array Value} {k : Nat} {t : Tok} {Q : Value → Shared → Prop} {e0 : Addr} {o0 : Obj} {v0 : Array Value} (hA : A.handled = some (.ref e0)) (h0 : s.heap.get? e0 = some o0) (hd0 : o0.data = .fields v0) (hc0 : v0[2]? = some .none) (hl : s.heap.IsList l items)
    (hout : items.size ≤ k) (hhi : k < 2 ^ 62)
    (hE : ∀ h' tk e tp ob, (∀ b o, s.heap.get? b = some o → h'.get? b = some o) → s.heap.get? e = none → h'.get? e = some ob → ob.cls = .type "IndexError" → ob.data = .fields #[tp, .none, .ref e0, .none, .bool false, .none] → E (.ref e) { s with heap := h', toks := tk }) :
    wpAny (model prog w) A (getItem (.ref l) (.int ((k : Nat) : Int) t)) Q E s := by
  obtain ⟨o, ho, hc, ne, hd⟩ := id hl
  have hfit := fitsIndex_both (k := ((k : Nat) : Int)) (by omega) (by omega)
  clear hhi
  obtain ⟨ki, hki⟩ : ∃ ki : Int, ki = ((k : Nat) : Int) := ⟨_, rfl⟩
  rw [← hki] at hfit ⊢
  unfold getItem
  try with_reducible refine wpAny_holding ?_
  first | refine wpAny_bind (wpAny_pure ?_) | skip
  refine wpAny_bind (wpAny_sequenceKey hl.typeIs (by decide) ?_)
  refine wpAny_bind (wpAny_callSpecial?_slot (name := Str.ofString "__getitem__") hl.typeIs slot_list_getitem
    (wpAny_call_entry slot_list_getitem hl.typeIs entry_list_getitem ?_ (args_list_getitem _ _)))
  show wpAny _ _ (Builtin.List.listSubscript? (.int ki t) >>= _) _ _ s
  refine wpAny_bind (wpAny_listSubscript_int hfit ?_)
  subst hki
  have hx : items[k]? = none := Array.getElem?_eq_none hout
  show wpAny _ _ ((seqItemAt l k >>= fun r => pure (r.map (k, ·))) >>= _) _ _ s
  refine wpAny_bind (wpAny_bind (wpAny_seqItemAt ho hd (wpAny_pure ?_)))
  rw [hx]
  dsimp only [Option.map_none]
  refine wpAny_bind (wpAny_rule ?_)
  refine wpAny_bind ?_
  refine raise_ctx (A := A.in1) plainExc_IndexError hA h0 hd0 hc0 ?_
  exact hE
theorem sub_outH {value slice : Expr} {l : Addr} {vs : List Value} {k : Nat} {t : Tok} {Q : Value → Shared → Prop} {e0 : Addr} {o0 : Obj} {v0 : Array Value} (hA : A.handled = some (.ref e0)) (h0 : s.heap.get? e0 = some o0) (hd0 : o0.data = .fields v0) (hc0 : v0[2]? = some .none) (hl : s.heap.IsList l vs.toArray) (hk : vs.length ≤ k) (hk2 : k < 1000000)
    (hE : ∀ h' tk e tp ob, (∀ b o, s.heap.get? b = some o → h'.get? b = some o) → s.heap.get? e = none → h'.get? e = some ob → ob.cls = .type "IndexError" → ob.data = .fields #[tp, .none, .ref e0, .none, .bool false, .none] → E (.ref e) { s with heap := h', toks := tk })
    (hs : subscripted slice false (.ref l) (.int ((k : Nat) : Int) t) = operate [.ref l, .int ((k : Nat) : Int) t] (getItem (.ref l) (.int ((k : Nat) : Int) t)) := by with_unfolding_all rfl) (hg : ∀ r, letTemporaryGo value (.ref l) r = pure () := by intro _; with_unfolding_all rfl) :
    wpAny (model prog w) A (subscriptTail value slice (.ref l) (.int ((k : Nat) : Int) t)) Q E s :=
  subscriptTail_builtin hl.typeIs slot_list_getitem.lookup (getItem_outH hA h0 hd0 hc0 hl (by rw [List.size_toArray]; exact hk) (by omega) hE) hs hg
end
section
variable {prog : Program} {w : World} {A₀ : Around} {E : Value → Shared → Prop} {s' : Shared} {hb h : Heap} {L a e : Addr} {m : Str → Option Value} {name : Str} {scope : Scope} {cd : Value} {X T : String} {l : List Env} {frs new : List (Addr × Obj)}
/-- an entry is made; the other members of the exception stay -/
theorem entryX {A : Around} {s : Shared} {base : Heap} {env : Env} {outer : List Env} {oe : Obj} {vs : Array Value} {head a0 : Value} {hadNext : Bool} {Q : Unit → Shared → Prop} {E : Value → Shared → Prop}
    (hfr : A.frames = some (env :: outer)) (hl : s.heap.FunFrames base (env :: outer)) (hf : env.frame = some L) (he : s.heap.get? e = some oe) (hkb : base.StaysIn s.heap) (hen : base.get? e = none) (hd : oe.data = .fields vs) (hsz : 1 < vs.size) (h0 : vs[0]? = some a0)
    (h : ∀ h', Heap.NotedW base (env :: outer) e oe.cls a0 (rawInt L) s.heap h' → (∃ T, h'.get? e = some (Obj.mapFields (·.setIfInBounds 1 (.ref T)) oe)) → Q () { s with heap := h' }) :
    wpAny (model prog w) A (do let a ← frameOf env; let pl ← entryPlaceOf L hadNext; let b ← EntryCells.newEntry head a .none (rawInt L) .none pl; setField (.ref e) 1 b) Q E s := by
  have hne : e ∉ (env :: outer).filterMap (·.frame) := fun q => by
    obtain ⟨_, o, ho, hn⟩ := hl.mem q
    rw [he] at ho; cases ho; exact hn vs hd
  refine wpAny_bind (wpAny_frameOf_fun hfr hl hf fun h₁ hs₁ => wpAny_bind (wpAny_entryPlaceOf fun pl hpl => ?_))
  unfold EntryCells.newEntry newFields
  refine wpAny_bind (wpAny_newObj_type ?_ (hpl.sizeOk5 _ _ _ _ _))
  have he₁ : h₁.get? e = some oe := (hs₁.2.1 e hne).trans he
  have kb₁ : base.StaysIn h₁ := fun b o q => (hs₁.2.1 b fun z => by rw [(hl.mem z).1] at q; cases q).trans (hkb b o q)
  generalize hob : ({ cls := .type "traceback", dict := none, data := .fields ([head, .ref L, .none, rawInt L, .none] ++ (if pl.isEmpty then List.replicate 6 Value.none else pl)).toArray } : Obj) = otb
  have hotd : otb.data = .fields ([head, .ref L, .none, rawInt L, .none] ++ (if pl.isEmpty then List.replicate 6 Value.none else pl)).toArray := by rw [← hob]
  have hfz : otb.isFreed = false := by rw [← hob]; rfl
  have he₂ : (h₁.push otb).get? e = some oe := Heap.get?_push_of_some _ he₁
  refine wpAny_setField he₂ hd hsz ?_
  have hTe : h₁.objs.size ≠ e := Nat.ne_of_gt (Heap.lt_size he₁)
  have hd₃ := Obj.data_mapFields hd (·.setIfInBounds 1 (Value.ref h₁.objs.size))
  have he₃ := Heap.get?_update_self (Obj.mapFields (·.setIfInBounds 1 (Value.ref h₁.objs.size))) he₂ (Obj.isFreed_of_fields hd₃)
  have up : ∀ b o, b ≠ e → (h₁.push otb).get? b = some o → ((h₁.push otb).update e (Obj.mapFields (·.setIfInBounds 1 (Value.ref h₁.objs.size)))).get? b = some o := fun b o hb q => (Heap.get?_update_other _ _ (Ne.symm hb)).trans q
  have nr : ∀ b o, s.heap.get? b = some o → (∀ vs, o.data ≠ .fields vs) → b ≠ e := fun b o q hn z => by
    rw [z, he] at q; cases q; exact hn vs hd
  refine h _ ⟨fun b o q => up b o (fun z => by rw [z, hen] at q; cases q) (Heap.get?_push_of_some _ (kb₁ b o q)), hl.of_keeps fun b o q hn => ?_, ?_, fun b o q hn => ?_⟩ ⟨_, he₃⟩
  · obtain ⟨sl, z⟩ := hs₁.2.2 b o q
    exact ⟨_, up b _ (nr b o q hn) (Heap.get?_push_of_some _ z), rfl⟩
  · exact ⟨_, _, h₁.objs.size, _, _, he₃, ⟨Obj.cls_mapFields _ _, by rw [Array.getElem?_setIfInBounds_ne (by decide)]; exact h0⟩, hd₃, by simp [hsz], kb₁.fresh, hTe, up _ _ hTe (Heap.get?_push_size h₁ hfz), hotd, by first | (simp; done) | (rcases hpl with rfl | ⟨_, _, _, _, _, _, _, rfl⟩ <;> simp)⟩
  · obtain ⟨sl, z⟩ := hs₁.2.2 b o q
    exact ⟨sl, up b _ (nr b o q hn) (Heap.get?_push_of_some _ z)⟩
/-- the frame is noted on an exception with a context -/
theorem noted_newC {Q : Unit → Shared → Prop} {ob : Obj} {tp cx : Value} (hfr : A₀.frames = some l) (Fs : TI.Frs l frs) (hkeep : ∀ b o, h.get? b = some o → s'.heap.get? b = some o) (hnew : h.get? e = none) (he : s'.heap.get? e = some ob) (hcls : ob.cls = .type X)
    (hd : ob.data = .fields #[tp, .none, cx, .none, .bool false, .none]) (F : Fr hb L h m) (N : News hb L h (new ++ frs)) (hap : ∀ p ∈ new, p.1 ∉ L :: frs.map (·.1))
    (k : ∀ h' frs', TI.SameUp frs frs' → TI.Frs l frs' → TT.HeldN hb L h' m e X (new ++ frs') → (∃ o vs, h'.get? e = some o ∧ o.data = .fields vs ∧ vs[2]? = some cx) → Q () { s' with heap := h' }) (hk : scope.kind = .function) :
    wpAny (model prog w) (A₀.deeper (envOf name scope L a cd)) (noteFrame (.ref e) (envOf name scope L a cd)) Q E s' := by
  have hsub : ∀ q ∈ frs, q ∈ new ++ frs := fun q hq => List.mem_append_right _ hq
  obtain ⟨hff, hNs, frs₁, SU, ht⟩ := TI.frames_at (name := name) (a := a) (cd := cd) (h' := s'.heap) (base := TI.gone h (L :: frs.map (·.1))) hk Fs F N hsub (fun b o q => ⟨o.slots, hkeep b o q⟩) fun b q => TI.gone_none q
  have hst : ∀ b o, (TI.gone h (L :: frs.map (·.1))).get? b = some o → s'.heap.get? b = some o := fun b o q => hkeep b o (TI.gone_some q).2
  have hen : (TI.gone h (L :: frs.map (·.1))).get? e = none := by
    cases q : (TI.gone h (L :: frs.map (·.1))).get? e with
    | none => rfl
    | some o => have := (TI.gone_some q).2; rw [hnew] at this; cases this
  unfold noteFrame
  simp only [show (envOf name scope L a cd).frame = some L from rfl]
  refine wpAny_bind (wpAny_field he hd (x := .none) rfl ?_)
  rw [if_neg (by decide)]
  refine entryX (a0 := tp) (Around.frames_deeper hfr) hff rfl he hst hen hd (by show 1 < 6; decide) rfl fun h' hN hX => ?_
  obtain ⟨frs₂, SU₂, Fs₂, H⟩ := TLg.held_of_notedA (X := X) Fs F N hap hNs SU ht hnew (by rw [← hcls]; exact hN)
  obtain ⟨Tt, hT⟩ := hX
  exact k h' frs₂ SU₂ Fs₂ H ⟨_, _, hT, Obj.data_mapFields hd _, by simp⟩
theorem fr_upd {tb : Addr} (F : Fr hb L h m) (hL : tb ≠ L) (h0 : hb.get? tb = none) (f : Obj → Obj) : Fr hb L (h.update tb f) m :=
  ⟨F.ns.at' fun o q => (Heap.get?_update_other _ _ hL).trans q, fun b o q => (Heap.get?_update_other _ _ (fun z => by rw [← z, h0] at q; cases q)).trans (F.keep b o q), F.above⟩
theorem news_upd {tb : Addr} {rest : List (Addr × Obj)} (N : News hb L h rest) (hap : ∀ q ∈ rest, q.1 ≠ tb) (f : Obj → Obj) : News hb L (h.update tb f) rest := fun q hq =>
  ⟨(Heap.get?_update_other _ _ (Ne.symm (hap q hq))).trans (N q hq).1, (N q hq).2⟩
theorem held_set {tb : Addr} {ob otb : Obj} {vs tvs : Array Value} {rest : List (Addr × Obj)} {fl : Value} (F : Fr hb L h m) (N : News hb L h ((e, ob) :: (tb, otb) :: rest)) (hcls : ob.cls = .type X) (hd : ob.data = .fields vs) (h1 : vs[1]? = some (.ref tb)) (hdt : otb.data = .fields tvs) (hsz : 3 < tvs.size) (hne : tb ≠ e) (hap : ∀ q ∈ rest, q.1 ≠ tb) :
    TT.HeldNA hb L (h.update tb (Obj.mapFields (·.setIfInBounds 3 fl))) m e X rest fl := by
  have ne := N (e, ob) (.head _)
  have nt := N (tb, otb) (.tail _ (.head _))
  have he' : (h.update tb (Obj.mapFields (·.setIfInBounds 3 fl))).get? e = some ob := (Heap.get?_update_other _ _ hne).trans ne.1
  have ht' := Heap.get?_update_self (Obj.mapFields (·.setIfInBounds 3 fl)) nt.1 (Obj.isFreed_of_fields (Obj.data_mapFields hdt _))
  refine ⟨⟨fr_upd F nt.2.1 nt.2.2 _, ⟨ob, vs, tb, _, _, he', hcls, hd, h1, ht', Obj.data_mapFields hdt _, by simp [Array.getElem?_setIfInBounds, hsz], nt.2.1, hne, nt.2.2⟩, ne.2.2⟩, news_upd (fun q hq => N q (.tail _ (.tail _ hq))) hap _, ?_⟩
  intro ob' vs' tb' e1 e2 e3 q hq
  rw [he'] at e1
  cases e1
  rw [hd] at e2
  cases e2
  rw [h1] at e3
  cases e3
  exact hap q hq
theorem passOn_held {α : Type} {M : Model} {A : Around} {s : Shared} {what : String} {env : Env} {tb : Addr} {ob otb : Obj} {vs tvs : Array Value} {Q : α → Shared → Prop} (he : s.heap.get? e = some ob) (hd : ob.data = .fields vs) (h1 : vs[1]? = some (.ref tb)) (htb : s.heap.get? tb = some otb) (hdt : otb.data = .fields tvs) (hsz : 3 < tvs.size) (hf : env.frame = some L)
    (k : E (.ref e) { s with heap := s.heap.update tb (Obj.mapFields (·.setIfInBounds 3 (rawInt L))) }) : wpAny M A (PySem.passOn what (.ref e) env) Q E s := by
  unfold PySem.passOn
  refine wpAny_bind (wpAny_field he hd h1 ?_)
  rw [if_neg (by simp)]
  rw [hf]
  unfold setFlight
  refine wpAny_bind (wpAny_bind (wpAny_field he hd h1 ?_))
  rw [if_pos (show (Value.ref tb != Value.none) = true from by simp)]
  exact wpAny_setField htb hdt hsz (wpAny_throw k)
theorem caught_held {Q : Flow → Shared → Prop} {t : Expr} {b₀ : Stmt} {suite : List Stmt} {pos : Pos} {news : List (Addr × Obj)} (H : TT.HeldN hb L s'.heap m e X news)
    (h3 : subB X (.type T) = some true) (h1 : subB T (.type "BaseException") = some true) (h2 : subB ((Manifest.find? T).elim "type" fun y => y.metatype) (.type "tuple") = some false)
    (hE : PassesOwnAt (model prog w) ((A₀.deeper (envOf name scope L a cd)).mark (some (.ref e))) (A₀.deeper (envOf name scope L a cd)) (envOf name scope L a cd) E)
    (hname : ∀ (h' : Heap) (Q' : Value → Shared → Prop), Fr hb L h' m → Q' (.type T) { s' with heap := h' } → wpAny (model prog w) ((A₀.deeper (envOf name scope L a cd)).mark (some (.ref e))) (eval t (envOf name scope L a cd)) Q' E { s' with heap := h' })
    (k : ∀ h', Fr hb L h' m → News hb L h' news → wpAny (model prog w) ((A₀.deeper (envOf name scope L a cd)).mark (some (.ref e))) (execs (b₀ :: suite) (envOf name scope L a cd)) Q E { s' with heap := h' }) :
    wpAny (model prog w) (A₀.deeper (envOf name scope L a cd)) (setFlight (.ref e) none)
      (fun _ s₃ => wpAny (model prog w) (A₀.deeper (envOf name scope L a cd)) (handleBy (.ref e) (envOf name scope L a cd) [.ExceptHandler (some t) none (b₀ :: suite) pos]) Q E s₃) E s' := by
  refine H.land fun h₂ H₂ => ?_
  refine wpAny_handleBy_builtin (X := X) (T := T) (b := true) (isSubtype_of_subB h1) (isSubtype_of_subB h2) (isSubtype_of_subB h3) (wpAny_passesOwnAt hE (hname _ _ H₂.held.fr ⟨rfl, H₂.isA, ?_⟩))
  rw [if_pos rfl]
  exact H₂.lands fun h' F' N' => wpAny_passesOwnAt hE (k h' F' N')
end
end Mine
end

section
open PySem PySem.W PyProof.Rows PySem.Calls PySem.Spec
set_option maxRecDepth 100000
set_option maxHeartbeats 8000000
namespace Mine

/-! ### while; generators may be made -/
noncomputable def WEnd (h₀ : Heap) (L : Addr) (J : Nat → (Str → Option Value) → List (Addr × Obj) → Prop) (n : Nat) (s₁ s₂ : Shared) : Prop :=
  ∃ h' tk, ∃ (g' : BG), ∃ m' nw n', s₂ = { s₁ with heap := h', toks := tk, gens := g' } ∧ Fr h₀ L h' m' ∧ News h₀ L h' nw ∧ n' < n ∧ J n' m' nw
noncomputable def WPost (h₀ : Heap) (L : Addr) (J : Nat → (Str → Option Value) → List (Addr × Obj) → Prop) (n : Nat) (s₁ : Shared) (Q : Flow → Shared → Prop) (f : Flow) (s₂ : Shared) : Prop :=
  match f with
  | .ret v => Q (.ret v) s₂
  | .brk => Q .next s₂
  | _ => WEnd h₀ L J n s₁ s₂
theorem WEnd.intro {h₀ : Heap} {L : Addr} {J : Nat → (Str → Option Value) → List (Addr × Obj) → Prop} {n : Nat} {s₁ : Shared} {h' : Heap} {tk : Nat} {g' : Array GenState} {m' : Str → Option Value} {all : List (Addr × Obj)} (n' : Nat) (nw : List (Addr × Obj)) (F : Fr h₀ L h' m') (N : News h₀ L h' all) (hn : ∀ p ∈ nw, p ∈ all) (hlt : n' < n) (hj : J n' m' nw) (hBG : AllBare g' := by first | assumption | exact BG.ok _) :
    WEnd h₀ L J n s₁ { s₁ with heap := h', toks := tk, gens := g' } := ⟨h', tk, ⟨g', hBG⟩, m', nw, n', rfl, F, fun p hp => N p (hn p hp), hlt, hj⟩
/-- the loop is left: what then stands -/
noncomputable def WOut (h₀ : Heap) (L : Addr) (O : (Str → Option Value) → List (Addr × Obj) → Prop) (s₁ s₂ : Shared) : Prop :=
  ∃ h' tk, ∃ (g' : BG), ∃ m' nw, s₂ = { s₁ with heap := h', toks := tk, gens := g' } ∧ Fr h₀ L h' m' ∧ News h₀ L h' nw ∧ O m' nw
noncomputable def WPost2 (h₀ : Heap) (L : Addr) (J : Nat → (Str → Option Value) → List (Addr × Obj) → Prop) (O : (Str → Option Value) → List (Addr × Obj) → Prop) (n : Nat) (s₁ : Shared) (Q : Flow → Shared → Prop) (f : Flow) (s₂ : Shared) : Prop :=
  match f with
  | .ret v => Q (.ret v) s₂
  | .brk => WOut h₀ L O s₁ s₂
  | _ => WEnd h₀ L J n s₁ s₂
section
variable {h₀ : Heap} {L : Addr} {J : Nat → (Str → Option Value) → List (Addr × Obj) → Prop} {O : (Str → Option Value) → List (Addr × Obj) → Prop} {n : Nat} {s₁ s₂ : Shared} {Q : Flow → Shared → Prop}
theorem WPost2.nx (h : WEnd h₀ L J n s₁ s₂) : WPost2 h₀ L J O n s₁ Q .next s₂ := h
theorem WPost2.ct (h : WEnd h₀ L J n s₁ s₂) : WPost2 h₀ L J O n s₁ Q .cont s₂ := h
theorem WPost2.bk (h : WOut h₀ L O s₁ s₂) : WPost2 h₀ L J O n s₁ Q .brk s₂ := h
theorem WPost2.rt {v : Value} (h : Q (.ret v) s₂) : WPost2 h₀ L J O n s₁ Q (.ret v) s₂ := h
end
theorem WOut.intro {h₀ : Heap} {L : Addr} {O : (Str → Option Value) → List (Addr × Obj) → Prop} {s₁ : Shared} {h' : Heap} {tk : Nat} {g' : Array GenState} {m' : Str → Option Value} {all : List (Addr × Obj)} (nw : List (Addr × Obj)) (F : Fr h₀ L h' m') (N : News h₀ L h' all) (hn : ∀ p ∈ nw, p ∈ all) (hj : O m' nw) (hBG : AllBare g' := by first | assumption | exact BG.ok _) :
    WOut h₀ L O s₁ { s₁ with heap := h', toks := tk, gens := g' } := ⟨h', tk, ⟨g', hBG⟩, m', nw, rfl, F, fun p hp => N p (hn p hp), hj⟩
section
variable {prog : Program} {w : World} {A : Around} {E : Value → Shared → Prop} {Q : Flow → Shared → Prop} {s : Shared} {env : Env} {h₀ : Heap} {L : Addr}
theorem whl {test : Expr} {body : List Stmt} {pos : Pos} {m : Str → Option Value} {news : List (Addr × Obj)} (J : Nat → (Str → Option Value) → List (Addr × Obj) → Prop) {n₀ : Nat}
    (F : Fr h₀ L s.heap m) (N : News h₀ L s.heap news) (hJ : J n₀ m news)
    (turn : ∀ n m₁ nw₁ h₁ tk₁ (g₁ : BG), Fr h₀ L h₁ m₁ → News h₀ L h₁ nw₁ → J n m₁ nw₁ →
      wpAny (model prog w) A (isTrue test env (eval test env)) (fun b s₂ =>
        if b = true then wpAny (model prog w) A (execs body env) (WPost h₀ L J n { s with heap := h₁, toks := tk₁, gens := g₁ } Q) E s₂ else Q .next s₂) E { s with heap := h₁, toks := tk₁, gens := g₁ })
    (hE : PassesOwn (model prog w) A env E := by passes_own) (hB : AllBare s.gens := by first | assumption | exact BG.ok _) :
    wpAny (model prog w) A (exec (.While test body [] pos) env) Q E s := by
  refine wpAny_While (codeAny_whileLoop (fun n s' => ∃ h₁ tk₁, ∃ (g₁ : BG), ∃ m₁ news₁, s' = { s with heap := h₁, toks := tk₁, gens := g₁ } ∧ Fr h₀ L h₁ m₁ ∧ News h₀ L h₁ news₁ ∧ J n m₁ news₁) ?_ n₀ ⟨s.heap, s.toks, ⟨s.gens, hB⟩, m, news, rfl, F, N, hJ⟩)
  rintro n s' ⟨h₁, tk₁, g₁, m₁, news₁, rfl, F₁, N₁, J₁⟩
  refine wpAny_mono (turn n m₁ news₁ h₁ tk₁ g₁ F₁ N₁ J₁) (fun b s₂ h₂ => ?_) hE
  cases b with
  | false =>
    simp only [Bool.false_eq_true, if_false] at h₂ ⊢
    exact wpAny_execs_nil h₂
  | true =>
    simp only [if_true] at h₂ ⊢
    refine wpAny_mono h₂ (fun f s₃ h₃ => ?_) hE
    cases f with
    | next =>
      obtain ⟨h', tk, g', m₂, news₂, n', rfl, F₂, N₂, hn, J₂⟩ := h₃
      exact ⟨n', hn, h', tk, g', m₂, news₂, rfl, F₂, N₂, J₂⟩
    | cont =>
      obtain ⟨h', tk, g', m₂, news₂, n', rfl, F₂, N₂, hn, J₂⟩ := h₃
      exact ⟨n', hn, h', tk, g', m₂, news₂, rfl, F₂, N₂, J₂⟩
    | brk => exact h₃
    | ret v => exact h₃

theorem whl2 {test : Expr} {body : List Stmt} {pos : Pos} {m : Str → Option Value} {news : List (Addr × Obj)} (J : Nat → (Str → Option Value) → List (Addr × Obj) → Prop) (O : (Str → Option Value) → List (Addr × Obj) → Prop) {n₀ : Nat}
    (F : Fr h₀ L s.heap m) (N : News h₀ L s.heap news) (hJ : J n₀ m news)
    (turn : ∀ n m₁ nw₁ h₁ tk₁ (g₁ : BG), J n m₁ nw₁ → Fr h₀ L h₁ m₁ → News h₀ L h₁ nw₁ →
      wpAny (model prog w) A (isTrue test env (eval test env)) (fun b s₂ =>
        if b = true then wpAny (model prog w) A (execs body env) (WPost2 h₀ L J O n { s with heap := h₁, toks := tk₁, gens := g₁ } Q) E s₂ else WOut h₀ L O { s with heap := h₁, toks := tk₁, gens := g₁ } s₂) E { s with heap := h₁, toks := tk₁, gens := g₁ })
    (done : ∀ m₁ nw₁ h₁ tk₁ (g₁ : BG), O m₁ nw₁ → Fr h₀ L h₁ m₁ → News h₀ L h₁ nw₁ → Q .next { s with heap := h₁, toks := tk₁, gens := g₁ })
    (hE : PassesOwn (model prog w) A env E := by passes_own) (hB : AllBare s.gens := by first | assumption | exact BG.ok _) :
    wpAny (model prog w) A (exec (.While test body [] pos) env) Q E s := by
  have fin : ∀ s₁ s₂, (∃ h tk, ∃ (g : BG), s₁ = { s with heap := h, toks := tk, gens := g }) → WOut h₀ L O s₁ s₂ → Q .next s₂ := by
    rintro s₁ s₂ ⟨h, tk, g, rfl⟩ ⟨h', tk', g', m', nw, rfl, F', N', o⟩
    exact done m' nw h' tk' g' o F' N'
  refine whl J F N hJ (fun n m₁ nw₁ h₁ tk₁ g₁ F₁ N₁ J₁ => wpAny_mono (turn n m₁ nw₁ h₁ tk₁ g₁ J₁ F₁ N₁) (fun b s₂ q => ?_) fun _ _ e => e) hE
  cases b with
  | false =>
    simp only [Bool.false_eq_true, if_false] at q ⊢
    exact fin _ _ ⟨_, _, _, rfl⟩ q
  | true =>
    simp only [if_true] at q ⊢
    refine wpAny_mono q (fun f s₃ q => ?_) fun _ _ e => e
    cases f with
    | next => exact q
    | cont => exact q
    | brk => exact fin _ _ ⟨_, _, _, rfl⟩ q
    | ret v => exact q

/-- a statement whose ways meet again -/
noncomputable def Meet (h₀ : Heap) (L : Addr) (O : (Str → Option Value) → List (Addr × Obj) → Prop) (s : Shared) (Q : Flow → Shared → Prop) (f : Flow) (s₂ : Shared) : Prop :=
  match f with
  | .next => WOut h₀ L O s s₂
  | f => Q f s₂
theorem exec_join {st : Stmt} {m : Str → Option Value} (_F : Fr h₀ L s.heap m) (O : (Str → Option Value) → List (Addr × Obj) → Prop)
    (h : wpAny (model prog w) A (exec st env) (Meet h₀ L O s Q) E s)
    (done : ∀ m₁ nw₁ h₁ tk₁ (g₁ : BG), O m₁ nw₁ → Fr h₀ L h₁ m₁ → News h₀ L h₁ nw₁ → Q .next { s with heap := h₁, toks := tk₁, gens := g₁ }) : wpAny (model prog w) A (exec st env) Q E s :=
  wpAny_mono h (fun f s₂ q => by
    cases f with
    | next => obtain ⟨h', tk, g', m', nw, rfl, F', N', o⟩ := q; exact done m' nw h' tk g' o F' N'
    | _ => exact q) fun _ _ e => e
noncomputable def TJoin (h₀ : Heap) (L : Addr) (m : Str → Option Value) (nw : List (Addr × Obj)) (B : Bool) (s : Shared) (b : Bool) (s₂ : Shared) : Prop := b = B ∧ WOut h₀ L (fun m' nw' => m' = m ∧ nw' = nw) s s₂
theorem test_join {P : Bool → Shared → Prop} {test : Expr} {m : Str → Option Value} {nw : List (Addr × Obj)} (_F : Fr h₀ L s.heap m) (_N : News h₀ L s.heap nw) (B : Bool)
    (h1 : wpAny (model prog w) A (isTrue test env (eval test env)) (TJoin h₀ L m nw B s) E s)
    (h2 : ∀ h' tk (g : BG), Fr h₀ L h' m → News h₀ L h' nw → P B { s with heap := h', toks := tk, gens := g }) : wpAny (model prog w) A (isTrue test env (eval test env)) P E s :=
  wpAny_mono h1 (fun b s₂ q => by
    obtain ⟨rfl, h', tk, g', m', nw', rfl, F', N', rfl, rfl⟩ := q
    exact h2 h' tk g' F' N') fun _ _ e => e
end
end Mine
end

section
open PySem PySem.W PyProof.Rows PySem.Calls PySem.Spec
set_option maxRecDepth 100000
set_option maxHeartbeats 8000000
namespace Mine
section
variable {prog : Program} {w : World} {A : Around} {h₀ : Heap} {env : Env} {body : List Stmt} {E : Value → Shared → Prop} {s : Shared} {m : Str → Option Value} {target : Expr} {R : Result → Shared → Prop} {nw : List (Addr × Obj)}

/-- for over an iterator that walks alone (a text, a range) -/
theorem for_walk {I : Addr} {n : Nat} {P : Nat → Value → Prop} {St : Nat → Heap → Prop} (J : Nat → (Str → Option Value) → List (Addr × Obj) → Prop)
    (W : Walks prog w A I [I] [I] n P St) (hIo : ∀ i h, St i h → ∃ o, h.get? I = some o) (hst : St 0 s.heap) (hIL : I ≠ env.locals) (hI0 : h₀.get? I = none) (hni : ∀ p ∈ nw, p.1 ≠ I)
    (F : Fr h₀ env.locals s.heap m) (N : News h₀ env.locals s.heap nw) (hj0 : J 0 m nw)
    (hgo : ∀ v (s₁ : Shared) i (Q' : Unit → Shared → Prop) E', St i s₁.heap → Q' () s₁ → wpAny (model prog w) A (letOwnedTupleGo target (.ref I) v) Q' E' s₁)
    (turn : ∀ j v m₁ nw₁ h tk (g : BG) own, P j v → j < n → J j m₁ nw₁ → OffG nw₁ own → Fr h₀ env.locals h m₁ → News h₀ env.locals h (nw₁ ++ own) →
      wpAny (model prog w) A (assign target env v) (fun _ s₂ => wpAny (model prog w) A (execs body env) (PostG h₀ env.locals (J (j + 1)) own { s with heap := h, toks := tk, gens := g } (fun f s₂ => R (.ok f) s₂)) (notedBy (model prog w) A env fun e s' => R (.error e) s') s₂)
        (notedBy (model prog w) A env fun e s' => R (.error e) s') { s with heap := h, toks := tk, gens := g })
    (done : ∀ m₁ nw₁ h' t' (g' : BG), J n m₁ nw₁ → Fr h₀ env.locals h' m₁ → News h₀ env.locals h' nw₁ → R (.ok .next) { s with heap := h', toks := t', gens := g' }) (hB : AllBare s.gens := by first | assumption | exact BG.ok _) :
    codeAny (model prog w) A (.forLoop target (.ref I) body [] env) R s := by
  revert W hIo hst hIL hI0 hni F N hj0 hgo turn done hB
  revert prog w A h₀ env body s m target R nw I n P St J
  intros prog w A h₀ env body s m target R nw I n P St J W hIo hst hIL hI0 hni F N hj0 hgo turn done hB
  refine codeAny_forLoop_any (fun k s' => ∃ j m₁ nw₁ h' t', ∃ (g' : BG), s' = { s with heap := h', toks := t', gens := g' } ∧ k = n - j ∧ j ≤ n ∧ J j m₁ nw₁ ∧ Fr h₀ env.locals h' m₁ ∧ News h₀ env.locals h' nw₁ ∧ St j h' ∧ ∀ p ∈ nw₁, p.1 ≠ I) ?_ n
    ⟨0, m, nw, _, s.toks, ⟨s.gens, hB⟩, rfl, by omega, by omega, hj0, F, N, hst, hni⟩
  rintro k s' ⟨j, m₁, nw₁, h', t', g', rfl, rfl, hj, hJ1, F1, N1, hit, hni⟩
  by_cases hlt : j < n
  · refine W.item j _ _ _ hlt hit fun v h₁ tk₁ hP hit₁ hk₁ => ?_
    obtain ⟨oI, hoI⟩ := hIo _ _ hit₁
    have F2 : Fr h₀ env.locals h₁ m₁ := fr_of F1 (fun o q => hk₁ _ o (by simpa using Ne.symm hIL) q) fun b o q q' => hk₁ b o (fun z => by rw [List.mem_singleton.mp z, hI0] at q; cases q) q'
    have N2 : News h₀ env.locals h₁ (nw₁ ++ [(I, oI)]) := fun p hp => by
      rcases List.mem_append.mp hp with hp | hp
      · exact ⟨hk₁ _ _ (by simpa using hni p hp) (N1 p hp).1, (N1 p hp).2⟩
      · rw [List.mem_singleton.mp hp]
        exact ⟨hoI, hIL, hI0⟩
    refine hgo _ _ _ _ _ hit₁ ?_
    refine wpAny_mono (turn j v m₁ nw₁ h₁ tk₁ g' _ hP hlt hJ1 (fun p hp q hq => by rw [List.mem_singleton.mp hq]; exact hni p hp) F2 N2) (fun _ s₂ q => wpAny_mono q (fun f s₃ q => ?_) fun _ _ e => e) fun _ _ e => e
    have fin : EndG h₀ env.locals (J (j + 1)) [(I, oI)] { s with heap := h₁, toks := tk₁, gens := g' } s₃ → ∃ k', k' < n - j ∧ ∃ j m₁ nw₁ h' t', ∃ (g' : BG), s₃ = { s with heap := h', toks := t', gens := g' } ∧ k' = n - j ∧ j ≤ n ∧ J j m₁ nw₁ ∧ Fr h₀ env.locals h' m₁ ∧ News h₀ env.locals h' nw₁ ∧ St j h' ∧ ∀ p ∈ nw₁, p.1 ≠ I := by
      rintro ⟨h₆, t₆, g₆, m₂, news', nw₂, rfl, F₆, N₆, hn₆, ho₆, hd₆, hJ₆⟩
      exact ⟨n - (j + 1), by omega, j + 1, m₂, nw₂, h₆, t₆, g₆, rfl, rfl, hlt, hJ₆, F₆, fun p hp => N₆ p (hn₆ p hp), W.frame _ _ _ hit₁ (fun b hb o e => by
        rw [List.mem_singleton.mp hb] at e ⊢
        rw [hoI] at e; cases e
        exact (N₆ _ (ho₆ _ (List.mem_singleton.mpr rfl))).1), fun p hp => hd₆ p hp _ (List.mem_singleton.mpr rfl)⟩
    cases f with
    | next => exact fin q
    | cont => exact fin q
    | brk => exact q
    | ret v => exact q
  · have hjl : j = n := by omega
    subst hjl
    refine W.done _ _ _ hit fun h₁ tk₁ hk₁ => ?_
    refine wpAny_execs_nil (done m₁ nw₁ h₁ tk₁ g' hJ1 (fr_of F1 (fun o q => hk₁ _ o (by simpa using Ne.symm hIL) q) fun b o q q' => hk₁ b o (fun z => by rw [List.mem_singleton.mp z, hI0] at q; cases q) q') fun p hp => ⟨hk₁ _ _ (by simpa using hni p hp) (N1 p hp).1, (N1 p hp).2⟩)

theorem for_str {x : Str} {t : Tok} (J : Nat → (Str → Option Value) → List (Addr × Obj) → Prop) (hh : A.handled = none)
    (F : Fr h₀ env.locals s.heap m) (N : News h₀ env.locals s.heap nw) (hj0 : J 0 m nw)
    (hgo : ∀ I v (s₁ : Shared) (Q' : Unit → Shared → Prop) E', Q' () s₁ → wpAny (model prog w) A (letOwnedTupleGo target (.ref I) v) Q' E' s₁)
    (turn : ∀ j c tv m₁ nw₁ h tk (g : BG) own, x.cps.toList[j]? = some c → J j m₁ nw₁ → OffG nw₁ own → Fr h₀ env.locals h m₁ → News h₀ env.locals h (nw₁ ++ own) →
      wpAny (model prog w) A (assign target env (.str ⟨#[c]⟩ tv)) (fun _ s₂ => wpAny (model prog w) A (execs body env) (PostG h₀ env.locals (J (j + 1)) own { s with heap := h, toks := tk, gens := g } (fun f s₂ => R (.ok f) s₂)) (notedBy (model prog w) A env fun e s' => R (.error e) s') s₂)
        (notedBy (model prog w) A env fun e s' => R (.error e) s') { s with heap := h, toks := tk, gens := g })
    (done : ∀ m₁ nw₁ h' t' (g' : BG), J x.cps.toList.length m₁ nw₁ → Fr h₀ env.locals h' m₁ → News h₀ env.locals h' nw₁ → R (.ok .next) { s with heap := h', toks := t', gens := g' }) (hB : AllBare s.gens := by first | assumption | exact BG.ok _) :
    wpAny (model prog w) A (pyIter (.str x t)) (fun it s₂ => codeAny (model prog w) A (.forLoop target it body [] env) R s₂) E s := by
  have hIL : s.heap.objs.size ≠ env.locals := fun z => by
    have := ltN F.ns.lt
    rw [← z] at this; exact Nat.lt_irrefl _ this
  have hI0 : h₀.get? s.heap.objs.size = none := by
    cases q : h₀.get? s.heap.objs.size with
    | none => rfl
    | some o => exact absurd (Heap.lt_size (F.keep _ _ q)) (Nat.lt_irrefl _)
  have key : ∀ (o : Obj) (St : Nat → Heap → Prop), Walks prog w A s.heap.objs.size [s.heap.objs.size] [s.heap.objs.size] x.cps.size (SignAt x) St → St 0 (s.heap.push o) → (∀ i h, St i h → ∃ o, h.get? s.heap.objs.size = some o) →
      codeAny (model prog w) A (.forLoop target (.ref s.heap.objs.size) body [] env) R { s with heap := s.heap.push o } := fun o St W hst hSo => by
    refine for_walk (s := { s with heap := s.heap.push o }) (n := x.cps.size) J W hSo hst hIL hI0 (fun p hp => Nat.ne_of_lt (Heap.lt_size (N p hp).1)) (F.push _) (fun p hp => ⟨Heap.get?_push_of_some _ (N p hp).1, (N p hp).2⟩) hj0 (fun v s₁ i Q' E' _ q => hgo _ v s₁ Q' E' q) (fun j v m₁ nw₁ h tk g own hP hj => ?_) (fun m₁ nw₁ h' t' g' hJ => ?_)
    · obtain ⟨c, u, hc, rfl⟩ := hP
      exact turn j c u m₁ nw₁ h tk g own (by simpa using hc)
    · exact done m₁ nw₁ h' t' g' (by simpa using hJ)
  cases ha : x.cps.all (· < 128)
  · exact wpAny_pyIter_wide ha (key _ _ (Walks.strWide hh _ x t) ⟨_, Heap.get?_push_size _ rfl, rfl, rfl⟩ fun i h st => let ⟨o, ho, _⟩ := st; ⟨o, ho⟩)
  · exact wpAny_pyIter_ascii ha (key _ _ (Walks.strAscii hh _ x t) ⟨_, Heap.get?_push_size _ rfl, rfl, rfl⟩ fun i h st => let ⟨o, ho, _⟩ := st; ⟨o, ho⟩)

theorem for_range {r : Addr} {b : Int} {t u v : Tok} {n : Nat} (J : Nat → (Str → Option Value) → List (Addr × Obj) → Prop) (hh : A.handled = none)
    (hr : IsRange s.heap r 0 b 1 t u v) (hsm : Builtin.Range.small 0 b 1 = true) (hn : Builtin.Range.rangeSize 0 b 1 = ((n : Nat) : Int))
    (F : Fr h₀ env.locals s.heap m) (N : News h₀ env.locals s.heap nw) (hj0 : J 0 m nw)
    (hgo : ∀ I v (s₁ : Shared) (Q' : Unit → Shared → Prop) E', Q' () s₁ → wpAny (model prog w) A (letOwnedTupleGo target (.ref I) v) Q' E' s₁)
    (turn : ∀ j tv m₁ nw₁ h tk (g : BG) own, j < n → J j m₁ nw₁ → OffG nw₁ own → Fr h₀ env.locals h m₁ → News h₀ env.locals h (nw₁ ++ own) →
      wpAny (model prog w) A (assign target env (.int ((j : Nat) : Int) tv)) (fun _ s₂ => wpAny (model prog w) A (execs body env) (PostG h₀ env.locals (J (j + 1)) own { s with heap := h, toks := tk, gens := g } (fun f s₂ => R (.ok f) s₂)) (notedBy (model prog w) A env fun e s' => R (.error e) s') s₂)
        (notedBy (model prog w) A env fun e s' => R (.error e) s') { s with heap := h, toks := tk, gens := g })
    (done : ∀ m₁ nw₁ h' t' (g' : BG), J n m₁ nw₁ → Fr h₀ env.locals h' m₁ → News h₀ env.locals h' nw₁ → R (.ok .next) { s with heap := h', toks := t', gens := g' }) (hB : AllBare s.gens := by first | assumption | exact BG.ok _) :
    wpAny (model prog w) A (pyIter (.ref r)) (fun it s₂ => codeAny (model prog w) A (.forLoop target it body [] env) R s₂) E s := by
  refine wpAny_pyIter_range hr hsm ?_
  have hIL : s.heap.objs.size ≠ env.locals := fun z => by
    have := ltN F.ns.lt
    rw [← z] at this; exact Nat.lt_irrefl _ this
  have hI0 : h₀.get? s.heap.objs.size = none := by
    cases q : h₀.get? s.heap.objs.size with
    | none => rfl
    | some o => exact absurd (Heap.lt_size (F.keep _ _ q)) (Nat.lt_irrefl _)
  have W := (Walks.range (prog := prog) (w := w) hh s.heap.objs.size 0 1 n).bound
  refine for_walk (s := { s with heap := s.heap.push _ }) (n := n) J W (fun i h st => ⟨_, st⟩) (by show IsRangeIter _ _ _ _ _; rw [hn]; simpa using Heap.get?_push_size _ rfl) hIL hI0 (fun p hp => Nat.ne_of_lt (Heap.lt_size (N p hp).1)) (F.push _) (fun p hp => ⟨Heap.get?_push_of_some _ (N p hp).1, (N p hp).2⟩) hj0 (fun v s₁ i Q' E' _ q => hgo _ v s₁ Q' E' q) (fun j v m₁ nw₁ h tk g own hP hj => ?_) done
  obtain ⟨_, tv, rfl⟩ := hP
  have := turn j tv m₁ nw₁ h tk g own hj
  simpa using this
end
end Mine
end

section
open PySem PySem.W PyProof.Rows PySem.Calls PySem.Spec
set_option maxRecDepth 100000
set_option maxHeartbeats 8000000
namespace Mine
theorem ki_setL_set : ∀ (l : List Value) (k : Nat) (v : Value), k < l.length → ki_setL l k v = some (l.set k v)
  | [], _, _, h => absurd h (Nat.not_lt_zero _)
  | _ :: _, 0, _, _ => rfl
  | x :: r, k + 1, v, h => by
    show (match ki_setL r k v with | some q => some (x :: q) | none => none) = _
    rw [ki_setL_set r k v (Nat.lt_of_succ_lt_succ h)]; rfl
theorem strsAre_set {vs : List Value} {ss : List Str} (h : StrsAre vs ss) (k : Nat) (y : Str) (t : Tok) : StrsAre (vs.set k (.str y t)) (ss.set k y) := by
  induction h generalizing k with
  | nil => exact .nil
  | cons z tz r ih =>
    cases k with
    | zero => exact .cons _ _ r
    | succ k => exact .cons _ _ (ih k)
theorem seqIndex_nat {j n : Nat} (h : j < n) : seqIndex? ((j : Nat) : Int) n = some j := by
  unfold seqIndex?
  simp
  omega
section
variable {prog : Program} {w : World} {A : Around} {E : Value → Shared → Prop} {s : Shared} {h₀ : Heap} {L : Addr} {m : Str → Option Value}
theorem get_at {l : Addr} {vs : List Value} {ss : List Str} {k : Nat} {t : Tok} {x : Str} {Q : Value → Shared → Prop} (hl : s.heap.IsList l vs.toArray) (hv : StrsAre vs ss) (hx : ss[k]? = some x) (hk : k < 1000000) (h : ∀ tx, Q (.str x tx) s) :
    wpAny (model prog w) A (getItem (.ref l) (.int ((k : Nat) : Int) t)) Q E s := by
  have hlen := strsAre_length hv
  have hk2 : k < vs.length := by rw [hlen]; exact (List.getElem?_eq_some_iff.mp hx).1
  obtain ⟨tx, e⟩ := strsAre_get hv (List.getElem?_eq_getElem hk2) hx
  refine wpAny_getItem_list (x := vs[k]) hl (Int.natCast_nonneg _) (by omega) (by simp [hk2]) ?_
  rw [e]; exact h tx
theorem sub_at {value slice : Expr} {l : Addr} {vs : List Value} {ss : List Str} {k : Nat} {t : Tok} {x : Str} {Q : Value → Shared → Prop} (hl : s.heap.IsList l vs.toArray) (hv : StrsAre vs ss) (hx : ss[k]? = some x) (hk : k < 1000000) (h : ∀ tx, Q (.str x tx) s)
    (hs : subscripted slice false (.ref l) (.int ((k : Nat) : Int) t) = operate [.ref l, .int ((k : Nat) : Int) t] (getItem (.ref l) (.int ((k : Nat) : Int) t)) := by with_unfolding_all rfl) (hg : ∀ r, letTemporaryGo value (.ref l) r = pure () := by intro _; with_unfolding_all rfl) :
    wpAny (model prog w) A (subscriptTail value slice (.ref l) (.int ((k : Nat) : Int) t)) Q E s :=
  subscriptTail_builtin hl.typeIs slot_list_getitem.lookup (get_at hl hv hx hk h) hs hg
theorem tup_at {value slice : Expr} {l : Addr} {vs : List Value} {ss : List Str} {k : Nat} {t : Tok} {x : Str} {Q : Value → Shared → Prop} (hl : IsTup s.heap l vs.toArray) (hv : StrsAre vs ss) (hx : ss[k]? = some x) (hk : k < 1000000) (h : ∀ tx, Q (.str x tx) s)
    (hs : subscripted slice false (.ref l) (.int ((k : Nat) : Int) t) = operate [.ref l, .int ((k : Nat) : Int) t] (getItem (.ref l) (.int ((k : Nat) : Int) t)) := by with_unfolding_all rfl) (hg : ∀ r, letTemporaryGo value (.ref l) r = pure () := by intro _; with_unfolding_all rfl) :
    wpAny (model prog w) A (subscriptTail value slice (.ref l) (.int ((k : Nat) : Int) t)) Q E s := by
  have hlen := strsAre_length hv
  have hk2 : k < vs.length := by rw [hlen]; exact (List.getElem?_eq_some_iff.mp hx).1
  obtain ⟨tx, e⟩ := strsAre_get hv (List.getElem?_eq_getElem hk2) hx
  refine PyProof.Rows.item_tuple (x := vs[k]) (j := k) hl (by omega) (by omega) (seqIndex_nat (by simpa using hk2)) (by simp [hk2]) ?_ hs hg
  rw [e]; exact h tx
theorem set_at {D : Addr} {vs : List Value} {k n : Nat} {t : Tok} {v : Value} {Q : Unit → Shared → Prop} {own : List (Addr × Obj)} (F : Fr h₀ L s.heap m) (N : News h₀ L s.heap ((D, listOf vs.toArray n) :: own)) (hoff : ∀ p ∈ own, p.1 ≠ D) (hk : k < vs.length) (hk2 : k < 1000000)
    (h : ∀ h', Fr h₀ L h' m → News h₀ L h' ((D, listOf (vs.set k v).toArray n) :: own) → Q () { s with heap := h' }) : wpAny (model prog w) A (setItem (.ref D) (.int ((k : Nat) : Int) t) v) Q E s :=
  ki_set F N (Int.natCast_nonneg _) (by omega) (by simpa using ki_setL_set vs k v hk) (.head hoff) h
end
end Mine
end

section
open PySem PySem.W PyProof.Rows PySem.Calls PySem.Spec
set_option maxRecDepth 100000
set_option maxHeartbeats 1000000
namespace Mine
section
variable {prog : Program} {w : World} {A : Around} {h₀ : Heap} {env : Env} {body : List Stmt} {E : Value → Shared → Prop} {s : Shared} {m : Str → Option Value} {target : Expr} {R : Result → Shared → Prop} {nw : List (Addr × Obj)}
/-- for over a range without a number -/
theorem for_empty {r : Addr} {a b c : Int} {t u v : Tok} (hh : A.handled = none) (hr : IsRange s.heap r a b c t u v) (hsm : Builtin.Range.small a b c = true) (hn : Builtin.Range.rangeSize a b c = 0)
    (F : Fr h₀ env.locals s.heap m) (N : News h₀ env.locals s.heap nw)
    (hgo : ∀ I v (s₁ : Shared) (Q' : Unit → Shared → Prop) E', Q' () s₁ → wpAny (model prog w) A (letOwnedTupleGo target (.ref I) v) Q' E' s₁)
    (done : ∀ h' t' (g' : BG), Fr h₀ env.locals h' m → News h₀ env.locals h' nw → R (.ok .next) { s with heap := h', toks := t', gens := g' }) (hB : AllBare s.gens := by first | assumption | exact BG.ok _) :
    wpAny (model prog w) A (pyIter (.ref r)) (fun it s₂ => codeAny (model prog w) A (.forLoop target it body [] env) R s₂) E s := by
  refine wpAny_pyIter_range hr hsm ?_
  have hIL : s.heap.objs.size ≠ env.locals := fun z => by
    have := ltN F.ns.lt
    rw [← z] at this; exact Nat.lt_irrefl _ this
  have hI0 : h₀.get? s.heap.objs.size = none := by
    cases q : h₀.get? s.heap.objs.size with
    | none => rfl
    | some o => exact absurd (Heap.lt_size (F.keep _ _ q)) (Nat.lt_irrefl _)
  have W := (Walks.range (prog := prog) (w := w) hh s.heap.objs.size a c 0).bound
  refine for_walk (s := { s with heap := s.heap.push _ }) (n := 0) (J := fun _ m₁ nw₁ => m₁ = m ∧ nw₁ = nw) W (fun i h st => ⟨_, st⟩) (by show IsRangeIter _ _ _ _ _; rw [hn]; simpa using Heap.get?_push_size _ rfl) hIL hI0 (fun p hp => Nat.ne_of_lt (Heap.lt_size (N p hp).1)) (F.push _) (fun p hp => ⟨Heap.get?_push_of_some _ (N p hp).1, (N p hp).2⟩) ⟨rfl, rfl⟩ (fun v s₁ i Q' E' _ q => hgo _ v s₁ Q' E' q) (fun j v m₁ nw₁ h tk g own hP hj => absurd hj (Nat.not_lt_zero _)) ?_
  rintro m₁ nw₁ h' t' g' ⟨rfl, rfl⟩ F' N'
  exact done h' t' g' F' N'
end
end Mine
end

section
open PySem PySem.W PyProof.Rows PySem.Calls PySem.Spec
set_option maxRecDepth 100000
set_option maxHeartbeats 1000000
namespace Mine
variable {w : World} {p : Program} {loose : List Str} {mean : ExcName → Option Value} {mg mb : Str → Option Value} {dp un : Nat} {fr : Option (List Env)} {gd : Option (List Code)} {s : Shared} {Q E : Value → Shared → Prop}

/-- the ground without the table of made codes -/
noncomputable def hid57 (h : Heap) : Heap := hideAll h [57]
theorem hid57_ext {G h : Heap} (hG : Ext G h) (h0 : G.get? 57 = none) : Ext G (hid57 h) := fun b o e => hideAll_get _ (hG b o e) (by
  intro q
  rw [List.mem_singleton.mp q, h0] at e; cases e)
theorem hid57_none {h : Heap} : (hid57 h).get? 57 = none := hideAll_none _ (List.mem_singleton.mpr rfl)
theorem hid57_fr {h h₁ : Heap} {L : Addr} {m : Str → Option Value} (F : Fr h L h₁ m) : Fr (hid57 h) L h₁ m := ⟨F.ns, fun b o e => F.keep b o (of_hideAll _ e), Nat.le_trans (Nat.le_of_eq (hideAll_size _ _)) F.above⟩
theorem hid57_news {h h₁ : Heap} {L : Addr} {m : Str → Option Value} {o : Obj} (F : Fr h L h₁ m) (e : h.get? 57 = some o) : News (hid57 h) L h₁ [((57 : Addr), o)] := fun p hp => by
  rw [List.mem_singleton.mp hp]
  refine ⟨F.keep _ _ e, fun z => ?_, hid57_none⟩
  have h1 := Heap.lt_size e
  have := F.above
  rw [show (57 : Addr) = L from z] at h1
  exact Nat.lt_irrefl _ (Nat.lt_of_lt_of_le h1 this)

noncomputable def BdAt (b D : Addr) (h : Heap) : Prop := h.get? b = some (bobj D)
section
variable {M : Model} {A : Around} {E : Value → Shared → Prop} {s : Shared} {env : Env} {pos : Pos} {first : List Value} {Q : Value → Shared → Prop} {b D : Addr}
theorem keeps_B (h : Heap) (X : BdAt b D h) : ∃ k, (k = Keeper.frame ∨ k = Keeper.machine ∨ k = Keeper.boundFrame) ∧ Looks M h (keeperOf (.ref b)) k :=
  ⟨.machine, .inr (.inl rfl), (Looks.ld (part := none) X).andThen .now⟩
theorem callWith_B {e : Expr} {rest : List Expr} (_X : BdAt b D s.heap) (h : wpAny M A (spliced (backTo pos (starEach (e :: rest) env))) (fun vs s₁ => BdAt b D s₁.heap ∧ wpAny M A (call (.ref b) (first ++ vs)) Q E s₁) E s)
    (he : starEach (e :: rest) env = (false, eval e env) :: starEach rest env := by rfl) (hplain : (backTo pos (starEach rest env)).any (·.1) = false := by rfl) :
    wpAny M A (callWith pos (.ref b) first (backTo pos (starEach (e :: rest) env)) []) Q E s := by
  rw [he] at h ⊢
  exact callWith_of (by show ((false || (backTo pos (starEach rest env)).any (·.1)) || false) = false; rw [hplain]; rfl) keeps_B (evalArgs_plain h)
end
section
variable {prog : Program} {A : Around}
theorem if_dec {env : Env} {h₀ : Heap} {L : Addr} {test : Expr} {body orelse : List Stmt} {pos : Pos} {m : Str → Option Value} {nw : List (Addr × Obj)} {Q : Flow → Shared → Prop} (F : Fr h₀ L s.heap m) (N : News h₀ L s.heap nw) (B : Bool)
    (h1 : wpAny (model prog w) A (isTrue test env (eval test env)) (TJoin h₀ L m nw B s) E s)
    (h2 : ∀ h' tk (g : BG), Fr h₀ L h' m → News h₀ L h' nw → wpAny (model prog w) A (execs (if B = true then body else orelse) env) Q E { s with heap := h', toks := tk, gens := g }) : wpAny (model prog w) A (exec (.If test body orelse pos) env) Q E s := by
  refine wpAny_If (test_join F N B h1 fun h' tk g F' N' => ?_)
  have := h2 h' tk g F' N'
  cases B <;> simpa using this
end
theorem sub_last {prog : Program} {A : Around} {value slice : Expr} {l : Addr} {vs : List Value} {y : Value} {t : Tok} {Q : Value → Shared → Prop} (hl : s.heap.IsList l (vs ++ [y]).toArray) (h : Q y s)
    (hs : subscripted slice false (.ref l) (.int (-1) t) = operate [.ref l, .int (-1) t] (getItem (.ref l) (.int (-1) t)) := by with_unfolding_all rfl) (hg : ∀ r, letTemporaryGo value (.ref l) r = pure () := by intro _; with_unfolding_all rfl) :
    wpAny (model prog w) A (subscriptTail value slice (.ref l) (.int (-1) t)) Q E s := by
  refine subscriptTail_builtin hl.typeIs slot_list_getitem.lookup (wpAny_getItem_list_neg (x := y) hl (by decide) (by simp; omega) (by decide) ?_ h) hs hg
  have : (-1 + ((vs ++ [y]).toArray.size : Int)).toNat = vs.length := by simp; omega
  rw [this]; simp
theorem if_decP {prog : Program} {A : Around} {env : Env} {h₀ : Heap} {L : Addr} {test : Expr} {body orelse : List Stmt} {pos : Pos} {m : Str → Option Value} {nw : List (Addr × Obj)} {Q : Flow → Shared → Prop} (F : Fr h₀ L s.heap m) (N : News h₀ L s.heap nw) (B : Bool)
    (h1 : wpAny (model prog w) A (isTrue test env (eval test env)) (fun b s₂ => 0 < s₂.toks ∧ TJoin h₀ L m nw B s b s₂) E s)
    (h2 : ∀ h' tk (g : BG), 0 < tk → Fr h₀ L h' m → News h₀ L h' nw → wpAny (model prog w) A (execs (if B = true then body else orelse) env) Q E { s with heap := h', toks := tk, gens := g }) : wpAny (model prog w) A (exec (.If test body orelse pos) env) Q E s := by
  refine wpAny_If (wpAny_mono h1 (fun b s₂ q => ?_) fun _ _ e => e)
  obtain ⟨hp, rfl, h', tk, g', m', nw', rfl, F', N', rfl, rfl⟩ := q
  have := h2 h' tk g' hp F' N'
  cases b <;> simpa using this
theorem ite_tt {α : Sort _} {a b : α} : (if true = true then a else b) = a := if_pos rfl
theorem ite_ff {α : Sort _} {a b : α} : (if false = true then a else b) = b := if_neg Bool.false_ne_true
theorem sub_val {prog : Program} {A : Around} {value slice : Expr} {l : Addr} {vs : List Value} {k : Nat} {t : Tok} {v : Value} {Q : Value → Shared → Prop} (hl : s.heap.IsList l vs.toArray) (hx : vs[k]? = some v) (hk : k < 1000000) (h : Q v s)
    (hs : subscripted slice false (.ref l) (.int ((k : Nat) : Int) t) = operate [.ref l, .int ((k : Nat) : Int) t] (getItem (.ref l) (.int ((k : Nat) : Int) t)) := by with_unfolding_all rfl) (hg : ∀ r, letTemporaryGo value (.ref l) r = pure () := by intro _; with_unfolding_all rfl) :
    wpAny (model prog w) A (subscriptTail value slice (.ref l) (.int ((k : Nat) : Int) t)) Q E s :=
  subscriptTail_builtin hl.typeIs slot_list_getitem.lookup (wpAny_getItem_list (x := v) hl (Int.natCast_nonneg _) (by omega) (by simpa using hx) h) hs hg
end Mine
end

section
open PySem PySem.W PyProof.Rows PySem.Calls PySem.Spec
set_option maxRecDepth 100000
set_option maxHeartbeats 400000
namespace Mine
theorem fresh_TE : True := by w_top off; trivial
section
variable {prog : Program} {w : World} {A : Around} {E : Value → Shared → Prop} {s : Shared} {env : Env}
theorem rep_meth {o : Expr} {apos pos p1 p2 : Pos} {a b : Str} {k1 k2 : Nat} {Q : Value → Shared → Prop}
    (hbase : attributeBase o (Str.ofString "replace") env (eval o env) = eval o env) (hline : (apos.endLine == pos.line) = true) (hab : (a == b) = false) (hb : b.length ≤ 14)
    (h : wpAny (model prog w) A (eval o env) (fun ov s₁ => ∃ x t, ov = .str x t ∧ 0 < s₁.toks ∧ x.length ≤ 1000 ∧ ∀ t' k, 0 < k → Q (.str (Txt.replace x a b) t') { s₁ with toks := k }) E s) :
    wpAny (model prog w) A (eval (.Call (.Attribute o (Str.ofString "replace") apos) [.Constant (.str a) k1 p1, .Constant (.str b) k2 p2] [] pos) env) Q E s := by
  refine wpAny_Call_method (T := "str") (id := "str.replace") hbase rfl hline PySem.F.plainAttrs_str PySem.F.slot_str_replace PySem.F.type_str_replace (wpAny_mono h (fun ov s₁ h₁ => ?_) fun _ _ e => e)
  obtain ⟨x, t, rfl, h0, hx, hq⟩ := h₁
  refine ⟨typeIs_str _ _ _, (fun a e => nomatch e), ?_⟩
  repeat ((fail_if_success with_reducible show wpAny _ _ (call (Value.builtin "str.replace") _) _ _ _); walk1)
  refine wpAny_with_toks (Nat.le_refl _) (SC.replaceW (u := s₁.toks) (v := s₁.toks + 1) (Nat.pos_iff_ne_zero.mp h0) (Nat.succ_ne_zero _) (Nat.ne_of_lt (Nat.lt_succ_self _)) hab (Nat.le_trans hx (by decide)) hb fun t' k htk => ?_)
  exact hq t' k (Nat.lt_of_lt_of_le (Nat.lt_of_lt_of_le h0 (Nat.le_succ_of_le (Nat.le_succ _))) htk)
theorem rep_elt {A' : Around} {n : Str} {p0 ap1 ap2 q1 q2 p1 p2 p3 p4 : Pos} {k1 k2 k3 k4 : Nat} {C' : Addr} {m₂ : Str → Option Value} {body : List Nat} {tv : Tok} (hk : env.scope.kind = .function) (hl : env.kindOf n = some .local) (hC : env.locals = C') (hn : s.heap.Ns C' m₂) (hm : m₂ n = some (.str ⟨body.toArray⟩ tv)) (h0 : 0 < s.toks) (hb : body.length ≤ 4)
    (hl1 : (ap1.endLine == q1.line) = true) (hl2 : (ap2.endLine == q2.line) = true) (hnd : (n == ("__debug__" : Str)) = false) (hb1 : attributeBase (.Name n p0) (Str.ofString "replace") env (eval (.Name n p0) env) = eval (.Name n p0) env)
    (hb2 : attributeBase (.Call (.Attribute (.Name n p0) (Str.ofString "replace") ap1) [.Constant (.str (Str.ofString "\\")) k1 p1, .Constant (.str (Str.ofString "\\\\")) k2 p2] [] q1) (Str.ofString "replace") env (eval (.Call (.Attribute (.Name n p0) (Str.ofString "replace") ap1) [.Constant (.str (Str.ofString "\\")) k1 p1, .Constant (.str (Str.ofString "\\\\")) k2 p2] [] q1) env) = eval (.Call (.Attribute (.Name n p0) (Str.ofString "replace") ap1) [.Constant (.str (Str.ofString "\\")) k1 p1, .Constant (.str (Str.ofString "\\\\")) k2 p2] [] q1) env) :
    wpAny (model prog w) A' (eval (.Call (.Attribute (.Call (.Attribute (.Name n p0) (Str.ofString "replace") ap1) [.Constant (.str (Str.ofString "\\")) k1 p1, .Constant (.str (Str.ofString "\\\\")) k2 p2] [] q1) (Str.ofString "replace") ap2) [.Constant (.str (Str.ofString "-")) k3 p3, .Constant (.str (Str.ofString "\\-")) k4 p4] [] q2) env)
      (fun y s₃ => (∃ u, y = .str ⟨(body.flatMap e1).toArray⟩ u) ∧ Keeps s s₃) E s := by
  subst hC
  have o92 : Str.ofString "\\" = (⟨#[92]⟩ : Str) := by decide +kernel
  have o9292 : Str.ofString "\\\\" = (⟨[92, 92].toArray⟩ : Str) := by decide +kernel
  have o45 : Str.ofString "-" = (⟨#[45]⟩ : Str) := by decide +kernel
  have o9245 : Str.ofString "\\-" = (⟨[92, 45].toArray⟩ : Str) := by decide +kernel
  have hcps : ∀ l : List Nat, (⟨l.toArray⟩ : Str).cps.toList = l := fun _ => rfl
  have hlen : (rep 92 [92, 92] body).length ≤ 2 * body.length := by
    clear hm hb
    induction body with
    | nil => exact Nat.le_refl _
    | cons c r ih =>
      show ((if c = 92 then [92, 92] else [c]) ++ rep 92 [92, 92] r).length ≤ _
      rw [List.length_append, List.length_cons]
      have : (if c = 92 then [92, 92] else [c] : List Nat).length ≤ 2 := by split <;> simp
      omega
  refine rep_meth hb2 hl2 (by rw [o45, o9245]; decide) (by rw [o9245]; decide) ?_
  refine rep_meth hb1 hl1 (by rw [o92, o9292]; decide) (by rw [o9292]; decide) ?_
  refine wpAny_Name (wpAny_loadName_local hk hl hn hm ?_) hnd
  refine ⟨_, _, rfl, h0, ?_, fun t1 k1 hk1 => ⟨_, _, rfl, hk1, ?_, fun t2 k2 hk2 => ⟨⟨t2, ?_⟩, s.heap, k2, rfl, fun _ _ e => e⟩⟩⟩
  · show body.toArray.size ≤ 1000
    rw [List.size_toArray]; omega
  · rw [o92, o9292, replace_rep, hcps]
    show (rep 92 [92, 92] body).toArray.size ≤ 1000
    rw [List.size_toArray]; omega
  · rw [o92, o9292, o45, o9245, replace_rep, replace_rep, hcps, hcps, rep_e1]
end
end Mine
end

set_option hygiene false
set_option compiler.extract_closed false
set_option compiler.reuse false
local macro_rules | `(tactic| walk_at $s:str) => match s.getString with
  | "execs cons" => return Mine.sx [] "a~first a~| a~( a~k_here n~1~PySem.W.tacticK_here a~; a~k_gentoks n~1~PySem.W.tacticK_gentoks n~3~null n~1~Lean.Parser.Tactic.tacticSeq1Indented n~1~Lean.Parser.Tactic.tacticSeq a~) n~3~Lean.Parser.Tactic.paren n~1~null n~1~Lean.Parser.Tactic.tacticSeq1Indented n~1~Lean.Parser.Tactic.tacticSeq n~2~group a~| a~( a~with_reducible a~refine i~execs_seq a~? a~_ n~2~Lean.Parser.Term.syntheticHole n~1~null n~2~Lean.Parser.Term.app n~2~Lean.Parser.Tactic.refine n~1~null n~1~Lean.Parser.Tactic.tacticSeq1Indented n~1~Lean.Parser.Tactic.tacticSeq n~2~Lean.Parser.Tactic.withReducible n~1~null n~1~Lean.Parser.Tactic.tacticSeq1Indented n~1~Lean.Parser.Tactic.tacticSeq a~) n~3~Lean.Parser.Tactic.paren n~1~null n~1~Lean.Parser.Tactic.tacticSeq1Indented n~1~Lean.Parser.Tactic.tacticSeq n~2~group n~2~null n~2~Lean.Parser.Tactic.first"
  | "SeqP" => return Mine.sx [] "a~( a~w_is_and i~sq_SeqP n~2~PySem.W.tacticW_is_and_ a~; a~( a~try a~clear i~qk n~1~null n~2~Lean.Parser.Tactic.clear n~1~null n~1~Lean.Parser.Tactic.tacticSeq1Indented n~1~Lean.Parser.Tactic.tacticSeq n~2~Lean.Parser.Tactic.tacticTry_ n~1~null n~1~Lean.Parser.Tactic.tacticSeq1Indented n~1~Lean.Parser.Tactic.tacticSeq a~) n~3~Lean.Parser.Tactic.paren a~; a~( a~try a~clear i~ek n~1~null n~2~Lean.Parser.Tactic.clear n~1~null n~1~Lean.Parser.Tactic.tacticSeq1Indented n~1~Lean.Parser.Tactic.tacticSeq n~2~Lean.Parser.Tactic.tacticTry_ n~1~null n~1~Lean.Parser.Tactic.tacticSeq1Indented n~1~Lean.Parser.Tactic.tacticSeq a~) n~3~Lean.Parser.Tactic.paren n~5~null n~1~Lean.Parser.Tactic.tacticSeq1Indented n~1~Lean.Parser.Tactic.tacticSeq a~) n~3~Lean.Parser.Tactic.paren"
  | "PostG" => return Mine.sx [] "a~w_is_and i~sq_PostG n~2~PySem.W.tacticW_is_and_"
  | "WPost2" => return Mine.sx [] "a~w_is_and i~sq_WPost2 n~2~PySem.W.tacticW_is_and_"
  | _ => Lean.Macro.throwUnsupported
set_option hygiene true

section
open PySem PySem.W PyProof.Rows PySem.Calls PySem.Spec
set_option maxRecDepth 100000
set_option maxHeartbeats 8000000
namespace Mine

set_option hygiene false
set_option hygiene true
noncomputable def Kstrip_call.St (w : World) (p : Program) (loose : List Str) (mean : ExcName → Option Value) (mg : Str → Option Value) (mb : Str → Option Value) (dp : Nat) (un : Nat) (fr : Option (List Env)) (gd : Option (List Code)) (s : Shared) (Q : Value → Shared → Prop) (E : Value → Shared → Prop) : Prop :=
  ∀ (x : Str) (t : Tok) (X : (KK w).In s.heap) (T : Top p loose mean mg mb s.heap) (hd : dp + 20 < recursionLimit) (hu : un + 100 < cLine) (hx : x.cps.size ≤ 200) (h : ∀ h' t' (g' : BG) t2, Ext s.heap h' → Q (.str ⟨(strp' x.cps.toList).toArray⟩ t2) { s with heap := h', toks := t', gens := g' }) (hB : AllBare s.gens),
    wpAny (model PG w) (Ar dp un fr gd) (call (.ref 83) [.str x t]) Q E s
namespace Kstrip_call
@[irreducible] noncomputable def bad : Base := Base.bad St
noncomputable def w : World := bad.w
noncomputable def p : Program := bad.p
noncomputable def loose : List Str := bad.loose
noncomputable def mean : ExcName → Option Value := bad.mean
noncomputable def mg : Str → Option Value := bad.mg
noncomputable def mb : Str → Option Value := bad.mb
noncomputable def dp : Nat := bad.dp
noncomputable def un : Nat := bad.un
noncomputable def fr : Option (List Env) := bad.fr
noncomputable def gd : Option (List Code) := bad.gd
noncomputable def s : Shared := bad.s
noncomputable def Q : Value → Shared → Prop := bad.Q
noncomputable def E : Value → Shared → Prop := bad.E
noncomputable def L : Addr := s.heap.objs.size
theorem hL : s.heap.objs.size = L := rfl
theorem at_bad : St w p loose mean mg mb dp un fr gd s Q E := by
  unfold St
  intros x t X T hd hu hx h hB
  revert X; unfold PG KK
  k_fill; intro X
  refine enterX (binds := [(Str.ofString "addr", .str x t)]) X T.nolimit (by k_is) (by k_is) (by omega) rfl rfl (fun L' h₁ hL' F N => ?_)
  obtain rfl : L' = L := hL'.symm.trans hL
  k_fold
  w_is_and go_4
  · rename (Builtin.Str.occurrences _ _ _ _ _).isEmpty = true => e
    rw [show Str.ofString "\"" = (⟨#[34]⟩ : Str) from by decide +kernel, empty_one] at e
    have e2 : strp' x.cps.toList = x.cps.toList := by
      unfold strp'
      rw [if_neg]
      simpa using e
    have e3 : (⟨(strp' x.cps.toList).toArray⟩ : Str) = x := by rw [e2]
    rw [e3] at h
    exact h _ _ ⟨s.gens, hB⟩ t F.keep
  rename (Builtin.Str.occurrences _ _ _ _ _).isEmpty = false => e
  rw [show Str.ofString "\"" = (⟨#[34]⟩ : Str) from by decide +kernel, empty_one] at e
  have hc : x.cps.toList.contains 34 = true := by simpa using e
  rename Fr _ _ _ _ => F2
  rename News _ _ _ _ => N2
  rename_i R _ _ _
  refine wpAny_For ?_
  w_is_and go_8
  have hLR : L ≠ R := fun z => (N2 _ (List.mem_cons_self ..)).2.1 z.symm
  refine it_call [L, R] F2 X T rfl (by show dp + 1 + 8 < recursionLimit; omega) (fun b hb => ?_) fun a g h2 t2' g2 hit ha hk2 => ?_
  · rcases List.mem_cons.mp hb with rfl | hb
    · obtain ⟨o, _, _, q, _⟩ := F2.ns
      exact ⟨o, q⟩
    · exact ⟨_, List.mem_singleton.mp hb ▸ (N2 _ (List.mem_cons_self ..)).1⟩
  have F3 := F2.keeps hk2
  have N3 : News s.heap L h2 [(R, listOf #[] 0)] := fun p hp => ⟨hk2 _ _ (N2 p hp).1, (N2 p hp).2⟩
  have ha0 : s.heap.get? a = none := fr_none F2 ha
  have haL : a ≠ L := fr_neL F2 ha
  have haR : a ≠ R := fun z => by
    rw [z, (N2 _ (List.mem_cons_self ..)).1] at ha; cases ha
  refine wpAny_pyIter_gen hit.1 ?_
  have hst : strp' x.cps.toList = ((if (stq x.cps.toList (pcs x.cps.toList 0 false) 0 none []).1 < x.cps.toList.length then (stq x.cps.toList (pcs x.cps.toList 0 false) 0 none []).2 ++ [⟨(x.cps.toList.drop (stq x.cps.toList (pcs x.cps.toList 0 false) 0 none []).1).toArray⟩] else (stq x.cps.toList (pcs x.cps.toList 0 false) 0 none []).2).map (·.cps.toList)).flatten := by
    unfold strp'
    rw [if_pos hc]
  have hpn : (pcs x.cps.toList 0 false).length ≤ 201 := Nat.le_trans (pcs_len _ _ _) (by simp; omega)
  generalize pcs x.cps.toList 0 false = ps at hit hst hpn
  clear F2 N2
  refine for_it (w := w) (Lc := L) (nw := [(R, listOf #[] 0)]) (J := fun j m nw => Ex8 fun st op res vs n tk1 tk2 ov => And7 (nw = [(R, listOf (vs : List Value).toArray n)]) (StrsAre vs res) (res.length ≤ j) ((∀ y ∈ res, y.length ≤ 200)) (LV m [(Str.ofString "addr", .str x t), (Str.ofString "start", .int ((st : Nat) : Int) tk1), (Str.ofString "open_pos", ov), (Str.ofString "result", .ref R)]) ((ov = match op with | none => Value.none | some o => .int ((o : Nat) : Int) tk2)) (stq x.cps.toList (ps.drop j) st op res = stq x.cps.toList ps 0 none []))
    rfl (by show dp + 1 < recursionLimit; omega) T.nolimit (by simpa using ⟨haL, haR⟩) ha0 rfl rfl rfl rfl F3 N3 hit ⟨0, none, [], [], 0, _, 0, _, rfl, .nil, Nat.le_refl _, (fun _ h => nomatch h), rfl, rfl, rfl⟩ ?_ ?_
  · intro j pc m₁ nw₁ s₁ tk tk' own hpc hJ1 hJ2 hoff F4 N4 hJ3
    clear hJ2
    try k_fold
    revert hoff F4 N4
    obtain ⟨st, op, res, vs, n, tk1, tk2, ov, rfl, hvs, hrl, hrs, hm, hov, hstq⟩ := hJ1
    obtain ⟨h5, t5, g5, rfl⟩ := hJ3
    intro hoff F4 N4
    w_is_and my_aa
    intros x t h₁ v1_ R v2_ v3_ a g h2 t2' g2 ps j pc m₁ tk tk' own st op res vs n tk1 tk2 ov h5 t5 g5
    intro T hd hu hx h hB X hL' e _ hc hLR ha hk2 F3 N3 ha0 haL haR hit hst hpn hpc hvs hrl hrs hm hov hstq hoff F4 N4; try k_fold
    rw [hm.can] at F4
    rw [List.drop_eq_getElem_cons (List.getElem?_eq_some_iff.mp hpc).1, (List.getElem?_eq_some_iff.mp hpc).2] at hstq
    dsimp only [List.cons_append, List.nil_append] at N4
    clear F3 N3
    subst hov
    cases op with
    | none =>
      dsimp only at F4
      w_is_and go_32
      all_goals (rename Fr _ _ _ _ => F9)
      all_goals (rename News _ _ _ _ => N9)
      · rw [stq1 (by assumption)] at hstq
        exact InvEndN.intro (nx := [(R, listOf vs.toArray n)]) F9 N9 ⟨st, some pc.1, res, vs, n, tk1, _, _, rfl, hvs, Nat.le_succ_of_le hrl, hrs, rfl, rfl, hstq⟩ rfl (fun p hp => by rw [List.mem_singleton.mp hp]; exact List.mem_cons_self ..) (fun _ hp => List.mem_cons_of_mem _ hp)
      · rw [stq3 (by assumption)] at hstq
        exact InvEndN.intro (nx := [(R, listOf vs.toArray n)]) F9 N9 ⟨st, none, res, vs, n, tk1, 0, _, rfl, hvs, Nat.le_succ_of_le hrl, hrs, rfl, rfl, hstq⟩ rfl (fun p hp => by rw [List.mem_singleton.mp hp]; exact List.mem_cons_self ..) (fun _ hp => List.mem_cons_of_mem _ hp)
    | some o =>
      dsimp only at F4
      w_is_and go_3_32
      · rename_i hne _ _ hlen
        rename Fr _ _ _ _ => F9
        rename News _ _ _ _ => N9
        refine append_K F9 N9 (Upd.head fun p hp => hoff p hp R (by simp)) (fun h6 F6 N6 => ?_) ?_
        rotate_left
        · have := strsAre_length hvs
          have hj2 := (List.getElem?_eq_some_iff.mp hpc).1
          rw [sizeLine_eq]; simp; omega
        clear F9 N9
        w_is_and go_32
        rename Fr _ _ _ _ => F9
        rename News _ _ _ _ => N9
        rw [slice_ij] at N9 hlen
        rw [stq2 (by assumption), if_pos (by omega)] at hstq
        simp only [List.push_toArray] at N9
        refine InvEndN.intro (nx := [(R, listOf (vs ++ [Value.str ⟨((x.cps.toList.drop st).take (o - st)).toArray⟩ _]).toArray (n + 1))]) F9 N9 ⟨pc.1 + 1, none, _, _, _, _, 0, _, rfl, strsAre_append hvs (.cons _ _ .nil), by simp; omega, fun y hy => ?_, rfl, rfl, hstq⟩ rfl (fun p hp => by rw [List.mem_singleton.mp hp]; exact List.mem_cons_self ..) (fun _ hp => List.mem_cons_of_mem _ hp)
        rcases List.mem_append.mp hy with hy | hy
        · exact hrs y hy
        · rw [List.mem_singleton.mp hy]
          have : x.length ≤ 200 := hx
          omega
      all_goals (rename Fr _ _ _ _ => F9)
      all_goals (rename News _ _ _ _ => N9)
      · rw [stq2 (by assumption), if_neg (by omega)] at hstq
        exact InvEndN.intro (nx := [(R, listOf vs.toArray n)]) F9 N9 ⟨pc.1 + 1, none, res, vs, n, _, 0, _, rfl, hvs, Nat.le_succ_of_le hrl, hrs, rfl, rfl, hstq⟩ rfl (fun p hp => by rw [List.mem_singleton.mp hp]; exact List.mem_cons_self ..) (fun _ hp => List.mem_cons_of_mem _ hp)
      · rw [stq3 (by assumption)] at hstq
        exact InvEndN.intro (nx := [(R, listOf vs.toArray n)]) F9 N9 ⟨st, some o, res, vs, n, tk1, tk2, _, rfl, hvs, Nat.le_succ_of_le hrl, hrs, rfl, rfl, hstq⟩ rfl (fun p hp => by rw [List.mem_singleton.mp hp]; exact List.mem_cons_self ..) (fun _ hp => List.mem_cons_of_mem _ hp)
  · intro m₁ nw₁ h' t' g' hJ4 F4 N4
    try k_fold
    revert F4 N4
    obtain ⟨st, op, res, vs, n, tk1, tk2, ov, rfl, hvs, hrl, hrs, hm, hov, hstq⟩ := hJ4
    intro F4 N4
    rw [hm.can] at F4
    rw [List.drop_length, stq] at hstq
    rw [← hstq] at hst
    have hnl := strsAre_length hvs
    have hxl : x.length ≤ 1048576 := by have : x.length ≤ 200 := hx; omega
    clear F3 N3
    w_is_and go_11
    · rename (Txt.slice _ _ _).length ≤ _ => hlen
      rename (_ : Int) < _ => hlt
      rename Fr _ _ _ _ => F9
      rename News _ _ _ _ => N9
      rw [slice_i] at N9 hlen
      simp only [List.push_toArray] at N9
      refine join_listW (N9.isList (List.mem_cons_self ..)) (ys := res ++ [⟨(x.cps.toList.drop st).toArray⟩]) (strsAre_append hvs (.cons _ _ .nil)) (by decide) (sum_bound (n := 200) (k := 202) (fun y hy => ?_) (by simp; omega) (by decide)) fun t' k => ?_
      · rcases List.mem_append.mp hy with hy | hy
        · exact hrs y hy
        · rw [List.mem_singleton.mp hy]
          have : x.length ≤ 200 := hx
          omega
      · have e : Txt.join (Str.ofString "") (res ++ [⟨(x.cps.toList.drop st).toArray⟩]) = (⟨(strp' x.cps.toList).toArray⟩ : Str) := str_ext (by
          rw [show Str.ofString "" = Str.empty from by decide +kernel, join_flat, hst]
          have hlt' : st < x.cps.toList.length := by have : x.cps.toList.length = x.length := by simp [Str.length]
                                                     omega
          simp only [hlt', if_true])
        show Q (.str (Txt.join (Str.ofString "") _) t') _
        rw [e]
        exact h _ _ g' t' F9.keep
    · rename ¬ (_ : Int) < _ => hlt
      rename Fr _ _ _ _ => F9
      rename News _ _ _ _ => N9
      refine join_listW (N9.isList (List.mem_cons_self ..)) (ys := res) hvs (by decide) (sum_bound (n := 200) (k := 202) hrs (by omega) (by decide)) fun t' k => ?_
      have e : Txt.join (Str.ofString "") res = (⟨(strp' x.cps.toList).toArray⟩ : Str) := str_ext (by
        rw [show Str.ofString "" = Str.empty from by decide +kernel, join_flat, hst]
        have hlt' : ¬ st < x.cps.toList.length := by have : x.cps.toList.length = x.length := by simp [Str.length]
                                                     omega
        simp only [hlt', if_false])
      show Q (.str (Txt.join (Str.ofString "") _) t') _
      rw [e]
      exact h _ _ g' t' F9.keep

end Kstrip_call
section
variable {w : World} {p : Program} {loose : List Str} {mean : ExcName → Option Value} {mg mb : Str → Option Value} {dp un : Nat} {fr : Option (List Env)} {gd : Option (List Code)} {s : Shared} {Q E : Value → Shared → Prop}
theorem strip_call {x : Str} {t : Tok} (X : (KK w).In s.heap) (T : Top p loose mean mg mb s.heap) (hd : dp + 20 < recursionLimit) (hu : un + 100 < cLine) (hx : x.cps.size ≤ 200) (h : ∀ h' t' (g' : BG) t2, Ext s.heap h' → Q (.str ⟨(strp' x.cps.toList).toArray⟩ t2) { s with heap := h', toks := t', gens := g' }) (hB : AllBare s.gens := by first | assumption | exact BG.ok _) :
    wpAny (model PG w) (Ar dp un fr gd) (call (.ref 83) [.str x t]) Q E s :=
  (Base.all Kstrip_call.St (by with_unfolding_all exact Kstrip_call.at_bad) ⟨w, p, loose, mean, mg, mb, dp, un, fr, gd, s, Q, E⟩) x t X T hd hu hx h hB
end
end Mine
end

section
open PySem PySem.W PyProof.Rows PySem.Calls PySem.Spec
set_option maxRecDepth 100000
set_option maxHeartbeats 8000000
namespace Mine
theorem fresh_G6 : True := by w_top off; trivial
set_option hygiene false
set_option hygiene true
section
variable {w : World} {p : Program} {loose : List Str} {mean : ExcName → Option Value} {mg mb : Str → Option Value} {dp un : Nat} {fr : Option (List Env)} {gd : Option (List Code)} {s : Shared} {Q E : Value → Shared → Prop}

end
noncomputable def Kcheck_call.St (w : World) (p : Program) (loose : List Str) (mean : ExcName → Option Value) (mg : Str → Option Value) (mb : Str → Option Value) (dp : Nat) (un : Nat) (fr : Option (List Env)) (gd : Option (List Code)) (s : Shared) (Q : Value → Shared → Prop) (E : Value → Shared → Prop) : Prop :=
  ∀ (x : Str) (t : Tok) (X : (KK w).In s.heap) (T : Top p loose mean mg mb s.heap) (hd : dp + 40 < recursionLimit) (hu : un + 200 < cLine) (hx : x.cps.size ≤ 200) (h : ∀ h' t' (g' : BG), Ext s.heap h' → Q (.bool (chk x.cps.toList)) { s with heap := h', toks := t', gens := g' }) (hB : AllBare s.gens),
    wpAny (model PG w) (Ar dp un fr gd) (call (.ref 90) [.str x t]) Q E s
namespace Kcheck_call
@[irreducible] noncomputable def bad : Base := Base.bad St
noncomputable def w : World := bad.w
noncomputable def p : Program := bad.p
noncomputable def loose : List Str := bad.loose
noncomputable def mean : ExcName → Option Value := bad.mean
noncomputable def mg : Str → Option Value := bad.mg
noncomputable def mb : Str → Option Value := bad.mb
noncomputable def dp : Nat := bad.dp
noncomputable def un : Nat := bad.un
noncomputable def fr : Option (List Env) := bad.fr
noncomputable def gd : Option (List Code) := bad.gd
noncomputable def s : Shared := bad.s
noncomputable def Q : Value → Shared → Prop := bad.Q
noncomputable def E : Value → Shared → Prop := bad.E
noncomputable def L : Addr := s.heap.objs.size
theorem hL : s.heap.objs.size = L := rfl
theorem at_bad : St w p loose mean mg mb dp un fr gd s Q E := by
  unfold St
  intros x t X T hd hu hx h hB
  revert X; unfold PG KK
  k_fill; intro X
  refine enterX (binds := [(Str.ofString "addr", .str x t)]) X T.nolimit (by k_is) (by k_is) (by omega) rfl rfl (fun L' h₁ hL' F N => ?_)
  obtain rfl : L' = L := hL'.symm.trans hL
  k_fold
  repeat ((fail_if_success w_is_and st_8); walk1)
  refine strip_call (X.keeps (Fr.keep (by assumption))) (T.keeps (Fr.keep (by assumption))) (by omega) (by omega) hx fun h' t' g' t2 hk => ?_
  rename Fr _ _ _ _ => F1
  replace F1 := F1.keeps hk
  have N1 : News s.heap L h' [] := News.nil
  repeat ((fail_if_success w_is_and st_4); walk1)
  refine wpAny_For ?_
  repeat ((fail_if_success w_is_and st_8); walk1)
  rename Fr _ _ _ _ => F2
  rename News _ _ _ _ => N2
  have hz : L < _ := ltN F2.ns.lt
  refine it_call [L] F2 X T rfl (by show dp + 1 + 8 < recursionLimit; omega) (fun b hb => ?_) fun a g h2 t2' g2 hit ha hk2 => ?_
  · obtain ⟨o, _, _, q, _⟩ := F2.ns
    exact ⟨o, (List.mem_singleton.mp hb) ▸ q⟩
  have F3 := F2.keeps hk2
  have N3 : News s.heap L h2 [] := News.nil
  have ha0 : s.heap.get? a = none := fr_none F2 ha
  have haL : a ≠ L := fr_neL F2 ha
  refine wpAny_pyIter_gen hit.1 ?_
  have hps : pcs (⟨(strp' x.cps.toList).toArray⟩ : Str).cps.toList 0 false = pcs (strp' x.cps.toList) 0 false := by simp
  rw [hps] at hit
  have hchk : chk x.cps.toList = (dep ((pcs (strp' x.cps.toList) 0 false).map (·.2)) 0 == some 0) := rfl
  generalize pcs (strp' x.cps.toList) 0 false = ps at hit hchk
  refine for_it (w := w) (Lc := L) (nw := []) (J := fun j m nw => And2 (nw = []) (Ex2 fun d tk => And2 (LV m [(Str.ofString "opens", .int d tk)]) (dep ((ps.drop j).map (·.2)) d = dep (ps.map (·.2)) 0)))
    rfl (by show dp + 1 < recursionLimit; omega) T.nolimit (by simpa using haL) ha0 rfl rfl rfl rfl F3 N3 hit ⟨rfl, 0, _, rfl, rfl⟩ ?_ ?_
  · intro j pc m₁ nw₁ s₁ tk tk' own hpc hJ1 hJ2 hoff F4 N4 hJ3
    w_is_and my_aa
    intros x t h₁ v1_ h' t' g' t2 v2_ v3_ v4_ v5_ a g h2 t2' g2 ps j pc m₁ nw₁ s₁ tk tk' own
    intro T hd hu hx h hB X hL' hk F2 N2 hz ha hk2 F3 N3 ha0 haL hps hit hchk hpc hJ1 hJ2 hoff F4 N4 hJ3; try k_fold
    clear hJ2
    try k_fold
    revert hoff F4 N4
    obtain ⟨rfl, d, tkd, hmd, hdep⟩ := hJ1
    obtain ⟨h5, t5, g5, rfl⟩ := hJ3
    intro hoff F4 N4
    rw [hmd.can] at F4
    rw [List.drop_eq_getElem_cons (List.getElem?_eq_some_iff.mp hpc).1, (List.getElem?_eq_some_iff.mp hpc).2, List.map_cons] at hdep
    simp only [List.nil_append] at N4
    clear F2 F3 N2 N3
    w_is_and go_32
    all_goals (try rename Fr _ _ _ _ => F9)
    all_goals (try rename News _ _ _ _ => N9)
    · rw [dep1 (by assumption)] at hdep
      exact InvEndN.intro (nx := []) F9 N9 ⟨rfl, _, _, rfl, hdep⟩ rfl (fun _ hp => nomatch hp) (fun _ hp => hp)
    · rw [dep2 (by assumption) (by assumption) (by assumption)] at hdep
      have q := h _ tk g5 F9.keep
      rw [hchk, ← hdep] at q
      exact q
    · rw [dep3 (by assumption) (by assumption) (by assumption)] at hdep
      exact InvEndN.intro (nx := []) F9 N9 ⟨rfl, _, _, rfl, hdep⟩ rfl (fun _ hp => nomatch hp) (fun _ hp => hp)
    · rw [dep4 (by assumption) (by assumption)] at hdep
      exact InvEndN.intro (nx := []) F9 N9 ⟨rfl, _, _, rfl, hdep⟩ rfl (fun _ hp => nomatch hp) (fun _ hp => hp)
  · intro m₁ nw₁ h' t' g' hJ4 F4 N4
    try k_fold
    revert F4 N4
    obtain ⟨rfl, d, tkd, hmd, hdep⟩ := hJ4
    intro F4 N4
    rw [hmd.can] at F4
    clear F2 F3 N2 N3
    w_is_and go
    rename Fr _ _ _ _ => F9
    have e : (d == 0) = chk x.cps.toList := by
      rw [hchk, ← hdep, List.drop_length]
      simp [dep]
    show Q (.bool (d == 0)) _
    rw [e]
    exact h _ _ g' F9.keep
end Kcheck_call
section
variable {w : World} {p : Program} {loose : List Str} {mean : ExcName → Option Value} {mg mb : Str → Option Value} {dp un : Nat} {fr : Option (List Env)} {gd : Option (List Code)} {s : Shared} {Q E : Value → Shared → Prop}
theorem check_call {x : Str} {t : Tok} (X : (KK w).In s.heap) (T : Top p loose mean mg mb s.heap) (hd : dp + 40 < recursionLimit) (hu : un + 200 < cLine) (hx : x.cps.size ≤ 200) (h : ∀ h' t' (g' : BG), Ext s.heap h' → Q (.bool (chk x.cps.toList)) { s with heap := h', toks := t', gens := g' }) (hB : AllBare s.gens := by first | assumption | exact BG.ok _) :
    wpAny (model PG w) (Ar dp un fr gd) (call (.ref 90) [.str x t]) Q E s :=
  (Base.all Kcheck_call.St (by with_unfolding_all exact Kcheck_call.at_bad) ⟨w, p, loose, mean, mg, mb, dp, un, fr, gd, s, Q, E⟩) x t X T hd hu hx h hB
end
end Mine
end

section
open PySem PySem.W PyProof.Rows PySem.Calls PySem.Spec
set_option maxRecDepth 100000
set_option maxHeartbeats 8000000
namespace Mine
set_option hygiene false
set_option hygiene true
section
variable {w : World} {p : Program} {loose : List Str} {mean : ExcName → Option Value} {mg mb : Str → Option Value} {dp un : Nat} {fr : Option (List Env)} {gd : Option (List Code)} {s : Shared} {Q E : Value → Shared → Prop}

theorem letGo_list {prog : Program} {w : World} {A : Around} {E : Value → Shared → Prop} {s : Shared} {elts : List Expr} {x1} {pos : Pos} {I l : Addr} {i : Nat} {v : Value} {Q : Unit → Shared → Prop} (hg : s.heap.IsListIter I l i) (hQ : Q () s) :
    wpAny (model prog w) A (letOwnedTupleGo (.Tuple elts x1 pos) (.ref I) v) Q E s := by
  obtain ⟨o, ho, hc, hd⟩ := hg
  cases v with
  | ref T =>
    unfold letOwnedTupleGo
    refine wpAny_bind (wpAny_load ho ?_)
    rw [hc, hd]
    show wpAny _ A (if (["enumerate", "zip", "dict_itemiterator", "dict_reverseitemiterator", "odict_iterator", "itertools.zip_longest", "itertools.pairwise"].contains "list_iterator" && _) = true then _ else _) Q E s
    rw [if_neg (by
      intro h
      rw [show (["enumerate", "zip", "dict_itemiterator", "dict_reverseitemiterator", "odict_iterator", "itertools.zip_longest", "itertools.pairwise"].contains "list_iterator") = false from by decide, Bool.false_and] at h
      cases h)]
    exact wpAny_pure hQ
  | _ => exact wpAny_pure hQ

theorem item_i {x : Str} {i c : Nat} (h : x.cps.toList[i]? = some c) : Txt.item x ((i : Nat) : Int) = ⟨#[c]⟩ :=
  PyProof.Rows.item_meets (by omega) (by simpa using h)
theorem dw_go {p : Nat → Bool} {l : List Nat} {i c : Nat} (h : l[i]? = some c) (hp : p c = false) : (l.drop i).dropWhile p = l.drop i := by
  rw [List.drop_eq_getElem_cons (List.getElem?_eq_some_iff.mp h).1, (List.getElem?_eq_some_iff.mp h).2, List.dropWhile_cons, hp]; rfl
theorem takes_skip {b : Bool} {sg : List Nat} {r : List (Bool × List Nat)} {c : Nat} {l : List Nat} (h : (sg.contains c == b) = true) : takes ((b, sg) :: r) (c :: l) = takes ((b, sg) :: r) l := by
  rw [takes, List.dropWhile_cons, h]; rfl
theorem takes_end {b : Bool} {sg : List Nat} {r : List (Bool × List Nat)} : takes ((b, sg) :: r) [] = false := rfl
theorem takes_hit {b : Bool} {sg : List Nat} {r : List (Bool × List Nat)} {c : Nat} {l : List Nat} (h : (c :: l).dropWhile (fun c => sg.contains c == b) = c :: l) : takes ((b, sg) :: r) (c :: l) = takes r l := by
  rw [takes, h]

/-- a list of the items a pattern is read to -/
noncomputable def Items (h : Heap) (l : Addr) (its : List (Bool × List Nat)) : Prop :=
  ∃ vs : List Value, h.IsList l vs.toArray ∧ vs.length = its.length ∧ ∀ (j : Nat) (it : Bool × List Nat), its[j]? = some it → ∃ a t, vs[j]? = some (Value.ref a) ∧ IsTup h a #[.bool it.1, .str ⟨it.2.toArray⟩ t]
theorem Items.keeps {h h' : Heap} {l : Addr} {its : List (Bool × List Nat)} (x : Items h l its) (k : Ext h h') : Items h' l its := by
  obtain ⟨vs, ⟨o, e, r⟩, hn, hi⟩ := x
  refine ⟨vs, ⟨o, k _ _ e, r⟩, hn, fun j it hj => ?_⟩
  obtain ⟨a, t, hv, o', e', r'⟩ := hi j it hj
  exact ⟨a, t, hv, o', k _ _ e', r'⟩

end
noncomputable def Ktakes_call.St (w : World) (p : Program) (loose : List Str) (mean : ExcName → Option Value) (mg : Str → Option Value) (mb : Str → Option Value) (dp : Nat) (un : Nat) (fr : Option (List Env)) (gd : Option (List Code)) (s : Shared) (Q : Value → Shared → Prop) (E : Value → Shared → Prop) : Prop :=
  ∀ (l : Addr) (its : List (Bool × List Nat)) (x : Str) (t : Tok) (X : (KK w).In s.heap) (T : Top p loose mean mg mb s.heap) (hd : dp + 20 < recursionLimit) (hu : un + 100 < cLine) (hx : x.cps.size ≤ 200) (hI : Items s.heap l its) (hs : ∀ it ∈ its, it.2.length ≤ 200) (h : ∀ h' t' (g' : BG), Ext s.heap h' → Q (.bool (takes its x.cps.toList)) { s with heap := h', toks := t', gens := g' }) (hB : AllBare s.gens),
    wpAny (model PG w) (Ar dp un fr gd) (call (.ref 142) [.ref l, .str x t]) Q E s
namespace Ktakes_call
@[irreducible] noncomputable def bad : Base := Base.bad St
noncomputable def w : World := bad.w
noncomputable def p : Program := bad.p
noncomputable def loose : List Str := bad.loose
noncomputable def mean : ExcName → Option Value := bad.mean
noncomputable def mg : Str → Option Value := bad.mg
noncomputable def mb : Str → Option Value := bad.mb
noncomputable def dp : Nat := bad.dp
noncomputable def un : Nat := bad.un
noncomputable def fr : Option (List Env) := bad.fr
noncomputable def gd : Option (List Code) := bad.gd
noncomputable def s : Shared := bad.s
noncomputable def Q : Value → Shared → Prop := bad.Q
noncomputable def E : Value → Shared → Prop := bad.E
noncomputable def L : Addr := s.heap.objs.size
theorem hL : s.heap.objs.size = L := rfl
theorem at_bad : St w p loose mean mg mb dp un fr gd s Q E := by
  unfold St
  intros l its x t X T hd hu hx hI hs h hB
  revert X; unfold PG KK
  k_fill; intro X
  refine enterX (binds := [(Str.ofString "items", .ref l), (Str.ofString "name", .str x t)]) X T.nolimit (by k_is) (by k_is) (by omega) rfl rfl (fun L' h₁ hL' F N => ?_)
  obtain rfl : L' = L := hL'.symm.trans hL
  k_fold
  w_is_and go_2_4_0_1
  rename Fr _ _ _ _ => F1
  rename News _ _ _ _ => N1
  refine wpAny_For ?_
  w_is_and go_2_4_0_1_37
  obtain ⟨vs, hl, hvn, hvi⟩ := id hI
  have hsz : x.cps.toList.length = x.cps.size := by simp
  have hzl : x.length = x.cps.size := rfl
  have hxl : x.length ≤ 1048576 := by have : x.length ≤ 200 := hx; omega
  have hps : List.lookup (Str.ofString "name") [(Str.ofString "items", Value.ref l), (Str.ofString "name", Value.str x t)].reverse = some (.str x t) := rfl
  refine for_vals (nw := []) (vs := vs) (J := fun j m nw => And2 (nw = []) (Ex2 fun (ai : Nat) (tk : Tok) => And3 (LV m [(Str.ofString "items", .ref l), (Str.ofString "name", .str x t), (Str.ofString "at", .int ((ai : Nat) : Int) tk)]) (ai ≤ x.cps.size) (takes (its.drop j) (x.cps.toList.drop ai) = takes its x.cps.toList)))
    rfl (fun j m nw h' _ F' _ => by obtain ⟨o, e, r⟩ := hl; exact ⟨o, F'.keep _ _ e, r⟩) F1 (fun _ hp => nomatch hp) ⟨rfl, 0, _, rfl, Nat.zero_le _, rfl⟩ (by obtain ⟨o, e, r⟩ := hl; exact ⟨o, F1.keep _ _ e, r⟩) ?_ ?_ ?_
  · exact fun I v s₁ i Q' E' hI' hq => letGo_list hI' hq
  · intro j v m₁ nw₁ h2 tk2 g2 own hv hJ1 hoff F2 N2
    try k_fold
    revert hoff F2 N2
    obtain ⟨rfl, ai, tka, hm, hat, htk⟩ := hJ1
    intro hoff F2 N2
    rw [hm.can] at F2
    simp only [List.nil_append] at N2
    clear F1 N1
    obtain ⟨it, hit⟩ : ∃ it, its[j]? = some it := ⟨its[j]'(by have := (List.getElem?_eq_some_iff.mp hv).1; omega), by simp⟩
    obtain ⟨a, t3, hv3, hT⟩ := hvi j it hit
    obtain rfl : v = .ref a := by rw [hv] at hv3; exact Option.some.inj hv3
    replace hT : IsTup h2 a #[.bool it.1, .str ⟨it.2.toArray⟩ t3] := by obtain ⟨o, e, r⟩ := hT; exact ⟨o, F2.keep _ _ e, r⟩
    w_is_and go_2_4_0_1
    rename Fr _ _ _ _ => F3
    rename News _ _ _ _ => N3
    try clear F2 N2
    refine whl2 (n₀ := x.cps.size - ai) (fun n m nw => And2 (nw = own) (Ex2 fun (ai : Nat) (tk : Tok) => And4 (n = x.cps.size - ai) (ai ≤ x.cps.size) (LV m [(Str.ofString "items", .ref l), (Str.ofString "name", .str x t), (Str.ofString "at", .int ((ai : Nat) : Int) tk), (Str.ofString "barred", .bool it.1), (Str.ofString "signs", .str ⟨it.2.toArray⟩ t3)]) (takes (its.drop j) (x.cps.toList.drop ai) = takes its x.cps.toList)))
      (fun m nw => And2 (nw = own) (Ex2 fun (ai : Nat) (tk : Tok) => And4 (ai ≤ x.cps.size) (LV m [(Str.ofString "items", .ref l), (Str.ofString "name", .str x t), (Str.ofString "at", .int ((ai : Nat) : Int) tk)]) (takes (its.drop j) (x.cps.toList.drop ai) = takes its x.cps.toList) ((x.cps.toList.drop ai).dropWhile (fun c => it.2.contains c == it.1) = x.cps.toList.drop ai))) F3 N3 ⟨rfl, ai, tka, rfl, hat, rfl, htk⟩ ?_ ?_
    · intro n m₂ nw₂ h4 tk4 g4 hJ2 F4 N4
      try k_fold
      revert F4 N4
      obtain ⟨rfl, ai, tka, rfl, hat, hm, htk⟩ := hJ2
      intro F4 N4
      rw [hm.can] at F4
      clear F3 N3
      w_is_and go_2_4_0_1
      · rename Fr _ _ _ _ => F9
        rename News _ _ _ _ => N9
        rename (_ == it.1) = true => e
        rename (_ : Int) < _ => hlt
        have hlt' : ai < x.cps.toList.length := by omega
        have hc : x.cps.toList[ai]? = some x.cps.toList[ai] := List.getElem?_eq_getElem hlt'
        rw [item_i hc, empty_one] at e
        refine WEnd.intro (x.cps.size - (ai + 1)) nw₂ F9 N9 (fun _ h => h) (by omega) ⟨rfl, ai + 1, _, rfl, by omega, rfl, ?_⟩
        rw [← htk, List.drop_eq_getElem_cons hlt', List.drop_eq_getElem_cons (List.getElem?_eq_some_iff.mp hit).1, (List.getElem?_eq_some_iff.mp hit).2, takes_skip (b := it.1) (sg := it.2) (by simpa using e)]
      · rename Fr _ _ _ _ => F9
        rename News _ _ _ _ => N9
        rename (_ == it.1) = false => e
        rename (_ : Int) < _ => hlt
        have hlt' : ai < x.cps.toList.length := by omega
        have hc : x.cps.toList[ai]? = some x.cps.toList[ai] := List.getElem?_eq_getElem hlt'
        rw [item_i hc, empty_one] at e
        exact WOut.intro nw₂ F9 N9 (fun _ h => h) ⟨rfl, ai, _, hat, rfl, htk, dw_go hc (by simpa using e)⟩
      · rename Fr _ _ _ _ => F9
        rename News _ _ _ _ => N9
        rename ¬ ((_ : Int) < _) => hlt
        have hlt' : x.cps.toList.length ≤ ai := by omega
        exact WOut.intro nw₂ F9 N9 (fun _ h => h) ⟨rfl, ai, _, hat, rfl, htk, by rw [List.drop_of_length_le hlt']; rfl⟩
    · intro m₂ nw₂ h4 tk4 g4 hJ3 F4 N4
      try k_fold
      revert F4 N4
      obtain ⟨rfl, ai, tka, hat, hm, htk, hdw⟩ := hJ3
      intro F4 N4
      rw [hm.can] at F4
      clear F3 N3
      rw [List.drop_eq_getElem_cons (List.getElem?_eq_some_iff.mp hit).1, (List.getElem?_eq_some_iff.mp hit).2] at htk
      w_is_and go_2_4_0_1
      · rename Fr _ _ _ _ => F9
        rename ((ai : Nat) : Int) = _ => e
        have hlt' : x.cps.toList.length ≤ ai := by omega
        rw [List.drop_of_length_le hlt', takes_end (b := it.1) (sg := it.2)] at htk
        rw [← htk] at h
        exact h _ _ ⟨_, by first | assumption | exact BG.ok _⟩ F9.keep
      · rename Fr _ _ _ _ => F9
        rename News _ _ _ _ => N9
        rename ¬ (((ai : Nat) : Int) = _) => e
        have hlt' : ai < x.cps.toList.length := by omega
        rw [List.drop_eq_getElem_cons hlt'] at htk hdw
        rw [takes_hit (b := it.1) (sg := it.2) hdw] at htk
        exact EndG.intro (nx := []) F9 N9 ⟨rfl, ai + 1, _, rfl, by omega, htk⟩ (fun _ h => nomatch h) (fun _ h => nomatch h) (fun _ h => h)
  · intro m₁ nw₁ h2 tk2 g2 hJ4 F2 N2
    try k_fold
    revert F2 N2
    obtain ⟨rfl, ai, tka, hm, hat, htk⟩ := hJ4
    intro F2 N2
    rw [hm.can] at F2
    clear F1 N1
    w_is_and go_2_4_0_1
    rename Fr _ _ _ _ => F9
    rw [show vs.length = its.length from hvn, List.drop_length, takes] at htk
    rw [← htk] at h
    exact h _ _ ⟨_, by first | assumption | exact BG.ok _⟩ F9.keep

end Ktakes_call
section
variable {w : World} {p : Program} {loose : List Str} {mean : ExcName → Option Value} {mg mb : Str → Option Value} {dp un : Nat} {fr : Option (List Env)} {gd : Option (List Code)} {s : Shared} {Q E : Value → Shared → Prop}
theorem takes_call {l : Addr} {its : List (Bool × List Nat)} {x : Str} {t : Tok} (X : (KK w).In s.heap) (T : Top p loose mean mg mb s.heap) (hd : dp + 20 < recursionLimit) (hu : un + 100 < cLine) (hx : x.cps.size ≤ 200) (hI : Items s.heap l its) (hs : ∀ it ∈ its, it.2.length ≤ 200) (h : ∀ h' t' (g' : BG), Ext s.heap h' → Q (.bool (takes its x.cps.toList)) { s with heap := h', toks := t', gens := g' }) (hB : AllBare s.gens := by first | assumption | exact BG.ok _) :
    wpAny (model PG w) (Ar dp un fr gd) (call (.ref 142) [.ref l, .str x t]) Q E s :=
  (Base.all Ktakes_call.St (by with_unfolding_all exact Ktakes_call.at_bad) ⟨w, p, loose, mean, mg, mb, dp, un, fr, gd, s, Q, E⟩) l its x t X T hd hu hx hI hs h hB
/-- a list of such lists -/
noncomputable def Pats (h : Heap) (l : Addr) (pss : List (List (Bool × List Nat))) : Prop :=
  ∃ vs : List Value, h.IsList l vs.toArray ∧ vs.length = pss.length ∧ ∀ (j : Nat) (its : List (Bool × List Nat)), pss[j]? = some its → ∃ a, vs[j]? = some (Value.ref a) ∧ Items h a its

end
noncomputable def Ksome_takes_call.St (w : World) (p : Program) (loose : List Str) (mean : ExcName → Option Value) (mg : Str → Option Value) (mb : Str → Option Value) (dp : Nat) (un : Nat) (fr : Option (List Env)) (gd : Option (List Code)) (s : Shared) (Q : Value → Shared → Prop) (E : Value → Shared → Prop) : Prop :=
  ∀ (l : Addr) (pss : List (List (Bool × List Nat))) (x : Str) (t : Tok) (X : (KK w).In s.heap) (T : Top p loose mean mg mb s.heap) (hd : dp + 40 < recursionLimit) (hu : un + 200 < cLine) (hx : x.cps.size ≤ 200) (hI : Pats s.heap l pss) (hs : ∀ its ∈ pss, ∀ it ∈ its, it.2.length ≤ 200) (h : ∀ h' t' (g' : BG), Ext s.heap h' → Q (.bool (pss.any fun its => takes its x.cps.toList)) { s with heap := h', toks := t', gens := g' }) (hB : AllBare s.gens),
    wpAny (model PG w) (Ar dp un fr gd) (call (.ref 149) [.ref l, .str x t]) Q E s
namespace Ksome_takes_call
@[irreducible] noncomputable def bad : Base := Base.bad St
noncomputable def w : World := bad.w
noncomputable def p : Program := bad.p
noncomputable def loose : List Str := bad.loose
noncomputable def mean : ExcName → Option Value := bad.mean
noncomputable def mg : Str → Option Value := bad.mg
noncomputable def mb : Str → Option Value := bad.mb
noncomputable def dp : Nat := bad.dp
noncomputable def un : Nat := bad.un
noncomputable def fr : Option (List Env) := bad.fr
noncomputable def gd : Option (List Code) := bad.gd
noncomputable def s : Shared := bad.s
noncomputable def Q : Value → Shared → Prop := bad.Q
noncomputable def E : Value → Shared → Prop := bad.E
noncomputable def L : Addr := s.heap.objs.size
theorem hL : s.heap.objs.size = L := rfl
theorem at_bad : St w p loose mean mg mb dp un fr gd s Q E := by
  unfold St
  intros l pss x t X T hd hu hx hI hs h hB
  revert X; unfold PG KK
  k_fill; intro X
  refine enterX (binds := [(Str.ofString "patterns", .ref l), (Str.ofString "name", .str x t)]) X T.nolimit (by k_is) (by k_is) (by omega) rfl rfl (fun L' h₁ hL' F N => ?_)
  obtain rfl : L' = L := hL'.symm.trans hL
  k_fold
  w_is_and go_2_4_0_1
  rename Fr _ _ _ _ => F1
  rename News _ _ _ _ => N1
  refine wpAny_For ?_
  w_is_and go_2_4_0_1_37
  obtain ⟨vs, hl, hvn, hvi⟩ := id hI
  refine for_vals (nw := []) (vs := vs) (J := fun j m nw => And3 (nw = []) (LV m [(Str.ofString "patterns", .ref l), (Str.ofString "name", .str x t)]) ((pss.drop j).any (fun its => takes its x.cps.toList) = pss.any (fun its => takes its x.cps.toList)))
    rfl (fun j m nw h' _ F' _ => by obtain ⟨o, e, r⟩ := hl; exact ⟨o, F'.keep _ _ e, r⟩) F1 (fun _ hp => nomatch hp) ⟨rfl, rfl, rfl⟩ (by obtain ⟨o, e, r⟩ := hl; exact ⟨o, F1.keep _ _ e, r⟩) (fun I v s₁ i Q' E' _ hq => wpAny_pure hq) ?_ ?_
  · intro j v m₁ nw₁ h2 tk2 g2 own hv hJ5 hoff F2 N2
    try k_fold
    revert hoff F2 N2
    obtain ⟨rfl, hm, htk⟩ := hJ5
    intro hoff F2 N2
    rw [hm.can] at F2
    simp only [List.nil_append] at N2
    clear F1 N1
    obtain ⟨its, hit⟩ : ∃ it, pss[j]? = some it := ⟨pss[j]'(by have := (List.getElem?_eq_some_iff.mp hv).1; omega), by simp⟩
    obtain ⟨a, hv3, hIt⟩ := hvi j its hit
    obtain rfl : v = .ref a := by rw [hv] at hv3; exact Option.some.inj hv3
    rw [List.drop_eq_getElem_cons (List.getElem?_eq_some_iff.mp hit).1, (List.getElem?_eq_some_iff.mp hit).2, List.any_cons] at htk
    w_is_and go_2_4_0_1_8
    rename Fr _ _ _ _ => F3
    rename News _ _ _ _ => N3
    refine takes_call (X.keeps F3.keep) (T.keeps F3.keep) (by omega) (by omega) hx (hIt.keeps F3.keep) (hs its (List.mem_of_getElem? hit)) fun h' t' g' hk => ?_
    have F4 := F3.keeps hk
    have N4 : News s.heap L h' own := fun p hp => ⟨hk _ _ (N3 p hp).1, (N3 p hp).2⟩
    clear F3 N3
    w_is_and go_2_4_0_1
    · rename Fr _ _ _ _ => F9
      rename takes _ _ = true => e
      rw [e, Bool.true_or] at htk
      rw [← htk] at h
      exact h _ _ g' F9.keep
    · rename Fr _ _ _ _ => F9
      rename News _ _ _ _ => N9
      rename takes _ _ = false => e
      rw [e, Bool.false_or] at htk
      exact EndG.intro (nx := []) F9 N9 ⟨rfl, rfl, htk⟩ (fun _ h => nomatch h) (fun _ h => nomatch h) (fun _ h => h)
  · intro m₁ nw₁ h2 tk2 g2 hJ6 F2 N2
    try k_fold
    revert F2 N2
    obtain ⟨rfl, hm, htk⟩ := hJ6
    intro F2 N2
    rw [hm.can] at F2
    clear F1 N1
    w_is_and go_2_4_0_1
    rename Fr _ _ _ _ => F9
    rw [show vs.length = pss.length from hvn, List.drop_length, List.any_nil] at htk
    rw [← htk] at h
    exact h _ _ g2 F9.keep
end Ksome_takes_call
section
variable {w : World} {p : Program} {loose : List Str} {mean : ExcName → Option Value} {mg mb : Str → Option Value} {dp un : Nat} {fr : Option (List Env)} {gd : Option (List Code)} {s : Shared} {Q E : Value → Shared → Prop}
theorem some_takes_call {l : Addr} {pss : List (List (Bool × List Nat))} {x : Str} {t : Tok} (X : (KK w).In s.heap) (T : Top p loose mean mg mb s.heap) (hd : dp + 40 < recursionLimit) (hu : un + 200 < cLine) (hx : x.cps.size ≤ 200) (hI : Pats s.heap l pss) (hs : ∀ its ∈ pss, ∀ it ∈ its, it.2.length ≤ 200) (h : ∀ h' t' (g' : BG), Ext s.heap h' → Q (.bool (pss.any fun its => takes its x.cps.toList)) { s with heap := h', toks := t', gens := g' }) (hB : AllBare s.gens := by first | assumption | exact BG.ok _) :
    wpAny (model PG w) (Ar dp un fr gd) (call (.ref 149) [.ref l, .str x t]) Q E s :=
  (Base.all Ksome_takes_call.St (by with_unfolding_all exact Ksome_takes_call.at_bad) ⟨w, p, loose, mean, mg, mb, dp, un, fr, gd, s, Q, E⟩) l pss x t X T hd hu hx hI hs h hB
end
end Mine
end

section
open PySem PySem.W PyProof.Rows PySem.Calls PySem.Spec
set_option maxRecDepth 100000
set_option maxHeartbeats 8000000
namespace Mine
theorem fresh_H2 : True := by w_top off; trivial
set_option hygiene false
set_option hygiene true
section
variable {w : World} {p : Program} {loose : List Str} {mean : ExcName → Option Value} {mg mb : Str → Option Value} {dp un : Nat} {fr : Option (List Env)} {gd : Option (List Code)} {s : Shared} {Q E : Value → Shared → Prop}

/-- objects that a call has made -/
noncomputable def New (h h' : Heap) (objs : List (Addr × Obj)) : Prop := ∀ p ∈ objs, h'.get? p.1 = some p.2 ∧ h.get? p.1 = none
theorem New.news {h₀ h h' : Heap} {L : Addr} {m : Str → Option Value} {objs : List (Addr × Obj)} (x : New h h' objs) (F : Fr h₀ L h m) : News h₀ L h' objs := fun p hp => by
  obtain ⟨e1, e2⟩ := x p hp
  refine ⟨e1, fun z => ?_, ?_⟩
  · obtain ⟨o, _, _, q, _⟩ := F.ns
    rw [z, q] at e2; cases e2
  · cases q : h₀.get? p.1 with
    | none => rfl
    | some o => rw [F.keep _ _ q] at e2; cases e2
theorem News.app {h₀ h : Heap} {L : Addr} {a b : List (Addr × Obj)} (x : News h₀ L h a) (y : News h₀ L h b) : News h₀ L h (a ++ b) := fun p hp => (List.mem_append.mp hp).elim (x p) (y p)
theorem News.ext {h₀ h h' : Heap} {L : Addr} {a : List (Addr × Obj)} (x : News h₀ L h a) (k : Ext h h') : News h₀ L h' a := fun p hp => ⟨k _ _ (x p hp).1, (x p hp).2⟩
noncomputable abbrev tupObj (xs : Array Value) (n : Nat) : Obj := { cls := .type "tuple", data := .seq xs n }

end
theorem new_of {h₀ h : Heap} {L : Addr} {l : List (Addr × Obj)} (N : News h₀ L h l) : New h₀ h l := fun p hp => ⟨(N p hp).1, (N p hp).2.2⟩
noncomputable def Kitem_call.St (w : World) (p : Program) (loose : List Str) (mean : ExcName → Option Value) (mg : Str → Option Value) (mb : Str → Option Value) (dp : Nat) (un : Nat) (fr : Option (List Env)) (gd : Option (List Code)) (s : Shared) (Q : Value → Shared → Prop) (E : Value → Shared → Prop) : Prop :=
  ∀ (x : Str) (k n : Nat) (it : Bool × List Nat) (t u : Tok) (X : (KK w).In s.heap) (T : Top p loose mean mg mb s.heap) (hd : dp + 20 < recursionLimit) (hu : un + 100 < cLine) (hx : x.cps.size ≤ 200) (hi : itemF (x.cps.toList.drop k) = some (it, n)) (h : ∀ h' t' (g' : BG) a a2 n1 n2 t1 t2, Ext s.heap h' → New s.heap h' [(a, tupObj #[.ref a2, .int ((k + n : Nat) : Int) t1] n1), (a2, tupObj #[.bool it.1, .str ⟨it.2.toArray⟩ t2] n2)] → Q (.ref a) { s with heap := h', toks := t', gens := g' }) (hB : AllBare s.gens),
    wpAny (model PG w) (Ar dp un fr gd) (call (.ref 128) [.str x t, .int ((k : Nat) : Int) u]) Q E s
namespace Kitem_call
@[irreducible] noncomputable def bad : Base := Base.bad St
noncomputable def w : World := bad.w
noncomputable def p : Program := bad.p
noncomputable def loose : List Str := bad.loose
noncomputable def mean : ExcName → Option Value := bad.mean
noncomputable def mg : Str → Option Value := bad.mg
noncomputable def mb : Str → Option Value := bad.mb
noncomputable def dp : Nat := bad.dp
noncomputable def un : Nat := bad.un
noncomputable def fr : Option (List Env) := bad.fr
noncomputable def gd : Option (List Code) := bad.gd
noncomputable def s : Shared := bad.s
noncomputable def Q : Value → Shared → Prop := bad.Q
noncomputable def E : Value → Shared → Prop := bad.E
noncomputable def L : Addr := s.heap.objs.size
theorem hL : s.heap.objs.size = L := rfl
theorem at_bad : St w p loose mean mg mb dp un fr gd s Q E := by
  unfold St
  intros x k n it t u X T hd hu hx hi h hB
  have hsz : x.cps.toList.length = x.cps.size := by simp
  have hzl : x.length = x.cps.size := rfl
  obtain ⟨c, r, hcr⟩ : ∃ c r, x.cps.toList.drop k = c :: r := by
    cases q : x.cps.toList.drop k with
    | nil => rw [q] at hi; cases hi
    | cons c r => exact ⟨c, r, rfl⟩
  have hlt : k < x.cps.toList.length := by
    have := congrArg List.length hcr
    simp only [List.length_drop, List.length_cons] at this; omega
  have hkc : x.cps.toList[k]? = some c := by
    have := congrArg (fun l => l[0]?) hcr
    simpa using this
  have hk0 : ((k : Nat) : Int) < x.length := by omega
  have hk1 : -(x.length : Int) ≤ ((k : Nat) : Int) := by omega
  revert X; unfold PG KK
  k_fill; intro X
  refine enterX (binds := [(Str.ofString "text", .str x t), (Str.ofString "k", .int ((k : Nat) : Int) u)]) X T.nolimit (by k_is) (by k_is) (by omega) rfl rfl (fun L' h₁ hL' F N => ?_)
  obtain rfl : L' = L := hL'.symm.trans hL
  k_fold
  w_is_and go_6_2_4_0_1_36
  · rename (_ == Str.ofString "\\") = true => e
    replace e := at_eq hkc o92 e
    obtain rfl : c = 92 := of_decide_eq_true e
    rw [hcr] at hi
    obtain ⟨d, r', rfl⟩ : ∃ d r', r = d :: r' := by
      cases r with
      | nil => simp [itemF] at hi
      | cons d r' => exact ⟨d, r', rfl⟩
    simp only [itemF, if_true, Option.some.injEq, Prod.mk.injEq] at hi
    obtain ⟨rfl, rfl⟩ := hi
    have hl2 := congrArg List.length hcr
    simp only [List.length_drop, List.length_cons] at hl2
    have hk2 : ((k : Nat) : Int) + 1 < x.length := by omega
    have hk3 : -(x.length : Int) ≤ ((k : Nat) : Int) + 1 := by omega
    have hd2 : x.cps.toList[k + 1]? = some d := by
      have := congrArg (fun l => l[1]?) hcr
      simpa using this
    w_is_and go_6_2_4_0_1
    rename Fr _ _ _ _ => F9
    rename News _ _ _ _ => N9
    rw [show Txt.item x (((k : Nat) : Int) + 1) = ⟨#[d]⟩ from item_i (i := k + 1) hd2] at N9
    exact h _ _ ⟨_, by first | assumption | exact BG.ok _⟩ _ _ _ _ _ _ F9.keep (new_of N9)
  · rename (_ == Str.ofString "\\") = false => e1
    rename (_ == Str.ofString ".") = true => e2
    rename Fr _ _ _ _ => F9
    rename News _ _ _ _ => N9
    replace e1 := at_eq hkc o92 e1
    replace e2 := at_eq hkc o46 e2
    obtain rfl : c = 46 := of_decide_eq_true e2
    rw [hcr] at hi
    simp [itemF] at hi
    obtain ⟨rfl, rfl⟩ := hi
    rw [o0] at N9
    exact h _ _ ⟨_, by first | assumption | exact BG.ok _⟩ _ _ _ _ _ _ F9.keep (new_of N9)
  · rename (_ == Str.ofString "\\") = false => e1
    rename (_ == Str.ofString ".") = false => e2
    rename (Builtin.Str.occurrences _ _ _ _ _).isEmpty = true => e3
    rename (_ != Str.ofString "[") = true => e4
    rename Fr _ _ _ _ => F9
    rename News _ _ _ _ => N9
    rw [item_i hkc] at N9
    replace e1 := at_eq hkc o92 e1
    replace e2 := at_eq hkc o46 e2
    rw [item_i hkc, empty_one, ospec] at e3
    replace e4 := at_ne hkc o91 e4
    rw [hcr] at hi
    simp only [Bool.not_eq_true', decide_eq_false_iff_not] at e1 e2 e3 e4
    have e3' : spec9.contains c = false := by simpa using e3
    simp only [itemF, e1, e2, e3', e4, if_false, if_true, ne_eq, not_false_eq_true, Bool.false_eq_true, Option.some.injEq, Prod.mk.injEq] at hi
    obtain ⟨rfl, rfl⟩ := hi
    exact h _ _ ⟨_, by first | assumption | exact BG.ok _⟩ _ _ _ _ _ _ F9.keep (new_of N9)
  · exfalso
    rename (_ == Str.ofString "\\") = false => e1
    rename (_ == Str.ofString ".") = false => e2
    rename (Builtin.Str.occurrences _ _ _ _ _).isEmpty = true => e3
    rename (_ != Str.ofString "[") = false => e4
    rename _ ∨ _ => e5
    replace e1 := at_eq hkc o92 e1
    replace e2 := at_eq hkc o46 e2
    rw [item_i hkc, empty_one, ospec] at e3
    replace e4 := at_ne hkc o91 e4
    rw [hcr] at hi
    simp only [Bool.not_eq_true', Bool.not_eq_false', decide_eq_false_iff_not, decide_eq_true_eq] at e1 e2 e3 e4
    have e3' : spec9.contains c = false := by simpa using e3
    subst e4
    cases r with
    | nil => simp [itemF, e3', spec9] at hi
    | cons d r' =>
      have hl2 := congrArg List.length hcr
      simp only [List.length_drop, List.length_cons] at hl2
      omega
  · rename (_ == Str.ofString "\\") = false => e1
    rename (_ == Str.ofString ".") = false => e2
    rename (Builtin.Str.occurrences _ _ _ _ _).isEmpty = true => e3
    rename (_ != Str.ofString "[") = false => e4
    rename (_ : Int) + 1 < _ => e6
    rename Fr _ _ _ _ => F3
    rename News _ _ _ _ => N3
    replace e1 := at_eq hkc o92 e1
    replace e2 := at_eq hkc o46 e2
    rw [item_i hkc, empty_one, ospec] at e3
    replace e4 := at_ne hkc o91 e4
    rw [hcr] at hi
    simp only [Bool.not_eq_true', Bool.not_eq_false', decide_eq_false_iff_not, decide_eq_true_eq] at e1 e2 e3 e4
    have e3' : spec9.contains c = false := by simpa using e3
    subst e4
    obtain ⟨d, r', rfl⟩ : ∃ d r', r = d :: r' := by
      cases r with
      | nil => simp [itemF, spec9] at hi
      | cons d r' => exact ⟨d, r', rfl⟩
    have hd2 : x.cps.toList[k + 1]? = some d := by
      have := congrArg (fun l => l[1]?) hcr
      simpa using this
    rw [show Txt.item x (((k : Nat) : Int) + 1) = ⟨#[d]⟩ from item_i (i := k + 1) hd2, o94, one_eq] at F3
    simp only [itemF, e1, e2, e3', if_false, ne_eq, not_true_eq_false, Bool.false_eq_true] at hi
    obtain ⟨kk, bb, sgf, nn, hkb, hsc, hit, hkn⟩ : ∃ (kk : Nat) (bb : Bool) (sgf : List Nat) (nn : Nat), (kk = if bb then k + 2 else k + 1) ∧ scanB (x.cps.toList.drop kk) [] = some (sgf, nn) ∧ it = (bb, sgf) ∧ k + n = kk + nn ∧ bb = decide (d = 94) := by
      by_cases hd94 : d = 94
      · subst hd94
        simp only [if_true] at hi
        obtain ⟨⟨sgf, nn⟩, hsc, hit⟩ := Option.map_eq_some_iff.mp hi
        obtain ⟨rfl, rfl⟩ := Prod.mk.inj hit
        refine ⟨k + 2, true, sgf, nn, rfl, ?_, rfl, by omega, by simp⟩
        have := congrArg (List.drop 2) hcr
        rw [List.drop_drop] at this
        rw [this]; exact hsc
      · simp only [hd94, if_false] at hi
        obtain ⟨⟨sgf, nn⟩, hsc, hit⟩ := Option.map_eq_some_iff.mp hi
        obtain ⟨rfl, rfl⟩ := Prod.mk.inj hit
        refine ⟨k + 1, false, sgf, nn, rfl, ?_, rfl, by omega, by simp [hd94]⟩
        have := congrArg (List.drop 1) hcr
        rw [List.drop_drop] at this
        rw [this]; exact hsc
    obtain ⟨hkn, hbb⟩ := hkn
    rw [← hbb] at F3
    clear e1 e2 e3 e3' hk0 hk1 hi
    w_is_and my_aa
    intros x k n it t u h₁ v1_ v2_ tk d r' kk bb sgf nn
    intro T hd hu hx h hB hsz hzl hlt X hL' _ _ _ _ _ e6 N3 hkc hcr hd2 F3 hkb hsc hit hkn hbb; try k_fold
    refine exec_join F3 (fun m nw => And2 (nw = []) (Ex1 fun tk1 => LV m [(Str.ofString "text", .str x t), (Str.ofString "k", .int ((kk : Nat) : Int) tk1), (Str.ofString "barred", .bool bb)])) ?_ ?_
    · walk1
      w_is_and go_6_2_4_0_1
      · rename Fr _ _ _ _ => F9
        rename News _ _ _ _ => N9
        rename bb = true => eb
        obtain rfl : kk = k + 2 := by rw [hkb, eb]; rfl
        exact WOut.intro [] F9 N9 (fun _ h => h) ⟨rfl, _, rfl⟩
      · rename Fr _ _ _ _ => F9
        rename News _ _ _ _ => N9
        rename bb = false => eb
        obtain rfl : kk = k + 1 := by rw [hkb, eb]; rfl
        exact WOut.intro [] F9 N9 (fun _ h => h) ⟨rfl, _, rfl⟩
    clear F3 N3
    intro m₁ nw₁ h4 tk4 g4 hJ1 F3 N3
    try k_fold
    revert F3 N3
    obtain ⟨rfl, tk1, hm⟩ := hJ1
    intro F3 N3
    w_is_and my_aa
    intros x k n it t v2_ tk d r' kk bb sgf nn m₁ h4 tk4 g4 tk1
    intro T hd hu hx h hB hsz hzl hlt X hL' _ _ _ _ _ e6 hkc hcr hd2 hkb hsc hit hkn hbb hm F3 N3; try k_fold
    rw [hm.can] at F3
    w_is_and go_6_2_4_0_1
    rename Fr _ _ _ _ => F3
    rename News _ _ _ _ => N3
    rw [o0] at F3
    refine whl2 (n₀ := x.cps.size - kk) (fun n m nw => And2 (nw = []) (Ex5 fun (k' : Nat) (sg : List Nat) (tk1 : Tok) (tk2 : Tok) (nn' : Nat) => And6 (n = x.cps.size - k') (sg.length ≤ 200) (sg.length ≤ k') (LV m [(Str.ofString "text", .str x t), (Str.ofString "k", .int ((k' : Nat) : Int) tk1), (Str.ofString "barred", .bool bb), (Str.ofString "signs", .str ⟨sg.toArray⟩ tk2)]) (scanB (x.cps.toList.drop k') sg = some (sgf, nn')) (k' + nn' = kk + nn)))
      (fun m nw => And2 (nw = []) (Ex3 fun (k' : Nat) (tk1 : Tok) (tk2 : Tok) => And2 (LV m [(Str.ofString "k", .int ((k' : Nat) : Int) tk1), (Str.ofString "barred", .bool bb), (Str.ofString "signs", .str ⟨sgf.toArray⟩ tk2)]) (k' + 1 = kk + nn)))
      F3 N3 ⟨rfl, kk, [], _, _, nn, rfl, by simp, by simp, rfl, hsc, rfl⟩ ?_ ?_
    · clear F3 N3 e6 hcr hkc hd2 hsc
      intro n m₂ nw₂ h4 tk4 g4 hJ2 F4 N4
      try k_fold
      revert F4 N4
      obtain ⟨rfl, k', sg, tk1, tk2, nn', rfl, hsl, hsl2, hm, hsc, hnn⟩ := hJ2
      intro F4 N4
      rw [hm.can] at F4
      obtain ⟨c, r, hcr⟩ : ∃ c r, x.cps.toList.drop k' = c :: r := by
        cases q : x.cps.toList.drop k' with
        | nil => rw [q] at hsc; simp [scanB] at hsc
        | cons c r => exact ⟨c, r, rfl⟩
      have hlen := congrArg List.length hcr
      simp only [List.length_drop, List.length_cons] at hlen
      have hkc : x.cps.toList[k']? = some c := by
        have := congrArg (fun l => l[0]?) hcr
        simpa using this
      have hk0 : ((k' : Nat) : Int) < x.length := by omega
      have hk1 : -(x.length : Int) ≤ ((k' : Nat) : Int) := by omega
      rw [hcr, scanB_cons] at hsc
      w_is_and my_aa
      intros x k n it t d kk bb sgf nn m₁ v1_ v2_ v3_ tk m₂ h4 tk4 g4 k' sg tk1 tk2 nn' c r
      intro T hd hu hx h hB hsz hzl hlt X hL' _ _ _ _ _ hkb hit hkn hbb _ hsl hsl2 hm hnn F4 N4 hsc hcr hlen hkc hk0 hk1; try k_fold
      refine test_join F4 N4 (!decide (c = 93 ∧ sg ≠ [])) ?_ ?_
      · w_is_and go_6_2_4_0_1
        · rename Fr _ _ _ _ => F9
          rename News _ _ _ _ => N9
          rename (_ != Str.ofString "]") = true => e
          replace e := at_ne hkc o93 e
          refine ⟨?_, WOut.intro [] F9 N9 (fun _ h => h) ⟨rfl, rfl⟩⟩
          have : c ≠ 93 := by simpa using e
          simp [this]
        · rename Fr _ _ _ _ => F9
          rename News _ _ _ _ => N9
          rename (_ == Str.ofString "") = true => e
          rw [o0] at e
          refine ⟨?_, WOut.intro [] F9 N9 (fun _ h => h) ⟨rfl, rfl⟩⟩
          have : sg = [] := by simpa using e
          simp [this]
        · rename Fr _ _ _ _ => F9
          rename News _ _ _ _ => N9
          rename (_ != Str.ofString "]") = false => e
          rename (_ == Str.ofString "") = false => e2
          replace e := at_ne hkc o93 e
          rw [o0] at e2
          refine ⟨?_, WOut.intro [] F9 N9 (fun _ h => h) ⟨rfl, rfl⟩⟩
          have h1 : c = 93 := by simpa using e
          have h2 : sg ≠ [] := by simpa using e2
          simp [h1, h2]
      · clear F4 N4
        intro h5 tk5 g5 F4 N4
        by_cases hex : c = 93 ∧ sg ≠ []
        · rw [if_pos hex] at hsc
          obtain ⟨rfl, rfl⟩ := Prod.mk.inj (Option.some.inj hsc)
          simp only [hex, ne_eq, not_false_eq_true, and_self, decide_true, Bool.not_true, Bool.false_eq_true, if_false]
          exact WOut.intro [] F4 N4 (fun _ h => h) ⟨rfl, k', _, _, rfl, hnn⟩
        · rw [if_neg hex] at hsc
          simp only [hex, decide_false, Bool.not_false, if_true]
          by_cases hc : c = 92
          · subst hc
            rw [if_pos rfl] at hsc
            obtain ⟨d, r', rfl⟩ : ∃ d r', r = d :: r' := by
              cases r with
              | nil => simp at hsc
              | cons d r' => exact ⟨d, r', rfl⟩
            simp only [List.length_cons] at hlen
            have hk2 : ((k' : Nat) : Int) + 1 < x.length := by omega
            have hk3 : -(x.length : Int) ≤ ((k' : Nat) : Int) + 1 := by omega
            have hd2 : x.cps.toList[k' + 1]? = some d := by
              have := congrArg (fun l => l[1]?) hcr
              simpa using this
            obtain ⟨⟨sg2, n2⟩, hsc2, he⟩ := Option.map_eq_some_iff.mp hsc
            obtain ⟨rfl, rfl⟩ := Prod.mk.inj he
            w_is_and go_6_2_4_0_1
            · rename Fr _ _ _ _ => F9
              rename News _ _ _ _ => N9
              rw [show Txt.item x (((k' : Nat) : Int) + 1) = ⟨#[d]⟩ from item_i (i := k' + 1) hd2, show ((⟨sg.toArray⟩ : Str) ++ (⟨#[d]⟩ : Str)) = ⟨(sg ++ [d]).toArray⟩ from mk_append sg [d]] at F9
              refine WEnd.intro (x.cps.size - (k' + 2)) [] F9 N9 (fun _ h => h) (by omega) ⟨rfl, k' + 2, sg ++ [d], _, _, n2, rfl, by simp; omega, by simp; omega, rfl, ?_, by omega⟩
              have := congrArg (List.drop 2) hcr
              rw [List.drop_drop] at this
              rw [this]; exact hsc2
            · exfalso
              rename (_ == Str.ofString "\\") = false => e
              replace e := at_eq hkc o92 e
              exact of_decide_eq_false e rfl
          · rw [if_neg hc] at hsc
            obtain ⟨⟨sg2, n2⟩, hsc2, he⟩ := Option.map_eq_some_iff.mp hsc
            obtain ⟨rfl, rfl⟩ := Prod.mk.inj he
            w_is_and go_6_2_4_0_1_35
            rotate_right
            · w_is_and go_6_2_4_0_1
              rename Fr _ _ _ _ => F9
              rename News _ _ _ _ => N9
              rw [item_i hkc, show ((⟨sg.toArray⟩ : Str) ++ (⟨#[c]⟩ : Str)) = ⟨(sg ++ [c]).toArray⟩ from mk_append sg [c]] at F9
              refine WEnd.intro (x.cps.size - (k' + 1)) [] F9 N9 (fun _ h => h) (by omega) ⟨rfl, k' + 1, sg ++ [c], _, _, n2, rfl, by simp; omega, by simp; omega, rfl, ?_, by omega⟩
              have := congrArg (List.drop 1) hcr
              rw [List.drop_drop] at this
              rw [this]; exact hsc2
            all_goals
              exfalso
              rename (_ == Str.ofString "\\") = true => e
              replace e := at_eq hkc o92 e
              exact hc (of_decide_eq_true e)
    · intro m₂ nw₂ h4 tk4 g4 hJ3 F4 N4
      try k_fold
      revert F4 N4
      obtain ⟨rfl, k', tk1, tk2, hm, hkn'⟩ := hJ3
      intro F4 N4
      rw [hm.can] at F4
      clear F3 N3
      w_is_and go_6_2_4_0_1
      rename Fr _ _ _ _ => F9
      rename News _ _ _ _ => N9
      have hkn2 : k + n = k' + 1 := by omega
      subst hit
      rw [hkn2] at h
      exact h _ _ ⟨_, by first | assumption | exact BG.ok _⟩ _ _ _ _ _ _ F9.keep (new_of N9)
  · rename (_ == Str.ofString "\\") = false => e1
    rename (_ == Str.ofString ".") = false => e2
    rename (Builtin.Str.occurrences _ _ _ _ _).isEmpty = false => e3
    rename Fr _ _ _ _ => F9
    rename News _ _ _ _ => N9
    replace e1 := at_eq hkc o92 e1
    replace e2 := at_eq hkc o46 e2
    rw [item_i hkc, empty_one, ospec] at e3
    rw [hcr] at hi
    simp only [Bool.not_eq_true', Bool.not_eq_false', decide_eq_false_iff_not, decide_eq_true_eq] at e1 e2 e3
    have e3' : spec9.contains c = true := by simpa using e3
    simp only [itemF, e1, e2, e3', if_false, if_true, Option.some.injEq, Prod.mk.injEq] at hi
    obtain ⟨rfl, rfl⟩ := hi
    rw [o0] at N9
    exact h _ _ ⟨_, by first | assumption | exact BG.ok _⟩ _ _ _ _ _ _ F9.keep (new_of N9)
end Kitem_call
section
variable {w : World} {p : Program} {loose : List Str} {mean : ExcName → Option Value} {mg mb : Str → Option Value} {dp un : Nat} {fr : Option (List Env)} {gd : Option (List Code)} {s : Shared} {Q E : Value → Shared → Prop}
theorem item_call {x : Str} {k n : Nat} {it : Bool × List Nat} {t u : Tok} (X : (KK w).In s.heap) (T : Top p loose mean mg mb s.heap) (hd : dp + 20 < recursionLimit) (hu : un + 100 < cLine) (hx : x.cps.size ≤ 200) (hi : itemF (x.cps.toList.drop k) = some (it, n)) (h : ∀ h' t' (g' : BG) a a2 n1 n2 t1 t2, Ext s.heap h' → New s.heap h' [(a, tupObj #[.ref a2, .int ((k + n : Nat) : Int) t1] n1), (a2, tupObj #[.bool it.1, .str ⟨it.2.toArray⟩ t2] n2)] → Q (.ref a) { s with heap := h', toks := t', gens := g' }) (hB : AllBare s.gens := by first | assumption | exact BG.ok _) :
    wpAny (model PG w) (Ar dp un fr gd) (call (.ref 128) [.str x t, .int ((k : Nat) : Int) u]) Q E s :=
  (Base.all Kitem_call.St (by with_unfolding_all exact Kitem_call.at_bad) ⟨w, p, loose, mean, mg, mb, dp, un, fr, gd, s, Q, E⟩) x k n it t u X T hd hu hx hi h hB
end
end Mine
end

section
open PySem PySem.W PyProof.Rows PySem.Calls PySem.Spec
set_option maxRecDepth 100000
set_option maxHeartbeats 1000000
namespace Mine
set_option hygiene false
set_option hygiene true
section
variable {w : World} {p : Program} {loose : List Str} {mean : ExcName → Option Value} {mg mb : Str → Option Value} {dp un : Nat} {fr : Option (List Env)} {gd : Option (List Code)} {s : Shared} {Q E : Value → Shared → Prop}



noncomputable def entOk (e : DictEntry) : Bool := match e.key with | .int k _ => e.hash == hashInt k && (match e.val with | .str y _ => decide (0 ≤ k) && y == ⟨#[92, k.toNat]⟩ | _ => false) | _ => false
noncomputable def entK (e : DictEntry) : Nat := match e.key with | .int k _ => k.toNat | _ => 0
theorem entOk_key : ∀ {v : Value} {a : Int → Bool}, (match v with | .int k _ => a k | _ => false) = true → ∃ k t, v = .int k t ∧ a k = true
  | .int k t, _, h => ⟨k, t, rfl, h⟩
theorem entOk_val : ∀ {v : Value} {a : Str → Bool}, (match v with | .str y _ => a y | _ => false) = true → ∃ y t, v = .str y t ∧ a y = true
  | .str y t, _, h => ⟨y, t, rfl, h⟩
theorem entOk_inv {e : DictEntry} (h : entOk e = true) : ∃ (k : Nat) (tk : Tok) (tv : Tok), e.hash = hashInt (k : Int) ∧ e.key = .int (k : Int) tk ∧ e.val = .str ⟨#[92, k]⟩ tv := by
  obtain ⟨k, tk, e1, h1⟩ := entOk_key h
  obtain ⟨h1, h2⟩ := (Bool.and_eq_true _ _).mp h1
  obtain ⟨y, tv, e2, h3⟩ := entOk_val h2
  obtain ⟨h3, h4⟩ := (Bool.and_eq_true _ _).mp h3
  obtain ⟨n, rfl⟩ := Int.eq_ofNat_of_zero_le (of_decide_eq_true h3)
  exact ⟨n, tk, tv, eq_of_beq h1, e1, by rw [e2, eq_of_beq h4]; rfl⟩
noncomputable def entriesOk (es : List DictEntry) : Bool := es.all entOk && es.map entK == specE
theorem isInt_nat (c k : Nat) (t : Tok) : Value.isInt ((c : Nat) : Int) (.int (k : Int) t) = decide (c = k) := by
  by_cases h : c = k
  · subst h; simp [Value.isInt]
  · rw [decide_eq_false h]; simp [Value.isInt]; omega
theorem esc_find : ∀ (es : List DictEntry) (c : Nat), es.all entOk = true →
    ((es.map entK).contains c = false → es.find? (fun e => Value.isInt ((c : Nat) : Int) e.key) = none) ∧
    ((es.map entK).contains c = true → ∃ e tk, es.find? (fun e => Value.isInt ((c : Nat) : Int) e.key) = some e ∧ e.val = .str ⟨#[92, c]⟩ tk)
  | [], c, _ => ⟨fun _ => rfl, fun h => nomatch h⟩
  | e :: r, c, h => by
    obtain ⟨h1, h2⟩ := (Bool.and_eq_true _ _).mp h
    obtain ⟨k, tk, tv, _, e1, e2⟩ := entOk_inv h1
    have e3 : entK e = k := by unfold entK; rw [e1]; rfl
    have ih := esc_find r c h2
    rw [List.map_cons, List.contains_cons, List.find?_cons, e1, e3, isInt_nat]
    by_cases hc : c = k
    · rw [decide_eq_true hc, beq_iff_eq.mpr hc]
      exact ⟨fun q => (nomatch q), fun _ => ⟨_, tv, rfl, by rw [e2, hc]⟩⟩
    · rw [decide_eq_false hc, beq_eq_false_iff_ne.mpr hc, Bool.false_or]
      exact ih
theorem esc_dict (X : (KK w).In s.heap) : ∃ f : Int → Option Value, s.heap.MapOf (intKind PG w) 45 f ∧ ∀ c : Nat, (specE.contains c = false → f ((c : Nat) : Int) = none) ∧ (specE.contains c = true → ∃ tk, f ((c : Nat) : Int) = some (.str ⟨#[92, c]⟩ tk)) := by
  revert X; unfold PG KK
  k_fill; intro X
  have key : ∀ o es ep, s.heap.get? 45 = some o → o.ExactDict → o.data = .dict es ep → entriesOk es.toList = true → ∃ f : Int → Option Value, s.heap.MapOf (intKind PySem.Challenge.rw_kt0032_01.row.prog w) 45 f ∧ ∀ c : Nat, (specE.contains c = false → f ((c : Nat) : Int) = none) ∧ (specE.contains c = true → ∃ tk, f ((c : Nat) : Int) = some (.str ⟨#[92, c]⟩ tk)) := by
    intro o es ep ho hx hd hok
    rw [entriesOk, Bool.and_eq_true] at hok
    refine ⟨fun k => findBy Value.isInt es k, ⟨o, es, ep, ho, hx, hd, fun e he => ?_, fun _ => rfl⟩, fun c => ?_⟩
    · have := List.all_eq_true.mp hok.1 e (by simpa using he)
      obtain ⟨k, tk, tv, e1, e2, _⟩ := entOk_inv this
      exact ⟨k, by rw [e2]; simp [intKind, Value.isInt], e1⟩
    · have hm : es.toList.map entK = specE := eq_of_beq hok.2
      obtain ⟨h1, h2⟩ := esc_find es.toList c hok.1
      rw [hm] at h1 h2
      have e0 : ∀ k, findBy Value.isInt es k = (es.toList.find? fun e => Value.isInt k e.key).map (·.val) := fun k => by
        unfold findBy; rw [Array.find?_toList]
      refine ⟨fun q => ?_, fun q => ?_⟩
      · show findBy _ _ _ = _
        rw [e0, h1 q]; rfl
      · obtain ⟨e, tk, q1, q2⟩ := h2 q
        refine ⟨tk, ?_⟩
        show findBy _ _ _ = _
        rw [e0, q1]; exact congrArg some q2
  have hdict : s.heap.get? 45 = some _ := X 45 _ (by k_is)
  exact key _ _ _ hdict ⟨rfl, rfl, rfl⟩ rfl (by decide +kernel)
theorem gm_translate {M : Model} {A : Around} {x : Str} {t : Tok} {pl : Sem Bool} {Q : Value × List Value → Shared → Prop} {E : Value → Shared → Prop} {s : Shared} (h : Q (.builtin "str.translate", [.str x t]) s) : wpAny M A (getMethod (.str x t) (Str.ofString "translate") pl) Q E s := by
  with_reducible exact GM.of (.str x t) (typeIs_str _ _ _) PySem.F.slot_str_translate PySem.F.type_str_translate GM.noRef h
end
noncomputable def Kescape_call.St (w : World) (p : Program) (loose : List Str) (mean : ExcName → Option Value) (mg : Str → Option Value) (mb : Str → Option Value) (dp : Nat) (un : Nat) (fr : Option (List Env)) (gd : Option (List Code)) (s : Shared) (Q : Value → Shared → Prop) (E : Value → Shared → Prop) : Prop :=
  ∀ (c : Nat) (t : Tok) (X : (KK w).In s.heap) (T : Top p loose mean mg mb s.heap) (hd : dp + 20 < recursionLimit) (hu : un + 100 < cLine) (h : ∀ h' t' (g' : BG) t2, Ext s.heap h' → Q (.str ⟨(escE c).toArray⟩ t2) { s with heap := h', toks := t', gens := g' }) (hB : AllBare s.gens),
    wpAny (model PG w) (Ar dp un fr gd) (call (.ref 55) [.str ⟨#[c]⟩ t]) Q E s
namespace Kescape_call
@[irreducible] noncomputable def bad : Base := Base.bad St
noncomputable def w : World := bad.w
noncomputable def p : Program := bad.p
noncomputable def loose : List Str := bad.loose
noncomputable def mean : ExcName → Option Value := bad.mean
noncomputable def mg : Str → Option Value := bad.mg
noncomputable def mb : Str → Option Value := bad.mb
noncomputable def dp : Nat := bad.dp
noncomputable def un : Nat := bad.un
noncomputable def fr : Option (List Env) := bad.fr
noncomputable def gd : Option (List Code) := bad.gd
noncomputable def s : Shared := bad.s
noncomputable def Q : Value → Shared → Prop := bad.Q
noncomputable def E : Value → Shared → Prop := bad.E
noncomputable def L : Addr := s.heap.objs.size
theorem hL : s.heap.objs.size = L := rfl
theorem at_bad : St w p loose mean mg mb dp un fr gd s Q E := by
  intro c t X T hd hu h hB
  revert X; unfold PG KK
  k_fill; intro X
  refine enterX (binds := [(Str.ofString "pattern", .str ⟨#[c]⟩ t)]) X T.nolimit (by k_is) (by k_is) (by omega) rfl rfl (fun L' h₁ hL' F N => ?_)
  obtain rfl : L' = L := hL'.symm.trans hL
  k_fold
  w_is_and go_5_27_7_3_6_2_4_0_1
  refine gm_translate ?_
  w_is_and go_5_27_7_3_6_2_4_0_1
  rename Fr _ _ _ _ => F1
  obtain ⟨f, hm, hf⟩ := esc_dict (s := { s with heap := h₁ }) (w := w) (X.keeps F1.keep)
  refine translate_call (r := escE c) rfl rfl hm ?_ fun h' tk t' hk => ?_
  · cases e : specE.contains c with
    | true =>
      obtain ⟨tk, q⟩ := (hf c).2 e
      exact .inr ⟨tk, q, by rw [escE, e]; rfl⟩
    | false => exact .inl ⟨(hf c).1 e, by rw [escE, e]; rfl⟩
  · exact h _ _ ⟨_, by first | assumption | exact BG.ok _⟩ _ fun b o e => hk b o (F1.keep b o e)
end Kescape_call
section
variable {w : World} {p : Program} {loose : List Str} {mean : ExcName → Option Value} {mg mb : Str → Option Value} {dp un : Nat} {fr : Option (List Env)} {gd : Option (List Code)} {s : Shared} {Q E : Value → Shared → Prop}
theorem escape_call {c : Nat} {t : Tok} (X : (KK w).In s.heap) (T : Top p loose mean mg mb s.heap) (hd : dp + 20 < recursionLimit) (hu : un + 100 < cLine) (h : ∀ h' t' (g' : BG) t2, Ext s.heap h' → Q (.str ⟨(escE c).toArray⟩ t2) { s with heap := h', toks := t', gens := g' }) (hB : AllBare s.gens := by first | assumption | exact BG.ok _) :
    wpAny (model PG w) (Ar dp un fr gd) (call (.ref 55) [.str ⟨#[c]⟩ t]) Q E s :=
  (Base.all Kescape_call.St (by with_unfolding_all exact Kescape_call.at_bad) ⟨w, p, loose, mean, mg, mb, dp, un, fr, gd, s, Q, E⟩) c t X T hd hu h hB
end
end Mine
end

section
open PySem PySem.W PyProof.Rows PySem.Calls PySem.Spec
set_option maxRecDepth 100000
set_option maxHeartbeats 20000000
namespace Mine
theorem fresh_T2 : True := by w_top off; trivial
set_option hygiene false
set_option hygiene true
section
variable {w : World} {p : Program} {loose : List Str} {mean : ExcName → Option Value} {mg mb : Str → Option Value} {dp un : Nat} {fr : Option (List Env)} {gd : Option (List Code)} {s : Shared} {Q E : Value → Shared → Prop}


end
theorem tr_last {st : Addr} {j : Nat} {ts : List (Option Pc)} {rv : List Value} (hrv : ResAre st rv (ts.take j)) (htj : ts[j]? = some none) (halt : ∀ j, ts[j]? = some none → ∀ i, j = i + 1 → ∃ p, ts[i]? = some (some p)) : rv = [] ∨ ∃ rv' y ty, rv = rv' ++ [Value.str y ty] := by
  cases j with
  | zero =>
    rw [List.take_zero] at hrv
    cases hrv; exact .inl rfl
  | succ j' =>
    obtain ⟨p, hp⟩ := halt _ htj j' rfl
    rw [List.take_add_one, hp] at hrv
    obtain ⟨vs', t', rfl, _⟩ := ResAre.last hrv
    exact .inr ⟨vs', _, t', rfl⟩
theorem tr_sh {p : Pc} {body : List Nat} {d : Nat} (hc45 : body.contains 45 = true) (hbb : p.body = body) (hcase : (∃ c0, p = .one c0) ∨ ∃ a0 b0 c0, p = .bar a0 b0 c0) (hpok : p.ok) (hd0 : body[0]? = some d) : (body = [45] ∧ d = 45) ∨ ∃ a0 b0, body = [33, a0, b0, 45] ∧ d = 33 ∧ b0 ≠ 45 := by
  have hm45 : 45 ∈ body := by simpa using hc45
  rcases hcase with ⟨c0, rfl⟩ | ⟨a0, b0, c0, rfl⟩
  · obtain rfl : [c0] = body := hbb
    obtain rfl : 45 = c0 := by simpa using hm45
    exact .inl ⟨rfl, by simpa using hd0.symm⟩
  · obtain rfl : [33, a0, b0, c0] = body := hbb
    obtain ⟨p1, p2, p3, p4⟩ := hpok
    refine .inr ⟨a0, b0, ?_, by simpa using hd0.symm, p4⟩
    simp only [List.mem_cons, List.not_mem_nil, or_false] at hm45
    rcases hm45 with e | e | e | e
    · cases e
    · exact absurd e.symm p3
    · exact absurd e.symm p4
    · rw [← e]
theorem tr_cases {k kp n ip d : Nat} {body : List Nat} {cl : List (List Nat)} (hsh : (body = [45] ∧ d = 45) ∨ ∃ a0 b0, body = [33, a0, b0, 45] ∧ d = 33 ∧ b0 ≠ 45) (hor : (cl = [] ∧ ip = k ∧ kp = (if d = 33 then k + 2 else k + 1) ∧ n = (if d = 33 then 1 else 0)) ∨ (d = 33 ∧ cl = [body.take 3] ∧ ip = k + 4 ∧ k + 4 ≤ kp ∧ n = 0)) : (k + body.length ≤ kp ∧ n = 0 ∧ ((d = 45 ∧ cl = [] ∧ ip = k) ∨ (d = 33 ∧ cl = [body.take 3] ∧ ip = k + 4))) ∨ ∃ a0 b0, body = [33, a0, b0, 45] ∧ b0 ≠ 45 ∧ d = 33 ∧ cl = [] ∧ k = ip ∧ kp = k + 2 ∧ n = 1 := by
  rcases hsh with ⟨rfl, rfl⟩ | ⟨a0, b0, rfl, rfl, hb0⟩
  · rcases hor with ⟨h1, h2, h3, h4⟩ | ⟨h1, _⟩
    · exact .inl ⟨by rw [h3]; simp, by rw [h4]; rfl, .inl ⟨rfl, h1, h2⟩⟩
    · cases h1
  · rcases hor with ⟨h1, h2, h3, h4⟩ | ⟨_, h1, h2, h3, h4⟩
    · exact .inr ⟨a0, b0, rfl, hb0, rfl, h1, h2.symm, by rw [h3]; rfl, by rw [h4]; rfl⟩
    · exact .inl ⟨h3, h4, .inr ⟨rfl, h1, h2⟩⟩
theorem tr_j1 {p : Pc} {x : Str} {k d : Nat} {body : List Nat} (hbb : p.body = body) (hcase : (∃ c0, p = .one c0) ∨ ∃ a0 b0 c0, p = .bar a0 b0 c0) (hpok : p.ok) (hd0 : body[0]? = some d) (hkd : x.cps.toList[k]? = some d) (hat : ∀ q, q < body.length → x.cps.toList[k + q]? = body[q]?) : ∃ j1 d1, (if d = 33 then k + 1 else k) = j1 ∧ k ≤ j1 ∧ j1 < k + body.length ∧ x.cps.toList[j1]? = some d1 ∧
              ∀ q, (if d1 = 93 then j1 + 1 else j1) ≤ q → q < k + body.length → ∃ e, x.cps.toList[q]? = some e ∧ e ≠ 93 := by
  rcases hcase with ⟨c0, rfl⟩ | ⟨a0, b0, c0, rfl⟩
  · obtain rfl : [c0] = body := hbb
    obtain rfl : c0 = d := by simpa using hd0
    have hc33 : c0 ≠ 33 := hpok
    refine ⟨k, c0, by rw [if_neg hc33], Nat.le_refl _, by simp, hkd, fun q h1 h2 => ?_⟩
    simp only [List.length_cons, List.length_nil] at h2
    by_cases e : c0 = 93
    · rw [if_pos e] at h1; omega
    · rw [if_neg e] at h1
      obtain rfl : q = k := by omega
      exact ⟨c0, hkd, e⟩
  · obtain rfl : [33, a0, b0, c0] = body := hbb
    obtain rfl : 33 = d := by simpa using hd0
    obtain ⟨p1, p2, p3, p4⟩ := hpok
    have y1 := hat 1 (by simp)
    have y2 := hat 2 (by simp)
    have y3 := hat 3 (by simp)
    simp only [List.getElem?_cons_succ, List.getElem?_cons_zero] at y1 y2 y3
    refine ⟨k + 1, a0, by rw [if_pos rfl], by omega, by simp, y1, fun q h1 h2 => ?_⟩
    simp only [List.length_cons, List.length_nil] at h2
    by_cases e : a0 = 93
    · rw [if_pos e] at h1
      rcases (by omega : q = k + 2 ∨ q = k + 3) with rfl | rfl
      · exact ⟨b0, y2, p1⟩
      · exact ⟨c0, y3, p2⟩
    · rw [if_neg e] at h1
      rcases (by omega : q = k + 1 ∨ q = k + 2 ∨ q = k + 3) with rfl | rfl | rfl
      · exact ⟨a0, y1, e⟩
      · exact ⟨b0, y2, p1⟩
      · exact ⟨c0, y3, p2⟩
theorem MatchAt.keeps' {h h' : Heap} {a : Addr} {x : Str} {t : Tok} {n : Nat} (hma : MatchAt h a x t n) (k : ∀ b o, h.get? b = some o → h'.get? b = some o) : MatchAt h' a x t n := by
  obtain ⟨o, sp, os, pv, li, lim, ho, hc, hdn, hd, hs, ks, hsd⟩ := hma
  exact ⟨o, sp, os, pv, li, lim, k _ _ ho, hc, hdn, hd, k _ _ hs, ks, hsd⟩
noncomputable def Ktr_call.St (w : World) (p : Program) (loose : List Str) (mean : ExcName → Option Value) (mg : Str → Option Value) (mb : Str → Option Value) (dp : Nat) (un : Nat) (fr : Option (List Env)) (gd : Option (List Code)) (s : Shared) (Q : Value → Shared → Prop) (E : Value → Shared → Prop) : Prop :=
  ∀ (G : Heap) (ps : Array Value) (ts : List (Option Pc)) (t t2 : Tok) (st : Addr) (X : (KK w).In G) (T : Top p loose mean mg mb G) (hG : Ext G s.heap) (hG0 : G.get? 57 = none) (C : CodeHd G 61 57) (hP : s.heap.get? 57 = some (tabObj ps)) (hps : TabOk s.heap ps) (hd : dp + 60 < recursionLimit) (hu : un + 300 < cLine) (hts : ts.length ≤ 20) (htx : (ts.flatMap tkText).length ≤ 200) (hok : ∀ p, some p ∈ ts → p.ok) (hst : st ≠ 57) (halt : ∀ j, ts[j]? = some none → ∀ i, j = i + 1 → ∃ p, ts[i]? = some (some p)) (h : ∀ h' t' (g' : BG) R rv n1 ps', (∀ b o, b ≠ 57 → s.heap.get? b = some o → h'.get? b = some o) → h'.get? 57 = some (tabObj ps') → TabOk h' ps' → h'.get? R = some (listOf rv.toArray n1) → s.heap.get? R = none → ResAre st rv ts → Q (.ref R) { s with heap := h', toks := t', gens := g' }) (hB : AllBare s.gens),
    wpAny (model PG w) (Ar dp un fr gd) (call (.ref 62) [.str ⟨(ts.flatMap tkText).toArray⟩ t, .ref st, .str (Str.ofString ".") t2]) Q E s
namespace Ktr_call
@[irreducible] noncomputable def bad : Base := Base.bad St
noncomputable def w : World := bad.w
noncomputable def p : Program := bad.p
noncomputable def loose : List Str := bad.loose
noncomputable def mean : ExcName → Option Value := bad.mean
noncomputable def mg : Str → Option Value := bad.mg
noncomputable def mb : Str → Option Value := bad.mb
noncomputable def dp : Nat := bad.dp
noncomputable def un : Nat := bad.un
noncomputable def fr : Option (List Env) := bad.fr
noncomputable def gd : Option (List Code) := bad.gd
noncomputable def s : Shared := bad.s
noncomputable def Q : Value → Shared → Prop := bad.Q
noncomputable def E : Value → Shared → Prop := bad.E
noncomputable def L : Addr := s.heap.objs.size
theorem hL : s.heap.objs.size = L := rfl
theorem at_bad : St w p loose mean mg mb dp un fr gd s Q E := by
  unfold St
  intros G ps ts t t2 st X T hG hG0 C hP hps hd hu hts htx hok hst halt h hB
  have hxl : (⟨(ts.flatMap tkText).toArray⟩ : Str).length ≤ 200 := by show Array.size _ ≤ 200; rw [List.size_toArray]; exact htx
  have hxs : (⟨(ts.flatMap tkText).toArray⟩ : Str).length = (ts.flatMap tkText).length := by show Array.size _ = _; rw [List.size_toArray]
  have hxc : (⟨(ts.flatMap tkText).toArray⟩ : Str).cps.toList = ts.flatMap tkText := rfl
  generalize hx : (⟨(ts.flatMap tkText).toArray⟩ : Str) = x at hxl hxs hxc
  revert X; unfold PG KK
  k_fill; intro X
  refine enterX (binds := [(Str.ofString "pat", .str x t), (Str.ofString "STAR", .ref st), (Str.ofString "QUESTION_MARK", .str _ t2)]) (X.keeps hG) (T.keeps hG).nolimit (by k_is) (by k_is) (by omega) rfl rfl (fun L' h₁ hL' F0 N0 => ?_)
  obtain rfl : L' = L := hL'.symm.trans hL
  k_fold
  have F := hid57_fr F0
  have N := hid57_news F0 hP
  clear F0 N0
  replace X := X.keeps (hid57_ext hG hG0)
  replace T := T.keeps (hid57_ext hG hG0)
  replace C : Hid _ := C.keeps (hid57_ext hG hG0)
  w_is_and go_5_18_9_20_7_11_17_28_29_3_12_30_2_4_0_1
  rename Fr _ _ _ _ => F1
  rename News _ _ _ _ => N1
  rename_i R _ lR _
  have hR57 : (57 : Addr) ≠ R := Nat.ne_of_lt lR
  refine append_getattr (N1 (R, _) (List.mem_cons_self ..)).1 fun h2 b t3 k2 hb0 hb => ?_
  have hnew : New _ h2 [(b, bobj R)] := fun p hp => by rw [List.mem_singleton.mp hp]; exact ⟨hb, hb0⟩
  have N2 := News.app (hnew.news F1) (News.ext N1 k2)
  have F2 := F1.keeps k2
  have hbo : ∀ q ∈ [(R, listOf (#[] : Array Value) 0), ((57 : Addr), tabObj ps)], (b : Addr) ≠ q.1 := fun q hq e => by
    have := (N1 q hq).1
    rw [← e, hb0] at this; cases this
  have hbR : (b : Addr) ≠ R := hbo _ (List.mem_cons_self ..)
  have hb57 : (b : Addr) ≠ 57 := hbo _ (List.mem_cons_of_mem _ (List.mem_cons_self ..))
  clear F1 N1 hbo
  dsimp only [List.cons_append, List.nil_append] at N2
  w_is_and go_5_18_9_20_7_11_17_28_29_3_12_30_2_4_0_1
  rename Fr _ _ _ _ => F1
  rename News _ _ _ _ => N1
  rw [hxs] at F1
  replace N1 : News _ _ _ [(b, bobj R), (R, listOf (#[] : Array Value) 0), ((57 : Addr), tabObj ps)] := fun p hp => N1 p (List.mem_cons_of_mem _ hp)
  have hU : ∀ (v : Value) (rv : List Value) (n1 : Nat) (ps : Array Value) (cs : List (Addr × Obj)), (∀ q ∈ cs, q.1 ≠ R) → Upd R (listOf rv.toArray n1) (listOf (rv.toArray.push v) (n1 + 1)) ((b, bobj R) :: (R, listOf rv.toArray n1) :: ((57 : Addr), tabObj ps) :: cs) ((b, bobj R) :: (R, listOf (rv.toArray.push v) (n1 + 1)) :: ((57 : Addr), tabObj ps) :: cs) := fun v rv n1 ps cs hcs => by
    refine .tail hbR (.head fun q hq => ?_)
    rcases List.mem_cons.mp hq with rfl | hq
    · exact hR57
    · exact hcs q hq
  have hps0 : TabIn (hid57 s.heap) R ps [] := ⟨hps.1, (fun _ h => nomatch h), fun cv e => by
    obtain ⟨c', oc, vs, t, e1, e2, e3, e4, e5⟩ := hps.2 cv e
    exact ⟨c', oc, vs, t, e1, .inl (hideAll_get _ e3 (fun q => e2 (List.mem_singleton.mp q))), e4, e5⟩⟩
  refine whl2 (n₀ := 20 - 0) (J := fun n m nw => Ex7 fun (j : Nat) (i : Nat) (rv : List Value) (n1 : Nat) (ps : Array Value) (cs : List (Addr × Obj)) (ti : Tok) => And9 (n = 20 - j) (j ≤ ts.length) (nw = ((b, bobj R) :: (R, listOf rv.toArray n1) :: ((57 : Addr), tabObj ps) :: cs)) (TabIn (hid57 s.heap) R ps cs) (ResAre st rv (ts.take j)) (x.cps.toList.drop i = (ts.drop j).flatMap tkText) (i ≤ x.length) (LV m [(Str.ofString "pat", .str x t), (Str.ofString "STAR", .ref st), (Str.ofString "res", .ref R), (Str.ofString "add", .ref b), (Str.ofString "i", .int ((i : Nat) : Int) ti)]) (Ex1 fun tn => LV m [(Str.ofString "n", .int (((ts.flatMap tkText).length : Nat) : Int) tn)]))
    (O := fun m nw => Ex5 fun (rv : List Value) (n1 : Nat) (ps : Array Value) (cs : List (Addr × Obj)) (ti : Tok) => And5 (nw = ((b, bobj R) :: (R, listOf rv.toArray n1) :: ((57 : Addr), tabObj ps) :: cs)) (TabIn (hid57 s.heap) R ps cs) (ResAre st rv ts) (LV m [(Str.ofString "res", .ref R), (Str.ofString "i", .int (((ts.flatMap tkText).length : Nat) : Int) ti)]) (Ex1 fun tn => LV m [(Str.ofString "n", .int (((ts.flatMap tkText).length : Nat) : Int) tn)]))
    F1 N1 ⟨0, 0, [], _, ps, [], _, rfl, Nat.zero_le _, rfl, hps0, .nil, by rw [hxc]; rfl, Nat.zero_le _, rfl, _, rfl⟩ ?_ ?_
  · clear F1 N1
    intro n m₁ nw₁ h4 tk4 g4 hJ1 F4 N4
    try k_fold
    revert F4 N4
    obtain ⟨j, i, rv, n1, ps, cs, ti, rfl, hj, rfl, hps, hrv, hdrop, hil, hm, tn, hm5⟩ := hJ1
    intro F4 N4
    w_is_and my_aa
    intros G v1_ ts t st x R v2_ h2 b v3_ v4_ tk m₁ h4 tk4 g4 j i rv n1 ps cs ti tn
    intro hG hG0 hP _ hd hu hts htx hok hst halt h hB hx hxl hxs hxc hL' X T C lR hR57 k2 hb0 hb hnew hbR hb57 _ hU hps0 hj hps hrv hdrop hil hm hm5 F4 N4; try k_fold
    rw [(hm.app hm5).can] at F4
    dsimp only [List.cons_append, List.nil_append] at F4
    have hlen : x.cps.toList.length = x.length := by simp [Str.length]
    have hjx : x.length = (ts.flatMap tkText).length := hxs
    cases hdj : ts.drop j with
    | nil =>
      rw [hdj] at hdrop
      have hi : i = x.length := by
        have := congrArg List.length hdrop
        simp only [List.length_drop, List.flatMap_nil, List.length_nil] at this; omega
      have hjl : ts.take j = ts := by
        have := congrArg List.length hdj
        rw [List.length_drop, List.length_nil] at this
        exact List.take_of_length_le (by omega)
      rw [hjl] at hrv
      subst hi
      rw [hjx] at F4
      w_is_and go_5_18_9_20_7_11_17_28_29_3_12_30_2_4_0_1
      exact WOut.intro ((b, bobj R) :: (R, listOf rv.toArray n1) :: ((57 : Addr), tabObj ps) :: cs) F4 N4 (fun _ h => h) ⟨rv, n1, ps, cs, _, rfl, hps, hrv, rfl, _, rfl⟩
    | cons tk0 r =>
      rw [hdj, List.flatMap_cons] at hdrop
      have hjlt : j < ts.length := by
        have := congrArg List.length hdj
        rw [List.length_drop, List.length_cons] at this; omega
      have htj : ts[j]? = some tk0 := by
        have := congrArg (fun l => l[0]?) hdj
        simpa using this
      have htk1 : ts.take (j + 1) = ts.take j ++ [tk0] := by rw [List.take_add_one, htj]; rfl
      have hdr : ts.drop (j + 1) = r := by
        have := congrArg (List.drop 1) hdj
        rw [List.drop_drop] at this; exact this
      obtain ⟨c, tl, hct⟩ : ∃ c tl, tkText tk0 = c :: tl := by
        cases tk0 with
        | none => exact ⟨42, [], rfl⟩
        | some p => cases p <;> exact ⟨_, _, rfl⟩
      have hic : x.cps.toList[i]? = some c := by
        have := congrArg (fun l => l[0]?) hdrop
        rw [hct] at this; simpa using this
      have hilt : i < x.length := by
        have := (List.getElem?_eq_some_iff.mp hic).1; omega
      have hk0 : ((i : Nat) : Int) < x.length := by omega
      have hk1 : -(x.length : Int) ≤ ((i : Nat) : Int) := by omega
      have hk2 : ((i : Nat) : Int) < (((ts.flatMap tkText).length : Nat) : Int) := by omega
      w_is_and go_5_18_9_20_7_11_17_28_29_3_12_30_2_4_0_1
      rename Fr _ _ _ _ => F5
      rename News _ _ _ _ => N5
      rw [item_i hic] at F5
      clear hk0 hk1 hk2
      have hrl := hrv.length
      rw [List.length_take] at hrl
      try dsimp only
      cases tk0 with
      | none =>
        obtain ⟨rfl, rfl⟩ := List.cons.inj hct
        refine if_dec F5 N5 true ?_ ?_
        · (w_is_and go_5_18_9_20_7_11_17_28_29_3_12_30_2_4_0_1; all_goals (try exact ⟨rfl, WOut.intro _ (by assumption) (by assumption) (fun _ h => h) ⟨rfl, rfl⟩⟩))
        clear F5 N5
        intro h5 tk5 g5 F5 N5
        rw [ite_tt]
        w_is_and go_5_18_9_20_7_11_17_28_29_3_12_30_2_4_0_1
        refine if_dec F5 N5 true ?_ ?_
        · w_is_and go_5_18_9_20_7_11_17_28_29_3_12_30_2_4_0_1
          have hlast := tr_last hrv htj halt
          refine wpAny_truthy_list (items := rv.toArray) (N5.isList (List.mem_cons_of_mem _ (List.mem_cons_self ..))) (by rw [List.size_toArray]; omega) ?_
          rcases hlast with rfl | ⟨rv', y, ty, rfl⟩
          · (w_is_and go_5_18_9_20_7_11_17_28_29_3_12_30_2_4_0_1; all_goals (try exact ⟨rfl, WOut.intro _ (by assumption) (by assumption) (fun _ h => h) ⟨rfl, rfl⟩⟩))
          · rw [show (!(rv' ++ [Value.str y ty]).toArray.isEmpty) = true by simp]
            w_is_and go_5_18_9_20_7_11_17_28_29_3_12_30_2_4_0_1
            dsimp only
            refine sub_last (N5.isList (List.mem_cons_of_mem _ (List.mem_cons_self ..))) ?_
            w_is_and go_5_18_9_20_7_11_17_28_29_3_12_30_2_4_0_1
            refine wpAny_isNot_other rfl (fun e => nomatch e) ?_
            (w_is_and go_5_18_9_20_7_11_17_28_29_3_12_30_2_4_0_1; all_goals (try exact ⟨rfl, WOut.intro _ (by assumption) (by assumption) (fun _ h => h) ⟨rfl, rfl⟩⟩))
        clear F5 N5
        intro h5 tk5 g5 F5 N5
        rw [ite_tt]
        w_is_and go_5_18_9_20_7_11_17_28_29_3_12_30_2_4_0_1_34
        dsimp only
        refine callWith_B (D := R) (N5 (b, bobj R) (List.mem_cons_self ..)).1 ?_
        w_is_and go_5_18_9_20_7_11_17_28_29_3_12_30_2_4_0_1_8
        · exact (N5 (b, bobj R) (List.mem_cons_self ..)).1
        refine bound_K (D := R) (its := rv.toArray) (n := n1) F5 N5 (hU _ rv n1 ps cs fun q hq => (hps.2.1 q hq).1) (N5 (b, bobj R) (List.mem_cons_self ..)).1 (by rw [sizeLine_eq, List.size_toArray]; omega) fun h6 F6 N6 => ?_
        clear F5 N5
        w_is_and go_5_18_9_20_7_11_17_28_29_3_12_30_2_4_0_1
        simp only [List.push_toArray] at N6
        refine WEnd.intro (20 - (j + 1)) ((b, bobj R) :: (R, listOf (rv ++ [Value.ref st]).toArray (n1 + 1)) :: ((57 : Addr), tabObj ps) :: cs) F6 N6 (fun _ h => h) (by omega) ⟨j + 1, i + 1, _, _, ps, cs, _, rfl, by omega, rfl, hps, ?_, ?_, by omega, rfl, _, rfl⟩
        · rw [htk1]; exact hrv.append (.star .nil)
        · have := congrArg (List.drop 1) hdrop
          rw [List.drop_drop] at this
          rw [this, hdr]; rfl
      | some p =>
        have hpok := hok p (List.mem_of_getElem? htj)
        by_cases hbr : ∃ body, p.text = [91] ++ body ++ [93] ∧ p.body = body ∧ ((∃ c0, p = .one c0) ∨ ∃ a0 b0 c0, p = .bar a0 b0 c0)
        · obtain ⟨body, hbt, hbb, hcase⟩ := hbr
          have hc91 : c = 91 := by
            have : tkText (some p) = [91] ++ body ++ [93] := hbt
            rw [this] at hct
            exact (List.cons.inj hct).1.symm
          subst hc91
          refine if_dec F5 N5 false (by (w_is_and go_5_18_9_20_7_11_17_28_29_3_12_30_2_4_0_1; all_goals (try exact ⟨rfl, WOut.intro _ (by assumption) (by assumption) (fun _ h => h) ⟨rfl, rfl⟩⟩))) ?_
          clear F5 N5
          intro h5 tk5 g5 F5 N5
          rw [ite_ff]
          w_is_and go_5_18_9_20_7_11_17_28_29_3_12_30_2_4_0_1
          refine if_dec F5 N5 false (by (w_is_and go_5_18_9_20_7_11_17_28_29_3_12_30_2_4_0_1; all_goals (try exact ⟨rfl, WOut.intro _ (by assumption) (by assumption) (fun _ h => h) ⟨rfl, rfl⟩⟩))) ?_
          clear F5 N5
          intro h5 tk5 g5 F5 N5
          rw [ite_ff]
          w_is_and go_5_18_9_20_7_11_17_28_29_3_12_30_2_4_0_1
          refine if_dec F5 N5 true (by (w_is_and go_5_18_9_20_7_11_17_28_29_3_12_30_2_4_0_1; all_goals (try exact ⟨rfl, WOut.intro _ (by assumption) (by assumption) (fun _ h => h) ⟨rfl, rfl⟩⟩))) ?_
          clear F5 N5
          intro h5 tk5 g5 F5 N5
          rw [ite_tt]
          w_is_and go_5_18_9_20_7_11_17_28_29_3_12_30_2_4_0_1
          rename Fr _ _ _ _ => F5
          rename News _ _ _ _ => N5
          obtain ⟨k, hk⟩ : ∃ k, k = i + 1 := ⟨_, rfl⟩
          have hki : ((i : Nat) : Int) + 1 = ((k : Nat) : Int) := by omega
          rw [hki] at F5
          have hdk : x.cps.toList.drop k = body ++ 93 :: r.flatMap tkText := by
            have := congrArg (List.drop 1) hdrop
            rw [List.drop_drop, ← hk] at this
            rw [this, show tkText (some p) = [91] ++ body ++ [93] from hbt]
            simp
          have hbl : body.length = 1 ∨ body.length = 4 := by
            rcases hcase with ⟨c0, rfl⟩ | ⟨a0, b0, c0, rfl⟩
            · rw [← hbb]; exact .inl rfl
            · rw [← hbb]; exact .inr rfl
          have hkl : k + body.length + 1 ≤ x.length := by
            have := congrArg List.length hdk
            simp only [List.length_drop, List.length_append, List.length_cons] at this; omega
          have hat : ∀ q, q < body.length → x.cps.toList[k + q]? = body[q]? := fun q hq => by
            have := congrArg (fun l => l[q]?) hdk
            simp only [List.getElem?_drop] at this
            rw [this, List.getElem?_append_left hq]
          have hend : x.cps.toList[k + body.length]? = some 93 := by
            have := congrArg (fun l => l[body.length]?) hdk
            simp only [List.getElem?_drop] at this
            rw [this, List.getElem?_append_right (Nat.le_refl _)]; simp
          clear hic hilt hct hdrop
          -- the two places where the search for the end may begin later
          obtain ⟨d, hd0⟩ : ∃ d, body[0]? = some d := ⟨body[0]'(by omega), by simp⟩
          have hkd : x.cps.toList[k]? = some d := by have := hat 0 (by omega); rw [hd0] at this; exact this
          have g0 : ((k : Nat) : Int) < x.length := by omega
          have g1 : -(x.length : Int) ≤ ((k : Nat) : Int) := by omega
          have g2 : ((k : Nat) : Int) < (((ts.flatMap tkText).length : Nat) : Int) := by omega
          refine exec_join F5 (fun m nw => And2 (nw = ((b, bobj R) :: (R, listOf rv.toArray n1) :: ((57 : Addr), tabObj ps) :: cs)) (Ex3 fun ti tj tn => LV m [(Str.ofString "pat", .str x t), (Str.ofString "STAR", .ref st), (Str.ofString "res", .ref R), (Str.ofString "add", .ref b), (Str.ofString "i", .int ((k : Nat) : Int) ti), (Str.ofString "n", .int (((ts.flatMap tkText).length : Nat) : Int) tn), (Str.ofString "j", .int (((if d = 33 then k + 1 else k : Nat)) : Int) tj)])) ?_ ?_
          · refine if_dec F5 N5 (decide (d = 33)) ?_ ?_
            · w_is_and go_5_18_9_20_7_11_17_28_29_3_12_30_2_4_0_1
              · rename (_ == Str.ofString "!") = true => e
                replace e := at_eq hkd o33 e
                exact ⟨e.symm, WOut.intro _ F5 N5 (fun _ h => h) ⟨rfl, rfl⟩⟩
              · rename (_ == Str.ofString "!") = false => e
                replace e := at_eq hkd o33 e
                exact ⟨e.symm, WOut.intro _ F5 N5 (fun _ h => h) ⟨rfl, rfl⟩⟩
            · clear F5 N5
              intro h5 tk5 g5 F5 N5
              by_cases hd : d = 33
              · simp only [hd, decide_true, if_true]
                w_is_and go_5_18_9_20_7_11_17_28_29_3_12_30_2_4_0_1
                rename Fr _ _ _ _ => F6
                rename News _ _ _ _ => N6
                exact WOut.intro _ F6 N6 (fun _ h => h) ⟨rfl, _, _, _, rfl⟩
              · simp only [hd, decide_false, Bool.false_eq_true, if_false]
                w_is_and go_5_18_9_20_7_11_17_28_29_3_12_30_2_4_0_1
                exact WOut.intro _ F5 N5 (fun _ h => h) ⟨rfl, _, _, _, rfl⟩
          clear F5 N5
          intro m₂ nw₂ h5 tk5 g5 hJ2 F5 N5
          try k_fold
          revert F5 N5
          obtain ⟨rfl, ti2, tj2, tn2, hm'⟩ := hJ2
          intro F5 N5
          obtain ⟨j1, d1, hj1, hj1k, hj1l, hx1, hrest⟩ := tr_j1 hbb hcase hpok hd0 hkd hat
          rw [hj1] at hm'
          clear hj1
          rw [hm'.can] at F5
          have g0' : ((j1 : Nat) : Int) < x.length := by omega
          have g1' : -(x.length : Int) ≤ ((j1 : Nat) : Int) := by omega
          have g2' : ((j1 : Nat) : Int) < (((ts.flatMap tkText).length : Nat) : Int) := by omega
          try dsimp only
          w_is_and go_5_18_9_20_7_11_17_28_29_3_12_30_2_4_0_1
          refine exec_join F5 (fun m nw => And2 (nw = ((b, bobj R) :: (R, listOf rv.toArray n1) :: ((57 : Addr), tabObj ps) :: cs)) (Ex3 fun ti tj tn => LV m [(Str.ofString "pat", .str x t), (Str.ofString "STAR", .ref st), (Str.ofString "res", .ref R), (Str.ofString "add", .ref b), (Str.ofString "i", .int ((k : Nat) : Int) ti), (Str.ofString "n", .int (((ts.flatMap tkText).length : Nat) : Int) tn), (Str.ofString "j", .int (((if d1 = 93 then j1 + 1 else j1 : Nat)) : Int) tj)])) ?_ ?_
          · refine if_dec F5 N5 (decide (d1 = 93)) ?_ ?_
            · w_is_and go_5_18_9_20_7_11_17_28_29_3_12_30_2_4_0_1
              · rename (_ == Str.ofString "]") = true => e
                replace e := at_eq hx1 o93 e
                exact ⟨e.symm, WOut.intro _ F5 N5 (fun _ h => h) ⟨rfl, rfl⟩⟩
              · rename (_ == Str.ofString "]") = false => e
                replace e := at_eq hx1 o93 e
                exact ⟨e.symm, WOut.intro _ F5 N5 (fun _ h => h) ⟨rfl, rfl⟩⟩
            · clear F5 N5
              intro h5 tk5 g5 F5 N5
              by_cases hd : d1 = 93
              · simp only [hd, decide_true, if_true]
                w_is_and go_5_18_9_20_7_11_17_28_29_3_12_30_2_4_0_1
                rename Fr _ _ _ _ => F6
                rename News _ _ _ _ => N6
                exact WOut.intro _ F6 N6 (fun _ h => h) ⟨rfl, _, _, _, rfl⟩
              · simp only [hd, decide_false, Bool.false_eq_true, if_false]
                w_is_and go_5_18_9_20_7_11_17_28_29_3_12_30_2_4_0_1
                exact WOut.intro _ F5 N5 (fun _ h => h) ⟨rfl, _, _, _, rfl⟩
          clear F5 N5
          intro m₃ nw₃ h5 tk5 g5 hJ3 F5 N5
          try k_fold
          revert F5 N5
          obtain ⟨rfl, ti3, tj3, tn3, hn⟩ := hJ3
          intro F5 N5
          obtain ⟨j2, hj2⟩ : ∃ j2, (if d1 = 93 then j1 + 1 else j1) = j2 := ⟨_, rfl⟩
          have hj2l : j2 ≤ k + body.length := by rw [← hj2]; split <;> omega
          rw [hj2] at hrest hn
          rw [hn.can] at F5
          try dsimp only
          w_is_and go_5_18_9_20_7_11_17_28_29_3_12_30_2_4_0_1
          refine whl2 (n₀ := k + body.length - j2) (J := fun n m nw => And2 (nw = ((b, bobj R) :: (R, listOf rv.toArray n1) :: ((57 : Addr), tabObj ps) :: cs)) (Ex4 fun (jj : Nat) (ti : Tok) (tj : Tok) (tn : Tok) => And4 (n = k + body.length - jj) (j2 ≤ jj) (jj ≤ k + body.length) (LV m [(Str.ofString "pat", .str x t), (Str.ofString "STAR", .ref st), (Str.ofString "res", .ref R), (Str.ofString "add", .ref b), (Str.ofString "i", .int ((k : Nat) : Int) ti), (Str.ofString "n", .int (((ts.flatMap tkText).length : Nat) : Int) tn), (Str.ofString "j", .int ((jj : Nat) : Int) tj)])))
            (O := fun m nw => And2 (nw = ((b, bobj R) :: (R, listOf rv.toArray n1) :: ((57 : Addr), tabObj ps) :: cs)) (Ex3 fun (ti : Tok) (tj : Tok) (tn : Tok) => LV m [(Str.ofString "pat", .str x t), (Str.ofString "STAR", .ref st), (Str.ofString "res", .ref R), (Str.ofString "add", .ref b), (Str.ofString "i", .int ((k : Nat) : Int) ti), (Str.ofString "n", .int (((ts.flatMap tkText).length : Nat) : Int) tn), (Str.ofString "j", .int ((k + body.length : Nat) : Int) tj)]))
            F5 N5 ⟨rfl, j2, _, _, _, rfl, Nat.le_refl _, hj2l, rfl⟩ ?_ ?_
          · clear F5 N5
            intro n m₄ nw₄ h6 tk6 g6 hJ4 F6 N6
            try k_fold
            revert F6 N6
            obtain ⟨rfl, jj, ti4, tj4, tn4, rfl, hjj1, hjj2, ho⟩ := hJ4
            intro F6 N6
            rw [ho.can] at F6
            have v0 : ((jj : Nat) : Int) < x.length := by omega
            have v1 : -(x.length : Int) ≤ ((jj : Nat) : Int) := by omega
            have v2 : ((jj : Nat) : Int) < (((ts.flatMap tkText).length : Nat) : Int) := by omega
            obtain ⟨e, he, hed⟩ : ∃ e, x.cps.toList[jj]? = some e ∧ ((e = 93) ↔ jj = k + body.length) := by
              by_cases hjj : jj = k + body.length
              · exact ⟨93, by rw [hjj]; exact hend, by simp [hjj]⟩
              · obtain ⟨e, h1, h2⟩ := hrest jj hjj1 (by omega)
                exact ⟨e, h1, by simp [h2, hjj]⟩
            w_is_and go_5_18_9_20_7_11_17_28_29_3_12_30_2_4_0_1
            · rename (_ != Str.ofString "]") = true => e'
              replace e' := at_ne he o93 e'
              have e93 : e ≠ 93 := by simpa using e'
              have hjj : jj ≠ k + body.length := fun q => e93 (hed.mpr q)
              rename Fr _ _ _ _ => F7
              rename News _ _ _ _ => N7
              exact WEnd.intro (k + body.length - (jj + 1)) _ F7 N7 (fun _ h => h) (by omega) ⟨rfl, jj + 1, _, _, _, rfl, by omega, by omega, rfl⟩
            · rename (_ != Str.ofString "]") = false => e'
              replace e' := at_ne he o93 e'
              have e93 : e = 93 := by simpa using e'
              have hjj : jj = k + body.length := hed.mp e93
              subst hjj
              exact WOut.intro _ F6 N6 (fun _ h => h) ⟨rfl, _, _, _, rfl⟩
          · clear F5 N5
            intro m₄ nw₄ h6 tk6 g6 hJ5 F6 N6
            try k_fold
            revert F6 N6
            obtain ⟨rfl, ti4, tj4, tn4, ho⟩ := hJ5
            intro F6 N6
            try k_fold
            rw [ho.can] at F6
            have hjn : ¬ (((k + body.length : Nat) : Int) ≥ (((ts.flatMap tkText).length : Nat) : Int)) := by omega
            try dsimp only
            w_is_and go_5_18_9_20_7_11_17_28_29_3_12_30_2_4_0_1
            refine if_dec F6 N6 false (by w_is_and go_5_18_9_20_7_11_17_28_29_3_12_30_2_4_0_1; exact ⟨decide_eq_false (by omega), WOut.intro _ F6 N6 (fun _ h => h) ⟨rfl, rfl⟩⟩) ?_
            clear F6 N6
            intro h7 tk7 g7 F6 N6
            rw [ite_ff]
            w_is_and go_5_18_9_20_7_11_17_28_29_3_12_30_2_4_0_1
            rename Fr _ _ _ _ => F7
            rename News _ _ _ _ => N7
            have hslice : Txt.slice x (some ((k : Nat) : Int)) (some ((k + body.length : Nat) : Int)) = ⟨body.toArray⟩ := by
              rw [slice_ij, hdk, Nat.add_sub_cancel_left, List.take_left]
            rw [hslice] at F7
            refine exec_join F7 (fun m nw => Ex1 fun ps' => And3 (nw = ((b, bobj R) :: (R, listOf rv.toArray n1) :: ((57 : Addr), tabObj ps') :: cs)) (TabIn (hid57 s.heap) R ps' cs) (Ex3 fun (tj : Tok) (tn : Tok) (tu : Tok) => LV m [(Str.ofString "pat", .str x t), (Str.ofString "STAR", .ref st), (Str.ofString "res", .ref R), (Str.ofString "add", .ref b), (Str.ofString "n", .int (((ts.flatMap tkText).length : Nat) : Int) tn), (Str.ofString "j", .int ((k + body.length : Nat) : Int) tj), (Str.ofString "stuff", .str ⟨(body.flatMap e1).toArray⟩ tu)])) ?_ ?_
            · have hbz : (⟨body.toArray⟩ : Str).length ≤ 4 := by show Array.size _ ≤ 4; rw [List.size_toArray]; omega
              refine if_decP F7 N7 (!body.contains 45) ?_ ?_
              · w_is_and go_5_18_9_20_7_11_17_28_29_3_12_30_2_4_0_1
                refine ⟨?_, WOut.intro _ F7 N7 (fun _ h => h) ⟨rfl, rfl⟩⟩
                rw [o45, empty_one, Bool.not_not]
                simp
              clear F7 N7
              intro h8 tk8 g8 htk8 F7 N7
              cases hc45 : body.contains 45 with
              | false =>
                rw [show (!false) = true from rfl, ite_tt]
                w_is_and go_5_18_9_20_7_11_17_28_29_3_12_30_2_4_0_1
                rename Fr _ _ _ _ => F8
                rename News _ _ _ _ => N8
                rw [o92, show Str.ofString "\\\\" = (⟨[92, 92].toArray⟩ : Str) from by decide +kernel, replace_rep, cps_mk, rep_e1_free _ hc45] at F8
                exact WOut.intro _ F8 N8 (fun _ h => h) ⟨ps, rfl, hps, _, _, _, rfl⟩
              | true =>
                rw [show (!true) = false from rfl, ite_ff]
                have hsh := tr_sh hc45 hbb hcase hpok hd0
                w_is_and go_5_18_9_20_7_11_17_28_29_3_12_30_2_4_0_1
                rename Fr _ _ _ _ => F8
                rename News _ _ _ _ => N8
                rename_i Ch _ lCh _
                have hCh0 := (N8 (Ch, _) (List.mem_cons_self ..)).1
                have hChO : ∀ q ∈ ((b, bobj R) :: (R, listOf rv.toArray n1) :: ((57 : Addr), tabObj ps) :: cs), q.1 ≠ Ch := fun q hq => by
                  rcases List.mem_cons.mp hq with rfl | hq
                  · exact Nat.ne_of_lt lCh.1
                  · rcases List.mem_cons.mp hq with rfl | hq
                    · exact Nat.ne_of_lt lCh.2.1
                    · intro e
                      have e1 := (N8 q (List.mem_cons_of_mem _ (List.mem_cons_of_mem _ (List.mem_cons_of_mem _ hq)))).1
                      rw [e, hCh0] at e1
                      obtain ⟨vs, e2⟩ : ∃ vs, q.2.data = .fields vs := by
                        rcases List.mem_cons.mp hq with rfl | hq
                        · exact ⟨_, rfl⟩
                        · exact (hps.2.1 q hq).2.2
                      rw [← Option.some.inj e1] at e2
                      cases e2
                -- where the search for a dash begins
                refine exec_join F8 (fun m nw => And2 (nw = ((Ch, listOf (#[] : Array Value) 0) :: (b, bobj R) :: (R, listOf rv.toArray n1) :: ((57 : Addr), tabObj ps) :: cs)) (Ex4 fun (ti : Tok) (tj : Tok) (tn : Tok) (tkk : Tok) => LV m [(Str.ofString "pat", .str x t), (Str.ofString "STAR", .ref st), (Str.ofString "res", .ref R), (Str.ofString "add", .ref b), (Str.ofString "i", .int ((k : Nat) : Int) ti), (Str.ofString "n", .int (((ts.flatMap tkText).length : Nat) : Int) tn), (Str.ofString "j", .int ((k + body.length : Nat) : Int) tj), (Str.ofString "chunks", .ref Ch), (Str.ofString "k", .int ((if d = 33 then k + 2 else k + 1 : Nat) : Int) tkk)])) ?_ ?_
                · walk1
                  w_is_and go_5_18_9_20_7_11_17_28_29_3_12_30_2_4_0_1
                  · rename (_ == Str.ofString "!") = true => e
                    replace e := at_eq hkd o33 e
                    rename Fr _ _ _ _ => F9
                    rename News _ _ _ _ => N9
                    rw [if_pos (of_decide_eq_true e)]
                    exact WOut.intro _ F9 N9 (fun _ h => h) ⟨rfl, _, _, _, _, rfl⟩
                  · rename (_ == Str.ofString "!") = false => e
                    replace e := at_eq hkd o33 e
                    rename Fr _ _ _ _ => F9
                    rename News _ _ _ _ => N9
                    rw [if_neg (of_decide_eq_false e)]
                    exact WOut.intro _ F9 N9 (fun _ h => h) ⟨rfl, _, _, _, _, rfl⟩
                clear F8 N8
                intro m₅ nw₅ h9 tk9 g9 hJ6 F8 N8
                try k_fold
                revert F8 N8
                obtain ⟨rfl, ti5, tj5, tn5, tk5', rL⟩ := hJ6
                intro F8 N8
                rw [rL.can] at F8
                try dsimp only
                w_is_and go_5_18_9_20_7_11_17_28_29_3_12_30_2_4_0_1
                refine whl2 (n₀ := if d = 33 then 1 else 0) (J := fun n m nw => Ex5 fun (vs : List Value) (cl : List (List Nat)) (nc : Nat) (ip : Nat) (kp : Nat) => And4 (nw = ((Ch, listOf vs.toArray nc) :: (b, bobj R) :: (R, listOf rv.toArray n1) :: ((57 : Addr), tabObj ps) :: cs)) (StrsAre vs (cl.map fun l => (⟨l.toArray⟩ : Str))) (((cl = [] ∧ ip = k ∧ kp = (if d = 33 then k + 2 else k + 1) ∧ n = (if d = 33 then 1 else 0)) ∨ (d = 33 ∧ cl = [body.take 3] ∧ ip = k + 4 ∧ k + 4 ≤ kp ∧ n = 0))) (Ex4 fun (ti : Tok) (tj : Tok) (tn : Tok) (tkk : Tok) => LV m [(Str.ofString "pat", .str x t), (Str.ofString "STAR", .ref st), (Str.ofString "res", .ref R), (Str.ofString "add", .ref b), (Str.ofString "n", .int (((ts.flatMap tkText).length : Nat) : Int) tn), (Str.ofString "j", .int ((k + body.length : Nat) : Int) tj), (Str.ofString "chunks", .ref Ch), (Str.ofString "i", .int ((ip : Nat) : Int) ti), (Str.ofString "k", .int ((kp : Nat) : Int) tkk)]))
                  (O := fun m nw => Ex4 fun (vs : List Value) (cl : List (List Nat)) (nc : Nat) (ip : Nat) => And4 (nw = ((Ch, listOf vs.toArray nc) :: (b, bobj R) :: (R, listOf rv.toArray n1) :: ((57 : Addr), tabObj ps) :: cs)) (StrsAre vs (cl.map fun l => (⟨l.toArray⟩ : Str))) (((d = 45 ∧ cl = [] ∧ ip = k) ∨ (d = 33 ∧ cl = [body.take 3] ∧ ip = k + 4))) (Ex3 fun (ti : Tok) (tj : Tok) (tn : Tok) => LV m [(Str.ofString "pat", .str x t), (Str.ofString "STAR", .ref st), (Str.ofString "res", .ref R), (Str.ofString "add", .ref b), (Str.ofString "n", .int (((ts.flatMap tkText).length : Nat) : Int) tn), (Str.ofString "j", .int ((k + body.length : Nat) : Int) tj), (Str.ofString "chunks", .ref Ch), (Str.ofString "i", .int ((ip : Nat) : Int) ti)]))
                  F8 N8 ⟨[], [], 0, k, _, rfl, .nil, .inl ⟨rfl, rfl, rfl, rfl⟩, _, _, _, _, rfl⟩ ?_ ?_
                · clear F8 N8
                  intro n m₆ nw₆ h10 tk10 g10 hJ7 F8 N8
                  try k_fold
                  revert F8 N8
                  obtain ⟨vs, cl, nc, ip, kp, rfl, hvs, hor, ti6, tj6, tn6, tk6', rL⟩ := hJ7
                  intro F8 N8
                  rw [rL.can] at F8
                  w_is_and go_5_18_9_20_7_11_17_28_29_3_12_30_2_4_0_1
                  rw [o45]
                  refine find4 (by omega) ?_
                  have hcases := tr_cases hsh hor
                  rcases hcases with ⟨hle, rfl, hfin⟩ | ⟨a0, b0, hbd, hb0, hd33, rfl, rfl, rfl, rfl⟩
                  · rw [occ_none x 45 hle]
                    w_is_and go_5_18_9_20_7_11_17_28_29_3_12_30_2_4_0_1
                    rename Fr _ _ _ _ => F9
                    rename News _ _ _ _ => N9
                    refine if_dec F9 N9 true (by (w_is_and go_5_18_9_20_7_11_17_28_29_3_12_30_2_4_0_1; all_goals (try exact ⟨rfl, WOut.intro _ (by assumption) (by assumption) (fun _ h => h) ⟨rfl, rfl⟩⟩))) ?_
                    clear F9 N9
                    intro h10 tk10 g10 F9 N9
                    rw [ite_tt]
                    w_is_and go_5_18_9_20_7_11_17_28_29_3_12_30_2_4_0_1
                    exact WOut.intro _ F9 N9 (fun _ h => h) ⟨vs, cl, nc, ip, rfl, hvs, hfin, _, _, _, rfl⟩
                  · have x2 := hat 2 (by rw [hbd]; show 2 < 4; decide)
                    have x3 := hat 3 (by rw [hbd]; show 3 < 4; decide)
                    rw [hbd] at x2 x3
                    simp only [List.getElem?_cons_succ, List.getElem?_cons_zero] at x2 x3
                    have hkb : k + body.length = k + 2 + 2 := by rw [hbd]; rfl
                    rw [hkb, occ_second x 45 b0 (k + 2) x2 hb0 x3]
                    cases hvs
                    w_is_and go_5_18_9_20_7_11_17_28_29_3_12_30_2_4_0_1
                    rename Fr _ _ _ _ => F9
                    rename News _ _ _ _ => N9
                    refine if_dec F9 N9 false ?_ ?_
                    · w_is_and go_5_18_9_20_7_11_17_28_29_3_12_30_2_4_0_1
                      refine ⟨?_, WOut.intro _ F9 N9 (fun _ h => h) ⟨rfl, rfl⟩⟩
                      show decide (((k + 2 + 1 : Nat) : Int) < 0) = false
                      exact decide_eq_false (by omega)
                    clear F9 N9
                    intro h10 tk10 g10 F9 N9
                    rw [ite_ff]
                    w_is_and go_5_18_9_20_7_11_17_28_29_3_12_30_2_4_0_1
                    have hs3 : Txt.slice x (some ((k : Nat) : Int)) (some ((k + 2 + 1 : Nat) : Int)) = ⟨(body.take 3).toArray⟩ := by
                      rw [slice_ij, hdk, show k + 2 + 1 - k = 3 by omega, List.take_append_of_le_length (by rw [hbd]; show 3 ≤ 4; decide)]
                    rw [hs3]
                    rename Fr _ _ _ _ => F9
                    rename News _ _ _ _ => N9
                    refine append_K (its := #[]) F9 N9 (.head hChO) (fun h11 F11 N11 => ?_) (by rw [sizeLine_eq]; decide)
                    clear F9 N9
                    try dsimp only
                    w_is_and go_5_18_9_20_7_11_17_28_29_3_12_30_2_4_0_1
                    rename Fr _ _ _ _ => F9
                    rename News _ _ _ _ => N9
                    exact WEnd.intro 0 _ F9 N9 (fun _ h => h) (by decide) ⟨[_], [body.take 3], nc + 1, k + 4, k + 6, rfl, .cons _ _ .nil, .inr ⟨hd33, rfl, rfl, by omega, rfl⟩, _, tj6, _, _, .cons rfl (.cons rfl (.cons rfl (.cons rfl (.cons rfl (.cons rfl (.cons rfl (.cons rfl (.cons rfl .nil))))))))⟩
                · clear F8 N8
                  intro m₆ nw₆ h10 tk10 g10 hJ8 F8 N8
                  try k_fold
                  revert F8 N8
                  obtain ⟨vs, cl, nc, ip, rfl, hvs, hor, ti6, tj6, tn6, rL⟩ := hJ8
                  intro F8 N8
                  rw [rL.can] at F8
                  try dsimp only
                  w_is_and go_5_18_9_20_7_11_17_28_29_3_12_30_2_4_0_1
                  rename Fr _ _ _ _ => F9
                  rename News _ _ _ _ => N9
                  -- what is left behind the last dash
                  refine exec_join F9 (fun m nw => Ex2 fun (tv : Tok) (nc : Nat) => And2 (nw = ((Ch, listOf #[.str ⟨body.toArray⟩ tv] nc) :: (b, bobj R) :: (R, listOf rv.toArray n1) :: ((57 : Addr), tabObj ps) :: cs)) (Ex2 fun (tj : Tok) (tn : Tok) => LV m [(Str.ofString "pat", .str x t), (Str.ofString "STAR", .ref st), (Str.ofString "res", .ref R), (Str.ofString "add", .ref b), (Str.ofString "n", .int (((ts.flatMap tkText).length : Nat) : Int) tn), (Str.ofString "j", .int ((k + body.length : Nat) : Int) tj), (Str.ofString "chunks", .ref Ch)])) ?_ ?_
                  · rcases hor with ⟨rfl, rfl, rfl⟩ | ⟨rfl, rfl, rfl⟩
                    · have hb45 : body = [45] := by
                        rcases hsh with ⟨h1, _⟩ | ⟨_, _, _, h1, _⟩
                        · exact h1
                        · cases h1
                      cases hvs
                      have hs1 : Txt.slice x (some ((ip : Nat) : Int)) (some ((ip + body.length : Nat) : Int)) = ⟨body.toArray⟩ := hslice
                      rw [hs1, hb45] at F9
                      refine if_dec F9 N9 true ?_ ?_
                      · (w_is_and go_5_18_9_20_7_11_17_28_29_3_12_30_2_4_0_1; all_goals (try exact ⟨rfl, WOut.intro _ (by assumption) (by assumption) (fun _ h => h) ⟨rfl, rfl⟩⟩))
                      clear F9 N9
                      intro h11 tk11 g11 F9 N9
                      rw [ite_tt]
                      w_is_and go_5_18_9_20_7_11_17_28_29_3_12_30_2_4_0_1
                      refine append_K (its := #[]) F9 N9 (.head hChO) (fun h12 F12 N12 => ?_) (by rw [sizeLine_eq]; decide)
                      w_is_and go_5_18_9_20_7_11_17_28_29_3_12_30_2_4_0_1
                      exact WOut.intro _ F12 N12 (fun _ h => h) ⟨_, _, by rw [hb45]; rfl, _, _, .cons rfl (.cons rfl (.cons rfl (.cons rfl (.cons rfl (.cons (by rw [hb45]; rfl) (.cons rfl .nil))))))⟩
                    · obtain ⟨a0, b0, hbd⟩ : ∃ a0 b0, body = [33, a0, b0, 45] := by
                        rcases hsh with ⟨_, h1⟩ | ⟨a0, b0, h1, _⟩
                        · cases h1
                        · exact ⟨a0, b0, h1⟩
                      have hs0 : Txt.slice x (some ((k + 4 : Nat) : Int)) (some ((k + body.length : Nat) : Int)) = ⟨#[]⟩ := by
                        rw [slice_ij, hbd, show k + [33, a0, b0, 45].length - (k + 4) = 0 by show k + 4 - (k + 4) = 0; omega, List.take_zero]
                      rw [hs0] at F9
                      replace hvs : StrsAre vs [(⟨#[33, a0, b0]⟩ : Str)] := by rw [hbd] at hvs; exact hvs
                      cases hvs with
                      | @cons _ tq _ _ hq =>
                      cases hq
                      refine if_dec F9 N9 false ?_ ?_
                      · (w_is_and go_5_18_9_20_7_11_17_28_29_3_12_30_2_4_0_1; all_goals (try exact ⟨rfl, WOut.intro _ (by assumption) (by assumption) (fun _ h => h) ⟨rfl, rfl⟩⟩))
                      clear F9 N9
                      intro h11 tk11 g11 F9 N9
                      rw [ite_ff]
                      w_is_and go_5_18_9_20_7_11_17_28_29_3_12_30_2_4_0_1
                      rename Fr _ _ _ _ => F10
                      rename News _ _ _ _ => N10
                      rw [o45, show ((⟨#[33, a0, b0]⟩ : Str) ++ ⟨#[45]⟩) = ⟨([33, a0, b0] ++ [45]).toArray⟩ from mk_append [33, a0, b0] [45]] at N10
                      exact WOut.intro _ F10 N10 (fun _ h => h) ⟨_, _, by rw [hbd]; rfl, _, _, rfl⟩
                  clear F9 N9
                  intro m₇ nw₇ h11 tk11 g11 hJ9 F9 N9
                  try k_fold
                  revert F9 N9
                  obtain ⟨tv, nc2, rfl, tj7, tn7, rL'⟩ := hJ9
                  intro F9 N9
                  rw [rL'.can] at F9
                  try dsimp only
                  w_is_and go_5_18_9_20_7_11_17_28_29_3_12_30_2_4_0_1
                  refine wpAny_For ?_
                  w_is_and go_5_18_9_20_7_11_17_28_29_3_12_30_2_4_0_1_37
                  rename IsRange _ _ _ _ _ _ _ _ => hrg
                  rename Fr _ _ _ _ => F10
                  rename News _ _ _ _ => N10
                  refine for_empty rfl hrg (by decide) (by decide) F10 N10 (fun _ _ _ _ _ q => wpAny_pure q) fun h12 tk12 g12 F11 N11 => ?_
                  clear F10 N10
                  try dsimp only
                  w_is_and go_5_18_9_20_7_11_17_28_29_3_12_30_2_4_0_1
                  --GEN
                  have hbz2 : (body.flatMap e1).length ≤ 8 := by
                    have := e1_len body
                    omega
                  have hNlt : ∀ q ∈ ((Ch, listOf #[.str ⟨body.toArray⟩ tv] nc2) :: (b, bobj R) :: (R, listOf rv.toArray n1) :: ((57 : Addr), tabObj ps) :: cs), q.1 < h12.objs.size := fun q hq => Heap.lt_size (N11 q hq).1
                  have hLlt : L < h12.objs.size := F11.ns.lt
                  refine gen_one (Ch := Ch) (v := .str ⟨body.toArray⟩ tv) (FF := fun y => ∃ u, y = .str ⟨(body.flatMap e1).toArray⟩ u) F11 N11 T C rfl rfl (.tail (Ne.symm (hChO ((57 : Addr), tabObj ps) (.tail _ (.tail _ (.head _))))) (.tail hb57 (.tail (Ne.symm hR57) (.head fun q hq => (hps.2.1 q hq).2.1)))) hps.1 (List.mem_cons_self ..) rfl rfl (by with_unfolding_all rfl) (by decide) rfl rfl rfl (by show dp + 1 < _; omega) (fun Q' q => by w_is_and go_5_18_9_20_7_11_17_28_29_3_12_30_2_4_0_1; exact q) (fun bi C' code A' E' s₂ m₂ hA h0 hn hm => ?_) (fun a h' tk g' ps' hps' hoth F12 N12 hone => ?_) (fun _ => rfl)
                  · clear F11 N11 hNlt hLlt
                    exact rep_elt rfl rfl rfl hn hm h0 (by omega) rfl rfl (by decide) rfl rfl
                  · replace N12 : News (hid57 s.heap) L h' ((Ch, listOf #[.str ⟨body.toArray⟩ tv] nc2) :: (b, bobj R) :: (R, listOf rv.toArray n1) :: ((57 : Addr), tabObj ps') :: cs) := N12
                    clear F11 N11
                    w_is_and go_5_18_9_20_7_11_17_28_29_3_12_30_2_4_0_1
                    try dsimp only
                    refine join_one F12 N12 hLlt (fun q hq => ?_) hone (fun y h => h) ?_ fun h' tk g' t' F13 N13 => ?_
                    · rcases List.mem_cons.mp hq with rfl | hq
                      · exact hNlt _ (.head _)
                      · rcases List.mem_cons.mp hq with rfl | hq
                        · exact hNlt _ (.tail _ (.head _))
                        · rcases List.mem_cons.mp hq with rfl | hq
                          · exact hNlt _ (.tail _ (.tail _ (.head _)))
                          · rcases List.mem_cons.mp hq with rfl | hq
                            · exact hNlt ((57 : Addr), tabObj ps) (.tail _ (.tail _ (.tail _ (.head _))))
                            · exact hNlt _ (.tail _ (.tail _ (.tail _ (.tail _ hq))))
                    · show (body.flatMap e1).toArray.size + 1 ≤ 1000
                      rw [List.size_toArray]; omega
                    clear F12 N12
                    w_is_and go_5_18_9_20_7_11_17_28_29_3_12_30_2_4_0_1
                    rename Fr _ _ _ _ => F14
                    rename News _ _ _ _ => N14
                    exact WOut.intro _ F14 N14 (fun _ h => List.mem_cons_of_mem _ h) ⟨ps', rfl, ⟨hps', hps.2.1, fun cv e => hps.2.2 cv (by rw [← hoth lamPos (by decide)]; exact e)⟩, _, _, _, rfl⟩
            · clear F7 N7
              intro m₈ nw₈ h8 tk8 g8 hJ10 F7 N7
              try k_fold
              revert F7 N7
              obtain ⟨ps', rfl, hps', tj8, tn8, tu8, rL⟩ := hJ10
              intro F7 N7
              rw [rL.can] at F7
              try dsimp only
              w_is_and go_5_18_9_20_7_11_17_28_29_3_12_30_2_4_0_1_33
              --SUB
              refine gm_sub (pat_at (X.keeps F7.keep)).1 (pat_at (X.keeps F7.keep)).2 ?_
              w_is_and go_5_18_9_20_7_11_17_28_29_3_12_30_2_4_0_1
              refine lam_make (cn := Str.ofString "_translate") F7 N7 T C rfl hb57 (Ne.symm hR57) hps' (by decide +kernel) rfl (by with_unfolding_all rfl) fun f c' ctv h' tk ps'' cs' F8 N8 hps'' hcr => ?_
              clear F7 N7
              w_is_and go_5_18_9_20_7_11_17_28_29_3_12_30_2_4_0_1_39
              try dsimp only
              refine sub_call (x := ⟨(body.flatMap e1).toArray⟩) ?_ (pat_at (X.keeps F8.keep)).1 (N8 (f, _) (.head _)).1 rfl (fun s' a n Q' E' hBs hk hma hn hpost => ?_) fun h' tk g' t' hk => ?_
              · show (body.flatMap e1).toArray.size ≤ 200
                rw [List.size_toArray]; have := e1_len body; omega
              · refine enterL ((T.nolimit.keeps F8.keep).keeps hk) (hk _ _ (N8 (f, _) (.head _)).1) rfl (hcr.keeps hk) (by first | (show dp + 1 + 1 + 1 < recursionLimit; omega) | (show dp + 1 + 1 < recursionLimit; omega) | (show dp + 1 + 1 + 1 + 1 < recursionLimit; omega)) rfl rfl (fun L₂ h₂ tk₂ hL₂ F9 N9 => ?_)
                clear F8 N8
                have hma2 := hma.keeps' F9.keep
                have hex : (⟨((⟨(body.flatMap e1).toArray⟩ : Str)).cps.extract n (n + 1)⟩ : Str) = ⟨#[((⟨(body.flatMap e1).toArray⟩ : Str)).cps.getD n 0]⟩ := by
                  exact ext1 _ _ hn
                w_is_and go_5_18_9_20_7_11_17_28_29_3_12_30_2_4_0_1_33
                refine gm_group hma2 ?_
                w_is_and go_5_18_9_20_7_11_17_28_29_3_12_30_2_4_0_1
                try dsimp only
                refine group_call hma2 ?_ fun k' t' => ?_
                · show (body.flatMap e1).toArray.size ≤ 200
                  rw [List.size_toArray]; have := e1_len body; omega
                rw [hex]
                w_is_and go_5_18_9_20_7_11_17_28_29_3_12_30_2_4_0_1
                · have e : (Str.ofString "\\" ++ (⟨#[((⟨(body.flatMap e1).toArray⟩ : Str)).cps.getD n 0]⟩ : Str)) = ⟨#[92, ((⟨(body.flatMap e1).toArray⟩ : Str)).cps.getD n 0]⟩ := by
                    rw [o92]; exact mk_append [92] [_]
                  rw [e]
                  exact hpost h₂ _ ⟨_, by first | assumption | exact BG.ok _⟩ _ F9.keep
                all_goals (exfalso; omega)
              · have F9 := F8.keeps hk
                have N9 := News.ext N8 hk
                clear F8
                replace N9 : News _ _ _ ((b, bobj R) :: (R, listOf rv.toArray n1) :: ((57 : Addr), tabObj ps'') :: cs') := fun q hq => N9 q (.tail _ hq)
                clear N8
                obtain ⟨d9, l9, hs9, hl9, hz9, hin9⟩ := sig_of p hpok (by rintro c rfl; rcases hcase with ⟨_, h⟩ | ⟨_, _, _, h⟩ <;> cases h)
                rw [hbb] at hs9
                have hcp9 : (⟨(body.flatMap e1).toArray⟩ : Str).cps.toList = body.flatMap e1 := rfl
                rw [hcp9, hs9]
                have hne9 : ((⟨(d9 :: l9).toArray⟩ : Str) == Str.ofString "!") = false := by
                  rw [o33]
                  refine beq_false_of_ne fun e => ?_
                  have := congrArg (fun s : Str => s.cps.toList) e
                  simp only [List.cons.injEq] at this
                  exact hl9 this.1 this.2
                have hzl9 : (⟨(d9 :: l9).toArray⟩ : Str).length = l9.length + 1 := by show Array.size _ = _; simp
                w_is_and go_5_18_9_20_7_11_17_28_29_3_12_30_2_4_0_1
                rename Fr _ _ _ _ => F7
                rename News _ _ _ _ => N7
                refine if_dec F7 N7 false ?_ ?_
                · w_is_and go_5_18_9_20_7_11_17_28_29_3_12_30_2_4_0_1
                  exact ⟨by rw [hzl9]; simp; omega, WOut.intro _ F7 N7 (fun _ h => h) ⟨rfl, rfl⟩⟩
                clear F7 N7
                intro h5 tk5 g5 F7 N7
                rw [ite_ff]
                w_is_and go_5_18_9_20_7_11_17_28_29_3_12_30_2_4_0_1
                refine if_dec F7 N7 false ?_ ?_
                · w_is_and go_5_18_9_20_7_11_17_28_29_3_12_30_2_4_0_1
                  exact ⟨hne9, WOut.intro _ F7 N7 (fun _ h => h) ⟨rfl, rfl⟩⟩
                clear F7 N7
                intro h5 tk5 g5 F7 N7
                rw [ite_ff]
                w_is_and go_5_18_9_20_7_11_17_28_29_3_12_30_2_4_0_1
                have hit0 : (⟨(d9 :: l9).toArray⟩ : Str).cps.toList[0]? = some d9 := rfl
                have hi9 : Txt.item (⟨(d9 :: l9).toArray⟩ : Str) 0 = ⟨#[d9]⟩ := item_i (i := 0) hit0
                have hl0 : (0 : Int) < (⟨(d9 :: l9).toArray⟩ : Str).length := by rw [hzl9]; omega
                have hl1 : -((⟨(d9 :: l9).toArray⟩ : Str).length : Int) ≤ 0 := by omega
                refine exec_join F7 (fun m nw => And2 (nw = ((b, bobj R) :: (R, listOf rv.toArray n1) :: ((57 : Addr), tabObj ps'') :: cs')) (Ex3 fun (ti : Tok) (tn : Tok) (tu : Tok) => LV m [(Str.ofString "pat", .str x t), (Str.ofString "STAR", .ref st), (Str.ofString "res", .ref R), (Str.ofString "add", .ref b), (Str.ofString "i", .int ((k + body.length + 1 : Nat) : Int) ti), (Str.ofString "n", .int (((ts.flatMap tkText).length : Nat) : Int) tn), (Str.ofString "stuff", .str ⟨p.inner.toArray⟩ tu)])) ?_ ?_
                · refine if_dec F7 N7 (decide (d9 = 33)) ?_ ?_
                  · w_is_and go_5_18_9_20_7_11_17_28_29_3_12_30_2_4_0_1
                    exact ⟨by rw [hi9, o33, one_eq], WOut.intro _ F7 N7 (fun _ h => h) ⟨rfl, rfl⟩⟩
                  clear F7 N7
                  intro h5 tk5 g5 F7 N7
                  by_cases h33 : d9 = 33
                  · rw [show decide (d9 = 33) = true from decide_eq_true h33, ite_tt]
                    have e3b : (Str.ofString "^" ++ Txt.slice (⟨(d9 :: l9).toArray⟩ : Str) (some 1) none) = ⟨p.inner.toArray⟩ := by
                      rw [o94, show (some (1 : Int)) = some ((1 : Nat) : Int) from rfl, slice_i, hin9, if_pos h33]
                      exact mk_append [94] l9
                    w_is_and go_5_18_9_20_7_11_17_28_29_3_12_30_2_4_0_1
                    rename Fr _ _ _ _ => F8
                    rename News _ _ _ _ => N8
                    rw [e3b] at F8
                    exact WOut.intro _ F8 N8 (fun _ h => h) ⟨rfl, _, _, _, rfl⟩
                  · rw [show decide (d9 = 33) = false from decide_eq_false h33, ite_ff]
                    w_is_and go_5_18_9_20_7_11_17_28_29_3_12_30_2_4_0_1
                    refine if_dec F7 N7 (decide (d9 = 94 ∨ d9 = 91)) ?_ ?_
                    · w_is_and go_5_18_9_20_7_11_17_28_29_3_12_30_2_4_0_1
                      rename Fr _ _ _ _ => F8
                      rename News _ _ _ _ => N8
                      refine ⟨?_, WOut.intro _ F8 N8 (fun _ h => List.mem_cons_of_mem _ h) ⟨rfl, rfl⟩⟩
                      rw [hi9, o94, o91]
                      simp only [List.any_cons, List.any_nil, one_eq, Bool.or_false]
                      rw [Bool.eq_iff_iff]
                      simp only [Bool.or_eq_true, decide_eq_true_eq]
                      constructor <;> (rintro (h | h) <;> simp [h])
                    clear F7 N7
                    intro h5 tk5 g5 F7 N7
                    by_cases h2 : d9 = 94 ∨ d9 = 91
                    · rw [show decide (d9 = 94 ∨ d9 = 91) = true from decide_eq_true h2, ite_tt]
                      have e3d : (Str.ofString "\\" ++ (⟨(d9 :: l9).toArray⟩ : Str)) = ⟨p.inner.toArray⟩ := by
                        rw [o92, hin9, if_neg h33, if_pos h2]
                        exact mk_append [92] (d9 :: l9)
                      w_is_and go_5_18_9_20_7_11_17_28_29_3_12_30_2_4_0_1
                      rename Fr _ _ _ _ => F8
                      rename News _ _ _ _ => N8
                      rw [e3d] at F8
                      exact WOut.intro _ F8 N8 (fun _ h => h) ⟨rfl, _, _, _, rfl⟩
                    · rw [show decide (d9 = 94 ∨ d9 = 91) = false from decide_eq_false h2, ite_ff]
                      have hin8 : p.inner = d9 :: l9 := by rw [hin9, if_neg h33, if_neg h2]
                      w_is_and go_5_18_9_20_7_11_17_28_29_3_12_30_2_4_0_1
                      exact WOut.intro _ F7 N7 (fun _ h => h) ⟨rfl, _, _, _, .cons rfl (.cons rfl (.cons rfl (.cons rfl (.cons rfl (.cons rfl (.cons (by rw [hin8]; rfl) .nil))))))⟩
                clear F7 N7
                intro m₉ nw₉ h9 tk9 g9 hJ11 F7 N7
                try k_fold
                revert F7 N7
                obtain ⟨rfl, ti9, tn9, tu9, rL'⟩ := hJ11
                intro F7 N7
                rw [rL'.can] at F7
                try dsimp only
                w_is_and go_5_18_9_20_7_11_17_28_29_3_12_30_2_4_0_1_34
                dsimp only
                refine callWith_B (D := R) (N7 (b, bobj R) (List.mem_cons_self ..)).1 ?_
                w_is_and go_5_18_9_20_7_11_17_28_29_3_12_30_2_4_0_1
                have hil9 : p.inner.length ≤ 9 := by
                  simp only [List.length_cons] at hz9
                  rw [hin9]; split
                  · simp only [List.length_cons]; omega
                  · split <;> (simp only [List.length_cons]; omega)
                have e4 : (⟨p.inner.toArray⟩ : Str).length ≤ sizeLine := by rw [sizeLine_eq]; show Array.size _ ≤ _; rw [List.size_toArray]; omega
                refine SB.field_str (fun t9 k9 => ?_) e4
                have e5 : Str.empty ++ Str.ofString "[" ++ (⟨p.inner.toArray⟩ : Str) = ⟨([91] ++ p.inner).toArray⟩ := by
                  rw [show Str.empty ++ Str.ofString "[" = (⟨[91].toArray⟩ : Str) from by decide +kernel]; exact mk_append _ _
                try dsimp only
                rw [e5]
                refine ⟨by rw [sizeLine_eq]; show ([91] ++ p.inner).toArray.size ≤ _; rw [List.size_toArray, List.length_append]; simp only [List.length_cons, List.length_nil]; omega, ?_⟩
                refine joinParts_consE (joinParts_cons ?_)
                have hout9 : p.out = [91] ++ p.inner ++ [93] := by rcases hcase with ⟨_, h⟩ | ⟨_, _, _, h⟩ <;> rw [h] <;> rfl
                have e6 : (⟨([91] ++ p.inner).toArray⟩ : Str) ++ Str.ofString "]" = ⟨p.out.toArray⟩ := by
                  rw [o93, hout9]; exact mk_append _ _
                have e7 : (⟨p.out.toArray⟩ : Str).length ≤ sizeLine := by rw [sizeLine_eq]; show Array.size _ ≤ _; rw [List.size_toArray, hout9]; simp only [List.length_append, List.length_cons, List.length_nil]; omega
                refine wpAny_Constant_str ?_
                dsimp only
                rw [e6]
                refine ⟨e7, joinParts_nilE (joinParts_nil ?_ e7)⟩
                w_is_and go_5_18_9_20_7_11_17_28_29_3_12_30_2_4_0_1_8
                · exact (N7 (b, bobj R) (List.mem_cons_self ..)).1
                refine bound_K (D := R) (its := rv.toArray) (n := n1) F7 N7 (hU _ rv n1 ps'' cs' fun q hq => (hps''.2.1 q hq).1) (N7 (b, bobj R) (List.mem_cons_self ..)).1 (by rw [sizeLine_eq, List.size_toArray]; omega) fun h6 F8 N8 => ?_
                clear F7 N7
                w_is_and go_5_18_9_20_7_11_17_28_29_3_12_30_2_4_0_1
                simp only [List.push_toArray] at N8
                refine WEnd.intro (20 - (j + 1)) _ F8 N8 (fun _ h => h) (by omega) ⟨j + 1, k + body.length + 1, _, _, ps'', cs', _, rfl, by omega, rfl, hps'', ?_, ?_, by omega, rfl, _, rfl⟩
                · rw [htk1]; exact hrv.append (.part p _ .nil)
                · rw [hdr]
                  have := congrArg (List.drop (body.length + 1)) hdk
                  rw [List.drop_drop] at this
                  rw [show k + body.length + 1 = k + (body.length + 1) by omega, this]
                  rw [show body ++ 93 :: r.flatMap tkText = (body ++ [93]) ++ r.flatMap tkText by simp, show body.length + 1 = (body ++ [93]).length by simp, List.drop_left]
        cases p with
        | bare c' =>
          obtain ⟨rfl, rfl⟩ := List.cons.inj hct
          obtain ⟨q1, q2, q3⟩ := hpok
          refine if_dec F5 N5 false ?_ ?_
          · w_is_and go_5_18_9_20_7_11_17_28_29_3_12_30_2_4_0_1
            refine ⟨?_, WOut.intro _ F5 N5 (fun _ h => h) ⟨rfl, rfl⟩⟩
            rw [o42, one_eq]; exact decide_eq_false q1
          clear F5 N5
          intro h5 tk5 g5 F5 N5
          rw [ite_ff]
          w_is_and go_5_18_9_20_7_11_17_28_29_3_12_30_2_4_0_1
          refine if_dec F5 N5 false ?_ ?_
          · w_is_and go_5_18_9_20_7_11_17_28_29_3_12_30_2_4_0_1
            refine ⟨?_, WOut.intro _ F5 N5 (fun _ h => h) ⟨rfl, rfl⟩⟩
            rw [o63, one_eq]; exact decide_eq_false q2
          clear F5 N5
          intro h5 tk5 g5 F5 N5
          rw [ite_ff]
          w_is_and go_5_18_9_20_7_11_17_28_29_3_12_30_2_4_0_1
          refine if_dec F5 N5 false ?_ ?_
          · w_is_and go_5_18_9_20_7_11_17_28_29_3_12_30_2_4_0_1
            refine ⟨?_, WOut.intro _ F5 N5 (fun _ h => h) ⟨rfl, rfl⟩⟩
            rw [o91, one_eq]; exact decide_eq_false q3
          clear F5 N5
          intro h5 tk5 g5 F5 N5
          rw [ite_ff]
          w_is_and go_5_18_9_20_7_11_17_28_29_3_12_30_2_4_0_1_34
          dsimp only
          refine callWith_B (D := R) (N5 (b, bobj R) (List.mem_cons_self ..)).1 ?_
          w_is_and go_5_18_9_20_7_11_17_28_29_3_12_30_2_4_0_1_8
          refine escape_call (X.keeps F5.keep) (T.keeps F5.keep) (by omega) (by omega) fun h' t' g' t9 hk => ?_
          have F6 := F5.keeps hk
          have N6 := News.ext N5 hk
          clear F5 N5
          try dsimp only
          w_is_and go_5_18_9_20_7_11_17_28_29_3_12_30_2_4_0_1_8
          · exact (N6 (b, bobj R) (List.mem_cons_self ..)).1
          refine bound_K (D := R) (its := rv.toArray) (n := n1) F6 N6 (hU _ rv n1 ps cs fun q hq => (hps.2.1 q hq).1) (N6 (b, bobj R) (List.mem_cons_self ..)).1 (by rw [sizeLine_eq, List.size_toArray]; omega) fun h6 F7 N7 => ?_
          clear F6 N6
          w_is_and go_5_18_9_20_7_11_17_28_29_3_12_30_2_4_0_1
          simp only [List.push_toArray] at N7
          refine WEnd.intro (20 - (j + 1)) ((b, bobj R) :: (R, listOf (rv ++ [Value.str ⟨(escE c').toArray⟩ t9]).toArray (n1 + 1)) :: ((57 : Addr), tabObj ps) :: cs) F7 N7 (fun _ h => h) (by omega) ⟨j + 1, i + 1, _, _, ps, cs, _, rfl, by omega, rfl, hps, ?_, ?_, by omega, rfl, _, rfl⟩
          · rw [htk1]; exact hrv.append (.part (.bare c') t9 .nil)
          · have := congrArg (List.drop 1) hdrop
            rw [List.drop_drop] at this
            rw [this, hdr]; rfl
        | one c' => exact absurd ⟨[c'], rfl, rfl, .inl ⟨_, rfl⟩⟩ hbr
        | bar a' b' c' => exact absurd ⟨[33, a', b', c'], rfl, rfl, .inr ⟨_, _, _, rfl⟩⟩ hbr
  · intro m₁ nw₁ h4 tk4 g4 hJ12 F4 N4
    try k_fold
    revert F4 N4
    obtain ⟨rv, n1, ps, cs, ti, rfl, hps, hrv, hm, tn, hm2⟩ := hJ12
    intro F4 N4
    rw [(hm.app hm2).can] at F4
    dsimp only [List.cons_append, List.nil_append] at F4
    clear F1 N1
    w_is_and go_5_18_9_20_7_11_17_28_29_3_12_30_2_4_0_1
    · have hR := N4 (R, listOf rv.toArray n1) (.tail _ (.head _))
      refine h h4 _ g4 R rv n1 ps (fun b o hb e => F4.keep b o (hideAll_get _ e (fun q => hb (List.mem_singleton.mp q)))) (N4 ((57 : Addr), tabObj ps) (.tail _ (.tail _ (.head _)))).1 ⟨hps.1, fun cv e => ?_⟩ hR.1 ?_ hrv
      · obtain ⟨c', oc, vs, t, e1, e2, e3, e4⟩ := hps.2.2 cv e
        rcases e2 with e2 | e2
        · exact ⟨c', oc, vs, t, e1, (fun q => by rw [q, hid57_none] at e2; cases e2), F4.keep _ _ e2, e3, e4⟩
        · exact ⟨c', oc, vs, t, e1, (hps.2.1 _ e2).2.1, (N4 _ (.tail _ (.tail _ (.tail _ e2)))).1, e3, e4⟩
      · cases q : s.heap.get? R with
        | none => rfl
        | some o => 
          have := hideAll_get (h := s.heap) [57] q (fun q => hR57 (List.mem_singleton.mp q).symm)
          have h2 := hR.2.2
          rw [show hid57 s.heap = hideAll s.heap [57] from rfl] at h2
          rw [this] at h2; cases h2
    all_goals (rename _ ≠ _ => e; exact absurd rfl e)
end Ktr_call
section
variable {w : World} {p : Program} {loose : List Str} {mean : ExcName → Option Value} {mg mb : Str → Option Value} {dp un : Nat} {fr : Option (List Env)} {gd : Option (List Code)} {s : Shared} {Q E : Value → Shared → Prop}
theorem tr_call {G : Heap} {ps : Array Value} {ts : List (Option Pc)} {t t2 : Tok} {st : Addr} (X : (KK w).In G) (T : Top p loose mean mg mb G) (hG : Ext G s.heap) (hG0 : G.get? 57 = none) (C : CodeHd G 61 57) (hP : s.heap.get? 57 = some (tabObj ps)) (hps : TabOk s.heap ps) (hd : dp + 60 < recursionLimit) (hu : un + 300 < cLine) (hts : ts.length ≤ 20) (htx : (ts.flatMap tkText).length ≤ 200) (hok : ∀ p, some p ∈ ts → p.ok) (hst : st ≠ 57) (halt : ∀ j, ts[j]? = some none → ∀ i, j = i + 1 → ∃ p, ts[i]? = some (some p)) (h : ∀ h' t' (g' : BG) R rv n1 ps', (∀ b o, b ≠ 57 → s.heap.get? b = some o → h'.get? b = some o) → h'.get? 57 = some (tabObj ps') → TabOk h' ps' → h'.get? R = some (listOf rv.toArray n1) → s.heap.get? R = none → ResAre st rv ts → Q (.ref R) { s with heap := h', toks := t', gens := g' }) (hB : AllBare s.gens := by first | assumption | exact BG.ok _) :
    wpAny (model PG w) (Ar dp un fr gd) (call (.ref 62) [.str ⟨(ts.flatMap tkText).toArray⟩ t, .ref st, .str (Str.ofString ".") t2]) Q E s :=
  (Base.all Ktr_call.St (by with_unfolding_all exact Ktr_call.at_bad) ⟨w, p, loose, mean, mg, mb, dp, un, fr, gd, s, Q, E⟩) G ps ts t t2 st X T hG hG0 C hP hps hd hu hts htx hok hst halt h hB
end
end Mine
end

section
open PySem PySem.W PyProof.Rows PySem.Calls PySem.Spec
set_option maxRecDepth 100000
set_option maxHeartbeats 8000000
namespace Mine
set_option hygiene false
set_option hygiene true
section
variable {w : World} {p : Program} {loose : List Str} {mean : ExcName → Option Value} {mg mb : Str → Option Value} {dp un : Nat} {fr : Option (List Env)} {gd : Option (List Code)} {s : Shared} {Q E : Value → Shared → Prop}

theorem oHead : Str.ofString "(?s:" = (⟨#[40, 63, 115, 58]⟩ : Str) := by decide +kernel
theorem oMid : Str.ofString "(?>.*?" = (⟨#[40, 63, 62, 46, 42, 63]⟩ : Str) := by decide +kernel
theorem oEnd : Str.ofString ".*)\\Z" = (⟨#[46, 42, 41, 92, 90]⟩ : Str) := by decide +kernel
/-- the ledger's items -/
noncomputable def VItems (own : List (Addr × Obj)) (vs : List Value) (its : List (Bool × List Nat)) : Prop :=
  vs.length = its.length ∧ ∀ (j : Nat) (it : Bool × List Nat), its[j]? = some it → ∃ a t n, vs[j]? = some (Value.ref a) ∧ (a, tupObj #[.bool it.1, .str ⟨it.2.toArray⟩ t] n) ∈ own
theorem VItems.snoc {own : List (Addr × Obj)} {vs : List Value} {its : List (Bool × List Nat)} (x : VItems own vs its) (it : Bool × List Nat) (a : Addr) (t : Tok) (n : Nat) {own' : List (Addr × Obj)} (hs : ∀ p ∈ own, p ∈ own') (ha : (a, tupObj #[.bool it.1, .str ⟨it.2.toArray⟩ t] n) ∈ own') :
    VItems own' (vs ++ [.ref a]) (its ++ [it]) := by
  refine ⟨by simp [x.1], fun j it' hj => ?_⟩
  rcases Nat.lt_or_ge j its.length with h | h
  · rw [List.getElem?_append_left h] at hj
    obtain ⟨a', t', n', hv, hm⟩ := x.2 j it' hj
    exact ⟨a', t', n', by rw [List.getElem?_append_left (by rw [x.1]; exact h)]; exact hv, hs _ hm⟩
  · rw [List.getElem?_append_right h] at hj
    have hj0 : j - its.length = 0 := by
      rcases Nat.eq_zero_or_pos (j - its.length) with z | z
      · exact z
      · rw [List.getElem?_eq_none (by simp only [List.length_cons, List.length_nil]; omega)] at hj; cases hj
    rw [hj0] at hj
    obtain rfl : it = it' := by simpa using hj
    exact ⟨a, t, n, by rw [List.getElem?_append_right (by rw [x.1]; exact h), x.1, hj0]; rfl, ha⟩

end
noncomputable def Kread_call.St (w : World) (p : Program) (loose : List Str) (mean : ExcName → Option Value) (mg : Str → Option Value) (mb : Str → Option Value) (dp : Nat) (un : Nat) (fr : Option (List Env)) (gd : Option (List Code)) (s : Shared) (Q : Value → Shared → Prop) (E : Value → Shared → Prop) : Prop :=
  ∀ (x : Str) (l : List Nat) (its : List (Bool × List Nat)) (t : Tok) (X : (KK w).In s.heap) (T : Top p loose mean mg mb s.heap) (hd : dp + 40 < recursionLimit) (hu : un + 200 < cLine) (hx : x.cps.size ≤ 200) (hl : x.cps.toList = [40, 63, 115, 58] ++ l) (hR : Reads l its) (h : ∀ h' t' (g' : BG) R vs n own, Ext s.heap h' → New s.heap h' ((R, listOf vs.toArray n) :: own) → VItems own vs its → Q (.ref R) { s with heap := h', toks := t', gens := g' }) (hB : AllBare s.gens),
    wpAny (model PG w) (Ar dp un fr gd) (call (.ref 135) [.str x t]) Q E s
namespace Kread_call
@[irreducible] noncomputable def bad : Base := Base.bad St
noncomputable def w : World := bad.w
noncomputable def p : Program := bad.p
noncomputable def loose : List Str := bad.loose
noncomputable def mean : ExcName → Option Value := bad.mean
noncomputable def mg : Str → Option Value := bad.mg
noncomputable def mb : Str → Option Value := bad.mb
noncomputable def dp : Nat := bad.dp
noncomputable def un : Nat := bad.un
noncomputable def fr : Option (List Env) := bad.fr
noncomputable def gd : Option (List Code) := bad.gd
noncomputable def s : Shared := bad.s
noncomputable def Q : Value → Shared → Prop := bad.Q
noncomputable def E : Value → Shared → Prop := bad.E
noncomputable def L : Addr := s.heap.objs.size
theorem hL : s.heap.objs.size = L := rfl
theorem at_bad : St w p loose mean mg mb dp un fr gd s Q E := by
  unfold St
  intros x l its t X T hd hu hx hl hR h hB
  have hsz : x.cps.toList.length = x.cps.size := by simp
  have hzl : x.length = x.cps.size := rfl
  have hxl : x.length ≤ 1048576 := by omega
  revert X; unfold PG KK
  k_fill; intro X
  refine enterX (binds := [(Str.ofString "text", .str x t)]) X T.nolimit (by k_is) (by k_is) (by omega) rfl rfl (fun L' h₁ hL' F N => ?_)
  obtain rfl : L' = L := hL'.symm.trans hL
  k_fold
  w_is_and go_5_3_6_2_4_0_1
  · exfalso
    rename (_ != Str.ofString "(?s:") = true => e
    rw [show Txt.slice x none (some 4) = _ from slice_j x 4, hl, oHead] at e
    simp at e
  rename (_ != Str.ofString "(?s:") = false => e
  clear e
  rename Fr _ _ _ _ => F1
  rename News _ _ _ _ => N1
  rename_i R _ _ _
  refine whl2 (n₀ := its.length) (fun n m nw => Ex7 fun (kk : Nat) (its1 : List (Bool × List Nat)) (its2 : List (Bool × List Nat)) (vs : List Value) (n' : Nat) (own : List (Addr × Obj)) (tk1 : Tok) => And8 (n = its2.length) (nw = (R, listOf vs.toArray n') :: own) ((∀ p ∈ own, p.1 ≠ R)) (its = its1 ++ its2) (VItems own vs its1) (vs.length ≤ kk) (LV m [(Str.ofString "text", .str x t), (Str.ofString "k", .int ((kk : Nat) : Int) tk1), (Str.ofString "items", .ref R)]) (Reads (x.cps.toList.drop kk) its2))
    (fun m nw => Ex5 fun (kk : Nat) (vs : List Value) (n' : Nat) (own : List (Addr × Obj)) (tk1 : Tok) => And4 (nw = (R, listOf vs.toArray n') :: own) (VItems own vs its) (LV m [(Str.ofString "text", .str x t), (Str.ofString "k", .int ((kk : Nat) : Int) tk1), (Str.ofString "items", .ref R)]) (x.cps.toList.drop kk = [46, 42, 41, 92, 90]))
    F1 N1 ⟨4, [], its, [], 0, [], _, rfl, rfl, (fun _ h => nomatch h), rfl, ⟨rfl, fun j it hj => by simp at hj⟩, by simp, rfl, by rw [hl]; exact hR⟩ ?_ ?_
  · clear F1 N1
    intro n m₂ nw₂ h4 tk4 g4 hJ1 F4 N4
    try k_fold
    revert F4 N4
    obtain ⟨kk, its1, its2, vs, n', own, tk1, rfl, rfl, hoff, rfl, hvs, hvk, hm, hRd⟩ := hJ1
    intro F4 N4
    w_is_and my_aa
    intros x l t R v1_ tk m₂ h4 tk4 g4 kk its1 its2 vs n' own tk1
    intro T hd hu hx hl hB hsz hzl hxl X hL' _ _ hoff hvs hvk hm hRd hR h F4 N4; try k_fold
    rw [hm.can] at F4
    generalize hdr : x.cps.toList.drop kk = dr at hRd
    have hsl : Txt.slice x (some ((kk : Nat) : Int)) (some (((kk : Nat) : Int) + 6)) = ⟨(dr.take 6).toArray⟩ := by
      rw [← hdr]
      have := slice_ij x kk (kk + 6)
      rw [show kk + 6 - kk = 6 by omega] at this
      exact this
    cases hRd with
    | done =>
      w_is_and go_5_3_6_2_4_0_1_8
      · exfalso
        rename (_ == Str.ofString "(?>.*?") = true => e
        rw [hsl, oMid] at e
        simp at e
      · rename Fr _ _ _ _ => F9
        rename News _ _ _ _ => N9
        exact WOut.intro _ F9 N9 (fun _ h => h) ⟨kk, vs, n', own, _, rfl, by rw [List.append_nil]; exact hvs, rfl, hdr⟩
    | @step l2 r2 it q2 its3 hit hd2 hR2 =>
      w_is_and go_5_3_6_2_4_0_1_8
      rotate_right
      · exfalso
        rename (_ == Str.ofString "(?>.*?") = false => e
        rw [hsl, oMid] at e
        simp at e
      · rename Fr _ _ _ _ => F5
        rename News _ _ _ _ => N5
        have hdk : x.cps.toList.drop (kk + 6) = l2 := by
          have := congrArg (List.drop 6) hdr
          rw [List.drop_drop] at this
          simpa using this
        refine item_call (k := kk + 6) (X.keeps F5.keep) (T.keeps F5.keep) (by omega) (by omega) hx (by rw [hdk]; exact hit) fun h' t' g' a a2 n1 n2 t1 t2 hk hnew => ?_
        have F6 := F5.keeps hk
        have N6 := News.ext N5 hk
        have N7 := News.app (hnew.news F5) N6
        dsimp only [List.cons_append, List.nil_append] at N7
        have hT : IsTup h' a #[.ref a2, .int ((kk + 6 + q2 : Nat) : Int) t1] := N7.isTup (List.mem_cons_self ..)
        have hdq : x.cps.toList.drop (kk + 6 + q2) = 41 :: r2 := by
          rw [← List.drop_drop, hdk]; exact hd2
        have hlq := congrArg List.length hdq
        simp only [List.length_drop, List.length_cons] at hlq
        have hk0 : ((kk + 6 + q2 : Nat) : Int) < x.length := by omega
        have hk1 : -(x.length : Int) ≤ ((kk + 6 + q2 : Nat) : Int) := by omega
        have hkc : x.cps.toList[kk + 6 + q2]? = some 41 := by
          have := congrArg (fun l => l[0]?) hdq
          simpa using this
        have hRR := (N5 (R, _) (List.mem_cons_self ..)).1
        have haR : a ≠ R := fun z => by
          have := (hnew (a, _) (List.mem_cons_self ..)).2
          rw [z] at this; rw [show _ = _ from hRR] at this; cases this
        have ha2R : a2 ≠ R := fun z => by
          have := (hnew (a2, _) (List.mem_cons_of_mem _ (List.mem_cons_self ..))).2
          rw [z] at this; rw [show _ = _ from hRR] at this; cases this
        clear F5 N5
        w_is_and go_5_3_6_2_4_0_1
        rename Fr _ _ _ _ => F7
        rename News _ _ _ _ => N8
        refine append_K (news := (R, listOf vs.toArray n') :: (a, tupObj #[.ref a2, .int ((kk + 6 + q2 : Nat) : Int) t1] n1) :: (a2, tupObj #[.bool it.1, .str ⟨it.2.toArray⟩ t2] n2) :: own) F7 (fun p hp => N8 p ?_) (Upd.head ?_) (fun h8 F9 N9 => ?_) ?_
        · simp only [List.mem_cons] at hp ⊢
          rcases hp with hp | hp | hp | hp
          · exact .inr (.inr (.inl hp))
          · exact .inl hp
          · exact .inr (.inl hp)
          · exact .inr (.inr (.inr hp))
        · intro p hp
          simp only [List.mem_cons] at hp
          rcases hp with rfl | rfl | hp
          · exact haR
          · exact ha2R
          · exact hoff p hp
        rotate_left
        · rw [sizeLine_eq]; simp; omega
        clear F7 N8
        w_is_and go_5_3_6_2_4_0_1
        · exfalso
          rename (_ != Str.ofString ")") = true => e
          replace e := at_ne hkc o41 e
          simp at e
        · rename Fr _ _ _ _ => F7
          rename News _ _ _ _ => N8
          simp only [List.push_toArray] at N8
          refine WEnd.intro its3.length _ F7 N8 (fun _ h => h) (by first | w_is_and mem | simp) ⟨kk + 6 + q2 + 1, its1 ++ [it], its3, vs ++ [.ref a2], n' + 1, _, _, rfl, rfl, ?_, by simp, hvs.snoc it a2 t2 n2 (fun p hp => by first | w_is_and mem | simp [hp]) (by first | w_is_and mem | simp), by simp; omega, rfl, ?_⟩
          · intro p hp
            simp only [List.mem_cons] at hp
            rcases hp with rfl | rfl | hp
            · exact haR
            · exact ha2R
            · exact hoff p hp
          · rw [← List.drop_drop, hdq]; exact hR2
  · intro m₂ nw₂ h4 tk4 g4 hJ2 F4 N4
    try k_fold
    revert F4 N4
    obtain ⟨kk, vs, n', own, tk1, rfl, hvs, hm, hdr⟩ := hJ2
    intro F4 N4
    rw [hm.can] at F4
    clear F1 N1
    w_is_and go_5_3_6_2_4_0_1
    · exfalso
      rename (_ != Str.ofString ".*)\\Z") = true => e
      rw [slice_i, hdr, oEnd] at e
      simp at e
    · rename Fr _ _ _ _ => F9
      rename News _ _ _ _ => N9
      exact h _ _ g4 R vs n' own F9.keep (fun p hp => ⟨(N9 p hp).1, (N9 p hp).2.2⟩) hvs
end Kread_call
section
variable {w : World} {p : Program} {loose : List Str} {mean : ExcName → Option Value} {mg mb : Str → Option Value} {dp un : Nat} {fr : Option (List Env)} {gd : Option (List Code)} {s : Shared} {Q E : Value → Shared → Prop}
theorem read_call {x : Str} {l : List Nat} {its : List (Bool × List Nat)} {t : Tok} (X : (KK w).In s.heap) (T : Top p loose mean mg mb s.heap) (hd : dp + 40 < recursionLimit) (hu : un + 200 < cLine) (hx : x.cps.size ≤ 200) (hl : x.cps.toList = [40, 63, 115, 58] ++ l) (hR : Reads l its) (h : ∀ h' t' (g' : BG) R vs n own, Ext s.heap h' → New s.heap h' ((R, listOf vs.toArray n) :: own) → VItems own vs its → Q (.ref R) { s with heap := h', toks := t', gens := g' }) (hB : AllBare s.gens := by first | assumption | exact BG.ok _) :
    wpAny (model PG w) (Ar dp un fr gd) (call (.ref 135) [.str x t]) Q E s :=
  (Base.all Kread_call.St (by with_unfolding_all exact Kread_call.at_bad) ⟨w, p, loose, mean, mg, mb, dp, un, fr, gd, s, Q, E⟩) x l its t X T hd hu hx hl hR h hB
end
end Mine
end

section
open PySem PySem.W PyProof.Rows PySem.Calls PySem.Spec
set_option maxRecDepth 100000
set_option maxHeartbeats 8000000
namespace Mine
theorem fresh_H4 : True := by w_top off; trivial
set_option hygiene false
set_option hygiene true
section
variable {w : World} {p : Program} {loose : List Str} {mean : ExcName → Option Value} {mg mb : Str → Option Value} {dp un : Nat} {fr : Option (List Env)} {gd : Option (List Code)} {s : Shared} {Q E : Value → Shared → Prop}

/-- `_law_came` on lists of signs -/
noncomputable def cameF : List Nat → List Nat → List Nat → List Nat → Option (List Nat)
  | [], _, _, o => some o
  | d :: r, co, pi, o => if d = 40 then (match co with | c :: co' => cameF r co' (c :: pi) o | [] => none) else (match pi with | c :: pi' => cameF r co pi' (o ++ [c]) | [] => none)
theorem cameF_open {r : List Nat} {c : Nat} {co pi o : List Nat} : cameF (40 :: r) (c :: co) pi o = cameF r co (c :: pi) o := by simp [cameF]
theorem cameF_close {d : Nat} {r : List Nat} {c : Nat} {co pi o : List Nat} (h : d ≠ 40) : cameF (d :: r) co (c :: pi) o = cameF r co pi (o ++ [c]) := by simp [cameF, h]
theorem cameF_stop {d : Nat} {r co o : List Nat} (h : d ≠ 40) : cameF (d :: r) co [] o = none := by simp [cameF, h]
theorem kl_last_snoc : ∀ (p : List Value) (y : Value), kl_last (p ++ [y]) = some (p, y)
  | [], y => rfl
  | x :: p, y => by
    show (match kl_last (p ++ [y]) with | some (p, y) => some (x :: p, y) | none => some ([], x)) = _
    rw [kl_last_snoc p y]
theorem strsAre_snoc {vs : List Value} {ss : List Str} {y : Str} (h : StrsAre vs (ss ++ [y])) : ∃ vs' t, vs = vs' ++ [.str y t] ∧ StrsAre vs' ss := by
  induction ss generalizing vs with
  | nil => cases h with | cons _ t h => cases h; exact ⟨[], t, rfl, .nil⟩
  | cons a r ih =>
    cases h with
    | cons _ t h =>
      obtain ⟨vs', t', rfl, h'⟩ := ih h
      exact ⟨.str a t :: vs', t', rfl, .cons _ _ h'⟩
noncomputable abbrev ones (l : List Nat) : List Str := l.map fun c => ⟨#[c]⟩

end
noncomputable def Kcame_call.St (w : World) (p : Program) (loose : List Str) (mean : ExcName → Option Value) (mg : Str → Option Value) (mb : Str → Option Value) (dp : Nat) (un : Nat) (fr : Option (List Env)) (gd : Option (List Code)) (s : Shared) (Q : Value → Shared → Prop) (E : Value → Shared → Prop) : Prop :=
  ∀ (x : Str) (l : Addr) (sg : List Nat) (vs : List Value) (t : Tok) (X : (KK w).In s.heap) (T : Top p loose mean mg mb s.heap) (hd : dp + 20 < recursionLimit) (hu : un + 100 < cLine) (hx : x.cps.size ≤ 200) (hl : s.heap.IsList l vs.toArray) (hvs : StrsAre vs (ones sg)) (hsg : sg.length ≤ 200) (hc : x.cps.toList.count 40 ≤ sg.length) (h : ∀ h' t' (g' : BG) tk, Ext s.heap h' → Q (match cameF x.cps.toList sg [] [] with | some o => .str ⟨o.toArray⟩ tk | none => .none) { s with heap := h', toks := t', gens := g' }) (hB : AllBare s.gens),
    wpAny (model PG w) (Ar dp un fr gd) (call (.ref 173) [.str x t, .ref l]) Q E s
namespace Kcame_call
@[irreducible] noncomputable def bad : Base := Base.bad St
noncomputable def w : World := bad.w
noncomputable def p : Program := bad.p
noncomputable def loose : List Str := bad.loose
noncomputable def mean : ExcName → Option Value := bad.mean
noncomputable def mg : Str → Option Value := bad.mg
noncomputable def mb : Str → Option Value := bad.mb
noncomputable def dp : Nat := bad.dp
noncomputable def un : Nat := bad.un
noncomputable def fr : Option (List Env) := bad.fr
noncomputable def gd : Option (List Code) := bad.gd
noncomputable def s : Shared := bad.s
noncomputable def Q : Value → Shared → Prop := bad.Q
noncomputable def E : Value → Shared → Prop := bad.E
noncomputable def L : Addr := s.heap.objs.size
theorem hL : s.heap.objs.size = L := rfl
theorem at_bad : St w p loose mean mg mb dp un fr gd s Q E := by
  unfold St
  intros x l sg vs t X T hd hu hx hl hvs hsg hc h hB
  revert X; unfold PG KK
  k_fill; intro X
  refine enterX (binds := [(Str.ofString "row", .str x t), (Str.ofString "signs", .ref l)]) X T.nolimit (by k_is) (by k_is) (by omega) rfl rfl (fun L' h₁ hL' F N => ?_)
  obtain rfl : L' = L := hL'.symm.trans hL
  k_fold
  w_is_and go_5_3_6_2_4_0_1
  rename Fr _ _ _ _ => F1
  rename News _ _ _ _ => N1
  rename_i C _ _ _ _ _ P _ l1 _ _ _
  have hCP : (P : Addr) ≠ C := neN (by have := ltN l1; omega)
  refine wpAny_For ?_
  w_is_and go_5_3_6_2_4_0_1_37
  rw [o0] at F1
  refine for_str (J := fun j m nw => Ex8 fun (co : List Nat) (pi : List Nat) (o : List Nat) (cv : List Value) (pv : List Value) (n1 : Nat) (n2 : Nat) (tk1 : Tok) => And9 (nw = [(P, listOf pv.toArray n2), (C, listOf cv.toArray n1)]) (StrsAre cv (ones co)) (StrsAre pv (ones pi.reverse)) ((x.cps.toList.drop j).count 40 ≤ co.length) (co.length ≤ 200) (pi.length ≤ j) (o.length ≤ j) (LV m [(Str.ofString "row", .str x t), (Str.ofString "signs", .ref l), (Str.ofString "coming", .ref C), (Str.ofString "pile", .ref P), (Str.ofString "order", .str ⟨o.toArray⟩ tk1)]) (cameF (x.cps.toList.drop j) co pi o = cameF x.cps.toList sg [] []))
    rfl F1 N1 ⟨sg, [], [], vs, [], _, _, _, rfl, hvs, .nil, hc, hsg, Nat.le_refl _, Nat.le_refl _, rfl, rfl⟩ (fun _ _ _ _ _ q => wpAny_pure q) ?_ ?_
  · clear F1 N1
    intro j c tv m₁ nw₁ h2 tk2 g2 own hcj hJ1 hoff F2 N2
    try k_fold
    revert hoff F2 N2
    obtain ⟨co, pi, o, cv, pv, n1, n2, tk1, rfl, hcv, hpv, hcc, hcol, hpi, ho, hm, hF⟩ := hJ1
    intro hoff F2 N2
    w_is_and my_aa
    intros x l sg vs t C P v1_ tk j c tv m₁ h2 tk2 g2 own co pi o cv pv n1 n2 tk1
    intro T hd hu hx hl hvs hsg hc h hB X hL' _ l1 hCP hcj hcv hpv hcc hcol hpi ho hm hF hoff F2 N2; try k_fold
    rw [hm.can] at F2
    dsimp only [List.cons_append, List.nil_append] at N2
    rw [List.drop_eq_getElem_cons (List.getElem?_eq_some_iff.mp hcj).1, (List.getElem?_eq_some_iff.mp hcj).2] at hF hcc
    have hj2 := (List.getElem?_eq_some_iff.mp hcj).1
    have hsz : x.cps.toList.length = x.cps.size := by simp
    w_is_and go_5_3_6_2_4_0_1
    · rename (_ == Str.ofString "(") = true => e
      rename Fr _ _ _ _ => F3
      rename News _ _ _ _ => N3
      rw [o40, one_eq] at e
      obtain rfl : c = 40 := of_decide_eq_true e
      rw [List.count_cons_self] at hcc
      obtain ⟨c0, co', rfl⟩ : ∃ c0 co', co = c0 :: co' := by
        cases co with
        | nil => simp at hcc
        | cons c0 co' => exact ⟨c0, co', rfl⟩
      rw [cameF_open] at hF
      cases hcv with
      | @cons _ t0 cv' _ hcv' =>
      have hlen := strsAre_length hcv'
      simp only [List.length_cons, List.length_map] at hlen hcc hcol
      refine kl_popAt (its := (Value.str ⟨#[c0]⟩ t0 :: cv').toArray) (k := 0) (p := []) (q := cv') (y := Value.str ⟨#[c0]⟩ t0) F3 N3 rfl (by simp [seqIndex?]) rfl (.tail hCP (.head fun p hp => Ne.symm (hoff (C, listOf (Value.str ⟨#[c0]⟩ t0 :: cv').toArray n1) (List.mem_cons_of_mem _ (List.mem_cons_self ..)) p hp))) ?_ fun h4 F4 N4 => ?_
      · rw [sizeLine_eq]; simp only [List.length_cons]; omega
      clear F3 N3
      simp only [List.nil_append] at N4
      w_is_and go_5_3_6_2_4_0_1
      rename Fr _ _ _ _ => F3
      rename News _ _ _ _ => N3
      refine append_K F3 N3 (Upd.head fun p hp => ?_) (fun h6 F6 N6 => ?_) ?_
      · rcases List.mem_cons.mp hp with rfl | hp
        · exact Ne.symm hCP
        · exact Ne.symm (hoff (P, listOf pv.toArray n2) (List.mem_cons_self ..) p hp)
      rotate_left
      · have := strsAre_length hpv
        rw [sizeLine_eq]; simp at this ⊢; omega
      clear F3 N3
      w_is_and go_5_3_6_2_4_0_1
      rename Fr _ _ _ _ => F9
      rename News _ _ _ _ => N9
      simp only [List.push_toArray] at N9
      refine EndG.intro (nx := [(P, listOf (pv ++ [Value.str ⟨#[c0]⟩ t0]).toArray (n2 + 1)), (C, listOf cv'.toArray (n1 + 1))]) F9 N9 ⟨co', c0 :: pi, o, cv', _, _, _, tk1, rfl, hcv', ?_, by omega, by omega, by simp only [List.length_cons]; omega, by omega, rfl, hF⟩ (hoff.same rfl) (fun p hp => ?_) (fun p hp => List.mem_cons_of_mem _ (List.mem_cons_of_mem _ hp))
      rotate_left
      · rcases List.mem_cons.mp hp with rfl | hp
        · exact List.mem_cons_self ..
        · rw [List.mem_singleton.mp hp]; exact List.mem_cons_of_mem _ (List.mem_cons_self ..)
      rw [List.reverse_cons, ones, List.map_append]
      exact strsAre_append hpv (.cons _ _ .nil)
    · rename (_ == Str.ofString "(") = false => e
      rename Fr _ _ _ _ => F3
      rename News _ _ _ _ => N3
      rw [o40, one_eq] at e
      have hc40 : c ≠ 40 := of_decide_eq_false e
      rw [List.count_cons_of_ne hc40] at hcc
      cases pi with
      | nil =>
        cases hpv
        rw [cameF_stop hc40] at hF
        walk1
        w_is_and go_5_3_6_2_4_0_1
        rename Fr _ _ _ _ => F9
        rw [← hF] at h
        exact h _ _ g2 0 F9.keep
      | cons c0 pi' =>
        rw [cameF_close hc40] at hF
        rw [List.reverse_cons, ones, List.map_append] at hpv
        obtain ⟨pv', t0, rfl, hpv'⟩ := strsAre_snoc hpv
        have hlen := strsAre_length hpv'
        simp only [List.length_map, List.length_reverse] at hlen
        simp only [List.length_cons] at hpi
        walk1; walk1; walk1
        refine wpAny_truthy_list (N3.isList (List.mem_cons_self ..)) (by simp; omega) ?_
        have htr : ∀ y : Value, (!(pv' ++ [y]).toArray.isEmpty) = true := by intro y; simp
        rw [htr]
        w_is_and go_5_3_6_2_4_0_1
        refine kl_pop (its := (pv' ++ [Value.str ⟨#[c0]⟩ t0]).toArray) (p := pv') (y := Value.str ⟨#[c0]⟩ t0) F3 N3 (kl_last_snoc _ _) (.head fun p hp => ?_) ?_ fun h4 F4 N4 => ?_
        · rcases List.mem_cons.mp hp with rfl | hp
          · exact Ne.symm hCP
          · exact Ne.symm (hoff (P, listOf (pv' ++ [Value.str ⟨#[c0]⟩ t0]).toArray n2) (List.mem_cons_self ..) p hp)
        · rw [sizeLine_eq]; simp; omega
        clear F3 N3
        w_is_and go_5_3_6_2_4_0_1
        rename Fr _ _ _ _ => F9
        rename News _ _ _ _ => N9
        rw [show ((⟨o.toArray⟩ : Str) ++ (⟨#[c0]⟩ : Str)) = ⟨(o ++ [c0]).toArray⟩ from mk_append o [c0]] at F9
        refine EndG.intro (nx := [(P, listOf pv'.toArray (n2 + 1)), (C, listOf cv.toArray n1)]) F9 N9 ⟨co, pi', o ++ [c0], cv, _, _, _, _, rfl, hcv, hpv', hcc, hcol, by omega, by simp only [List.length_append, List.length_cons, List.length_nil]; omega, rfl, hF⟩ (hoff.same rfl) (fun p hp => ?_) (fun p hp => List.mem_cons_of_mem _ (List.mem_cons_of_mem _ hp))
        rcases List.mem_cons.mp hp with rfl | hp
        · exact List.mem_cons_self ..
        · rw [List.mem_singleton.mp hp]; exact List.mem_cons_of_mem _ (List.mem_cons_self ..)
  · intro m₁ nw₁ h2 tk2 g2 hJ2 F2 N2
    try k_fold
    revert F2 N2
    obtain ⟨co, pi, o, cv, pv, n1, n2, tk1, rfl, hcv, hpv, hcc, hcol, hpi, ho, hm, hF⟩ := hJ2
    intro F2 N2
    rw [hm.can] at F2
    clear F1 N1
    w_is_and go_5_3_6_2_4_0_1
    rename Fr _ _ _ _ => F9
    rw [List.drop_length, cameF] at hF
    rw [← hF] at h
    exact h _ _ g2 tk1 F9.keep
end Kcame_call
section
variable {w : World} {p : Program} {loose : List Str} {mean : ExcName → Option Value} {mg mb : Str → Option Value} {dp un : Nat} {fr : Option (List Env)} {gd : Option (List Code)} {s : Shared} {Q E : Value → Shared → Prop}
theorem came_call {x : Str} {l : Addr} {sg : List Nat} {vs : List Value} {t : Tok} (X : (KK w).In s.heap) (T : Top p loose mean mg mb s.heap) (hd : dp + 20 < recursionLimit) (hu : un + 100 < cLine) (hx : x.cps.size ≤ 200) (hl : s.heap.IsList l vs.toArray) (hvs : StrsAre vs (ones sg)) (hsg : sg.length ≤ 200) (hc : x.cps.toList.count 40 ≤ sg.length) (h : ∀ h' t' (g' : BG) tk, Ext s.heap h' → Q (match cameF x.cps.toList sg [] [] with | some o => .str ⟨o.toArray⟩ tk | none => .none) { s with heap := h', toks := t', gens := g' }) (hB : AllBare s.gens := by first | assumption | exact BG.ok _) :
    wpAny (model PG w) (Ar dp un fr gd) (call (.ref 173) [.str x t, .ref l]) Q E s :=
  (Base.all Kcame_call.St (by with_unfolding_all exact Kcame_call.at_bad) ⟨w, p, loose, mean, mg, mb, dp, un, fr, gd, s, Q, E⟩) x l sg vs t X T hd hu hx hl hvs hsg hc h hB
end
end Mine
end

section
open PySem PySem.W PyProof.Rows PySem.Calls PySem.Spec
set_option maxRecDepth 100000
set_option maxHeartbeats 8000000
namespace Mine
set_option hygiene false
set_option hygiene true
section
variable {w : World} {p : Program} {loose : List Str} {mean : ExcName → Option Value} {mg mb : Str → Option Value} {dp un : Nat} {fr : Option (List Env)} {gd : Option (List Code)} {s : Shared} {Q E : Value → Shared → Prop}

noncomputable def rowsN : Nat → List (List Nat)
  | 0 => [[]]
  | n + 1 => (rowsN n).flatMap fun r => [r ++ [40], r ++ [41]]
noncomputable def rowsF : List (List Nat) := ((rowsN 6).filter fun r => r.count 40 == 3).map fun r => [40] ++ r ++ [41]
noncomputable abbrev txs (l : List (List Nat)) : List Str := l.map fun r => ⟨r.toArray⟩
theorem rowsN_len : ∀ (j : Nat) (r : List Nat), r ∈ rowsN j → r.length = j
  | 0, r, h => by rw [List.mem_singleton.mp h]; rfl
  | n + 1, r, h => by
    obtain ⟨q, hq, hr⟩ := List.mem_flatMap.mp h
    have := rowsN_len n q hq
    rcases List.mem_cons.mp hr with rfl | hr
    · simp [this]
    · rw [List.mem_singleton.mp hr]; simp [this]
theorem txs_flat (l : List (List Nat)) (f : Str → List Str) (g : List Nat → List (List Nat)) (h : ∀ r, f ⟨r.toArray⟩ = txs (g r)) : (txs l).flatMap f = txs (l.flatMap g) := by
  induction l with
  | nil => rfl
  | cons a r ih =>
    show f ⟨a.toArray⟩ ++ (txs r).flatMap f = _
    rw [ih, h]; simp [txs]
theorem off1_mem {D : Addr} : ∀ {l : List (Addr × Obj)}, LCg.Off1 D l → ∀ p ∈ l, p.1 ≠ D
  | [], _, _, h => nomatch h
  | _ :: _, x, p, h => by
    rcases List.mem_cons.mp h with rfl | h
    · exact x.1
    · exact off1_mem x.2 p h
theorem cnt_count (c : Nat) : ∀ l : List Nat, PyProof.Rows.cnt c l = ((l.count c : Nat) : Int)
  | [] => rfl
  | n :: r => by
    rw [PyProof.Rows.cnt_cons, cnt_count c r, List.count_cons]
    by_cases h : n = c
    · subst h; simp; omega
    · simp [h]
theorem count_cps (x : Str) (c : Nat) : Txt.count x ⟨#[c]⟩ = ((x.cps.toList.count c : Nat) : Int) := (count_is x c).trans (cnt_count c _)
theorem oPar : Str.ofString "()" = (⟨#[40, 41]⟩ : Str) := by decide +kernel

end
noncomputable def Krows_call.St (w : World) (p : Program) (loose : List Str) (mean : ExcName → Option Value) (mg : Str → Option Value) (mb : Str → Option Value) (dp : Nat) (un : Nat) (fr : Option (List Env)) (gd : Option (List Code)) (s : Shared) (Q : Value → Shared → Prop) (E : Value → Shared → Prop) : Prop :=
  ∀ (X : (KK w).In s.heap) (T : Top p loose mean mg mb s.heap) (hd : dp + 20 < recursionLimit) (hu : un + 100 < cLine) (h : ∀ h' t' (g' : BG) D vs n, Ext s.heap h' → New s.heap h' [(D, listOf vs.toArray n)] → StrsAre vs (txs rowsF) → Q (.ref D) { s with heap := h', toks := t', gens := g' }) (hB : AllBare s.gens),
    wpAny (model PG w) (Ar dp un fr gd) (call (.ref 159) []) Q E s
namespace Krows_call
@[irreducible] noncomputable def bad : Base := Base.bad St
noncomputable def w : World := bad.w
noncomputable def p : Program := bad.p
noncomputable def loose : List Str := bad.loose
noncomputable def mean : ExcName → Option Value := bad.mean
noncomputable def mg : Str → Option Value := bad.mg
noncomputable def mb : Str → Option Value := bad.mb
noncomputable def dp : Nat := bad.dp
noncomputable def un : Nat := bad.un
noncomputable def fr : Option (List Env) := bad.fr
noncomputable def gd : Option (List Code) := bad.gd
noncomputable def s : Shared := bad.s
noncomputable def Q : Value → Shared → Prop := bad.Q
noncomputable def E : Value → Shared → Prop := bad.E
noncomputable def L : Addr := s.heap.objs.size
theorem hL : s.heap.objs.size = L := rfl
theorem at_bad : St w p loose mean mg mb dp un fr gd s Q E := by
  intro X T hd hu h hB
  revert X; unfold PG KK
  k_fill; intro X
  refine enterX (binds := []) X T.nolimit (by k_is) (by k_is) (by omega) rfl rfl (fun L' h₁ hL' F N => ?_)
  obtain rfl : L' = L := hL'.symm.trans hL
  k_fold
  w_is_and go_5_3_6_2_4_0_1
  rename Fr _ _ _ _ => F1
  rename News _ _ _ _ => N1
  refine wpAny_For ?_
  w_is_and go_5_3_6_2_4_0_1_37
  rename IsRange _ _ _ _ _ _ _ _ => hr
  rename Fr _ _ _ _ => F2
  rename News _ _ _ _ => N2
  rw [o0] at N2
  refine for_range (n := 6) (J := fun j m nw => Ex3 fun (R : Addr) (vs : List Value) (n : Nat) => And3 (nw = [(R, listOf vs.toArray n)]) (LV m [(Str.ofString "rows", .ref R)]) (StrsAre vs (txs (rowsN j)))) rfl hr (by decide) (by decide) F2 N2 ⟨_, _, _, rfl, rfl, .cons _ _ .nil⟩ (fun _ _ _ _ _ q => wpAny_pure q) ?_ ?_
  · clear F2 N2
    intro j tv m₁ nw₁ h2 tk2 g2 own hj hJ1 hoff F2 N2
    try k_fold
    revert hoff F2 N2
    obtain ⟨R, vs, n, rfl, hm0, hvs⟩ := hJ1
    intro hoff F2 N2
    rw [hm0.can] at F2
    dsimp only [List.cons_append, List.nil_append] at N2
    w_is_and go_5_3_6_2_4_0_1
    rename Fr _ _ _ _ => F3
    rename News _ _ _ _ => N3
    clear F2 N2
    refine comp2_A (nw := (R, listOf vs.toArray n) :: own) (vs := vs) (xs := txs (rowsN j)) (f := fun x => [x ++ ⟨#[40]⟩, x ++ ⟨#[41]⟩]) (P2 := fun _ i v => SignAt (⟨#[40, 41]⟩ : Str) i v) F3 rfl rfl (by with_unfolding_all rfl) rfl (by decide) rfl (by decide) rfl rfl (by decide) rfl rfl rfl (fun _ _ => rfl) (fun _ _ => rfl) ?_ ⟨_, List.mem_cons_self .., rfl, _, rfl⟩ hvs ?_ ?_ ?_ ?_
    · w_is_and go_5_3_6_2_4_0_1
      exact KEnd.introN F3 N3 (fun _ h => h)
    · rw [txs_flat _ _ (fun r => [r ++ [40], r ++ [41]]) (fun r => by simp [txs, mk_append])]
      have e : ((rowsN j).flatMap fun r => [r ++ [40], r ++ [41]]) = rowsN (j + 1) := rfl
      rw [e, List.length_map]
      have : j = 0 ∨ j = 1 ∨ j = 2 ∨ j = 3 ∨ j = 4 ∨ j = 5 := by omega
      rcases this with rfl | rfl | rfl | rfl | rfl | rfl <;> decide +kernel
    · intro x tx C oC mC h4 tk4 g4 own4 E' hx hns hm1 F4 N4 hC hown
      w_is_and go_5_3_6_2_4_0_1
      · exact KEnd.introN F4 N4 (fun _ h => h)
      · rw [oPar]
        refine Src2.str ?_ (⟨#[40, 41]⟩ : Str) _
        rfl
    · intro x tx i v y C oC mC h4 tk4 g4 own4 E' hx hP hy hns hm1 hm2 F4 N4 hC hown
      have N5 : News s.heap L h4 ((C, oC) :: own4) := fun p hp => by
        rcases List.mem_cons.mp hp with rfl | hp
        · exact N4 _ hC
        · exact N4 p hp
      obtain ⟨r, hr, rfl⟩ := List.mem_map.mp hx
      have hxl : (⟨r.toArray⟩ : Str).length ≤ 6 := by
        have := rowsN_len j r hr
        show r.toArray.size ≤ 6
        simp; omega
      clear N4 F3 N3
      obtain ⟨c, u, hc, rfl⟩ := hP
      w_is_and go_5_3_6_2_4_0_1
      · have hc' : i = 0 ∧ c = 40 ∨ i = 1 ∧ c = 41 := by
          match i, hc with
          | 0, hc => exact .inl ⟨rfl, by simpa using hc.symm⟩
          | 1, hc => exact .inr ⟨rfl, by simpa using hc.symm⟩
          | n + 2, hc => simp at hc
        rcases hc' with ⟨rfl, rfl⟩ | ⟨rfl, rfl⟩
        · obtain rfl : (⟨r.toArray⟩ : Str) ++ ⟨#[40]⟩ = y := by simpa using hy
          rfl
        · obtain rfl : (⟨r.toArray⟩ : Str) ++ ⟨#[41]⟩ = y := by simpa using hy
          rfl
      · rename Fr _ _ _ _ => F9
        rename News _ _ _ _ => N9
        exact KEnd.introN F9 N9 (fun _ h => List.mem_cons_of_mem _ h)
    · intro D h4 tk4 g4 ys F4 N4 o1 hys
      rw [txs_flat _ _ (fun r => [r ++ [40], r ++ [41]]) (fun r => by simp [txs, mk_append])] at hys
      w_is_and go_5_3_6_2_4_0_1
      exact EndG.intro (nx := [(D, LCg.lst ys)]) F4 N4 ⟨D, ys, _, rfl, rfl, hys⟩ (fun p hp q hq => by
        rw [List.mem_singleton.mp hp]
        exact Ne.symm (off1_mem o1 q (List.mem_cons_of_mem _ hq))) (fun p hp => by rw [List.mem_singleton.mp hp]; exact List.mem_cons_self ..) (fun p hp => List.mem_cons_of_mem _ (List.mem_cons_of_mem _ hp))
  · intro m₁ nw₁ h2 tk2 g2 hJ2 F4 N4
    try k_fold
    revert F4 N4
    obtain ⟨R, vs, n, rfl, hm0, hvs⟩ := hJ2
    intro F4 N4
    rw [hm0.can] at F4
    clear F2 N2
    w_is_and go_5_3_6_2_4_0_1
    refine comp_E F4 (by with_unfolding_all rfl) (by decide) rfl (by decide) ?_
    w_is_and go_5_3_6_2_4_0_1
    have hvl := strsAre_length hvs
    refine CSrc.list (vs := vs) (fun i ys nw => And2 (nw = [(R, listOf vs.toArray n)]) (StrsAre ys (txs ((((rowsN 6).take i).filter fun r => r.count 40 == 3).map fun r => [40] ++ r ++ [41])))) rfl F4 N4 (N4.isList (List.mem_cons_self ..)) (by rw [hvl]; decide +kernel) (fun i ys nw h' hJ F' N' => by rw [hJ.1] at N'; exact N'.isList (List.mem_cons_self ..)) ⟨rfl, .nil⟩ ?_ ?_
    · intro gg
      refine CTurn.n1 rfl rfl ?_
      rintro i v I oI C oC D mC h5 tk5 g5 ys nw5 E' hv ⟨rfl, hys⟩ hns hmv F5 N5 off ne5
      have hi : i < (rowsN 6).length := by
        have := (List.getElem?_eq_some_iff.mp hv).1
        rw [hvl, List.length_map] at this; exact this
      obtain ⟨tv, rfl⟩ := strsAre_get hvs hv (show (txs (rowsN 6))[i]? = some ⟨((rowsN 6)[i]).toArray⟩ by simp [hi])
      have hrl := rowsN_len 6 _ (List.getElem_mem hi)
      have e1 : (rowsN 6).take (i + 1) = (rowsN 6).take i ++ [(rowsN 6)[i]] := by rw [List.take_add_one, List.getElem?_eq_getElem hi]; rfl
      rw [e1]
      generalize (rowsN 6)[i] = r at hmv hrl
      have hxl : (⟨r.toArray⟩ : Str).length ≤ 6 := by
        show r.toArray.size ≤ 6
        simp; omega
      clear F4 N4
      w_is_and go_5_3_6_2_4_0_1
      · rename Txt.count _ _ = 3 => e
        rw [o40, count_cps] at e
        have e' : r.count 40 = 3 := by simpa using Int.ofNat.inj e
        refine CEnd.introN (nx := [(R, listOf vs.toArray n)]) F5 N5 (List.mem_cons_self ..) (List.mem_cons_of_mem _ (List.mem_cons_self ..)) (List.mem_cons_of_mem _ (List.mem_cons_of_mem _ (List.mem_cons_self ..))) hns (fun p hp => List.mem_cons_of_mem _ (List.mem_cons_of_mem _ (List.mem_cons_of_mem _ hp))) off ⟨rfl, ?_⟩
        rw [List.filter_append, List.map_append, txs, List.map_append]
        refine strsAre_append hys ?_
        have : ([r].filter fun r => r.count 40 == 3) = [r] := by simp [e']
        rw [this]
        rw [show Str.ofString "(" ++ (⟨r.toArray⟩ : Str) ++ Str.ofString ")" = ⟨([40] ++ r ++ [41]).toArray⟩ by
          rw [o40, o41, show ((⟨#[40]⟩ : Str) ++ ⟨r.toArray⟩) = ⟨([40] ++ r).toArray⟩ from mk_append [40] r]
          exact mk_append ([40] ++ r) [41]]
        exact .cons _ _ .nil
      · rename Txt.count _ _ ≠ 3 => e
        rw [o40, count_cps] at e
        have e' : r.count 40 ≠ 3 := fun q => e (by simp [q])
        refine CEnd.introN (nx := [(R, listOf vs.toArray n)]) F5 N5 (List.mem_cons_self ..) (List.mem_cons_of_mem _ (List.mem_cons_self ..)) (List.mem_cons_of_mem _ (List.mem_cons_of_mem _ (List.mem_cons_self ..))) hns (fun p hp => List.mem_cons_of_mem _ (List.mem_cons_of_mem _ (List.mem_cons_of_mem _ hp))) off ⟨rfl, ?_⟩
        rw [List.filter_append, List.map_append]
        have : ([r].filter fun r => r.count 40 == 3) = [] := by simp [e']
        rw [this, List.map_nil, List.append_nil]
        exact hys
    · rintro gg ys nw5 ⟨rfl, hys⟩ D h6 tk6 g6 F6 N6 o6
      have e : ((rowsN 6).take vs.length) = rowsN 6 := by rw [hvl, List.length_map, List.take_length]
      rw [e] at hys
      exact h _ _ g6 D ys _ F6.keep (fun p hp => by
        rw [List.mem_singleton.mp hp]
        exact ⟨(N6 _ (List.mem_cons_self ..)).1, (N6 _ (List.mem_cons_self ..)).2.2⟩) hys
end Krows_call
section
variable {w : World} {p : Program} {loose : List Str} {mean : ExcName → Option Value} {mg mb : Str → Option Value} {dp un : Nat} {fr : Option (List Env)} {gd : Option (List Code)} {s : Shared} {Q E : Value → Shared → Prop}
theorem rows_call (X : (KK w).In s.heap) (T : Top p loose mean mg mb s.heap) (hd : dp + 20 < recursionLimit) (hu : un + 100 < cLine) (h : ∀ h' t' (g' : BG) D vs n, Ext s.heap h' → New s.heap h' [(D, listOf vs.toArray n)] → StrsAre vs (txs rowsF) → Q (.ref D) { s with heap := h', toks := t', gens := g' }) (hB : AllBare s.gens := by first | assumption | exact BG.ok _) :
    wpAny (model PG w) (Ar dp un fr gd) (call (.ref 159) []) Q E s :=
  (Base.all Krows_call.St (by with_unfolding_all exact Krows_call.at_bad) ⟨w, p, loose, mean, mg, mb, dp, un, fr, gd, s, Q, E⟩) X T hd hu h hB
end
end Mine
end

section
open PySem PySem.W PyProof.Rows PySem.Calls PySem.Spec
set_option maxRecDepth 100000
set_option maxHeartbeats 8000000
namespace Mine
set_option hygiene false
set_option hygiene true
section
variable {w : World} {p : Program} {loose : List Str} {mean : ExcName → Option Value} {mg mb : Str → Option Value} {dp un : Nat} {fr : Option (List Env)} {gd : Option (List Code)} {s : Shared} {Q E : Value → Shared → Prop}

noncomputable def insF (c : Nat) (o : List Nat) : List (List Nat) := (List.range (o.length + 1)).map fun k => o.take k ++ [c] ++ o.drop k
noncomputable def ordN (sg : List Nat) : List (List Nat) := sg.foldl (fun acc c => acc.flatMap (insF c)) [[]]

theorem ordN_snoc (l : List Nat) (c : Nat) : ordN (l ++ [c]) = (ordN l).flatMap (insF c) := by
  unfold ordN; rw [List.foldl_append]; rfl
theorem ordN_len : ∀ (l : List Nat) (r : List Nat), r ∈ ordN l.reverse → r.length = l.length
  | [], r, h => by rw [List.mem_singleton.mp h]
  | c :: l, r, h => by
    rw [List.reverse_cons, ordN_snoc] at h
    obtain ⟨q, hq, hr⟩ := List.mem_flatMap.mp h
    have := ordN_len l q hq
    obtain ⟨k, hk, rfl⟩ := List.mem_map.mp hr
    have hk' := List.mem_range.mp hk
    simp only [List.length_append, List.length_take, List.length_drop, List.length_cons, List.length_nil]
    omega
theorem ordN_len' {l r : List Nat} (h : r ∈ ordN l) : r.length = l.length := by
  have := ordN_len l.reverse r (by rw [List.reverse_reverse]; exact h)
  rw [this, List.length_reverse]
theorem flat_len {L : List (List Nat)} {k c : Nat} (h : ∀ r ∈ L, r.length = k) : (L.flatMap (insF c)).length = L.length * (k + 1) := by
  induction L with
  | nil => simp
  | cons a r ih =>
    rw [List.flatMap_cons, List.length_append, ih fun r hr => h r (List.mem_cons_of_mem _ hr)]
    rw [insF, List.length_map, List.length_range, h a (List.mem_cons_self ..), List.length_cons, Nat.add_mul]
    first | done | omega
theorem ordN_count (l : List Nat) (c : Nat) : (ordN (l ++ [c])).length = (ordN l).length * (l.length + 1) := by
  rw [ordN_snoc]; exact flat_len fun r hr => ordN_len' hr
noncomputable def fct : Nat → Nat
  | 0 => 1
  | n + 1 => fct n * (n + 1)
theorem ordN_fct : ∀ (l : List Nat), (ordN l.reverse).length = fct l.length
  | [] => rfl
  | c :: l => by rw [List.reverse_cons, ordN_count, ordN_fct l, List.length_reverse]; rfl
theorem ordN_fct' (l : List Nat) : (ordN l).length = fct l.length := by
  have := ordN_fct l.reverse
  rw [List.reverse_reverse, List.length_reverse] at this; exact this
theorem rsize_nat (n : Nat) : Builtin.Range.rangeSize 0 ((n : Nat) : Int) 1 = ((n : Nat) : Int) := by
  unfold Builtin.Range.rangeSize
  simp only [show ((1 : Int) > 0) = True from by simp, if_true]
  split
  · omega
  · omega
theorem rsmall_nat {n : Nat} (h : n ≤ 1000) : Builtin.Range.small 0 ((n : Nat) : Int) 1 = true := by
  exact small_one (by omega) (by omega) (by omega) (by omega)

end
noncomputable def Korders_call.St (w : World) (p : Program) (loose : List Str) (mean : ExcName → Option Value) (mg : Str → Option Value) (mb : Str → Option Value) (dp : Nat) (un : Nat) (fr : Option (List Env)) (gd : Option (List Code)) (s : Shared) (Q : Value → Shared → Prop) (E : Value → Shared → Prop) : Prop :=
  ∀ (l : Addr) (sg : List Nat) (vs : List Value) (X : (KK w).In s.heap) (T : Top p loose mean mg mb s.heap) (hd : dp + 20 < recursionLimit) (hu : un + 100 < cLine) (hl : s.heap.IsList l vs.toArray) (hvs : StrsAre vs (ones sg)) (hsg : sg.length = 4) (h : ∀ h' t' (g' : BG) D vs n os, Ext s.heap h' → New s.heap h' [(D, listOf vs.toArray n)] → StrsAre vs os → os.Perm (txs (ordN sg)) → sortedS os = true → Q (.ref D) { s with heap := h', toks := t', gens := g' }) (hB : AllBare s.gens),
    wpAny (model PG w) (Ar dp un fr gd) (call (.ref 154) [.ref l]) Q E s
namespace Korders_call
@[irreducible] noncomputable def bad : Base := Base.bad St
noncomputable def w : World := bad.w
noncomputable def p : Program := bad.p
noncomputable def loose : List Str := bad.loose
noncomputable def mean : ExcName → Option Value := bad.mean
noncomputable def mg : Str → Option Value := bad.mg
noncomputable def mb : Str → Option Value := bad.mb
noncomputable def dp : Nat := bad.dp
noncomputable def un : Nat := bad.un
noncomputable def fr : Option (List Env) := bad.fr
noncomputable def gd : Option (List Code) := bad.gd
noncomputable def s : Shared := bad.s
noncomputable def Q : Value → Shared → Prop := bad.Q
noncomputable def E : Value → Shared → Prop := bad.E
noncomputable def L : Addr := s.heap.objs.size
theorem hL : s.heap.objs.size = L := rfl
theorem at_bad : St w p loose mean mg mb dp un fr gd s Q E := by
  unfold St
  intros l sg vs X T hd hu hl hvs hsg h hB
  revert X; unfold PG KK
  k_fill; intro X
  refine enterC (binds := [(Str.ofString "signs", .ref l)]) X T.nolimit (by k_is) (by k_is) (by omega) rfl rfl (fun L' h₁ tk cells hL' F N Y => ?_)
  obtain rfl : L' = L := hL'.symm.trans hL
  k_fold
  k_cells Y
  w_is_and go_5_7_3_6_2_4_0_1
  rename Fr _ _ _ _ => F1
  rename News _ _ _ _ => N1
  rename Obj => o1
  rename _ = Data.cell _ => d1
  rename_i R _ l1 _
  have hRc : (R : Addr) ≠ L + 1 := neN (by have := ltN l1; omega)
  rw [o0] at N1
  refine wpAny_For ?_
  w_is_and go_5_7_3_6_2_4_0_1_37
  refine for_vals (vs := vs) (J := fun j m nw => Ex5 fun (R : Addr) (ws : List Value) (n : Nat) (oc : Obj) (ov : Option Value) => And5 (nw = [(R, listOf ws.toArray n), (L + 1, oc)]) ((R : Addr) ≠ L + 1) (oc.data = .cell ov) (LV m [(Str.ofString "signs", .ref l), (Str.ofString "orders", .ref R)]) (StrsAre ws (txs (ordN (sg.take j)))))
    rfl (fun j m nw h' _ F' _ => by obtain ⟨o, e, r⟩ := hl; exact ⟨o, F'.keep _ _ e, r⟩) F1 N1 ⟨R, _, _, o1, _, rfl, hRc, d1, rfl, .cons _ _ .nil⟩ (by obtain ⟨o, e, r⟩ := hl; exact ⟨o, F1.keep _ _ e, r⟩) (fun I v s₁ i Q' E' _ q => wpAny_pure q) ?_ ?_
  · intro j v m₁ nw₁ h2 tk2 g2 own hv hJ1 hoff F2 N2
    try k_fold
    revert hoff F2 N2
    obtain ⟨R, ws, n, oc, ov, rfl, hRc, hoc, hm, hws⟩ := hJ1
    intro hoff F2 N2
    rw [hm.can] at F2
    dsimp only [List.cons_append, List.nil_append] at N2
    clear F1 N1
    have hj : j < sg.length := by
      have := (List.getElem?_eq_some_iff.mp hv).1
      rw [strsAre_length hvs, List.length_map] at this; exact this
    obtain ⟨tv, rfl⟩ := strsAre_get hvs hv (show (ones sg)[j]? = some ⟨#[sg[j]]⟩ by simp [hj])
    w_is_and go_5_7_3_6_2_4_0_1_38
    refine storeX_C (c := L + 1) (o := oc) (v₀ := ov) (g := fun o' => (R, listOf ws.toArray n) :: (L + 1, o') :: own) F2 N2 rfl (.tail hRc (.head fun p hp => Ne.symm (hoff (L + 1, oc) (by first | w_is_and mem | simp) p hp))) hoc (fun h3 oc' F3 N3 hoc' => ?_) rfl rfl
    clear F2 N2
    w_is_and go_5_7_3_6_2_4_0_1
    refine comp2_A (nw := (R, listOf ws.toArray n) :: (L + 1, oc') :: own) (vs := ws) (xs := txs (ordN (sg.take j))) (f := fun x => txs (insF sg[j] x.cps.toList)) (P2 := fun x i v => i < x.cps.toList.length + 1 ∧ ∃ t, v = .int ((i : Nat) : Int) t) F3 rfl rfl (by with_unfolding_all rfl) (by with_unfolding_all rfl) (by decide) rfl (by decide) rfl rfl (by decide) rfl rfl rfl (fun _ _ => rfl) (fun _ _ => rfl) ?_ ⟨_, List.mem_cons_self .., rfl, _, rfl⟩ hws ?_ ?_ ?_ ?_
    · w_is_and go_5_7_3_6_2_4_0_1
      exact KEnd.introN F3 N3 (fun _ h => h)
    · rw [txs_flat _ _ (insF sg[j]) (fun r => rfl), List.length_map, ← ordN_snoc]
      have e1 : sg.take j ++ [sg[j]] = sg.take (j + 1) := by rw [List.take_add_one, List.getElem?_eq_getElem hj]; rfl
      rw [ordN_count]
      have h2 : (sg.take j).length ≤ 3 := by rw [List.length_take]; omega
      have : fct (sg.take j).length ≤ 6 := by
        rcases (by omega : (sg.take j).length = 0 ∨ (sg.take j).length = 1 ∨ (sg.take j).length = 2 ∨ (sg.take j).length = 3) with e | e | e | e <;> rw [e] <;> decide
      rw [ordN_fct']
      have : fct (sg.take j).length * ((sg.take j).length + 1) ≤ 6 * 5 := Nat.mul_le_mul this (by omega)
      omega
    · intro x tx C oC mC h4 tk4 g4 own4 E' hx hns hm1 F4 N4 hC hown
      obtain ⟨r, hr, rfl⟩ := List.mem_map.mp hx
      have hrl := ordN_len' hr
      have hxl : (⟨r.toArray⟩ : Str).length ≤ 4 := by
        show r.toArray.size ≤ 4
        rw [List.length_take] at hrl; simp; omega
      have N5 : News s.heap L h4 ((C, oC) :: own4) := fun p hp => by
        rcases List.mem_cons.mp hp with rfl | hp
        · exact N4 _ hC
        · exact N4 p hp
      clear N4 F3 N3
      w_is_and go_5_7_3_6_2_4_0_1
      · rename Fr _ _ _ _ => F9
        rename News _ _ _ _ => N9
        exact KEnd.introN F9 N9 (fun _ h => List.mem_cons_of_mem _ h)
      · rename IsRange _ _ _ _ _ _ _ _ => hrg
        have e : (⟨r.toArray⟩ : Str).length = r.length := by show r.toArray.size = _; simp
        rw [e] at hrg hxl
        have e2 : (txs (insF sg[j] r)).length = r.length + 1 := by rw [List.length_map, insF, List.length_map, List.length_range]
        rw [e2]
        exact Src2.range (b := ((r.length + 1 : Nat) : Int)) rfl hrg (rsmall_nat (by omega)) (rsize_nat _)
    · intro x tx i v y C oC mC h4 tk4 g4 own4 E' hx hP hy hns hm1 hm2 F4 N4 hC hown
      have N5 : News s.heap L h4 ((C, oC) :: (L + 1, oc') :: own4) := fun p hp => by
        rcases List.mem_cons.mp hp with rfl | hp
        · exact N4 _ hC
        · rcases List.mem_cons.mp hp with rfl | hp
          · exact N4 _ (hown _ (by first | w_is_and mem | simp))
          · exact N4 p hp
      obtain ⟨r, hr, rfl⟩ := List.mem_map.mp hx
      have hrl := ordN_len' hr
      have hxl : (⟨r.toArray⟩ : Str).length ≤ 4 := by
        show r.toArray.size ≤ 4
        rw [List.length_take] at hrl; simp; omega
      obtain ⟨hi, u, rfl⟩ := hP
      clear N4 F3 N3
      have hy' : y = ⟨(r.take i ++ [sg[j]] ++ r.drop i).toArray⟩ := by
        have hi' : i < r.length + 1 := hi
        simp only [insF, txs, List.map_map, List.getElem?_map, List.getElem?_range hi', Option.map_some, Option.some.injEq] at hy
        rw [← hy]; rfl
      have e3 : Txt.slice (⟨r.toArray⟩ : Str) none (some ((i : Nat) : Int)) ++ (⟨#[sg[j]]⟩ : Str) ++ Txt.slice (⟨r.toArray⟩ : Str) (some ((i : Nat) : Int)) none = y := by
        rw [slice_j, slice_i, hy']
        exact (congrArg (· ++ _) (mk_append (r.take i) [sg[j]])).trans (mk_append (r.take i ++ [sg[j]]) (r.drop i))
      w_is_and go_5_7_3_6_2_4_0_1
      · rw [e3]
      · rename Fr _ _ _ _ => F9
        rename News _ _ _ _ => N9
        exact KEnd.introN F9 N9 (fun _ h => List.mem_cons_of_mem _ (List.mem_cons_of_mem _ h))
    · intro D h4 tk4 g4 ys F4 N4 o1 hys
      rw [txs_flat _ _ (insF sg[j]) (fun r => rfl), ← ordN_snoc, show sg.take j ++ [sg[j]] = sg.take (j + 1) by rw [List.take_add_one, List.getElem?_eq_getElem hj]; rfl] at hys
      w_is_and go_5_7_3_6_2_4_0_1
      refine EndG.intro (nx := [(D, LCg.lst ys), (L + 1, oc')]) F4 N4 ⟨D, ys, _, oc', _, rfl, Ne.symm (off1_mem o1 (L + 1, oc') (by first | w_is_and mem | simp)), hoc', rfl, hys⟩ (fun p hp q hq => ?_) (fun p hp => ?_) (fun p hp => by first | w_is_and mem | simp [hp])
      · rcases List.mem_cons.mp hp with rfl | hp
        · exact Ne.symm (off1_mem o1 q (by simp [hq]))
        · rw [List.mem_singleton.mp hp]
          exact hoff (L + 1, oc) (by first | w_is_and mem | simp) q hq
      · rcases List.mem_cons.mp hp with rfl | hp
        · simp
        · rw [List.mem_singleton.mp hp]; simp
  · intro m₁ nw₁ h2 tk2 g2 hJ2 F2 N2
    try k_fold
    revert F2 N2
    obtain ⟨R, ws, n, oc, ov, rfl, hRc, hoc, hm, hws⟩ := hJ2
    intro F2 N2
    rw [hm.can] at F2
    clear F1 N1
    have hwl : ws.length < 64 := by
      rw [strsAre_length hws, List.length_map]
      rw [ordN_fct', strsAre_length hvs, List.length_map, List.take_length, hsg]; decide
    have htk : sg.take vs.length = sg := by rw [strsAre_length hvs, List.length_map, List.take_length]
    rw [htk] at hws
    w_is_and go_5_7_3_6_2_4_0_1
    refine sorted_N_str F2 N2 (N2.isList (List.mem_cons_self ..)) hws hwl fun h9 vs9 os9 e9 F9 N9 hS9 hp9 hs9 => ?_
    exact h _ _ g2 _ vs9 e9 os9 F9.keep (fun p hp => by
      rw [List.mem_singleton.mp hp]
      exact ⟨(N9 _ (List.mem_cons_self ..)).1, (N9 _ (List.mem_cons_self ..)).2.2⟩) hS9 hp9 hs9
end Korders_call
section
variable {w : World} {p : Program} {loose : List Str} {mean : ExcName → Option Value} {mg mb : Str → Option Value} {dp un : Nat} {fr : Option (List Env)} {gd : Option (List Code)} {s : Shared} {Q E : Value → Shared → Prop}
theorem orders_call {l : Addr} {sg : List Nat} {vs : List Value} (X : (KK w).In s.heap) (T : Top p loose mean mg mb s.heap) (hd : dp + 20 < recursionLimit) (hu : un + 100 < cLine) (hl : s.heap.IsList l vs.toArray) (hvs : StrsAre vs (ones sg)) (hsg : sg.length = 4) (h : ∀ h' t' (g' : BG) D vs n os, Ext s.heap h' → New s.heap h' [(D, listOf vs.toArray n)] → StrsAre vs os → os.Perm (txs (ordN sg)) → sortedS os = true → Q (.ref D) { s with heap := h', toks := t', gens := g' }) (hB : AllBare s.gens := by first | assumption | exact BG.ok _) :
    wpAny (model PG w) (Ar dp un fr gd) (call (.ref 154) [.ref l]) Q E s :=
  (Base.all Korders_call.St (by with_unfolding_all exact Korders_call.at_bad) ⟨w, p, loose, mean, mg, mb, dp, un, fr, gd, s, Q, E⟩) l sg vs X T hd hu hl hvs hsg h hB
end
end Mine
end

section
open PySem PySem.W PyProof.Rows PySem.Calls PySem.Spec
set_option maxRecDepth 100000
set_option maxHeartbeats 1000000
namespace Mine
set_option hygiene false
set_option hygiene true
variable {w : World} {p : Program} {loose : List Str} {mean : ExcName → Option Value} {mg mb : Str → Option Value} {dp un : Nat} {fr : Option (List Env)} {gd : Option (List Code)} {s : Shared} {Q E : Value → Shared → Prop}

noncomputable def textsN : List (List Nat) := [[92, 41], [92, 40], [34, 41, 34], [34, 40, 40, 34], [92, 34], [34, 92, 34, 41, 34], [92, 92]]
noncomputable def addAt (l : List (List Nat)) (k : Nat) (t : List Nat) : List (List Nat) := l.set k (l.getD k [] ++ t)
noncomputable def hidN (n : Nat) : List (List Nat) := addAt (addAt (List.replicate 8 []) (n % 8) (textsN.getD (n / 8 % 7) [])) ((n / 56 + 5) % 8) (textsN.getD ((n / 448 + 1) % 7) [])

theorem oT1 : Str.ofString "\\)" = (⟨#[92, 41]⟩ : Str) := by decide +kernel
theorem oT2 : Str.ofString "\\(" = (⟨#[92, 40]⟩ : Str) := by decide +kernel
theorem oT3 : Str.ofString "\")\"" = (⟨#[34, 41, 34]⟩ : Str) := by decide +kernel
theorem oT4 : Str.ofString "\"((\"" = (⟨#[34, 40, 40, 34]⟩ : Str) := by decide +kernel
theorem oT5 : Str.ofString "\\\"" = (⟨#[92, 34]⟩ : Str) := by decide +kernel
theorem oT6 : Str.ofString "\"\\\")\"" = (⟨#[34, 92, 34, 41, 34]⟩ : Str) := by decide +kernel
theorem oT7 : Str.ofString "\\\\" = (⟨#[92, 92]⟩ : Str) := by decide +kernel

theorem addAt_len (l : List (List Nat)) (k : Nat) (t : List Nat) : (addAt l k t).length = l.length := by simp [addAt]
theorem txs_get (l : List (List Nat)) (k : Nat) (h : k < l.length) : (txs l)[k]? = some ⟨(l.getD k []).toArray⟩ := by
  rw [List.getElem?_map, List.getElem?_eq_getElem h, List.getD_eq_getElem?_getD, List.getElem?_eq_getElem h]; rfl
theorem txs_addAt (l : List (List Nat)) (k : Nat) (t : List Nat) : (txs l).set k ((⟨(l.getD k []).toArray⟩ : Str) ++ ⟨t.toArray⟩) = txs (addAt l k t) := by
  rw [mk_append, txs, txs, addAt, List.map_set]
theorem addAt_bound {l : List (List Nat)} {k a b : Nat} {t : List Nat} (h : ∀ r ∈ l, r.length ≤ a) (ht : t.length ≤ b) : ∀ r ∈ addAt l k t, r.length ≤ a + b := by
  intro r hr
  rcases List.mem_or_eq_of_mem_set hr with hr | rfl
  · have := h r hr; omega
  · rw [List.length_append]
    have : (l.getD k []).length ≤ a := by
      rw [List.getD_eq_getElem?_getD]
      cases q : l[k]? with
      | none => simp
      | some x => exact h x (List.mem_of_getElem? q)
    omega

theorem New.of1 {h₀ h : Heap} {L : Addr} {q : Addr × Obj} {own : List (Addr × Obj)} (N : News h₀ L h (q :: own)) : New h₀ h [q] := fun p hp => by
  rw [List.mem_singleton.mp hp]
  exact ⟨(N _ (List.mem_cons_self ..)).1, (N _ (List.mem_cons_self ..)).2.2⟩
theorem get_atE {prog : Program} {A : Around} {l : Addr} {vs : List Value} {ss : List Str} {i : Int} {k : Nat} {t : Tok} {x : Str} {Q : Value → Shared → Prop} (he : i = ((k : Nat) : Int)) (hl : s.heap.IsList l vs.toArray) (hv : StrsAre vs ss) (hx : ss[k]? = some x) (hk : k < 1000000) (h : ∀ tx, Q (.str x tx) s) :
    wpAny (model prog w) A (getItem (.ref l) (.int i t)) Q E s := by
  subst he; exact get_at hl hv hx hk h
theorem tup_atE {prog : Program} {A : Around} {value slice : Expr} {l : Addr} {vs : List Value} {ss : List Str} {i : Int} {k : Nat} {t : Tok} {x : Str} {Q : Value → Shared → Prop} (he : i = ((k : Nat) : Int)) (hl : IsTup s.heap l vs.toArray) (hv : StrsAre vs ss) (hx : ss[k]? = some x) (hk : k < 1000000) (h : ∀ tx, Q (.str x tx) s)
    (hs : subscripted slice false (.ref l) (.int ((k : Nat) : Int) t) = operate [.ref l, .int ((k : Nat) : Int) t] (getItem (.ref l) (.int ((k : Nat) : Int) t)) := by with_unfolding_all rfl) (hg : ∀ r, letTemporaryGo value (.ref l) r = pure () := by intro _; with_unfolding_all rfl) :
    wpAny (model prog w) A (subscriptTail value slice (.ref l) (.int i t)) Q E s := by
  subst he; exact tup_at hl hv hx hk h hs hg
theorem set_atE {prog : Program} {A : Around} {h₀ : Heap} {L : Addr} {m : Str → Option Value} {E : Value → Shared → Prop} {D : Addr} {vs : List Value} {i : Int} {k n : Nat} {t : Tok} {v : Value} {Q : Unit → Shared → Prop} {own : List (Addr × Obj)} (he : i = ((k : Nat) : Int)) (F : Fr h₀ L s.heap m) (N : News h₀ L s.heap ((D, listOf vs.toArray n) :: own)) (hoff : ∀ p ∈ own, p.1 ≠ D) (hk : k < vs.length) (hk2 : k < 1000000)
    (h : ∀ h', Fr h₀ L h' m → News h₀ L h' ((D, listOf (vs.set k v).toArray n) :: own) → Q () { s with heap := h' }) : wpAny (model prog w) A (setItem (.ref D) (.int i t) v) Q E s := by
  subst he; exact set_at F N hoff hk hk2 h

theorem texts_at (j : Nat) (h : j < 7) : (txs textsN)[j]? = some ⟨(textsN.getD j []).toArray⟩ ∧ (textsN.getD j []).length ≤ 5 := by
  rcases (by omega : j = 0 ∨ j = 1 ∨ j = 2 ∨ j = 3 ∨ j = 4 ∨ j = 5 ∨ j = 6) with rfl | rfl | rfl | rfl | rfl | rfl | rfl <;> exact ⟨rfl, by decide⟩
theorem hid_split (z : Int) (n : Nat) (hn : n = (z.fmod 3136).toNat) : ∃ (k1 j1 k2 j2 : Nat) (u1 u2 : List Nat), k1 < 8 ∧ j1 < 7 ∧ k2 < 8 ∧ j2 < 7 ∧ z.fmod 8 = ((k1 : Nat) : Int) ∧ (z.fdiv 8).fmod 7 = ((j1 : Nat) : Int) ∧ ((z.fdiv 56) + 5).fmod 8 = ((k2 : Nat) : Int) ∧ ((z.fdiv 448) + 1).fmod 7 = ((j2 : Nat) : Int) ∧
    (txs textsN)[j1]? = some ⟨u1.toArray⟩ ∧ u1.length ≤ 5 ∧ (txs textsN)[j2]? = some ⟨u2.toArray⟩ ∧ u2.length ≤ 5 ∧ hidN n = addAt (addAt (List.replicate 8 []) k1 u1) k2 u2 := by
  refine ⟨n % 8, n / 8 % 7, (n / 56 + 5) % 8, (n / 448 + 1) % 7, _, _, Nat.mod_lt _ (by decide), Nat.mod_lt _ (by decide), Nat.mod_lt _ (by decide), Nat.mod_lt _ (by decide), ?_, ?_, ?_, ?_, (texts_at _ (Nat.mod_lt _ (by decide))).1, (texts_at _ (Nat.mod_lt _ (by decide))).2, (texts_at _ (Nat.mod_lt _ (by decide))).1, (texts_at _ (Nat.mod_lt _ (by decide))).2, rfl⟩
  all_goals
    rw [Int.fmod_eq_emod_of_nonneg _ (by decide)] at hn ⊢
    try rw [Int.fdiv_eq_ediv_of_nonneg _ (by decide)]
  · exact mod_split1 (m := 8) (e := 392) hn (by decide) (by decide)
  · rw [← Int.add_zero (z / 8)]; exact mod_split (d := 8) (m := 7) (c := 0) (e := 56) hn (by decide) (by decide)
  · exact mod_split (d := 56) (m := 8) (c := 5) (e := 7) hn (by decide) (by decide)
  · exact mod_split (d := 448) (m := 7) (c := 1) (e := 1) hn (by decide) (by decide)

theorem hidden_call {z : Int} {n : Nat} {t : Tok} (X : (KK w).In s.heap) (T : Top p loose mean mg mb s.heap) (hd : dp + 20 < recursionLimit) (hu : un + 100 < cLine) (hn : n = (z.fmod 3136).toNat)
    (h : ∀ h' t' (g' : BG) D vs n', Ext s.heap h' → New s.heap h' [(D, listOf vs.toArray n')] → StrsAre vs (txs (hidN n)) → Q (.ref D) { s with heap := h', toks := t', gens := g' }) (hB : AllBare s.gens := by first | assumption | exact BG.ok _) :
    wpAny (model PG w) (Ar dp un fr gd) (call (.ref 166) [.int z t]) Q E s := by
  revert X T hd hu hn h hB
  revert w p loose mean mg mb dp un fr gd s Q E z n t
  intros w p loose mean mg mb dp un fr gd s Q E z n t X T hd hu hn h hB
  revert X; unfold PG KK
  k_fill; intro X
  refine enterX (binds := [(Str.ofString "number", .int z t)]) X T.nolimit (by k_is) (by k_is) (by omega) rfl rfl (fun L h₁ hL F N => ?_)
  k_fold
  w_is_and go_5_9_16_7_3_6_2_4_0_1
  rename Fr _ _ _ _ => F1
  rename News _ _ _ _ => N1
  rename_i TX _ _ _ _ _ LL _ D _ lDD _
  have hDT : (TX : Addr) ≠ D := neN (by have := ltN lDD.2; omega)
  rw [oT1, oT2, oT3, oT4, oT5, oT6, oT7, o0] at N1
  have N2 : ∃ (vs ts : List Value) (n1 n2 : Nat), StrsAre vs (txs (List.replicate 8 [])) ∧ StrsAre ts (txs textsN) ∧ News s.heap L _ [(D, listOf vs.toArray n1), (TX, tupObj ts.toArray n2)] :=
    ⟨_, _, _, _, .cons _ _ (.cons _ _ (.cons _ _ (.cons _ _ (.cons _ _ (.cons _ _ (.cons _ _ (.cons _ _ .nil))))))), .cons _ _ (.cons _ _ (.cons _ _ (.cons _ _ (.cons _ _ (.cons _ _ (.cons _ _ .nil)))))), news_pick N1 [0, 2]⟩
  clear N1
  obtain ⟨vs, ts, n1, n2, hvs, hts, N2⟩ := N2
  have hvl := strsAre_length hvs
  simp only [List.length_map, List.length_replicate] at hvl
  obtain ⟨k1, j1, k2, j2, u1, u2, hk1, hj1, hk2, hj2, hq1, hq2, hq3, hq4, hx1, hb1, hx2, hb2, hhid⟩ := hid_split z n hn
  rw [hhid] at h
  clear hhid
  have h1 : (txs (List.replicate 8 ([] : List Nat)))[k1]? = some ⟨#[]⟩ := by
    rw [List.getElem?_map, List.getElem?_replicate, if_pos hk1]; rfl
  have hB1 : (⟨u1.toArray⟩ : Str).length ≤ 5 := by show Array.size _ ≤ 5; simpa using hb1
  have hB2 : (⟨u2.toArray⟩ : Str).length ≤ 5 := by show Array.size _ ≤ 5; simpa using hb2
  w_is_and my_aa
  intros w p loose mean mg mb dp un fr gd s Q E z n t L TX v1_ D v2_ tk vs ts n1 n2 k1 j1 k2 j2 u1 u2
  intro T hd hu hn hB X hL _ _ lDD F1 hDT hvs hts N2 hvl h hk1 hj1 hk2 hj2 hq1 hq2 hq3 hq4 hx1 hb1 hx2 hb2 h1 hB1 hB2; try k_fold
  refine get_atE hq1 (N2.isList (List.mem_cons_self ..)) hvs h1 (by omega) fun tx1 => ?_
  w_is_and go_5_9_16_7_3_6_2_4_0_1
  refine tup_atE hq2 (N2.isTup (List.mem_cons_of_mem _ (List.mem_cons_self ..))) hts hx1 (by omega) fun tx2 => ?_
  w_is_and go_5_9_16_7_3_6_2_4_0_1_41
  refine set_atE hq1 F1 N2 (fun p hp => by rw [List.mem_singleton.mp hp]; exact hDT) (by omega) (by omega) fun h3 F3 N3 => ?_
  clear F1 N2
  have hvs2 : ∀ tt : Tok, StrsAre (vs.set k1 (.str ((⟨#[]⟩ : Str) ++ ⟨u1.toArray⟩) tt)) (txs (addAt (List.replicate 8 []) k1 u1)) := by
    intro tt
    rw [← txs_addAt]
    have e : ((List.replicate 8 ([] : List Nat)).getD k1 []) = [] := by
      rw [List.getD_eq_getElem?_getD, List.getElem?_replicate, if_pos hk1]; rfl
    rw [e]
    exact strsAre_set hvs k1 _ _
  have hb3 : ∀ r ∈ addAt (List.replicate 8 ([] : List Nat)) k1 u1, r.length ≤ 0 + 5 := addAt_bound (fun r hr => by rw [(List.mem_replicate.mp hr).2]; exact Nat.le_refl _) hb1
  have hA8 : (addAt (List.replicate 8 ([] : List Nat)) k1 u1).length = 8 := by rw [addAt_len, List.length_replicate]
  generalize addAt (List.replicate 8 ([] : List Nat)) k1 u1 = A1 at hvs2 hb3 hA8 h
  w_is_and go_5_9_16_7_3_6_2_4_0_1
  obtain ⟨u3, hu3, hx3, hB3⟩ : ∃ u3, A1.getD k2 [] = u3 ∧ (txs A1)[k2]? = some ⟨u3.toArray⟩ ∧ (⟨u3.toArray⟩ : Str).length ≤ 5 := by
    refine ⟨_, rfl, txs_get A1 k2 (by omega), ?_⟩
    show Array.size _ ≤ 5
    have hlt : k2 < A1.length := by omega
    have : A1.getD k2 [] ∈ A1 := by rw [List.getD_eq_getElem?_getD, List.getElem?_eq_getElem hlt]; exact List.getElem_mem hlt
    simpa using hb3 _ this
  refine get_atE hq3 (N3.isList (List.mem_cons_self ..)) (hvs2 _) hx3 (by omega) fun tx3 => ?_
  w_is_and go_5_9_16_7_3_6_2_4_0_1
  refine tup_atE hq4 (N3.isTup (List.mem_cons_of_mem _ (List.mem_cons_self ..))) hts hx2 (by omega) fun tx4 => ?_
  w_is_and go_5_9_16_7_3_6_2_4_0_1_41
  refine set_atE hq3 F3 N3 (fun p hp => by rw [List.mem_singleton.mp hp]; exact hDT) (by rw [List.length_set]; omega) (by omega) fun h5 F5 N5 => ?_
  clear F3 N3
  w_is_and go_5_9_16_7_3_6_2_4_0_1
  refine h _ _ ⟨s.gens, hB⟩ D _ _ F5.keep (New.of1 N5) ?_
  rw [← txs_addAt, hu3]
  exact strsAre_set (hvs2 _) k2 _ _
end Mine
end

section
open PySem PySem.W PyProof.Rows PySem.Calls PySem.Spec
set_option maxRecDepth 100000
set_option maxHeartbeats 1000000
namespace Mine
set_option hygiene false
set_option hygiene true
section
variable {w : World} {p : Program} {loose : List Str} {mean : ExcName → Option Value} {mg mb : Str → Option Value} {dp un : Nat} {fr : Option (List Env)} {gd : Option (List Code)} {s : Shared} {Q E : Value → Shared → Prop}


/-- a row with the hidden texts -/
noncomputable def cellsF (r : List Nat) (hid : List (List Nat)) : List (List Nat) := List.zipWith (fun c t => c :: t) r hid
noncomputable def toldF (hid : List (List Nat)) (r : List Nat) : Bool := chk (cellsF r hid).flatten

theorem New.off {h₀ h h' : Heap} {L : Addr} {objs nw : List (Addr × Obj)} (x : New h h' objs) (N : News h₀ L h nw) : ∀ p ∈ objs, ∀ q ∈ nw, p.1 ≠ q.1 := fun p hp q hq e => by
  have h1 := (x p hp).2
  rw [e, (N q hq).1] at h1; cases h1
theorem fm2 {P : Addr × Obj → Prop} {a : Addr × Obj} {r : List (Addr × Obj)} (h : P a) (hr : ∀ p ∈ r, P p) : ∀ p ∈ a :: r, P p := List.forall_mem_cons.mpr ⟨h, hr⟩

theorem mm1 {α : Type _} {a x : α} {r : List α} : x ∈ a :: x :: r := .tail _ (.head _)
theorem mm2 {α : Type _} {a b x : α} {r : List α} : x ∈ a :: b :: x :: r := .tail _ (.tail _ (.head _))
theorem mm4 {α : Type _} {a b c d x : α} {r : List α} : x ∈ a :: b :: c :: d :: x :: r := .tail _ (.tail _ (.tail _ (.tail _ (.head _))))

theorem rowsF_len : ∀ r ∈ rowsF, r.length = 8 ∧ r.count 40 = 4 := by decide +kernel
theorem cellsF_take (r : List Nat) (hid : List (List Nat)) (i : Nat) (c : Nat) (t : List Nat) (hr : r[i]? = some c) (ht : hid[i]? = some t) : (cellsF r hid).take (i + 1) = (cellsF r hid).take i ++ [[c] ++ t] := by
  have e : (cellsF r hid)[i]? = some (c :: t) := by
    rw [cellsF, List.getElem?_zipWith, hr, ht]
  rw [List.take_add_one, e]; rfl

theorem isList_ext {h h' : Heap} {l : Addr} {its : Array Value} (x : h.IsList l its) (k : Ext h h') : h'.IsList l its := by obtain ⟨o, e, r⟩ := x; exact ⟨o, k _ _ e, r⟩
theorem join_txs (l : List (List Nat)) : Txt.join (Str.ofString "") (txs l) = ⟨l.flatten.toArray⟩ := str_ext (by
  rw [show Str.ofString "" = Str.empty from by decide +kernel, join_flat, List.map_map]
  exact congrArg List.flatten (List.map_id' l))
theorem flat_le {l : List (List Nat)} {b : Nat} (h : ∀ t ∈ l, t.length ≤ b) : l.flatten.length ≤ l.length * b := by
  induction l with
  | nil => simp
  | cons a r ih =>
    have h1 := h a (List.mem_cons_self ..)
    have h2 := ih fun t ht => h t (List.mem_cons_of_mem _ ht)
    rw [List.flatten_cons, List.length_append, List.length_cons, Nat.succ_mul]; omega
theorem cellsF_le {r : List Nat} {hid : List (List Nat)} (hhb : ∀ t ∈ hid, t.length ≤ 10) : ∀ t ∈ cellsF r hid, t.length ≤ 11 := fun t ht => by
  obtain ⟨i, hi⟩ := List.getElem?_of_mem ht
  rw [cellsF, List.getElem?_zipWith] at hi
  split at hi
  · rename_i h2
    obtain rfl := Option.some.inj hi
    have := hhb _ (List.mem_of_getElem? h2)
    rw [List.length_cons]; omega
  · cases hi

theorem strsAre_take {vs : List Value} {ss : List Str} (h : StrsAre vs ss) (k : Nat) : StrsAre (vs.take k) (ss.take k) := by
  induction h generalizing k with
  | nil => cases k <;> exact .nil
  | cons y t _ ih =>
    cases k with
    | zero => exact .nil
    | succ k => exact .cons y t (ih k)
theorem strsAre_upto1 {vs : List Value} {ss : List Str} (h : StrsAre vs ss) : StrsAre (slicePick vs.toArray none (some (-1)) none).toList (ss.take (ss.length - 1)) := by
  rw [kms_pick_eq]
  have e : kms_pick vs none (some (-1)) = vs.take (vs.length - 1) := by
    unfold kms_pick kms_lo kms_hi
    simp
  rw [e, strsAre_length h]
  exact strsAre_take h _

theorem News.tl {h₀ h : Heap} {L : Addr} {q : Addr × Obj} {own : List (Addr × Obj)} (N : News h₀ L h (q :: own)) : News h₀ L h own := fun p hp => N p (List.mem_cons_of_mem _ hp)
theorem ml5 {α : Type _} {a b c d e x p : α} {own : List α} (h : p ∈ [a, b, c, d, e]) : p ∈ x :: a :: b :: c :: d :: e :: own := List.mem_cons_of_mem _ (List.mem_append_left (as := [a, b, c, d, e]) own h)
theorem mr5 {α : Type _} {a b c d e x p : α} {own : List α} (h : p ∈ own) : p ∈ x :: a :: b :: c :: d :: e :: own := List.mem_cons_of_mem _ (List.mem_append_right [a, b, c, d, e] h)
section
variable {prog : Program} {A : Around}
theorem sub_atE {value slice : Expr} {l : Addr} {vs : List Value} {ss : List Str} {i : Int} {k : Nat} {t : Tok} {x : Str} {Q : Value → Shared → Prop} (he : i = ((k : Nat) : Int)) (hl : s.heap.IsList l vs.toArray) (hv : StrsAre vs ss) (hx : ss[k]? = some x) (hk : k < 1000000) (h : ∀ tx, Q (.str x tx) s)
    (hs : subscripted slice false (.ref l) (.int ((k : Nat) : Int) t) = operate [.ref l, .int ((k : Nat) : Int) t] (getItem (.ref l) (.int ((k : Nat) : Int) t)) := by with_unfolding_all rfl) (hg : ∀ r, letTemporaryGo value (.ref l) r = pure () := by intro _; with_unfolding_all rfl) :
    wpAny (model prog w) A (subscriptTail value slice (.ref l) (.int i t)) Q E s := by
  subst he; exact sub_at hl hv hx hk h hs hg
theorem sub_neg1 {value slice : Expr} {l : Addr} {vs : List Value} {ss : List Str} {t : Tok} {x : Str} {Q : Value → Shared → Prop} (hl : s.heap.IsList l vs.toArray) (hv : StrsAre vs ss) (hx : ss[ss.length - 1]? = some x) (h : ∀ tx, Q (.str x tx) s)
    (hs : subscripted slice false (.ref l) (.int (-1) t) = operate [.ref l, .int (-1) t] (getItem (.ref l) (.int (-1) t)) := by with_unfolding_all rfl) (hg : ∀ r, letTemporaryGo value (.ref l) r = pure () := by intro _; with_unfolding_all rfl) :
    wpAny (model prog w) A (subscriptTail value slice (.ref l) (.int (-1) t)) Q E s := by
  have hlen := strsAre_length hv
  have hlt := (List.getElem?_eq_some_iff.mp hx).1
  have hk2 : ss.length - 1 < vs.length := by omega
  obtain ⟨tx, e⟩ := strsAre_get hv (List.getElem?_eq_getElem hk2) hx
  refine subscriptTail_builtin hl.typeIs slot_list_getitem.lookup (wpAny_getItem_list_neg (x := vs[ss.length - 1]) hl (by decide) (by rw [List.size_toArray]; omega) (by decide) ?_ (by rw [e]; exact h tx)) hs hg
  have : (-1 + (vs.toArray.size : Int)).toNat = ss.length - 1 := by rw [List.size_toArray]; omega
  rw [this]; simp [hk2]
end

end
noncomputable def Kreached_call.St (w : World) (p : Program) (loose : List Str) (mean : ExcName → Option Value) (mg : Str → Option Value) (mb : Str → Option Value) (dp : Nat) (un : Nat) (fr : Option (List Env)) (gd : Option (List Code)) (s : Shared) (Q : Value → Shared → Prop) (E : Value → Shared → Prop) : Prop :=
  ∀ (l lh : Addr) (sg : List Nat) (vs hs : List Value) (hid : List (List Nat)) (cameG : List Nat → List Nat) (X : (KK w).In s.heap) (T : Top p loose mean mg mb s.heap) (hd : dp + 60 < recursionLimit) (hu : un + 300 < cLine) (hl : s.heap.IsList l vs.toArray) (hvs : StrsAre vs (ones sg)) (hsg : sg.length = 4) (hlh : s.heap.IsList lh hs.toArray) (hhs : StrsAre hs (txs hid)) (hhl : hid.length = 8) (hhb : ∀ t ∈ hid, t.length ≤ 10) (hcame : ∀ r ∈ rowsF, toldF hid r = true → cameF r sg [] [] = some (cameG r)) (hne : (rowsF.filter (toldF hid)) ≠ []) (hends : ∀ r ∈ rowsF, toldF hid r = true → chk ((cellsF r hid).take 7).flatten = false) (h : ∀ h' t' (g' : BG) D vs n, Ext s.heap h' → New s.heap h' [(D, listOf vs.toArray n)] → StrsAre vs (txs ((rowsF.filter (toldF hid)).map cameG)) → Q (.ref D) { s with heap := h', toks := t', gens := g' }) (hB : AllBare s.gens),
    wpAny (model PG w) (Ar dp un fr gd) (call (.ref 178) [.ref l, .ref lh]) Q E s
namespace Kreached_call
@[irreducible] noncomputable def bad : Base := Base.bad St
noncomputable def w : World := bad.w
noncomputable def p : Program := bad.p
noncomputable def loose : List Str := bad.loose
noncomputable def mean : ExcName → Option Value := bad.mean
noncomputable def mg : Str → Option Value := bad.mg
noncomputable def mb : Str → Option Value := bad.mb
noncomputable def dp : Nat := bad.dp
noncomputable def un : Nat := bad.un
noncomputable def fr : Option (List Env) := bad.fr
noncomputable def gd : Option (List Code) := bad.gd
noncomputable def s : Shared := bad.s
noncomputable def Q : Value → Shared → Prop := bad.Q
noncomputable def E : Value → Shared → Prop := bad.E
noncomputable def L : Addr := s.heap.objs.size
theorem hL : s.heap.objs.size = L := rfl
theorem at_bad : St w p loose mean mg mb dp un fr gd s Q E := by
  unfold St
  intros l lh sg vs hs hid cameG X T hd hu hl hvs hsg hlh hhs hhl hhb hcame hne hends h hB
  revert X; unfold PG KK
  k_fill; intro X
  refine enterC (binds := [(Str.ofString "signs", .ref l), (Str.ofString "hidden", .ref lh)]) X T.nolimit (by k_is) (by k_is) (by omega) rfl rfl (fun L' h₁ tk cells hL' F N Y => ?_)
  obtain rfl : L' = L := hL'.symm.trans hL
  k_fold
  k_cells Y
  w_is_and go_5_9_16_15_21_7_3_6_2_4_0_1
  rename Fr _ _ _ _ => F1
  rename News _ _ _ _ => N1
  refine wpAny_For ?_
  w_is_and go_5_9_16_15_21_7_3_6_2_4_0_1_8
  refine rows_call (X.keeps F1.keep) (T.keeps F1.keep) (by omega) (by omega) fun h' t' g' Rw rs nr hk hnew hrs => ?_
  have N2 := News.app (hnew.news F1) (News.ext N1 hk)
  have hoR := hnew.off N1
  have F2 := F1.keeps hk
  clear F1 N1
  w_is_and go_5_9_16_15_21_7_3_6_2_4_0_1_37
  rename_i oR oH dR dH C _ lC _ _ En _ lE _
  have hCH : (C : Addr) ≠ L + 1 := neN (by have := ltN lC.2; omega)
  have hCR : (C : Addr) ≠ L + 1 + 1 := neN (by have := ltN lC.1; omega)
  have hEC : (En : Addr) ≠ C := neN (by have := ltN lE.1; omega)
  have hEH : (En : Addr) ≠ L + 1 := neN (by have := ltN lE.2.2; omega)
  have hER : (En : Addr) ≠ L + 1 + 1 := neN (by have := ltN lE.2.1; omega)
  have hRR : (Rw : Addr) ≠ L + 1 + 1 := hoR _ (List.mem_singleton.mpr rfl) (L + 1 + 1, oR) (.tail _ (.tail _ (.head _)))
  have hRE : (Rw : Addr) ≠ En := hoR _ (List.mem_singleton.mpr rfl) (En, _) (List.mem_cons_self ..)
  have hRC : (Rw : Addr) ≠ C := hoR _ (List.mem_singleton.mpr rfl) (C, _) (List.mem_cons_of_mem _ (List.mem_cons_self ..))
  have hHR : (L + 1 : Addr) ≠ L + 1 + 1 := neN (by omega)
  clear hoR
  replace N2 : News s.heap L h' [(L + 1 + 1, oR), (En, listOf (#[] : Array Value) 0), (C, listOf (#[] : Array Value) 0), (L + 1, oH), (Rw, listOf rs.toArray nr)] := news_pick N2 [3, 1, 2, 4, 0]
  refine for_vals (vs := rs) (J := fun j m nw => Ex7 fun (cv : List Value) (ev : List Value) (n1 : Nat) (n2 : Nat) (oR : Obj) (oH : Obj) (rv : Option Value) => And6 (nw = [(L + 1 + 1, oR), (En, listOf ev.toArray n2), (C, listOf cv.toArray n1), (L + 1, oH), (Rw, listOf rs.toArray nr)]) (oR.data = .cell rv) (oH.data = .cell (some (.ref lh))) (LV m [(Str.ofString "signs", .ref l), (Str.ofString "came", .ref C), (Str.ofString "ends", .ref En)]) (StrsAre cv (txs (((rowsF.take j).filter (toldF hid)).map cameG))) (StrsAre ev (txs (((rowsF.take j).filter (toldF hid)).map fun r => ((cellsF r hid).take 7).flatten))))
    rfl (fun j m nw h' hJ F' N' => by
      obtain ⟨cv, ev, n1, n2, oR, oH, rv, rfl, _⟩ := hJ
      exact N'.isList mm4) F2 N2 ⟨[], [], _, _, oR, oH, _, rfl, dR, dH, rfl, .nil, .nil⟩ (N2.isList mm4) (fun I v s₁ i Q' E' _ q => wpAny_pure q) ?_ ?_
  · clear F2 N2
    intro j v m₁ nw₁ h2 tk2 g2 own hv hJ1 hoff F2 N2
    try k_fold
    revert hoff F2 N2
    obtain ⟨cv, ev, n1, n2, oR, oH, rv, rfl, hoR, hoH, hm, hcv, hev⟩ := hJ1
    intro hoff F2 N2
    rw [hm.can] at F2
    dsimp only [List.cons_append, List.nil_append] at N2
    have hj : j < rowsF.length := by
      have := (List.getElem?_eq_some_iff.mp hv).1
      rw [strsAre_length hrs, List.length_map] at this; exact this
    obtain ⟨tv, rfl⟩ := strsAre_get hrs hv (show (txs rowsF)[j]? = some ⟨(rowsF[j]).toArray⟩ by simp [hj])
    w_is_and go_5_9_16_15_21_7_3_6_2_4_0_1_38
    refine storeX_C (c := L + 1 + 1) (o := oR) (v₀ := rv) (g := fun o' => (L + 1 + 1, o') :: (En, listOf ev.toArray n2) :: (C, listOf cv.toArray n1) :: (L + 1, oH) :: (Rw, listOf rs.toArray nr) :: own) F2 N2 rfl (.head (fm2 hER (fm2 hCR (fm2 hHR (fm2 hRR fun p hp => Ne.symm (hoff (L + 1 + 1, oR) (.head _) p hp)))))) hoR (fun h3 oR' F3 N3 hoR' => ?_) rfl rfl
    clear F2 N2
    w_is_and go_5_9_16_15_21_7_3_6_2_4_0_1
    refine comp_A F3 rfl rfl (by decide) rfl (by decide) rfl rfl ?_
    w_is_and go_5_9_16_15_21_7_3_6_2_4_0_1
    rename IsRange _ _ _ _ _ _ _ _ => hr
    rename Fr _ _ _ _ => F4
    rename News _ _ _ _ => N4
    have hrm : rowsF[j] ∈ rowsF := List.getElem_mem hj
    have htk : rowsF.take (j + 1) = rowsF.take j ++ [rowsF[j]] := by rw [List.take_add_one, List.getElem?_eq_getElem hj]; rfl
    generalize rowsF[j] = r at hrm htk hv hoR'
    obtain ⟨hr8, hr4⟩ := rowsF_len r hrm
    have hcl : (cellsF r hid).length = 8 := by rw [cellsF, List.length_zipWith, hr8, hhl]; rfl
    have hrz : (⟨r.toArray⟩ : Str).length = 8 := by show Array.size _ = 8; simpa using hr8
    refine CSrc.range (n := 8) (fun i ys nw => And2 (nw = (L + 1 + 1, oR') :: (En, listOf ev.toArray n2) :: (C, listOf cv.toArray n1) :: (L + 1, oH) :: (Rw, listOf rs.toArray nr) :: own) (StrsAre ys (txs ((cellsF r hid).take i)))) rfl F4 N4 hr (by decide) (by decide) (by decide) ⟨rfl, .nil⟩ ?_ ?_
    · intro gg
      refine CTurn.n0 rfl rfl ?_
      rintro i v I oI Cx oC D mC h5 tk5 g5 ys nw5 E' ⟨hi, tv5, rfl⟩ ⟨rfl, hys⟩ hns hmv F5 N5 off ne5
      clear F4 N4
      have hk0 : ((i : Nat) : Int) < (⟨r.toArray⟩ : Str).length := by omega
      have hk1 : -((⟨r.toArray⟩ : Str).length : Int) ≤ ((i : Nat) : Int) := by omega
      obtain ⟨c, hc⟩ : ∃ c, r[i]? = some c := ⟨r[i], by simp [hr8, hi]⟩
      obtain ⟨tt, htt⟩ : ∃ tt, hid[i]? = some tt := ⟨hid[i], by simp [hhl, hi]⟩
      have htb := hhb tt (List.mem_of_getElem? htt)
      have htz : (⟨tt.toArray⟩ : Str).length ≤ 10 := by show Array.size _ ≤ 10; simpa using htb
      rw [cellsF_take r hid i c tt hc htt]
      dsimp only
      w_is_and go_5_9_16_15_21_7_3_6_2_4_0_1
      refine sub_at (k := i) (isList_ext hlh F5.keep) hhs (show (txs hid)[i]? = some ⟨tt.toArray⟩ by rw [List.getElem?_map, htt]; rfl) (by omega) fun tx5 => ?_
      w_is_and go_5_9_16_15_21_7_3_6_2_4_0_1
      refine CEnd.introN (nx := (L + 1 + 1, oR') :: (En, listOf ev.toArray n2) :: (C, listOf cv.toArray n1) :: (L + 1, oH) :: (Rw, listOf rs.toArray nr) :: own) F5 N5 (List.mem_cons_self ..) (List.mem_cons_of_mem _ (List.mem_cons_self ..)) (List.mem_cons_of_mem _ (List.mem_cons_of_mem _ (List.mem_cons_self ..))) hns (fun p hp => List.mem_cons_of_mem _ (List.mem_cons_of_mem _ (List.mem_cons_of_mem _ hp))) off ⟨rfl, ?_⟩
      rw [item_i hc, txs, List.map_append, show ((⟨#[c]⟩ : Str) ++ ⟨tt.toArray⟩) = ⟨([c] ++ tt).toArray⟩ from mk_append [c] tt]
      exact strsAre_append hys (.cons _ _ .nil)
    · rintro gg ys nw ⟨rfl, hys⟩ D h4 tk4 g4 F5 N5 o1
      clear F4 N4
      rw [List.take_of_length_le (by omega)] at hys
      dsimp only
      w_is_and go_5_9_16_15_21_7_3_6_2_4_0_1_11
      have hfl := flat_le (cellsF_le (r := r) hhb)
      rw [hcl] at hfl
      refine join_listW (N5.isList (List.mem_cons_self ..)) (ys := txs (cellsF r hid)) hys (by decide) (sum_bound (n := 11) (k := 8) (fun y hy => ?_) (by rw [List.length_map, hcl]; decide) (by decide)) fun t' k => ?_
      · obtain ⟨tt, ht, rfl⟩ := List.mem_map.mp hy
        have := cellsF_le hhb tt ht
        show Array.size _ ≤ 11; simpa using this
      rw [join_txs]
      w_is_and go_5_9_16_15_21_7_3_6_2_4_0_1_8
      refine check_call (X.keeps F5.keep) (T.keeps F5.keep) (by omega) (by omega) (by show Array.size _ ≤ 200; rw [List.size_toArray]; omega) fun h' t' g' hk => ?_
      have F6 := F5.keeps hk
      have N6 := News.ext N5 hk
      clear F5 N5
      dsimp only
      rw [show chk (⟨(cellsF r hid).flatten.toArray⟩ : Str).cps.toList = toldF hid r from rfl]
      have hof := off1_mem o1
      cases hb : toldF hid r with
      | true =>
        w_is_and go_5_9_16_15_21_7_3_6_2_4_0_1_8
        rename Fr _ _ _ _ => F5
        rename News _ _ _ _ => N5
        refine came_call (X.keeps F5.keep) (T.keeps F5.keep) (by omega) (by omega) (by show Array.size _ ≤ 200; rw [List.size_toArray]; omega) (isList_ext hl F5.keep) hvs (by omega) (by rw [cps_mk]; omega) fun h' t' g' tk7 hk => ?_
        have F6 := F5.keeps hk
        have N6 := News.ext N5 hk
        clear F5 N5
        rw [show cameF (⟨r.toArray⟩ : Str).cps.toList sg [] [] = some (cameG r) from hcame r hrm hb]
        dsimp only
        w_is_and go_5_9_16_15_21_7_3_6_2_4_0_1
        have hcvl := strsAre_length hcv
        have hevl := strsAre_length hev
        have hfj : ((rowsF.take j).filter (toldF hid)).length ≤ 20 := Nat.le_trans (List.length_filter_le ..) (by rw [List.length_take]; exact Nat.le_trans (Nat.min_le_right ..) (by decide +kernel))
        rw [List.length_map, List.length_map] at hcvl hevl
        refine append_K F6 N6 (.tail (Ne.symm (hof (C, listOf cv.toArray n1) mm2)) (.tail (Ne.symm hCR) (.tail hEC (.head (fm2 (Ne.symm hCH) (fm2 hRC fun p hp => Ne.symm (hoff (C, listOf cv.toArray n1) mm2 p hp))))))) (fun h7 F7 N7 => ?_) ?_
        rotate_left
        · rw [sizeLine_eq, List.size_toArray]; omega
        clear F6 N6
        dsimp only
        w_is_and go_5_9_16_15_21_7_3_6_2_4_0_1
        refine kmk_slice (lo := none) (hi := some (-1)) F7 N7 (N7.isList (List.mem_cons_self ..)) .none (.int _ _) (fun Sx hx F5 N5 _ => ?_) (by with_unfolding_all rfl) (by intro _; with_unfolding_all rfl) ?_
        rotate_left
        · rw [sizeLine_eq, List.size_toArray, strsAre_length hys, List.length_map, hcl]; decide
        clear F7 N7
        dsimp only
        w_is_and go_5_9_16_15_21_7_3_6_2_4_0_1_11
        have hys7 : StrsAre (slicePick ys.toArray none (some (-1)) none).toList (txs ((cellsF r hid).take 7)) := by
          have := strsAre_upto1 hys
          rw [List.length_map, hcl, ← List.map_take] at this; exact this
        refine join_listW (N5.isList (List.mem_cons_self ..)) (ys := txs ((cellsF r hid).take 7)) hys7 (by decide) (sum_bound (n := 11) (k := 8) (fun y hy => ?_) (by rw [List.length_map, List.length_take]; omega) (by decide)) fun t8 k8 => ?_
        · obtain ⟨tt, ht, rfl⟩ := List.mem_map.mp hy
          have := cellsF_le hhb tt (List.mem_of_mem_take ht)
          show Array.size _ ≤ 11; simpa using this
        rw [join_txs]
        dsimp only
        w_is_and go_5_9_16_15_21_7_3_6_2_4_0_1
        have N6 := News.tl N5
        clear N5
        refine append_K F5 N6 (.tail (Ne.symm (hof (En, listOf ev.toArray n2) mm1)) (.tail (Ne.symm hER) (.head (fm2 (Ne.symm hEC) (fm2 (Ne.symm hEH) (fm2 hRE fun p hp => Ne.symm (hoff (En, listOf ev.toArray n2) mm1 p hp))))))) (fun h9 F9 N9 => ?_) ?_
        rotate_left
        · rw [sizeLine_eq, List.size_toArray]; omega
        clear F5 N6
        w_is_and go_5_9_16_15_21_7_3_6_2_4_0_1
        simp only [List.push_toArray] at N9
        have e : List.filter (toldF hid) (List.take (j + 1) rowsF) = List.filter (toldF hid) (List.take j rowsF) ++ [r] := by
          rw [htk, List.filter_append, List.filter_cons_of_pos (by rw [hb]), List.filter_nil]
        refine EndG.intro (nx := [(L + 1 + 1, oR'), (En, listOf (ev ++ [_]).toArray (n2 + 1)), (C, listOf (cv ++ [_]).toArray (n1 + 1)), (L + 1, oH), (Rw, listOf rs.toArray nr)]) F9 N9 ⟨_, _, _, _, oR', oH, _, rfl, hoR', hoH, rfl, ?_, ?_⟩ (hoff.same rfl) (fun p hp => ml5 hp) (fun p hp => mr5 hp)
        · rw [e, List.map_append, txs, List.map_append]
          exact strsAre_append hcv (.cons _ _ .nil)
        · rw [e, List.map_append, txs, List.map_append]
          exact strsAre_append hev (.cons _ _ .nil)
      | false =>
        w_is_and go_5_9_16_15_21_7_3_6_2_4_0_1
        rename Fr _ _ _ _ => F5
        rename News _ _ _ _ => N5
        have e : List.filter (toldF hid) (List.take (j + 1) rowsF) = List.filter (toldF hid) (List.take j rowsF) := by
          rw [htk, List.filter_append, List.filter_cons_of_neg (by rw [hb]; decide), List.filter_nil, List.append_nil]
        refine EndG.intro (nx := [(L + 1 + 1, oR'), (En, listOf ev.toArray n2), (C, listOf cv.toArray n1), (L + 1, oH), (Rw, listOf rs.toArray nr)]) F5 N5 ⟨cv, ev, n1, n2, oR', oH, _, rfl, hoR', hoH, rfl, e ▸ hcv, e ▸ hev⟩ (hoff.same rfl) (fun p hp => List.mem_cons_of_mem _ (List.mem_append_left own hp)) (fun p hp => List.mem_cons_of_mem _ (List.mem_append_right [(L + 1 + 1, oR'), (En, listOf ev.toArray n2), (C, listOf cv.toArray n1), (L + 1, oH), (Rw, listOf rs.toArray nr)] hp))
  · intro m₁ nw₁ h2 tk2 g2 hJ2 F4 N4
    try k_fold
    revert F4 N4
    obtain ⟨cv, ev, n1, n2, oR, oH, rv, rfl, hoR, hoH, hm, hcv, hev⟩ := hJ2
    intro F4 N4
    rw [hm.can] at F4
    clear F2 N2
    have htk : rowsF.take rs.length = rowsF := by rw [strsAre_length hrs, List.length_map, List.take_length]
    rw [htk] at hcv hev
    dsimp only
    w_is_and go_5_9_16_15_21_7_3_6_2_4_0_1
    rename Fr _ _ _ _ => F5
    rename News _ _ _ _ => N5
    have hevl := strsAre_length hev
    rw [List.length_map, List.length_map] at hevl
    have hpos : 0 < (rowsF.filter (toldF hid)).length := List.length_pos_iff.mpr hne
    refine PySem.SeqAt.eq_list_lengthsAt (items := ev.toArray) (items2 := #[]) (N5.isList mm2) (N5.isList (List.mem_cons_self ..)) (by have : ev.toArray.size ≠ 0 := by { rw [List.size_toArray, hevl]; exact Nat.pos_iff_ne_zero.mp hpos }; simpa using this) (by show un + 3 < cLine; omega) ?_
    obtain ⟨r0, hr0⟩ : ∃ r0, (rowsF.filter (toldF hid))[0]? = some r0 := ⟨_, List.getElem?_eq_getElem hpos⟩
    obtain ⟨r1, hr1⟩ : ∃ r1, (rowsF.filter (toldF hid))[(rowsF.filter (toldF hid)).length - 1]? = some r1 := ⟨_, List.getElem?_eq_getElem (by omega)⟩
    have hm0 := List.mem_filter.mp (List.mem_of_getElem? hr0)
    have hm1 := List.mem_filter.mp (List.mem_of_getElem? hr1)
    have hx0 : (txs ((rowsF.filter (toldF hid)).map fun r => ((cellsF r hid).take 7).flatten))[0]? = some ⟨((cellsF r0 hid).take 7).flatten.toArray⟩ := by
      rw [List.getElem?_map, List.getElem?_map, hr0]; rfl
    have hx1 : (txs ((rowsF.filter (toldF hid)).map fun r => ((cellsF r hid).take 7).flatten))[(txs ((rowsF.filter (toldF hid)).map fun r => ((cellsF r hid).take 7).flatten)).length - 1]? = some ⟨((cellsF r1 hid).take 7).flatten.toArray⟩ := by
      rw [List.length_map, List.length_map, List.getElem?_map, List.getElem?_map, hr1]; rfl
    have hz : ∀ r, ((cellsF r hid).take 7).flatten.length ≤ 200 := fun r => by
      have h1 := flat_le (l := (cellsF r hid).take 7) (b := 11) fun t ht => cellsF_le hhb t (List.mem_of_mem_take ht)
      have h2 : ((cellsF r hid).take 7).length ≤ 7 := by rw [List.length_take]; exact Nat.min_le_left ..
      omega
    have c0 := hends r0 hm0.1 hm0.2
    have c1 := hends r1 hm1.1 hm1.2
    dsimp only
    w_is_and go_5_9_16_15_21_7_3_6_2_4_0_1
    refine sub_atE (k := 0) rfl (N5.isList mm2) hev hx0 (by decide) fun tx => ?_
    w_is_and go_5_9_16_15_21_7_3_6_2_4_0_1_8
    refine check_call (X.keeps F5.keep) (T.keeps F5.keep) (by omega) (by omega) (by show Array.size _ ≤ 200; rw [List.size_toArray]; exact hz _) fun h' t' g' hk => ?_
    have F6 := F5.keeps hk
    have N6 := News.ext N5 hk
    clear F5 N5
    rw [show chk (⟨((cellsF r0 hid).take 7).flatten.toArray⟩ : Str).cps.toList = false from c0]
    dsimp only
    w_is_and go_5_9_16_15_21_7_3_6_2_4_0_1
    refine sub_neg1 (N6.isList mm2) hev hx1 fun tx => ?_
    w_is_and go_5_9_16_15_21_7_3_6_2_4_0_1_8
    refine check_call (X.keeps F6.keep) (T.keeps F6.keep) (by omega) (by omega) (by show Array.size _ ≤ 200; rw [List.size_toArray]; exact hz _) fun h' t' g' hk => ?_
    have F5 := F6.keeps hk
    have N5 := News.ext N6 hk
    clear F6 N6
    rw [show chk (⟨((cellsF r1 hid).take 7).flatten.toArray⟩ : Str).cps.toList = false from c1]
    dsimp only
    w_is_and go_5_9_16_15_21_7_3_6_2_4_0_1
    exact h _ _ ⟨_, by first | assumption | exact BG.ok _⟩ C _ _ F5.keep (New.of1 (News.tl (News.tl (News.tl N5)))) hcv
end Kreached_call
section
variable {w : World} {p : Program} {loose : List Str} {mean : ExcName → Option Value} {mg mb : Str → Option Value} {dp un : Nat} {fr : Option (List Env)} {gd : Option (List Code)} {s : Shared} {Q E : Value → Shared → Prop}
theorem reached_call {l lh : Addr} {sg : List Nat} {vs hs : List Value} {hid : List (List Nat)} {cameG : List Nat → List Nat} (X : (KK w).In s.heap) (T : Top p loose mean mg mb s.heap) (hd : dp + 60 < recursionLimit) (hu : un + 300 < cLine) (hl : s.heap.IsList l vs.toArray) (hvs : StrsAre vs (ones sg)) (hsg : sg.length = 4) (hlh : s.heap.IsList lh hs.toArray) (hhs : StrsAre hs (txs hid)) (hhl : hid.length = 8) (hhb : ∀ t ∈ hid, t.length ≤ 10) (hcame : ∀ r ∈ rowsF, toldF hid r = true → cameF r sg [] [] = some (cameG r)) (hne : (rowsF.filter (toldF hid)) ≠ []) (hends : ∀ r ∈ rowsF, toldF hid r = true → chk ((cellsF r hid).take 7).flatten = false) (h : ∀ h' t' (g' : BG) D vs n, Ext s.heap h' → New s.heap h' [(D, listOf vs.toArray n)] → StrsAre vs (txs ((rowsF.filter (toldF hid)).map cameG)) → Q (.ref D) { s with heap := h', toks := t', gens := g' }) (hB : AllBare s.gens := by first | assumption | exact BG.ok _) :
    wpAny (model PG w) (Ar dp un fr gd) (call (.ref 178) [.ref l, .ref lh]) Q E s :=
  (Base.all Kreached_call.St (by with_unfolding_all exact Kreached_call.at_bad) ⟨w, p, loose, mean, mg, mb, dp, un, fr, gd, s, Q, E⟩) l lh sg vs hs hid cameG X T hd hu hl hvs hsg hlh hhs hhl hhb hcame hne hends h hB
end
end Mine
end

section
open PySem PySem.W PyProof.Rows PySem.Calls PySem.Spec
set_option maxRecDepth 100000
set_option maxHeartbeats 1000000
namespace Mine
set_option hygiene false
set_option hygiene true
section
variable {w : World} {p : Program} {loose : List Str} {mean : ExcName → Option Value} {mg mb : Str → Option Value} {dp un : Nat} {fr : Option (List Env)} {gd : Option (List Code)} {s : Shared} {Q E : Value → Shared → Prop}

noncomputable def pool20 : List Nat := [97, 98, 42, 91, 92, 93, 63, 45, 94, 46, 38, 126, 124, 40, 41, 34, 39, 33, 32, 99]
noncomputable def shiftL (ns : List Int) : List Int := [ns.getD 0 0 + 3, ns.getD 1 0 + 1, ns.getD 2 0 + 1, ns.getD 3 0 + 4]
noncomputable def pickN : List Int → List Nat → List Nat
  | [], _ => []
  | i :: r, pool => pool.getD ((i.fmod (pool.length : Int)).toNat) 0 :: pickN r (pool.eraseIdx ((i.fmod (pool.length : Int)).toNat))
noncomputable def bigS (ns : List Int) : Nat := (256 + (ns.getD 4 0).fmod 55000).toNat
theorem pool_strs {ys : List Value} (h : CarriedAll ys (List.map PyData.str (signs (Str.ofString "ab*[\\]?-^.&~|()\"'! c")))) : StrsAre ys (ones pool20) := by
  have e : signs (Str.ofString "ab*[\\]?-^.&~|()\"'! c") = ones pool20 := by decide +kernel
  rw [e] at h
  generalize ones pool20 = l at h
  induction l generalizing ys with
  | nil => cases h; exact .nil
  | cons a r ih =>
    cases h with
    | cons h1 h2 =>
      cases h1
      exact .cons _ _ (ih h2)
theorem cut_at : ∀ (l : List Value) (k : Nat) (h : k < l.length), kl_cut l k = some (l.take k, l[k], l.drop (k + 1))
  | [], _, h => absurd h (Nat.not_lt_zero _)
  | x :: r, 0, _ => rfl
  | x :: r, k + 1, h => by
    have ih := cut_at r k (Nat.lt_of_succ_lt_succ h)
    show (match kl_cut r k with | some (p, y, q) => some (x :: p, y, q) | none => none) = _
    rw [ih]; rfl
theorem strsAre_cut {vs : List Value} {ss : List Str} (h : StrsAre vs ss) : ∀ k, StrsAre (vs.take k ++ vs.drop (k + 1)) (ss.take k ++ ss.drop (k + 1)) := by
  induction h with
  | nil => intro k; simp; exact .nil
  | cons y t hr ih =>
    intro k
    cases k with
    | zero => simpa using hr
    | succ k => exact .cons y t (ih k)
theorem shift_drop (ns : List Int) {j : Nat} (h : j < 4) : (shiftL ns).drop j = (ns.getD j 0 + [3, 1, 1, 4].getD j 0) :: (shiftL ns).drop (j + 1) := by
  rcases (by omega : j = 0 ∨ j = 1 ∨ j = 2 ∨ j = 3) with rfl | rfl | rfl | rfl <;> rfl
theorem News.tl' {h₀ h : Heap} {L : Addr} {q : Addr × Obj} {own : List (Addr × Obj)} (N : News h₀ L h (q :: own)) : News h₀ L h own := fun p hp => N p (List.mem_cons_of_mem _ hp)
end
noncomputable def Ksigns_call.St (w : World) (p : Program) (loose : List Str) (mean : ExcName → Option Value) (mg : Str → Option Value) (mb : Str → Option Value) (dp : Nat) (un : Nat) (fr : Option (List Env)) (gd : Option (List Code)) (s : Shared) (Q : Value → Shared → Prop) (E : Value → Shared → Prop) : Prop :=
  ∀ (l : Addr) (ns : List Int) (vs : List Value) (X : (KK w).In s.heap) (T : Top p loose mean mg mb s.heap) (hd : dp + 20 < recursionLimit) (hu : un + 100 < cLine) (hl : s.heap.IsList l vs.toArray) (hvs : IntsAre vs ns) (hns : ns.length = 6) (h : ∀ h' t' (g' : BG) D (us : List Value) n, Ext s.heap h' → New s.heap h' [(D, listOf us.toArray n)] → StrsAre us (ones (pickN (shiftL ns) (pool20 ++ [bigS ns]))) → Q (.ref D) { s with heap := h', toks := t', gens := g' }) (hB : AllBare s.gens),
    wpAny (model PG w) (Ar dp un fr gd) (call (.ref 111) [.ref l]) Q E s
namespace Ksigns_call
@[irreducible] noncomputable def bad : Base := Base.bad St
noncomputable def w : World := bad.w
noncomputable def p : Program := bad.p
noncomputable def loose : List Str := bad.loose
noncomputable def mean : ExcName → Option Value := bad.mean
noncomputable def mg : Str → Option Value := bad.mg
noncomputable def mb : Str → Option Value := bad.mb
noncomputable def dp : Nat := bad.dp
noncomputable def un : Nat := bad.un
noncomputable def fr : Option (List Env) := bad.fr
noncomputable def gd : Option (List Code) := bad.gd
noncomputable def s : Shared := bad.s
noncomputable def Q : Value → Shared → Prop := bad.Q
noncomputable def E : Value → Shared → Prop := bad.E
noncomputable def L : Addr := s.heap.objs.size
theorem hL : s.heap.objs.size = L := rfl
theorem at_bad : St w p loose mean mg mb dp un fr gd s Q E := by
  unfold St
  intros l ns vs X T hd hu hl hvs hns h hB
  revert X; unfold PG KK
  k_fill; intro X
  refine enterX (binds := [(Str.ofString "sums", .ref l)]) X T.nolimit (by k_is) (by k_is) (by omega) rfl rfl (fun L' h₁ hL' F N => ?_)
  obtain rfl : L' = L := hL'.symm.trans hL
  k_fold
  w_is_and go_5_22_7_3_6_2_4_0_1_14
  rename Fr _ _ _ _ => F1
  rename News _ _ _ _ => N1
  rename CarriedAll _ _ => hca
  refine kmk_add_lit F1 N1 (N1.isList (List.mem_cons_of_mem _ (List.mem_cons_self ..))) (N1.isList (List.mem_cons_self ..)) rfl (fun D h2 F2 N2 lD => ?_) ?_
  rotate_left
  · have hl1 := strsAre_length (pool_strs hca)
    rw [sizeLine_eq]
    show List.length _ + 1 ≤ _
    rw [hl1]; decide
  clear F1 N1
  w_is_and go_5_22_7_3_6_2_4_0_1
  refine wpAny_execs_cons ?_
  w_is_and go_5_22_7_3_6_2_4_0_1
  refine wpAny_For ?_
  w_is_and go_5_22_7_3_6_2_4_0_1_37
  rename Fr _ _ _ _ => F2
  rename News _ _ _ _ => N2
  rename IsRange _ _ _ _ _ _ _ _ => hr
  have hpool := pool_strs hca
  rename_i _ S _ lS _ _ _ _ _ _ _ _ _
  have hSD : (S : Addr) ≠ D := Ne.symm (Nat.ne_of_lt lS.1)
  have hpv := fun tk : Tok => strsAre_append hpool (StrsAre.cons (⟨#[bigS ns]⟩ : Str) tk .nil)
  refine for_range (n := 4) (J := fun j m nw => Ex6 fun (sv : List Value) (pv : List Value) (sl : List Nat) (pl : List Nat) (n1 : Nat) (n2 : Nat) => And7 (nw = [(S, listOf sv.toArray n1), (D, listOf pv.toArray n2)]) (StrsAre sv (ones sl)) (StrsAre pv (ones pl)) (pl.length = 21 - j) (sl.length = j) (sl ++ pickN ((shiftL ns).drop j) pl = pickN (shiftL ns) (pool20 ++ [bigS ns])) (LV m [(Str.ofString "sums", .ref l), (Str.ofString "pool", .ref D), (Str.ofString "signs", .ref S)])) rfl hr (by decide) (by decide) F2 (nw := [(S, listOf ([] : List Value).toArray 0), (D, listOf (_ : List Value).toArray 0)]) (fun p hp => N2 p (by
        rcases List.mem_cons.mp hp with rfl | hp
        · exact List.mem_cons_self ..
        · rw [List.mem_singleton.mp hp]; exact List.mem_cons_of_mem _ (List.mem_cons_self ..)))
      ⟨[], _, [], pool20 ++ [bigS ns], _, _, rfl, .nil, (by rw [ones, List.map_append]; exact hpv _), by rfl, rfl, rfl, rfl⟩ (fun _ _ _ _ _ q => wpAny_pure q) ?_ ?_
  · clear F2 N2
    intro j tv m₁ nw₁ h3 tk3 g3 own hj hJ1 hoff F3 N3
    try k_fold
    revert hoff F3 N3
    obtain ⟨sv, pv, sl, pl, n1, n2, rfl, hsv, hpvv, hpl, hsl, hpick, hm⟩ := hJ1
    intro hoff F3 N3
    rw [hm.can] at F3
    dsimp only [List.cons_append, List.nil_append] at N3
    w_is_and go_5_22_7_3_6_2_4_0_1_40
    rename Fr _ _ _ _ => F4
    rename News _ _ _ _ => N4
    have hpsz : pv.toArray.size = pl.length := by rw [List.size_toArray, strsAre_length hpvv, List.length_map]
    have hpos : (0 : Int) < ((pl.length : Nat) : Int) := by omega
    refine PySem.Calls.call_len_list (items := pv.toArray) (N4.isList (List.mem_cons_of_mem _ (List.mem_cons_of_mem _ (List.mem_cons_self ..)))) (by rw [hpsz]; omega) ?_
    rw [hpsz]
    have hne : ¬ (((pl.length : Nat) : Int) = 0) := by omega
    w_is_and go_5_22_7_3_6_2_4_0_1
    rw [Int.toNat_natCast] at *
    obtain ⟨k, hk, hkl⟩ : ∃ k : Nat, (ns.getD j 0 + [3, 1, 1, 4].getD j 0).fmod ((pl.length : Nat) : Int) = ((k : Nat) : Int) ∧ k < pl.length := by
      have h1 := Int.fmod_nonneg_of_pos (ns.getD j 0 + [3, 1, 1, 4].getD j 0) hpos
      have h2 := Int.fmod_lt_of_pos (ns.getD j 0 + [3, 1, 1, 4].getD j 0) hpos
      exact ⟨_, (Int.toNat_of_nonneg h1).symm, (Int.toNat_lt h1).mpr h2⟩
    have hkv : k < pv.length := by rw [strsAre_length hpvv, List.length_map]; exact hkl
    obtain ⟨ty, hy⟩ := strsAre_get hpvv (List.getElem?_eq_getElem hkv) (show (ones pl)[k]? = some ⟨#[pl[k]]⟩ by simp [hkl])
    have hcut := cut_at pv k hkv
    rw [hy] at hcut
    have hfit : Builtin.List.listFitsIndex ((ns.getD j 0 + [3, 1, 1, 4].getD j 0).fmod ((pl.length : Nat) : Int)) = true := by
      rw [hk]; unfold Builtin.List.listFitsIndex; simp; omega
    have hsz21 : pl.length ≤ 21 := by omega
    have N5 := News.tl' N4
    refine kl_popAt (its := pv.toArray) (k := k) (n := n2) (D := D) F4 N5 hfit (by rw [hk, hpsz]; exact seqIndex_nat hkl) hcut (.tail hSD (.head fun p hp => Ne.symm (hoff (D, listOf pv.toArray n2) (List.mem_cons_of_mem _ (List.mem_cons_self ..)) p hp))) (by rw [sizeLine_eq]; show pv.length ≤ _; rw [strsAre_length hpvv, List.length_map]; omega) fun h4 F5 N6 => ?_
    clear F4 N4 N5
    try dsimp only
    w_is_and go_5_22_7_3_6_2_4_0_1
    refine append_K F5 N6 (.head (fun p hp => ?_)) (fun h5 F6 N7 => ?_) (by rw [sizeLine_eq, List.size_toArray, strsAre_length hsv, List.length_map]; omega)
    · rcases List.mem_cons.mp hp with rfl | hp
      · exact Ne.symm hSD
      · exact Ne.symm (hoff (S, listOf sv.toArray n1) (List.mem_cons_self ..) p hp)
    clear F5 N6
    w_is_and go_5_22_7_3_6_2_4_0_1
    simp only [List.push_toArray] at N7
    have hkq : ((ns.getD j 0 + [3, 1, 1, 4].getD j 0).fmod ((pl.length : Nat) : Int)).toNat = k := by rw [hk]; exact Int.toNat_natCast k
    refine EndG.intro (nx := [(S, listOf (sv ++ [Value.str ⟨#[pl[k]]⟩ ty]).toArray (n1 + 1)), (D, listOf (pv.take k ++ pv.drop (k + 1)).toArray (n2 + 1))]) F6 N7 ⟨_, _, sl ++ [pl[k]], pl.take k ++ pl.drop (k + 1), _, _, rfl, ?_, ?_, ?_, ?_, ?_, rfl⟩ (hoff.same rfl) (fun p hp => ?_) (fun p hp => List.mem_cons_of_mem _ (List.mem_cons_of_mem _ hp))
    · rw [ones, List.map_append]; exact strsAre_append hsv (.cons _ _ .nil)
    · have := strsAre_cut hpvv k
      rw [ones, List.map_append, List.map_take, List.map_drop]; exact this
    · rw [List.length_append, List.length_take, List.length_drop, Nat.min_eq_left (Nat.le_of_lt hkl)]; omega
    · rw [List.length_append, hsl]; rfl
    · rw [← hpick, shift_drop ns hj, pickN, hkq, List.append_assoc, List.eraseIdx_eq_take_drop_succ]
      have : pl.getD k 0 = pl[k] := by rw [List.getD_eq_getElem?_getD, List.getElem?_eq_getElem hkl]; rfl
      rw [this]; rfl
    · rcases List.mem_cons.mp hp with rfl | hp
      · exact List.mem_cons_self ..
      · rw [List.mem_singleton.mp hp]; exact List.mem_cons_of_mem _ (List.mem_cons_self ..)
  · intro m₁ nw₁ h3 tk3 g3 hJ2 F3 N3
    try k_fold
    revert F3 N3
    obtain ⟨sv, pv, sl, pl, n1, n2, rfl, hsv, hpvv, hpl, hsl, hpick, hm⟩ := hJ2
    intro F3 N3
    rw [hm.can] at F3
    clear F2 N2
    w_is_and go_5_22_7_3_6_2_4_0_1
    rename Fr _ _ _ _ => F9
    have hsl2 : sl = pickN (shiftL ns) (pool20 ++ [bigS ns]) := by
      rw [← hpick, show (shiftL ns).drop 4 = [] from rfl, pickN, List.append_nil]
    rw [hsl2] at hsv
    exact h _ _ g3 S sv n1 F9.keep (New.of1 N3) hsv
end Ksigns_call
section
variable {w : World} {p : Program} {loose : List Str} {mean : ExcName → Option Value} {mg mb : Str → Option Value} {dp un : Nat} {fr : Option (List Env)} {gd : Option (List Code)} {s : Shared} {Q E : Value → Shared → Prop}
theorem signs_call {l : Addr} {ns : List Int} {vs : List Value} (X : (KK w).In s.heap) (T : Top p loose mean mg mb s.heap) (hd : dp + 20 < recursionLimit) (hu : un + 100 < cLine) (hl : s.heap.IsList l vs.toArray) (hvs : IntsAre vs ns) (hns : ns.length = 6) (h : ∀ h' t' (g' : BG) D (us : List Value) n, Ext s.heap h' → New s.heap h' [(D, listOf us.toArray n)] → StrsAre us (ones (pickN (shiftL ns) (pool20 ++ [bigS ns]))) → Q (.ref D) { s with heap := h', toks := t', gens := g' }) (hB : AllBare s.gens := by first | assumption | exact BG.ok _) :
    wpAny (model PG w) (Ar dp un fr gd) (call (.ref 111) [.ref l]) Q E s :=
  (Base.all Ksigns_call.St (by with_unfolding_all exact Ksigns_call.at_bad) ⟨w, p, loose, mean, mg, mb, dp, un, fr, gd, s, Q, E⟩) l ns vs X T hd hu hl hvs hns h hB
end
end Mine
end

section
open PySem PySem.W PyProof.Rows PySem.Calls PySem.Spec
set_option maxRecDepth 100000
set_option maxHeartbeats 8000000
namespace Mine
set_option hygiene false
set_option hygiene true
section
variable {w : World} {p : Program} {loose : List Str} {mean : ExcName → Option Value} {mg mb : Str → Option Value} {dp un : Nat} {fr : Option (List Env)} {gd : Option (List Code)} {s : Shared} {Q E : Value → Shared → Prop}

theorem res_get {st : Addr} : ∀ {vs : List Value} {l : List (Option Pc)}, ResAre st vs l → ∀ k : Nat, (l[k]? = some none → vs[k]? = some (Value.ref st)) ∧ (∀ q : Pc, l[k]? = some (some q) → ∃ t : Tok, vs[k]? = some (Value.str ⟨q.out.toArray⟩ t))
  | _, _, .nil, k => ⟨(fun h => by simp at h), (fun q h => by simp at h)⟩
  | _, _, .star h, 0 => ⟨(fun _ => rfl), (fun q h => by simp at h)⟩
  | _, _, .part _ t h, 0 => ⟨(fun h => by simp at h), (fun q h => by simp at h; exact ⟨t, by simp [h]⟩)⟩
  | _, _, .star h, k + 1 => by simpa using res_get h k
  | _, _, .part _ _ h, k + 1 => by simpa using res_get h k

end
noncomputable def Kjt_call.St (w : World) (p : Program) (loose : List Str) (mean : ExcName → Option Value) (mg : Str → Option Value) (mb : Str → Option Value) (dp : Nat) (un : Nat) (fr : Option (List Env)) (gd : Option (List Code)) (s : Shared) (Q : Value → Shared → Prop) (E : Value → Shared → Prop) : Prop :=
  ∀ (l st : Addr) (vs : List Value) (p1 p2 p3 : Pc) (X : (KK w).In s.heap) (T : Top p loose mean mg mb s.heap) (hd : dp + 20 < recursionLimit) (hu : un + 100 < cLine) (hl : s.heap.IsList l vs.toArray) (hvs : ResAre st vs [none, some p1, none, some p2, none, some p3, none]) (hlen : ∀ q ∈ [p1, p2, p3], q.out.length ≤ 12) (h : ∀ h' t' (g' : BG) tk, Ext s.heap h' → Q (.str ⟨([40, 63, 115, 58] ++ (wrapF p1 ++ wrapF p2 ++ wrapF p3 ++ [46, 42, 41, 92, 90])).toArray⟩ tk) { s with heap := h', toks := t', gens := g' }) (hB : AllBare s.gens),
    wpAny (model PG w) (Ar dp un fr gd) (call (.ref 69) [.ref l, .ref st]) Q E s
namespace Kjt_call
@[irreducible] noncomputable def bad : Base := Base.bad St
noncomputable def w : World := bad.w
noncomputable def p : Program := bad.p
noncomputable def loose : List Str := bad.loose
noncomputable def mean : ExcName → Option Value := bad.mean
noncomputable def mg : Str → Option Value := bad.mg
noncomputable def mb : Str → Option Value := bad.mb
noncomputable def dp : Nat := bad.dp
noncomputable def un : Nat := bad.un
noncomputable def fr : Option (List Env) := bad.fr
noncomputable def gd : Option (List Code) := bad.gd
noncomputable def s : Shared := bad.s
noncomputable def Q : Value → Shared → Prop := bad.Q
noncomputable def E : Value → Shared → Prop := bad.E
noncomputable def L : Addr := s.heap.objs.size
theorem hL : s.heap.objs.size = L := rfl
theorem at_bad : St w p loose mean mg mb dp un fr gd s Q E := by
  unfold St
  intros l st vs p1 p2 p3 X T hd hu hl hvs hlen h hB
  have hvl : vs.length = 7 := hvs.length
  have hS : ∀ k, k ≤ 3 → vs[2 * k]? = some (.ref st) := fun k hk => by
    refine (res_get hvs (2 * k)).1 ?_
    rcases (by omega : k = 0 ∨ k = 1 ∨ k = 2 ∨ k = 3) with rfl | rfl | rfl | rfl <;> rfl
  have hP : ∀ k, k < 3 → ∃ q t, [p1, p2, p3][k]? = some q ∧ vs[2 * k + 1]? = some (.str ⟨q.out.toArray⟩ t) := fun k hk => by
    rcases (by omega : k = 0 ∨ k = 1 ∨ k = 2) with rfl | rfl | rfl
    · obtain ⟨t, e⟩ := (res_get hvs 1).2 p1 rfl; exact ⟨p1, t, rfl, e⟩
    · obtain ⟨t, e⟩ := (res_get hvs 3).2 p2 rfl; exact ⟨p2, t, rfl, e⟩
    · obtain ⟨t, e⟩ := (res_get hvs 5).2 p3 rfl; exact ⟨p3, t, rfl, e⟩
  have hasz : vs.toArray.size = 7 := by rw [List.size_toArray]; exact hvl
  clear hvs
  revert X; unfold PG KK
  k_fill; intro X
  refine enterX (binds := [(Str.ofString "inp", .ref l), (Str.ofString "STAR", .ref st)]) X T.nolimit (by k_is) (by k_is) (by omega) rfl rfl (fun L' h₁ hL' F N => ?_)
  obtain rfl : L' = L := hL'.symm.trans hL
  k_fold
  w_is_and go_11_17_18_9_3_12_2
  rename Fr _ _ _ _ => F1
  rename News _ _ _ _ => N1
  rename_i R _ _ _
  refine append_getattr (N1 (R, _) (List.mem_cons_self ..)).1 fun h2 b t3 k2 hb0 hb => ?_
  have hnew : New _ h2 [(b, bobj R)] := fun p hp => by rw [List.mem_singleton.mp hp]; exact ⟨hb, hb0⟩
  have N2 := News.app (hnew.news F1) (News.ext N1 k2)
  have F2 := F1.keeps k2
  have hbR : (b : Addr) ≠ R := fun e => by
    have := (N1 (R, _) (List.mem_cons_self ..)).1
    rw [← e, hb0] at this; cases this
  clear F1 N1
  dsimp only [List.cons_append, List.nil_append] at N2
  have hlk : ∀ h', Ext s.heap h' → h'.IsList l vs.toArray := fun h' k => by obtain ⟨o, e, r⟩ := hl; exact ⟨o, k _ _ e, r⟩
  have hU : ∀ (v : Value) (rv : List Value) (n1 : Nat), Upd R (listOf rv.toArray n1) (listOf (rv.toArray.push v) (n1 + 1)) [(b, bobj R), (R, listOf rv.toArray n1)] [(b, bobj R), (R, listOf (rv.toArray.push v) (n1 + 1))] := fun v rv n1 =>
    .tail hbR (.head fun q hq => nomatch hq)
  have hl2 := hlk _ F2.keep
  w_is_and go_11_17_18_9_3_12_2
  rename Fr _ _ _ _ => F1
  rename News _ _ _ _ => N1
  rw [hasz] at F1
  replace N1 : News _ _ _ [(b, bobj R), (R, listOf (#[] : Array Value) 0)] := fun p hp => N1 p (List.mem_cons_of_mem _ hp)
  clear hl2
  -- nothing stands ahead of the first star
  refine whl2 (n₀ := 0) (J := fun n m nw => And2 (nw = [(b, bobj R), (R, listOf (#[] : Array Value) 0)]) (Ex2 fun ti tn => LV m [(Str.ofString "inp", .ref l), (Str.ofString "STAR", .ref st), (Str.ofString "res", .ref R), (Str.ofString "add", .ref b), (Str.ofString "i", .int ((2 * 0 : Nat) : Int) ti), (Str.ofString "n", .int ((7 : Nat) : Int) tn)]))
    (O := fun m nw => And2 (nw = [(b, bobj R), (R, listOf (#[] : Array Value) 0)]) (Ex2 fun ti tn => LV m [(Str.ofString "inp", .ref l), (Str.ofString "STAR", .ref st), (Str.ofString "res", .ref R), (Str.ofString "add", .ref b), (Str.ofString "i", .int ((2 * 0 : Nat) : Int) ti), (Str.ofString "n", .int ((7 : Nat) : Int) tn)])) F1 N1 ⟨rfl, _, _, rfl⟩ ?_ ?_
  · clear F1 N1
    intro n m₁ nw₁ h4 tk4 g4 hJ1 F4 N4
    try k_fold
    revert F4 N4
    obtain ⟨rfl, ti, tn, rL⟩ := hJ1
    intro F4 N4
    rw [rL.can] at F4
    w_is_and go_11_17_18_9_3_12_2
    refine sub_val (k := 2 * 0) (hlk _ F4.keep) (hS 0 (by decide)) (by decide) ?_
    w_is_and go_11_17_18_9_3_12_2
    exact WOut.intro _ F4 N4 (fun _ h => h) ⟨rfl, _, _, rfl⟩
  · clear F1 N1
    intro m₁ nw₁ h4 tk4 g4 hJ2 F4 N4
    try k_fold
    revert F4 N4
    obtain ⟨rfl, ti, tn, rL⟩ := hJ2
    intro F4 N4
    rw [rL.can] at F4
    try dsimp only
    w_is_and go_11_17_18_9_3_12_2
    refine whl2 (n₀ := 4 - 0) (J := fun n m nw => Ex3 fun (k : Nat) (rv : List Value) (n1 : Nat) => And5 (n = 4 - k) (k ≤ 3) (nw = [(b, bobj R), (R, listOf rv.toArray n1)]) (StrsAre rv (txs (([p1, p2, p3].map wrapF).take k))) (Ex2 fun ti tn => LV m [(Str.ofString "inp", .ref l), (Str.ofString "STAR", .ref st), (Str.ofString "res", .ref R), (Str.ofString "add", .ref b), (Str.ofString "i", .int ((2 * k : Nat) : Int) ti), (Str.ofString "n", .int ((7 : Nat) : Int) tn)]))
      (O := fun m nw => Ex2 fun (rv : List Value) (n1 : Nat) => And3 (nw = [(b, bobj R), (R, listOf rv.toArray n1)]) (StrsAre rv (txs ([p1, p2, p3].map wrapF ++ [[46, 42]]))) (Ex2 fun ti tn => LV m [(Str.ofString "inp", .ref l), (Str.ofString "STAR", .ref st), (Str.ofString "res", .ref R), (Str.ofString "i", .int ((7 : Nat) : Int) ti), (Str.ofString "n", .int ((7 : Nat) : Int) tn)])) F4 N4 ⟨0, [], 0, rfl, by decide, rfl, .nil, _, _, rfl⟩ ?_ ?_
    · clear F4 N4
      intro n m₂ nw₂ h5 tk5 g5 hJ3 F4 N4
      try k_fold
      revert F4 N4
      obtain ⟨k, rv, n1, rfl, hk, rfl, hrv, ti2, tn2, rL⟩ := hJ3
      intro F4 N4
      rw [rL.can] at F4
      have hk7 : ((2 * k : Nat) : Int) < ((7 : Nat) : Int) := by omega
      have hrl : rv.length ≤ 3 := by rw [strsAre_length hrv, List.length_map, List.length_take]; simp; omega
      w_is_and go_11_17_18_9_3_12_2
      refine sub_val (hlk _ F4.keep) (hS k hk) (by omega) ?_
      w_is_and go_11_17_18_9_3_12_2
      rename Fr _ _ _ _ => F5
      rename News _ _ _ _ => N5
      have hi1 : ((2 * k : Nat) : Int) + 1 = ((2 * k + 1 : Nat) : Int) := by omega
      rw [hi1] at F5
      refine if_dec F5 N5 (decide (k = 3)) ?_ ?_
      · w_is_and go_11_17_18_9_3_12_2
        refine ⟨?_, WOut.intro _ F5 N5 (fun _ h => h) ⟨rfl, rfl⟩⟩
        rw [Bool.eq_iff_iff, beq_iff_eq, decide_eq_true_eq]; omega
      clear F5 N5
      intro h6 tk6 g6 F5 N5
      by_cases hk3 : k = 3
      · subst hk3
        rw [show decide (3 = 3) = true from rfl, ite_tt]
        w_is_and go_11_17_18_9_3_12_2_34
        dsimp only
        refine callWith_B (D := R) (N5 (b, bobj R) (List.mem_cons_self ..)).1 ?_
        w_is_and go_11_17_18_9_3_12_2_8
        · exact (N5 (b, bobj R) (List.mem_cons_self ..)).1
        refine bound_K (D := R) (its := rv.toArray) (n := n1) F5 N5 (hU _ rv n1) (N5 (b, bobj R) (List.mem_cons_self ..)).1 (by rw [sizeLine_eq, List.size_toArray]; omega) fun h7 F6 N6 => ?_
        clear F5 N5
        w_is_and go_11_17_18_9_3_12_2
        simp only [List.push_toArray] at N6
        rw [show Str.ofString ".*" = (⟨[46, 42].toArray⟩ : Str) from by decide +kernel] at N6
        exact WOut.intro _ F6 N6 (fun _ h => h) ⟨_, _, rfl, strsAre_append hrv (.cons _ _ .nil), _, _, rfl⟩
      · rw [show decide (k = 3) = false from decide_eq_false hk3, ite_ff]
        have hk2 : k < 3 := by omega
        obtain ⟨q, tq, hq1, hq2⟩ := hP k hk2
        w_is_and go_11_17_18_9_3_12_2
        refine sub_val (k := 2 * k + 1) (hlk _ F5.keep) hq2 (by omega) ?_
        w_is_and go_11_17_18_9_3_12_2
        refine wpAny_isNot_other rfl (fun e => nomatch e) ?_
        w_is_and go_11_17_18_9_3_12_2
        rename Fr _ _ _ _ => F6
        rename News _ _ _ _ => N6
        rename_i Fx _ lF _
        have hoff : ∀ q ∈ [(b, bobj R), (R, listOf rv.toArray n1)], q.1 ≠ Fx := fun q hq => by
          rcases List.mem_cons.mp hq with rfl | hq
          · exact Nat.ne_of_lt lF.1
          · rw [List.mem_singleton.mp hq]; first | exact Nat.ne_of_lt lF.2 | exact Nat.ne_of_lt lF.2.1
        have hqo : q.out.length ≤ 12 := hlen q (List.mem_of_getElem? hq1)
        refine whl2 (n₀ := 1 - 0) (J := fun n m nw => Ex3 fun (j : Nat) (vs2 : List Value) (n2 : Nat) => And5 (n = 1 - j) (j ≤ 1) (nw = [(Fx, listOf vs2.toArray n2), (b, bobj R), (R, listOf rv.toArray n1)]) (((j = 0 ∧ vs2 = []) ∨ (j = 1 ∧ vs2 = [.str ⟨q.out.toArray⟩ tq]))) (Ex2 fun ti tn => LV m [(Str.ofString "inp", .ref l), (Str.ofString "STAR", .ref st), (Str.ofString "res", .ref R), (Str.ofString "add", .ref b), (Str.ofString "i", .int ((2 * k + 1 + j : Nat) : Int) ti), (Str.ofString "n", .int ((7 : Nat) : Int) tn), (Str.ofString "fixed", .ref Fx)]))
          (O := fun m nw => Ex1 fun (n2 : Nat) => And2 (nw = [(Fx, listOf [Value.str ⟨q.out.toArray⟩ tq].toArray n2), (b, bobj R), (R, listOf rv.toArray n1)]) (Ex2 fun ti tn => LV m [(Str.ofString "inp", .ref l), (Str.ofString "STAR", .ref st), (Str.ofString "res", .ref R), (Str.ofString "add", .ref b), (Str.ofString "i", .int ((2 * k + 2 : Nat) : Int) ti), (Str.ofString "n", .int ((7 : Nat) : Int) tn), (Str.ofString "fixed", .ref Fx)])) F6 N6 ⟨0, [], 0, rfl, by decide, rfl, .inl ⟨rfl, rfl⟩, _, _, rfl⟩ ?_ ?_
        · clear F6 N6
          intro n m₃ nw₃ h7 tk7 g7 hJ4 F6 N6
          try k_fold
          revert F6 N6
          obtain ⟨j, vs2, n2, rfl, hj, rfl, hor, ti3, tn3, rL⟩ := hJ4
          intro F6 N6
          rw [rL.can] at F6
          have hj7 : ((2 * k + 1 + j : Nat) : Int) < ((7 : Nat) : Int) := by omega
          w_is_and go_11_17_18_9_3_12_2
          rcases hor with ⟨rfl, rfl⟩ | ⟨rfl, rfl⟩
          · refine sub_val (k := 2 * k + 1 + 0) (hlk _ F6.keep) hq2 (by omega) ?_
            w_is_and go_11_17_18_9_3_12_2
            refine wpAny_isNot_other rfl (fun e => nomatch e) ?_
            w_is_and go_11_17_18_9_3_12_2
            refine sub_val (k := 2 * k + 1 + 0) (hlk _ F6.keep) hq2 (by omega) ?_
            w_is_and go_11_17_18_9_3_12_2
            try dsimp only
            refine append_K (its := #[]) F6 N6 (.head hoff) (fun h8 F7 N7 => ?_) (by rw [sizeLine_eq]; decide)
            clear F6 N6
            w_is_and go_11_17_18_9_3_12_2
            rename Fr _ _ _ _ => F8
            rename News _ _ _ _ => N8
            exact WEnd.intro 0 _ F8 N8 (fun _ h => h) (by decide) ⟨1, [_], _, rfl, by decide, rfl, .inr ⟨rfl, rfl⟩, _, _, rfl⟩
          · refine sub_val (k := 2 * k + 1 + 1) (hlk _ F6.keep) (by rw [show 2 * k + 1 + 1 = 2 * (k + 1) by omega]; exact hS (k + 1) (by omega)) (by omega) ?_
            w_is_and go_11_17_18_9_3_12_2
            exact WOut.intro _ F6 N6 (fun _ h => h) ⟨_, rfl, _, _, rfl⟩
        · clear F6 N6
          intro m₃ nw₃ h7 tk7 g7 hJ5 F6 N6
          try k_fold
          revert F6 N6
          obtain ⟨n2, rfl, ti3, tn3, rL⟩ := hJ5
          intro F6 N6
          rw [rL.can] at F6
          try dsimp only
          w_is_and go_11_17_18_9_3_12_2
          refine join_listW (N6.isList (List.mem_cons_self ..)) (ys := txs [q.out]) (.cons _ _ .nil) (by decide) (sum_bound (n := 12) (k := 4) (fun y hy => ?_) (by first | w_is_and mem | simp) (by decide)) fun t' k9 => ?_
          · rw [List.mem_singleton.mp hy]
            show Array.size _ ≤ 12
            rw [List.size_toArray]; exact hqo
          rw [join_txs, show [q.out].flatten = q.out by simp]
          w_is_and go_11_17_18_9_3_12_2
          rename Fr _ _ _ _ => F7
          rename News _ _ _ _ => N7
          refine if_dec F7 N7 false ?_ ?_
          · w_is_and go_11_17_18_9_3_12_2
            refine ⟨?_, WOut.intro _ F7 N7 (fun _ h => h) ⟨rfl, rfl⟩⟩
            rw [beq_eq_false_iff_ne]; omega
          clear F7 N7
          intro h8 tk8 g8 F7 N7
          rw [ite_ff]
          w_is_and go_11_17_18_9_3_12_2_34
          dsimp only
          refine callWith_B (D := R) (N7 (b, bobj R) (List.mem_cons_of_mem _ (List.mem_cons_self ..))).1 ?_
          w_is_and go_11_17_18_9_3_12_2
          have e4 : (⟨q.out.toArray⟩ : Str).length ≤ sizeLine := by rw [sizeLine_eq]; show Array.size _ ≤ _; rw [List.size_toArray]; omega
          refine SB.field_str (fun t9 k9 => ?_) e4
          have e5 : Str.empty ++ Str.ofString "(?>.*?" ++ (⟨q.out.toArray⟩ : Str) = ⟨([40, 63, 62, 46, 42, 63] ++ q.out).toArray⟩ := by
            rw [show Str.empty ++ Str.ofString "(?>.*?" = (⟨[40, 63, 62, 46, 42, 63].toArray⟩ : Str) from by decide +kernel]; exact mk_append _ _
          try dsimp only
          rw [e5]
          refine ⟨by rw [sizeLine_eq]; show ([40, 63, 62, 46, 42, 63] ++ q.out).toArray.size ≤ _; rw [List.size_toArray, List.length_append]; simp only [List.length_cons, List.length_nil]; omega, ?_⟩
          refine joinParts_consE (joinParts_cons ?_)
          have e6 : (⟨([40, 63, 62, 46, 42, 63] ++ q.out).toArray⟩ : Str) ++ Str.ofString ")" = ⟨(wrapF q).toArray⟩ := by
            rw [show Str.ofString ")" = (⟨[41].toArray⟩ : Str) from by decide +kernel]; exact mk_append _ _
          have e7 : (⟨(wrapF q).toArray⟩ : Str).length ≤ sizeLine := by rw [sizeLine_eq]; show Array.size _ ≤ _; rw [List.size_toArray]; simp only [wrapF, List.length_append, List.length_cons, List.length_nil]; omega
          refine wpAny_Constant_str ?_
          dsimp only
          rw [e6]
          refine ⟨e7, joinParts_nilE (joinParts_nil ?_ e7)⟩
          w_is_and go_11_17_18_9_3_12_2_8
          · exact (N7 (b, bobj R) (List.mem_cons_of_mem _ (List.mem_cons_self ..))).1
          have hRF : (Fx : Addr) ≠ R := Ne.symm (hoff (R, listOf rv.toArray n1) (by first | w_is_and mem | simp))
          refine bound_K (D := R) (its := rv.toArray) (n := n1) F7 N7 (.tail hRF (hU _ rv n1)) (N7 (b, bobj R) (List.mem_cons_of_mem _ (List.mem_cons_self ..))).1 (by rw [sizeLine_eq, List.size_toArray]; omega) fun h9 F8 N8 => ?_
          clear F7 N7
          w_is_and go_11_17_18_9_3_12_2
          simp only [List.push_toArray] at N8
          refine WEnd.intro (4 - (k + 1)) _ F8 N8 (fun _ h => List.mem_cons_of_mem _ h) (by omega) ⟨k + 1, _, _, rfl, by omega, rfl, ?_, _, _, rfl⟩
          have e8 : ([p1, p2, p3].map wrapF).take (k + 1) = ([p1, p2, p3].map wrapF).take k ++ [wrapF q] := by
            rw [List.take_add_one, List.getElem?_map, hq1]; rfl
          rw [e8, show txs (([p1, p2, p3].map wrapF).take k ++ [wrapF q]) = txs (([p1, p2, p3].map wrapF).take k) ++ [⟨(wrapF q).toArray⟩] by simp]
          exact strsAre_append hrv (.cons _ _ .nil)
    · clear F4 N4
      intro m₂ nw₂ h5 tk5 g5 hJ6 F4 N4
      try k_fold
      revert F4 N4
      obtain ⟨rv, n1, rfl, hrv, ti2, tn2, rL⟩ := hJ6
      intro F4 N4
      rw [rL.can] at F4
      try dsimp only
      w_is_and go_11_17_18_9_3_12_2
      have hfl : ([p1, p2, p3].map wrapF ++ [[46, 42]]).flatten = wrapF p1 ++ wrapF p2 ++ wrapF p3 ++ [46, 42] := by simp
      refine join_listW (N4.isList (List.mem_cons_of_mem _ (List.mem_cons_self ..))) (ys := txs ([p1, p2, p3].map wrapF ++ [[46, 42]])) hrv (by decide) (sum_bound (n := 19) (k := 4) (fun y hy => ?_) (by first | w_is_and mem | simp) (by decide)) fun t' k => ?_
      · have h1 := hlen p1 (by first | w_is_and mem | simp)
        have h2 := hlen p2 (by first | w_is_and mem | simp)
        have h3 := hlen p3 (by first | w_is_and mem | simp)
        simp only [List.map_cons, List.map_nil, List.cons_append, List.nil_append, List.mem_cons, List.not_mem_nil, or_false] at hy
        rcases hy with rfl | rfl | rfl | rfl
        · show Array.size _ ≤ 19; rw [List.size_toArray]; simp only [wrapF, List.length_append, List.length_cons, List.length_nil]; omega
        · show Array.size _ ≤ 19; rw [List.size_toArray]; simp only [wrapF, List.length_append, List.length_cons, List.length_nil]; omega
        · show Array.size _ ≤ 19; rw [List.size_toArray]; simp only [wrapF, List.length_append, List.length_cons, List.length_nil]; omega
        · decide
      rw [join_txs, hfl]
      have hwl : (wrapF p1 ++ wrapF p2 ++ wrapF p3 ++ [46, 42]).length ≤ 100 := by
        have := hlen p1 (by first | w_is_and mem | simp)
        have := hlen p2 (by first | w_is_and mem | simp)
        have := hlen p3 (by first | w_is_and mem | simp)
        simp only [wrapF, List.length_append, List.length_cons, List.length_nil]; omega
      generalize hW : wrapF p1 ++ wrapF p2 ++ wrapF p3 ++ [46, 42] = W at hwl hfl
      w_is_and go_11_17_18_9_3_12_2
      have e4 : (⟨W.toArray⟩ : Str).length ≤ sizeLine := by rw [sizeLine_eq]; show Array.size _ ≤ _; rw [List.size_toArray]; omega
      refine SB.field_str (fun t9 k9 => ?_) e4
      have e5 : Str.empty ++ Str.ofString "(?s:" ++ (⟨W.toArray⟩ : Str) = ⟨([40, 63, 115, 58] ++ W).toArray⟩ := by
        rw [show Str.empty ++ Str.ofString "(?s:" = (⟨[40, 63, 115, 58].toArray⟩ : Str) from by decide +kernel]; exact mk_append _ _
      try dsimp only
      rw [e5]
      refine ⟨by rw [sizeLine_eq]; show ([40, 63, 115, 58] ++ W).toArray.size ≤ _; rw [List.size_toArray, List.length_append]; simp only [List.length_cons, List.length_nil]; omega, ?_⟩
      refine joinParts_consE (joinParts_cons ?_)
      have e6 : (⟨([40, 63, 115, 58] ++ W).toArray⟩ : Str) ++ Str.ofString ")\\Z" = ⟨([40, 63, 115, 58] ++ W ++ [41, 92, 90]).toArray⟩ := by
        rw [show Str.ofString ")\\Z" = (⟨[41, 92, 90].toArray⟩ : Str) from by decide +kernel]; exact mk_append _ _
      have e7 : (⟨([40, 63, 115, 58] ++ W ++ [41, 92, 90]).toArray⟩ : Str).length ≤ sizeLine := by rw [sizeLine_eq]; show Array.size _ ≤ _; rw [List.size_toArray]; simp only [List.length_append, List.length_cons, List.length_nil]; omega
      refine wpAny_Constant_str ?_
      dsimp only
      rw [e6]
      refine ⟨e7, joinParts_nilE (joinParts_nil ?_ e7)⟩
      w_is_and go_11_17_18_9_3_12_2
      rename Fr _ _ _ _ => F5
      have e8 : ([40, 63, 115, 58] ++ W ++ [41, 92, 90] : List Nat) = [40, 63, 115, 58] ++ (wrapF p1 ++ wrapF p2 ++ wrapF p3 ++ [46, 42, 41, 92, 90]) := by rw [← hW]; simp
      rw [e8]
      exact h _ _ g5 _ F5.keep
end Kjt_call
section
variable {w : World} {p : Program} {loose : List Str} {mean : ExcName → Option Value} {mg mb : Str → Option Value} {dp un : Nat} {fr : Option (List Env)} {gd : Option (List Code)} {s : Shared} {Q E : Value → Shared → Prop}
theorem jt_call {l st : Addr} {vs : List Value} {p1 p2 p3 : Pc} (X : (KK w).In s.heap) (T : Top p loose mean mg mb s.heap) (hd : dp + 20 < recursionLimit) (hu : un + 100 < cLine) (hl : s.heap.IsList l vs.toArray) (hvs : ResAre st vs [none, some p1, none, some p2, none, some p3, none]) (hlen : ∀ q ∈ [p1, p2, p3], q.out.length ≤ 12) (h : ∀ h' t' (g' : BG) tk, Ext s.heap h' → Q (.str ⟨([40, 63, 115, 58] ++ (wrapF p1 ++ wrapF p2 ++ wrapF p3 ++ [46, 42, 41, 92, 90])).toArray⟩ tk) { s with heap := h', toks := t', gens := g' }) (hB : AllBare s.gens := by first | assumption | exact BG.ok _) :
    wpAny (model PG w) (Ar dp un fr gd) (call (.ref 69) [.ref l, .ref st]) Q E s :=
  (Base.all Kjt_call.St (by with_unfolding_all exact Kjt_call.at_bad) ⟨w, p, loose, mean, mg, mb, dp, un, fr, gd, s, Q, E⟩) l st vs p1 p2 p3 X T hd hu hl hvs hlen h hB
end
end Mine
end

section
open PySem PySem.W PyProof.Rows PySem.Calls PySem.Spec
set_option maxRecDepth 100000
set_option maxHeartbeats 1000000
namespace Mine
/-! ### plain: what `_check_parenthesis` says of a row with hidden texts -/
inductive Un
  | one (c : Nat)
  | esc (d : Nat)
noncomputable def Un.text : Un → List Nat
  | .one c => [c]
  | .esc d => [92, d]
noncomputable def Un.good : Un → Prop
  | .one c => c ≠ 92
  | .esc _ => True
noncomputable def upcs : List Un → Nat → List (Nat × Str)
  | [], _ => []
  | .one c :: r, i => (i, ⟨#[c]⟩) :: upcs r (i + 1)
  | .esc d :: r, i => (i + 1, ⟨#[92, d]⟩) :: upcs r (i + 2)
noncomputable abbrev flatU (us : List Un) : List Nat := us.flatMap Un.text
theorem pcs_units : ∀ (us : List Un) (i : Nat), (∀ u ∈ us, u.good) → pcs (flatU us) i false = upcs us i
  | [], i, _ => rfl
  | .one c :: r, i, h => by
    have hc : c ≠ 92 := h _ (List.mem_cons_self ..)
    show (if c = 92 then pcs (flatU r) (i + 1) true else (i, ⟨#[c]⟩) :: pcs (flatU r) (i + 1) false) = _
    rw [if_neg hc, pcs_units r _ fun u hu => h u (List.mem_cons_of_mem _ hu)]; rfl
  | .esc d :: r, i, h => by
    show (if 92 = 92 then (i + 1, ⟨#[92, d]⟩) :: pcs (flatU r) (i + 1 + 1) false else _) = _
    rw [if_pos rfl, pcs_units r _ fun u hu => h u (List.mem_cons_of_mem _ hu)]; rfl
noncomputable def sqU : List Un → Bool → List Un
  | [], _ => []
  | .one c :: r, o => if c = 34 then sqU r (!o) else if o then sqU r o else .one c :: sqU r o
  | .esc d :: r, o => if o then sqU r o else .esc d :: sqU r o
noncomputable def closedU : List Un → Bool → Bool
  | [], o => !o
  | .one c :: r, o => if c = 34 then closedU r (!o) else closedU r o
  | .esc _ :: r, o => closedU r o
noncomputable def fin (x : List Nat) (y : Nat × List Str) : List Nat := ((if y.1 < x.length then y.2 ++ [⟨(x.drop y.1).toArray⟩] else y.2).map (·.cps.toList)).flatten
theorem fin_eq (x : List Nat) (st : Nat) (res : List Str) : fin x (st, res) = (res.map (·.cps.toList)).flatten ++ x.drop st := by
  unfold fin
  by_cases h : st < x.length
  · rw [if_pos h, List.map_append, List.flatten_append]; simp
  · rw [if_neg h, List.drop_of_length_le (by omega), List.append_nil]
theorem one34 (c : Nat) : ((⟨#[c]⟩ : Str) = Str.ofString "\"") ↔ c = 34 := by
  rw [show Str.ofString "\"" = (⟨#[34]⟩ : Str) from by decide +kernel]
  constructor
  · intro h
    have := congrArg (fun s : Str => s.cps.toList) h
    simpa using this
  · rintro rfl; rfl
theorem esc34 (d : Nat) : ¬ ((⟨#[92, d]⟩ : Str) = Str.ofString "\"") := by
  rw [show Str.ofString "\"" = (⟨#[34]⟩ : Str) from by decide +kernel]
  intro h
  have := congrArg (fun s : Str => s.cps.toList.length) h
  exact absurd this (by show ¬ (2 : Nat) = 1; decide)
theorem take_drop_snoc (x : List Nat) (st i k : Nat) (t r : List Nat) (hx : x.drop i = t ++ r) (hk : k = t.length) (hst : st ≤ i) (hi : i ≤ x.length) : (x.take (i + k)).drop st = (x.take i).drop st ++ t := by
  subst hk
  rw [List.take_add, hx, List.take_left, List.drop_append_of_le_length (by rw [List.length_take]; omega)]
noncomputable def Lo (st i : Nat) : Option Nat → Prop
  | none => st ≤ i
  | some o => st ≤ o ∧ o ≤ i
theorem stq_units : ∀ (us : List Un) (x : List Nat) (i st : Nat) (op : Option Nat) (res : List Str), x.drop i = flatU us → i ≤ x.length → closedU us op.isSome = true →
    Lo st i op →
    fin x (stq x (upcs us i) st op res) = (res.map (·.cps.toList)).flatten ++ (x.take (op.getD i)).drop st ++ flatU (sqU us op.isSome)
  | [], x, i, st, none, res, hx, hi, _, hst => by
    have hl : i = x.length := by
      have := congrArg List.length hx
      rw [List.length_drop] at this
      have e : (flatU []).length = 0 := rfl
      omega
    show fin x (st, res) = _
    rw [fin_eq, hl]
    simp [sqU]
  | [], x, i, st, some o, res, _, _, hc, _ => by cases hc
  | .one c :: r, x, i, st, op, res, hx, hi, hc, hst => by
    have hx1 : x.drop (i + 1) = flatU r := by
      have := congrArg (List.drop 1) hx
      rw [List.drop_drop] at this; exact this
    have hi1 : i + 1 ≤ x.length := by
      have := congrArg List.length hx
      rw [List.length_drop] at this
      have e : (flatU (.one c :: r)).length = 1 + (flatU r).length := by simp [flatU, Un.text]; omega
      omega
    by_cases h34 : c = 34
    · subst h34
      have hq : (⟨#[34]⟩ : Str) = Str.ofString "\"" := (one34 34).mpr rfl
      cases op with
      | none =>
        have ih := stq_units r x (i + 1) st (some i) res hx1 hi1 hc ⟨hst, Nat.le_succ i⟩
        show fin x (if (⟨#[34]⟩ : Str) = Str.ofString "\"" then stq x (upcs r (i + 1)) st (some i) res else _) = _
        rw [if_pos hq, ih]; rfl
      | some o =>
        have ih := stq_units r x (i + 1) (i + 1) none (if st ≠ o then res ++ [⟨((x.drop st).take (o - st)).toArray⟩] else res) hx1 hi1 hc (Nat.le_refl _)
        show fin x (if (⟨#[34]⟩ : Str) = Str.ofString "\"" then stq x (upcs r (i + 1)) (i + 1) none (if st ≠ o then res ++ [⟨((x.drop st).take (o - st)).toArray⟩] else res) else _) = _
        rw [if_pos hq, ih]
        have e1 : (x.take ((none : Option Nat).getD (i + 1))).drop (i + 1) = [] := List.drop_of_length_le (by rw [List.length_take]; exact Nat.min_le_left ..)
        have e2 : ((if st ≠ o then res ++ [(⟨((x.drop st).take (o - st)).toArray⟩ : Str)] else res).map (·.cps.toList)).flatten = (res.map (·.cps.toList)).flatten ++ (x.take o).drop st := by
          by_cases he : st = o
          · subst he
            rw [if_neg (by simp), List.drop_of_length_le (by rw [List.length_take]; exact Nat.min_le_left ..), List.append_nil]
          · rw [if_pos he, List.map_append, List.flatten_append]
            simp [List.drop_take]
        rw [e1, e2, List.append_nil]; rfl
    · have hq : ¬ ((⟨#[c]⟩ : Str) = Str.ofString "\"") := fun e => h34 ((one34 c).mp e)
      have hc' : closedU r op.isSome = true := by
        have : (if c = 34 then closedU r (!op.isSome) else closedU r op.isSome) = true := hc
        rw [if_neg h34] at this; exact this
      have hst' : Lo st (i + 1) op := by
        cases op with
        | none => exact Nat.le_succ_of_le hst
        | some o => exact ⟨hst.1, Nat.le_succ_of_le hst.2⟩
      have ih := stq_units r x (i + 1) st op res hx1 hi1 hc' hst'
      show fin x (if (⟨#[c]⟩ : Str) = Str.ofString "\"" then _ else stq x (upcs r (i + 1)) st op res) = _
      rw [if_neg hq, ih]
      cases op with
      | none =>
        have e := take_drop_snoc x st i 1 [c] (flatU r) hx rfl hst hi
        show _ ++ (x.take (i + 1)).drop st ++ flatU (sqU r false) = _ ++ (x.take i).drop st ++ flatU (if c = 34 then _ else if false = true then _ else .one c :: sqU r false)
        rw [e, if_neg h34, if_neg Bool.false_ne_true]
        simp [flatU, Un.text]
      | some o =>
        show _ ++ (x.take o).drop st ++ flatU (sqU r true) = _ ++ (x.take o).drop st ++ flatU (if c = 34 then _ else if true = true then sqU r true else _)
        rw [if_neg h34, if_pos rfl]
  | .esc d :: r, x, i, st, op, res, hx, hi, hc, hst => by
    have hx1 : x.drop (i + 2) = flatU r := by
      have := congrArg (List.drop 2) hx
      rw [List.drop_drop] at this; exact this
    have hi1 : i + 2 ≤ x.length := by
      have := congrArg List.length hx
      rw [List.length_drop] at this
      have e : (flatU (.esc d :: r)).length = 2 + (flatU r).length := by simp [flatU, Un.text]; omega
      omega
    have hst' : Lo st (i + 2) op := by
      cases op with
      | none => exact Nat.le_trans hst (by omega)
      | some o => exact ⟨hst.1, Nat.le_trans hst.2 (by omega)⟩
    have ih := stq_units r x (i + 2) st op res hx1 hi1 hc hst'
    show fin x (if (⟨#[92, d]⟩ : Str) = Str.ofString "\"" then _ else stq x (upcs r (i + 2)) st op res) = _
    rw [if_neg (esc34 d), ih]
    cases op with
    | none =>
      have e := take_drop_snoc x st i 2 [92, d] (flatU r) hx rfl hst hi
      show _ ++ (x.take (i + 2)).drop st ++ flatU (sqU r false) = _ ++ (x.take i).drop st ++ flatU (if false = true then _ else .esc d :: sqU r false)
      rw [e, if_neg Bool.false_ne_true]
      simp [flatU, Un.text]
    | some o =>
      show _ ++ (x.take o).drop st ++ flatU (sqU r true) = _ ++ (x.take o).drop st ++ flatU (if true = true then sqU r true else _)
      rw [if_pos rfl]

theorem sqU_free : ∀ us : List Un, 34 ∉ flatU us → sqU us false = us
  | [], _ => rfl
  | .one c :: r, h => by
    have hc : c ≠ 34 := fun e => h (by simp [flatU, Un.text, e])
    show (if c = 34 then _ else if false = true then _ else .one c :: sqU r false) = _
    rw [if_neg hc, if_neg Bool.false_ne_true, sqU_free r fun m => h (by simp only [flatU, List.flatMap_cons]; exact List.mem_append_right _ m)]
  | .esc d :: r, h => by
    show (if false = true then _ else .esc d :: sqU r false) = _
    rw [if_neg Bool.false_ne_true, sqU_free r fun m => h (by simp only [flatU, List.flatMap_cons]; exact List.mem_append_right _ m)]
theorem strp_units (us : List Un) (hg : ∀ u ∈ us, u.good) (hc : closedU us false = true) : strp' (flatU us) = flatU (sqU us false) := by
  unfold strp'
  by_cases h : (flatU us).contains 34 = true
  · rw [if_pos h, pcs_units us 0 hg]
    have := stq_units us (flatU us) 0 0 none [] rfl (Nat.zero_le _) hc (Nat.le_refl 0)
    simpa [fin] using this
  · rw [if_neg h, sqU_free us (by simpa using h)]
noncomputable def dU : List Un → Bool → Int → Option Int
  | [], _, d => some d
  | .one c :: r, o, d => if c = 34 then dU r (!o) d else if o then dU r o d else if c = 40 then dU r o (d + 1) else if c = 41 then (if d - 1 < 0 then none else dU r o (d - 1)) else dU r o d
  | .esc _ :: r, o, d => dU r o d
theorem oneS (c k : Nat) : ((⟨#[c]⟩ : Str) = (⟨#[k]⟩ : Str)) ↔ c = k := by
  constructor
  · intro h
    have := congrArg (fun s : Str => s.cps.toList) h
    simpa using this
  · rintro rfl; rfl
theorem escS (d k : Nat) : ¬ ((⟨#[92, d]⟩ : Str) = (⟨#[k]⟩ : Str)) := fun h => by
  have := congrArg (fun s : Str => s.cps.toList.length) h
  exact absurd this (by show ¬ (2 : Nat) = 1; decide)
theorem dep_units : ∀ (us : List Un) (o : Bool) (i : Nat) (d : Int), dep ((upcs (sqU us o) i).map (·.2)) d = dU us o d
  | [], _, _, _ => rfl
  | .one c :: r, o, i, d => by
    show dep ((upcs (if c = 34 then sqU r (!o) else if o then sqU r o else .one c :: sqU r o) i).map (·.2)) d = (if c = 34 then dU r (!o) d else if o then dU r o d else if c = 40 then dU r o (d + 1) else if c = 41 then (if d - 1 < 0 then none else dU r o (d - 1)) else dU r o d)
    by_cases h : c = 34
    · rw [if_pos h, if_pos h]; exact dep_units r (!o) i d
    · rw [if_neg h, if_neg h]
      cases o with
      | true => exact dep_units r true i d
      | false =>
        rw [if_neg Bool.false_ne_true, if_neg Bool.false_ne_true]
        show (if (⟨#[c]⟩ : Str) = Str.ofString "(" then dep ((upcs (sqU r false) (i + 1)).map (·.2)) (d + 1) else if (⟨#[c]⟩ : Str) = Str.ofString ")" then (if d - 1 < 0 then none else dep ((upcs (sqU r false) (i + 1)).map (·.2)) (d - 1)) else dep ((upcs (sqU r false) (i + 1)).map (·.2)) d) = _
        rw [dep_units r false, dep_units r false, dep_units r false, o40, o41]
        by_cases h1 : c = 40
        · rw [if_pos ((oneS c 40).mpr h1), if_pos h1]
        · rw [if_neg (fun e => h1 ((oneS c 40).mp e)), if_neg h1]
          by_cases h2 : c = 41
          · rw [if_pos ((oneS c 41).mpr h2), if_pos h2]
          · rw [if_neg (fun e => h2 ((oneS c 41).mp e)), if_neg h2]
  | .esc e :: r, o, i, d => by
    show dep ((upcs (if o then sqU r o else .esc e :: sqU r o) i).map (·.2)) d = dU r o d
    cases o with
    | true => exact dep_units r true i d
    | false =>
      rw [if_neg Bool.false_ne_true]
      show (if (⟨#[92, e]⟩ : Str) = Str.ofString "(" then _ else if (⟨#[92, e]⟩ : Str) = Str.ofString ")" then _ else dep ((upcs (sqU r false) (i + 2)).map (·.2)) d) = _
      rw [o40, o41, if_neg (escS e 40), if_neg (escS e 41)]
      exact dep_units r false _ d
theorem sqU_good : ∀ (us : List Un) (o : Bool), (∀ u ∈ us, u.good) → ∀ u ∈ sqU us o, u.good
  | [], _, _ => fun _ h => nomatch h
  | .one c :: r, o, h => by
    have hr : ∀ u ∈ r, u.good := fun u hu => h u (List.mem_cons_of_mem _ hu)
    show ∀ u ∈ (if c = 34 then sqU r (!o) else if o then sqU r o else .one c :: sqU r o), u.good
    by_cases h1 : c = 34
    · rw [if_pos h1]; exact sqU_good r _ hr
    · rw [if_neg h1]
      cases o with
      | true => exact sqU_good r _ hr
      | false =>
        intro u hu
        rcases List.mem_cons.mp hu with rfl | hu
        · exact h _ (List.mem_cons_self ..)
        · exact sqU_good r _ hr u hu
  | .esc d :: r, o, h => by
    have hr : ∀ u ∈ r, u.good := fun u hu => h u (List.mem_cons_of_mem _ hu)
    cases o with
    | true => exact sqU_good r _ hr
    | false =>
      intro u hu
      rcases List.mem_cons.mp hu with rfl | hu
      · trivial
      · exact sqU_good r _ hr u hu
theorem chk_units (us : List Un) (hg : ∀ u ∈ us, u.good) (hc : closedU us false = true) : chk (flatU us) = (dU us false 0 == some 0) := by
  unfold chk
  rw [strp_units us hg hc, pcs_units _ 0 (sqU_good us false hg), dep_units]
end Mine
end

section
open PySem PySem.W PyProof.Rows PySem.Calls PySem.Spec
set_option maxRecDepth 100000
set_option maxHeartbeats 1000000
namespace Mine
/-- a text that hides its brackets -/
noncomputable def Neu (t : List Nat) : Prop := ∃ us : List Un, flatU us = t ∧ (∀ u ∈ us, u.good) ∧ (∀ r, closedU (us ++ r) false = closedU r false) ∧ ∀ r d, dU (us ++ r) false d = dU r false d
theorem Neu.nil : Neu [] := ⟨[], rfl, (fun _ h => nomatch h), (fun _ => rfl), fun _ _ => rfl⟩
theorem Neu.append {a b : List Nat} (x : Neu a) (y : Neu b) : Neu (a ++ b) := by
  obtain ⟨us, rfl, h1, h2, h3⟩ := x
  obtain ⟨vs, rfl, k1, k2, k3⟩ := y
  refine ⟨us ++ vs, List.flatMap_append, fun u hu => (List.mem_append.mp hu).elim (h1 u) (k1 u), fun r => ?_, fun r d => ?_⟩
  · rw [List.append_assoc, h2, k2]
  · rw [List.append_assoc, h3, k3]
theorem good_cons {u : Un} {us : List Un} (h : u.good) (hs : ∀ v ∈ us, v.good) : ∀ v ∈ u :: us, v.good := List.forall_mem_cons.mpr ⟨h, hs⟩
theorem good_nil : ∀ v ∈ ([] : List Un), v.good := fun _ h => nomatch h
theorem neu_texts (k : Nat) (h : k < 7) : Neu (textsN.getD k []) := by
  rcases (by omega : k = 0 ∨ k = 1 ∨ k = 2 ∨ k = 3 ∨ k = 4 ∨ k = 5 ∨ k = 6) with rfl | rfl | rfl | rfl | rfl | rfl | rfl
  · exact ⟨[.esc 41], rfl, good_cons trivial good_nil, fun _ => rfl, fun _ _ => rfl⟩
  · exact ⟨[.esc 40], rfl, good_cons trivial good_nil, fun _ => rfl, fun _ _ => rfl⟩
  · exact ⟨[.one 34, .one 41, .one 34], rfl, good_cons (by show (34 : Nat) ≠ 92; decide) (good_cons (by show (41 : Nat) ≠ 92; decide) (good_cons (by show (34 : Nat) ≠ 92; decide) good_nil)), fun _ => rfl, fun _ _ => rfl⟩
  · exact ⟨[.one 34, .one 40, .one 40, .one 34], rfl, good_cons (by show (34 : Nat) ≠ 92; decide) (good_cons (by show (40 : Nat) ≠ 92; decide) (good_cons (by show (40 : Nat) ≠ 92; decide) (good_cons (by show (34 : Nat) ≠ 92; decide) good_nil))), fun _ => rfl, fun _ _ => rfl⟩
  · exact ⟨[.esc 34], rfl, good_cons trivial good_nil, fun _ => rfl, fun _ _ => rfl⟩
  · exact ⟨[.one 34, .esc 34, .one 41, .one 34], rfl, good_cons (by show (34 : Nat) ≠ 92; decide) (good_cons trivial (good_cons (by show (41 : Nat) ≠ 92; decide) (good_cons (by show (34 : Nat) ≠ 92; decide) good_nil))), fun _ => rfl, fun _ _ => rfl⟩
  · exact ⟨[.esc 92], rfl, good_cons trivial good_nil, fun _ => rfl, fun _ _ => rfl⟩
theorem neu_addAt {l : List (List Nat)} {k : Nat} {t : List Nat} (h : ∀ r ∈ l, Neu r) (ht : Neu t) : ∀ r ∈ addAt l k t, Neu r := by
  intro r hr
  rcases List.mem_or_eq_of_mem_set hr with hr | rfl
  · exact h r hr
  · refine Neu.append ?_ ht
    rw [List.getD_eq_getElem?_getD]
    cases q : l[k]? with
    | none => exact Neu.nil
    | some x => exact h x (List.mem_of_getElem? q)
theorem hidN_neu (n : Nat) : ∀ r ∈ hidN n, Neu r :=
  neu_addAt (neu_addAt (fun r hr => by rw [(List.mem_replicate.mp hr).2]; exact Neu.nil) (neu_texts _ (Nat.mod_lt _ (by decide)))) (neu_texts _ (Nat.mod_lt _ (by decide)))
theorem hidN_len (n : Nat) : (hidN n).length = 8 := by unfold hidN; rw [addAt_len, addAt_len, List.length_replicate]
theorem hidN_le (n : Nat) : ∀ r ∈ hidN n, r.length ≤ 10 :=
  addAt_bound (a := 5) (b := 5) (addAt_bound (a := 0) (b := 5) (fun r hr => by rw [(List.mem_replicate.mp hr).2]; exact Nat.le_refl _) (texts_at _ (Nat.mod_lt _ (by decide))).2) (texts_at _ (Nat.mod_lt _ (by decide))).2
theorem cells_units : ∀ (r : List Nat) (hid : List (List Nat)), hid.length = r.length → (∀ t ∈ hid, Neu t) → (∀ c ∈ r, c ≠ 92 ∧ c ≠ 34) →
    ∃ us : List Un, flatU us = (cellsF r hid).flatten ∧ (∀ u ∈ us, u.good) ∧ closedU us false = true ∧ ∀ d, dU us false d = dU (r.map Un.one) false d
  | [], [], _, _, _ => ⟨[], rfl, good_nil, rfl, fun _ => rfl⟩
  | [], _ :: _, h, _, _ => by cases h
  | _ :: _, [], h, _, _ => by cases h
  | c :: r, t :: hid, h, hn, hc => by
    obtain ⟨us, h1, h2, h3, h4⟩ := cells_units r hid (Nat.succ.inj h) (fun t ht => hn t (List.mem_cons_of_mem _ ht)) fun c hc' => hc c (List.mem_cons_of_mem _ hc')
    obtain ⟨ut, k1, k2, k3, k4⟩ := hn t (List.mem_cons_self ..)
    obtain ⟨c1, c2⟩ := hc c (List.mem_cons_self ..)
    refine ⟨.one c :: (ut ++ us), ?_, good_cons c1 fun u hu => (List.mem_append.mp hu).elim (k2 u) (h2 u), ?_, fun d => ?_⟩
    · show [c] ++ (ut ++ us).flatMap Un.text = (c :: t) ++ (cellsF r hid).flatten
      rw [List.flatMap_append, show ut.flatMap Un.text = t from k1, show us.flatMap Un.text = (cellsF r hid).flatten from h1]
      simp
    · show (if c = 34 then _ else closedU (ut ++ us) false) = true
      rw [if_neg c2, k3]; exact h3
    · have e : ∀ d, dU (ut ++ us) false d = dU (r.map Un.one) false d := fun d => (k4 us d).trans (h4 d)
      show (if c = 34 then _ else if false = true then _ else if c = 40 then dU (ut ++ us) false (d + 1) else if c = 41 then (if d - 1 < 0 then none else dU (ut ++ us) false (d - 1)) else dU (ut ++ us) false d) = (if c = 34 then _ else if false = true then _ else if c = 40 then dU (r.map Un.one) false (d + 1) else if c = 41 then (if d - 1 < 0 then none else dU (r.map Un.one) false (d - 1)) else dU (r.map Un.one) false d)
      rw [if_neg c2, if_neg c2, if_neg Bool.false_ne_true, if_neg Bool.false_ne_true, e, e, e]
theorem ones_units : ∀ (r : List Nat), (∀ c ∈ r, c ≠ 92 ∧ c ≠ 34) → flatU (r.map Un.one) = r ∧ (∀ u ∈ r.map Un.one, u.good) ∧ closedU (r.map Un.one) false = true
  | [], _ => ⟨rfl, good_nil, rfl⟩
  | c :: r, hc => by
    obtain ⟨h1, h2, h3⟩ := ones_units r fun c hc' => hc c (List.mem_cons_of_mem _ hc')
    obtain ⟨c1, c2⟩ := hc c (List.mem_cons_self ..)
    refine ⟨congrArg (c :: ·) h1, good_cons c1 h2, ?_⟩
    show (if c = 34 then _ else closedU (r.map Un.one) false) = true
    rw [if_neg c2]; exact h3
/-- the hidden texts change nothing -/
theorem chk_cells (r : List Nat) (hid : List (List Nat)) (hl : hid.length = r.length) (hn : ∀ t ∈ hid, Neu t) (hc : ∀ c ∈ r, c ≠ 92 ∧ c ≠ 34) : chk (cellsF r hid).flatten = chk r := by
  obtain ⟨us, h1, h2, h3, h4⟩ := cells_units r hid hl hn hc
  obtain ⟨k1, k2, k3⟩ := ones_units r hc
  have e := chk_units (r.map Un.one) k2 k3
  rw [k1] at e
  rw [← h1, chk_units us h2 h3, h4, e]
theorem rowsF_signs : ∀ r ∈ rowsF, ∀ c ∈ r, c ≠ 92 ∧ c ≠ 34 := by decide +kernel
theorem told_row (n : Nat) (r : List Nat) (hr : r ∈ rowsF) : toldF (hidN n) r = chk r :=
  chk_cells r (hidN n) ((hidN_len n).trans (rowsF_len r hr).1.symm) (hidN_neu n) (rowsF_signs r hr)
theorem told_end (n : Nat) (r : List Nat) (hr : r ∈ rowsF) : chk ((cellsF r (hidN n)).take 7).flatten = chk (r.take 7) := by
  have e : (cellsF r (hidN n)).take 7 = cellsF (r.take 7) ((hidN n).take 7) := by
    unfold cellsF; rw [List.take_zipWith]
  rw [e]
  exact chk_cells _ _ (by rw [List.length_take, List.length_take, hidN_len, (rowsF_len r hr).1]) (fun t ht => hidN_neu n t (List.mem_of_mem_take ht)) fun c hc => rowsF_signs r hr c (List.mem_of_mem_take hc)
theorem rows_ends : ∀ r ∈ rowsF, chk r = true → chk (r.take 7) = false := by decide +kernel
/-- the rows that are taken -/
noncomputable def goodR : List (List Nat) := rowsF.filter chk
theorem told_filter (n : Nat) : rowsF.filter (toldF (hidN n)) = goodR := List.filter_congr fun r hr => told_row n r hr
theorem goodR_ne : goodR ≠ [] := by decide +kernel
theorem cameF_map (f : Nat → Nat) : ∀ (r l p o : List Nat), cameF r (l.map f) (p.map f) (o.map f) = (cameF r l p o).map (List.map f)
  | [], l, p, o => rfl
  | d :: r, l, p, o => by
    by_cases h : d = 40
    · subst h
      cases l with
      | nil => rfl
      | cons c l =>
        rw [List.map_cons, cameF_open, cameF_open]
        exact cameF_map f r l (c :: p) o
    · cases p with
      | nil => rw [List.map_nil, cameF_stop h, cameF_stop h]; rfl
      | cons c p =>
        rw [List.map_cons, cameF_close h, cameF_close h]
        have := cameF_map f r l p (o ++ [c])
        rw [List.map_append] at this; exact this
/-- the order that comes off, by places -/
noncomputable def cameI (r : List Nat) : List Nat := (cameF r [0, 1, 2, 3] [] []).getD []
theorem cameI_some : ∀ r ∈ rowsF, chk r = true → cameF r [0, 1, 2, 3] [] [] = some (cameI r) := by decide +kernel
theorem came_row (a b c d : Nat) (r : List Nat) (hr : r ∈ rowsF) (hk : chk r = true) : cameF r [a, b, c, d] [] [] = some ((cameI r).map fun i => [a, b, c, d].getD i 0) := by
  have := cameF_map (fun i => [a, b, c, d].getD i 0) r [0, 1, 2, 3] [] []
  rw [cameI_some r hr hk] at this
  exact this
end Mine
end

section
open PySem PySem.W PyProof.Rows PySem.Calls PySem.Spec
set_option maxRecDepth 100000
set_option maxHeartbeats 1000000
namespace Mine
/-! ### plain: orders by places -/
theorem insF_map (f : Nat → Nat) (c : Nat) (o : List Nat) : insF (f c) (o.map f) = (insF c o).map (List.map f) := by
  unfold insF
  rw [List.length_map, List.map_map]
  refine List.map_congr_left fun k _ => ?_
  simp [List.map_take, List.map_drop]
theorem ordN_map (f : Nat → Nat) (l : List Nat) : ordN (l.map f) = (ordN l).map (List.map f) := by
  have key : ∀ (l : List Nat) (acc : List (List Nat)), (l.map f).foldl (fun acc c => acc.flatMap (insF c)) (acc.map (List.map f)) = (l.foldl (fun acc c => acc.flatMap (insF c)) acc).map (List.map f) := by
    intro l
    induction l with
    | nil => intro acc; rfl
    | cons c r ih =>
      intro acc
      show (r.map f).foldl _ ((acc.map (List.map f)).flatMap (insF (f c))) = _
      have e : (acc.map (List.map f)).flatMap (insF (f c)) = (acc.flatMap (insF c)).map (List.map f) := by
        rw [List.flatMap_map, List.map_flatMap]
        exact congrArg (fun g => acc.flatMap g) (funext fun o => insF_map f c o)
      rw [e, ih]; rfl
  exact key l [[]]
/-- an item that takes the sign at place q alone, out of four -/
noncomputable def TakesAt (f : Nat → Nat) (it : Bool × List Nat) (q : Nat) : Prop := ∀ q', q' < 4 → (it.2.contains (f q') == it.1) = decide (q' ≠ q)
noncomputable def takesI : List Nat → List Nat → Bool
  | [], _ => true
  | q :: r, nm => match nm.dropWhile (fun c => decide (c ≠ q)) with
    | [] => false
    | _ :: t => takesI r t
inductive AllAt (f : Nat → Nat) : List (Bool × List Nat) → List Nat → Prop
  | nil : AllAt f [] []
  | cons {it q its qs} : TakesAt f it q → AllAt f its qs → AllAt f (it :: its) (q :: qs)
theorem dropWhile_map {f : Nat → Nat} {it : Bool × List Nat} {q : Nat} (h : TakesAt f it q) : ∀ nm : List Nat, (∀ c ∈ nm, c < 4) → (nm.map f).dropWhile (fun c => it.2.contains c == it.1) = (nm.dropWhile (fun c => decide (c ≠ q))).map f
  | [], _ => rfl
  | c :: r, hn => by
    have hc := h c (hn c (List.mem_cons_self ..))
    rw [List.map_cons, List.dropWhile_cons, List.dropWhile_cons, hc]
    by_cases e : decide (c ≠ q) = true
    · rw [if_pos e, if_pos e]; exact dropWhile_map h r fun c hc => hn c (List.mem_cons_of_mem _ hc)
    · rw [if_neg e, if_neg e]; rfl
theorem takes_map {f : Nat → Nat} {its : List (Bool × List Nat)} {qs : List Nat} (h : AllAt f its qs) : ∀ nm : List Nat, (∀ c ∈ nm, c < 4) → takes its (nm.map f) = takesI qs nm := by
  induction h with
  | nil => intro nm _; rfl
  | @cons it q its qs h1 _ ih =>
    intro nm hn
    show (match (nm.map f).dropWhile (fun c => it.2.contains c == it.1) with | [] => false | _ :: t => takes its t) = (match nm.dropWhile (fun c => decide (c ≠ q)) with | [] => false | _ :: t => takesI qs t)
    rw [dropWhile_map h1 nm hn]
    have hs : ∀ c ∈ nm.dropWhile (fun c => decide (c ≠ q)), c < 4 := fun c hc => hn c ((List.dropWhile_sublist _).subset hc)
    cases hd : nm.dropWhile (fun c => decide (c ≠ q)) with
    | nil => rfl
    | cons c r =>
      rw [hd] at hs
      exact ih r fun c hc => hs c (List.mem_cons_of_mem _ hc)
/-- the four patterns by places: the last, the first, the second -/
noncomputable def threesI : List (List Nat) := [[2, 0, 1], [3, 0, 1], [3, 0, 2], [3, 1, 2]]
noncomputable def ordI : List (List Nat) := ordN [0, 1, 2, 3]
noncomputable def cameL : List (List Nat) := goodR.map cameI
/-- Knuth: an order comes off the pile just if no pattern takes it -/
theorem knuth : ∀ p ∈ ordI, cameL.contains p = !(threesI.any fun q => takesI q p) := by decide +kernel
theorem cameL_nodup : cameL.Nodup := by decide +kernel
theorem cameL_sub : ∀ p ∈ cameL, p ∈ ordI := by decide +kernel
theorem ordI_nodup : ordI.Nodup := by decide +kernel
theorem ordI_lt : ∀ p ∈ ordI, ∀ c ∈ p, c < 4 := by decide +kernel
/-- a bare sign or a sign in a bracket -/
theorem takesAt_one {f : Nat → Nat} (hf : ∀ i j, i < 4 → j < 4 → f i = f j → i = j) {q : Nat} (hq : q < 4) : TakesAt f (false, [f q]) q := by
  intro q' h'
  by_cases e : q' = q
  · subst e; simp
  · have : f q' ≠ f q := fun z => e (hf _ _ h' hq z)
    simp [e, this]
/-- a barred bracket of all the others -/
theorem takesAt_bar {f : Nat → Nat} (hf : ∀ i j, i < 4 → j < 4 → f i = f j → i = j) {q : Nat} (hq : q < 4) {l : List Nat} (hl : ∀ c, c ∈ l ↔ ∃ i, i < 4 ∧ i ≠ q ∧ c = f i) : TakesAt f (true, l) q := by
  intro q' h'
  by_cases e : q' = q
  · subst e
    have : f q' ∉ l := fun hm => by
      obtain ⟨i, h1, h2, h3⟩ := (hl _).mp hm
      exact h2 (hf _ _ h1 h' h3.symm)
    simp [this]
  · have : f q' ∈ l := (hl _).mpr ⟨q', h', e, rfl⟩
    simp [e, this]
end Mine
end

section
open PySem PySem.W PyProof.Rows PySem.Calls PySem.Spec
set_option maxRecDepth 100000
set_option maxHeartbeats 1000000
namespace Mine
/-! ### plain: the four signs -/
theorem pick_idx (i : Int) {n : Nat} (h : 0 < n) : (i.fmod (n : Int)).toNat < n := by
  have h1 := Int.fmod_nonneg_of_pos i (show (0 : Int) < (n : Int) by omega)
  have h2 := Int.fmod_lt_of_pos i (show (0 : Int) < (n : Int) by omega)
  omega
theorem pickN_spec : ∀ (is : List Int) (pool : List Nat), is.length ≤ pool.length → pool.Nodup → (pickN is pool).Nodup ∧ (∀ c ∈ pickN is pool, c ∈ pool) ∧ (pickN is pool).length = is.length
  | [], _, _, _ => ⟨.nil, (fun _ h => nomatch h), rfl⟩
  | i :: r, pool, hl, hn => by
    have hpos : 0 < pool.length := by simp only [List.length_cons] at hl; omega
    have hk := pick_idx i hpos
    generalize hq : (i.fmod (pool.length : Int)).toNat = q at hk
    have hlen : (pool.eraseIdx q).length = pool.length - 1 := by rw [List.length_eraseIdx, if_pos hk]
    have ih := pickN_spec r (pool.eraseIdx q) (by simp only [List.length_cons] at hl; omega) (hn.eraseIdx q)
    have hget : pool.getD q 0 = pool[q] := by rw [List.getD_eq_getElem?_getD, List.getElem?_eq_getElem hk]; rfl
    have hni : pool[q] ∉ pool.eraseIdx q := by
      intro hm
      rw [List.eraseIdx_eq_take_drop_succ] at hm
      have hsp : pool = pool.take q ++ pool[q] :: pool.drop (q + 1) := by
        have := (List.take_append_drop q pool).symm
        rw [List.drop_eq_getElem_cons hk] at this; exact this
      rw [hsp] at hn
      have := (List.nodup_append.mp hn)
      rcases List.mem_append.mp hm with hm | hm
      · exact this.2.2 _ hm _ (List.mem_cons_self ..) rfl
      · exact (List.nodup_cons.mp this.2.1).1 hm
    show (pool.getD ((i.fmod (pool.length : Int)).toNat) 0 :: pickN r (pool.eraseIdx ((i.fmod (pool.length : Int)).toNat))).Nodup ∧ (∀ c ∈ pool.getD ((i.fmod (pool.length : Int)).toNat) 0 :: pickN r (pool.eraseIdx ((i.fmod (pool.length : Int)).toNat)), c ∈ pool) ∧ (pool.getD ((i.fmod (pool.length : Int)).toNat) 0 :: pickN r (pool.eraseIdx ((i.fmod (pool.length : Int)).toNat))).length = (i :: r).length
    rw [hq, hget]
    refine ⟨List.nodup_cons.mpr ⟨fun hm => hni (ih.2.1 _ hm), ih.1⟩, fun c hc => ?_, by rw [List.length_cons, ih.2.2]; rfl⟩
    rcases List.mem_cons.mp hc with rfl | hc
    · exact List.getElem_mem hk
    · exact List.mem_of_mem_eraseIdx (ih.2.1 c hc)
theorem bigS_ge (ns : List Int) : 256 ≤ bigS ns := by
  unfold bigS
  have h1 := Int.fmod_nonneg_of_pos (ns.getD 4 0) (show (0 : Int) < 55000 by decide)
  omega
theorem pool_nodup (ns : List Int) : (pool20 ++ [bigS ns]).Nodup := by
  refine List.nodup_append.mpr ⟨by decide, by simp, fun a ha b hb => ?_⟩
  rw [List.mem_singleton.mp hb]
  have h1 : ∀ a ∈ pool20, a < 256 := by decide
  have := h1 a ha
  have := bigS_ge ns
  omega
/-- the signs that are picked -/
noncomputable abbrev sgN (ns : List Int) : List Nat := pickN (shiftL ns) (pool20 ++ [bigS ns])
theorem sgN_spec (ns : List Int) : (sgN ns).Nodup ∧ (sgN ns).length = 4 := by
  have h := pickN_spec (shiftL ns) (pool20 ++ [bigS ns]) (by show 4 ≤ 21; decide) (pool_nodup ns)
  exact ⟨h.1, h.2.2⟩
end Mine
end

section
open PySem PySem.W PyProof.Rows PySem.Calls PySem.Spec
set_option maxRecDepth 100000
set_option maxHeartbeats 8000000
namespace Mine
set_option hygiene false
set_option hygiene true
section
variable {w : World} {p : Program} {loose : List Str} {mean : ExcName → Option Value} {mg mb : Str → Option Value} {dp un : Nat} {fr : Option (List Env)} {gd : Option (List Code)} {s : Shared} {Q E : Value → Shared → Prop}

/-- the ground without the frames of those that called -/
noncomputable def hidF (h : Heap) (frs : List (Addr × Obj)) : Heap := hideAll h (frs.map (·.1))
theorem hidF_fr {h h₁ : Heap} {frs : List (Addr × Obj)} {L : Addr} {m : Str → Option Value} (F : Fr h L h₁ m) : Fr (hidF h frs) L h₁ m := ⟨F.ns, fun b o e => F.keep b o (of_hideAll _ e), Nat.le_trans (Nat.le_of_eq (hideAll_size _ _)) F.above⟩
theorem hidF_news {h h₁ : Heap} {frs : List (Addr × Obj)} {L : Addr} {m : Str → Option Value} (F : Fr h L h₁ m) (e : ∀ p ∈ frs, h.get? p.1 = some p.2) : News (hidF h frs) L h₁ frs := fun p hp => by
  refine ⟨F.keep _ _ (e p hp), fun z => ?_, hideAll_none _ (List.mem_map_of_mem hp)⟩
  have h1 := Heap.lt_size (e p hp)
  have := F.above
  rw [z] at h1
  exact Nat.lt_irrefl _ (Nat.lt_of_lt_of_le h1 this)

theorem upd_of {d : Addr} {o o' : Obj} : ∀ {pre post : List (Addr × Obj)}, (∀ p ∈ pre, p.1 ≠ d) → (∀ p ∈ post, p.1 ≠ d) → Upd d o o' (pre ++ (d, o) :: post) (pre ++ (d, o') :: post)
  | [], _, _, h2 => .head h2
  | q :: pre, _, h1, h2 => .tail (h1 q (List.mem_cons_self ..)) (upd_of (fun p hp => h1 p (List.mem_cons_of_mem _ hp)) h2)
section
variable {prog : Program} {A : Around}
theorem ext_K {h₀ : Heap} {L D b : Addr} {m : Str → Option Value} {news : List (Addr × Obj)} {vs us : List Value} {n n2 : Nat} {Q : Value → Shared → Prop} {gg : Obj → List (Addr × Obj)} (F : Fr h₀ L s.heap m) (N : News h₀ L s.heap news) (hb : (b, listOf us.toArray n2) ∈ news) (U : UpdF D (listOf vs.toArray n) news gg) (hz : vs.length ≤ 1000) (hz2 : us.length ≤ 1000)
    (h : ∀ h' n', Fr h₀ L h' m → News h₀ L h' (gg (listOf (vs ++ us).toArray n')) → Q .none { s with heap := h' }) : wpAny (model prog w) A (call (.builtin "list.extend") [.ref D, .ref b]) Q E s := by
  obtain ⟨pre, post, rfl, hgg, h1, h2⟩ := U.split
  have hz' : ∀ k, k ≤ 2000 → k ≤ sizeLine := fun k hk => by rw [sizeLine_eq]; omega
  have hd : ¬(!vs.toArray.isEmpty && Builtin.List.listTooLong (vs.toArray.size + us.toArray.size)) = true := by
    intro e
    rw [Bool.and_eq_true] at e
    have e2 := e.2
    unfold Builtin.List.listTooLong at e2
    simp only [List.size_toArray, decide_eq_true_eq] at e2
    have := hz' (vs.length + us.length) (by omega)
    first | omega | (simp [sizeLine_eq] at e2; omega)
  cases us with
  | nil =>
    refine kxn_extend (its2 := #[]) F N hb rfl (upd_of h1 h2) hd (hz' _ (by simp; omega)) (by have := hz' vs.toArray.size (by simp; omega); simp at this ⊢; omega) fun h' F' N' => ?_
    refine h h' n F' ?_
    rw [hgg, List.append_nil]; exact N'
  | cons u r =>
    refine kl_extend (its2 := (u :: r).toArray) F N hb rfl (by simp) (upd_of h1 h2) hd (hz' _ (by simp; omega)) (by have := hz' (vs.toArray.size + (u :: r).toArray.size) (by simp only [List.size_toArray]; omega); omega) fun h' F' N' => ?_
    refine h h' (n + 1) F' ?_
    rw [hgg]; exact N'
theorem sub_out {value slice : Expr} {l : Addr} {vs : List Value} {k : Nat} {t : Tok} {Q : Value → Shared → Prop} (hA : A.handled = none) (hl : s.heap.IsList l vs.toArray) (hk : vs.length ≤ k) (hk2 : k < 1000000)
    (hE : ∀ h' tk e, Heap.NewExc s.heap h' e "IndexError" → E (.ref e) { s with heap := h', toks := tk })
    (hs : subscripted slice false (.ref l) (.int ((k : Nat) : Int) t) = operate [.ref l, .int ((k : Nat) : Int) t] (getItem (.ref l) (.int ((k : Nat) : Int) t)) := by with_unfolding_all rfl) (hg : ∀ r, letTemporaryGo value (.ref l) r = pure () := by intro _; with_unfolding_all rfl) :
    wpAny (model prog w) A (subscriptTail value slice (.ref l) (.int ((k : Nat) : Int) t)) Q E s :=
  subscriptTail_builtin hl.typeIs slot_list_getitem.lookup (wpAny_getItem_list_out hA hl (.inr (by rw [List.size_toArray]; omega)) (by omega) (by omega) hE) hs hg
end
theorem strsAre_drop {vs : List Value} {ss : List Str} (h : StrsAre vs ss) (k : Nat) : StrsAre (vs.drop k) (ss.drop k) := by
  induction h generalizing k with
  | nil => cases k <;> exact .nil
  | cons y t h ih =>
    cases k with
    | zero => exact .cons y t h
    | succ k => exact ih k
theorem frs_hap {l : List Env} {frs' new : List (Addr × Obj)} {G h : Heap} {L : Addr} (Fs : TI.Frs l frs') (hl : ∀ q ∈ new, ∃ its n, q.2 = listOf its n) (N : News G L h (new ++ frs')) : ∀ q ∈ new, q.1 ∉ L :: frs'.map (·.1) := fun q hq hm => by
  obtain ⟨its, n, e⟩ := hl q hq
  have e1 := N q (List.mem_append_left _ hq)
  rcases List.mem_cons.mp hm with z | hm
  · exact e1.2.1 z
  · obtain ⟨x, hx1, hx2⟩ := List.mem_map.mp hm
    have e2 := (N x (List.mem_append_right _ hx1)).1
    rw [hx2, e1.1] at e2
    obtain ⟨es1, ep1, e3⟩ := Fs.dict x hx1
    rw [← Option.some.inj e2, e] at e3
    cases e3
theorem get_txs {vs : List Value} {l : List (List Nat)} (h : StrsAre vs (txs l)) {q : Nat} (hq : q < l.length) : ∃ t, vs[q]? = some (.str ⟨(l.getD q []).toArray⟩ t) := by
  have hlen := strsAre_length h
  rw [List.length_map] at hlen
  have hk2 : q < vs.length := by omega
  obtain ⟨tx, e⟩ := strsAre_get h (List.getElem?_eq_getElem hk2) (show (txs l)[q]? = some ⟨(l.getD q []).toArray⟩ by simp [List.getD, hq])
  exact ⟨tx, by rw [List.getElem?_eq_getElem hk2, e]⟩
theorem drop_cons {l : List (List Nat)} {q : Nat} (hq : q < l.length) : l.drop q = l.getD q [] :: l.drop (q + 1) := by
  rw [List.drop_eq_getElem_cons hq]; simp [List.getD, hq]
theorem str_beq (a b : List Nat) : ((⟨a.toArray⟩ : Str) == (⟨b.toArray⟩ : Str)) = (a == b) := by
  rw [Bool.eq_iff_iff, beq_iff_eq, beq_iff_eq]
  constructor
  · intro e
    have := congrArg (fun s : Str => s.cps.toList) e
    exact this
  · rintro rfl; rfl
theorem sld_nil (f : Nat) (A : List (List Nat)) : sldF f [] A = ([], A) := by cases f <;> rfl
theorem sld_nil2 (f : Nat) (E : List (List Nat)) : sldF f E [] = (E, []) := by cases f <;> cases E <;> rfl
theorem frs_off {l : List Env} {frs' : List (Addr × Obj)} {h : Heap} {D : Addr} {its : Array Value} {n : Nat} (Fs : TI.Frs l frs') (N : ∀ q ∈ frs', h.get? q.1 = some q.2) (hD : h.get? D = some (listOf its n)) : ∀ q ∈ frs', q.1 ≠ D := fun q hq e => by
  obtain ⟨es, ep, hd⟩ := Fs.dict q hq
  have := N q hq
  rw [e, hD] at this
  rw [← Option.some.inj this] at hd
  cases hd
end
noncomputable def Ksld_call.St (w : World) (p : Program) (loose : List Str) (mean : ExcName → Option Value) (mg : Str → Option Value) (mb : Str → Option Value) (dp : Nat) (un : Nat) (fr : Option (List Env)) (gd : Option (List Code)) (s : Shared) (Q : Value → Shared → Prop) (E : Value → Shared → Prop) : Prop :=
  ∀ (l : List Env) (frs : List (Addr × Obj)) (le la : Addr) (es as : List (List Nat)) (ve va : List Value) (Fs : TI.Frs l frs) (hfr : ∀ p ∈ frs, s.heap.get? p.1 = some p.2) (X : (KK w).In (hidF s.heap frs)) (T : Top p loose mean mg mb (hidF s.heap frs)) (hd : dp + 20 < recursionLimit) (hu : un + 100 < cLine) (hle : (hidF s.heap frs).IsList le ve.toArray) (hve : StrsAre ve (txs es)) (hla : (hidF s.heap frs).IsList la va.toArray) (hva : StrsAre va (txs as)) (hel : es.length ≤ 100) (hal : as.length ≤ 100) (h : ∀ h' t' (g' : BG) frs' D M U vm vu nm nu, TI.SameUp frs frs' → (∀ p ∈ frs', h'.get? p.1 = some p.2) → Ext (hidF s.heap frs) h' →
      New (hidF s.heap frs) h' [(D, ({ cls := .type "tuple", data := .seq #[.ref M, .ref U] } : Obj)), (M, listOf vm.toArray nm), (U, listOf vu.toArray nu)] → StrsAre vm (txs (sldF (es.length + as.length) es as).1) → StrsAre vu (txs (sldF (es.length + as.length) es as).2) →
      Q (.ref D) { s with heap := h', toks := t', gens := g' }) (hB : AllBare s.gens),
    wpAny (model PG w) (Ar dp un (some l) gd) (call (.ref 97) [.ref le, .ref la]) Q E s
namespace Ksld_call
@[irreducible] noncomputable def bad : Base := Base.bad St
noncomputable def w : World := bad.w
noncomputable def p : Program := bad.p
noncomputable def loose : List Str := bad.loose
noncomputable def mean : ExcName → Option Value := bad.mean
noncomputable def mg : Str → Option Value := bad.mg
noncomputable def mb : Str → Option Value := bad.mb
noncomputable def dp : Nat := bad.dp
noncomputable def un : Nat := bad.un
noncomputable def fr : Option (List Env) := bad.fr
noncomputable def gd : Option (List Code) := bad.gd
noncomputable def s : Shared := bad.s
noncomputable def Q : Value → Shared → Prop := bad.Q
noncomputable def E : Value → Shared → Prop := bad.E
noncomputable def L : Addr := s.heap.objs.size
theorem hL : s.heap.objs.size = L := rfl
theorem at_bad : St w p loose mean mg mb dp un fr gd s Q E := by
  unfold St
  intros l frs le la es as ve va Fs hfr X T hd hu hle hve hla hva hel hal h hB
  have hvl : ve.length = es.length := by rw [strsAre_length hve, List.length_map]
  have hwl : va.length = as.length := by rw [strsAre_length hva, List.length_map]
  revert X; unfold PG KK
  k_fill; intro X
  refine enterX (binds := [(Str.ofString "expected", .ref le), (Str.ofString "actual", .ref la)]) (X.keeps fun b o e => of_hideAll _ e) (T.nolimit.keeps fun b o e => of_hideAll _ e) (by k_is) (by k_is) (by omega) rfl rfl (fun L' h₁ hL' F0 N0 => ?_)
  obtain rfl : L' = L := hL'.symm.trans hL
  k_fold
  have F := hidF_fr (frs := frs) F0
  have N := hidF_news F0 hfr
  clear F0 N0
  generalize hG : hidF s.heap frs = G at *
  have hkG : ∀ h', Ext G h' → h'.IsList le ve.toArray := fun h' k => by obtain ⟨o, e, r⟩ := hle; exact ⟨o, k _ _ e, r⟩
  have hkA : ∀ h', Ext G h' → h'.IsList la va.toArray := fun h' k => by obtain ⟨o, e, r⟩ := hla; exact ⟨o, k _ _ e, r⟩
  generalize hR : sldF (es.length + as.length) es as = R at h
  w_is_and go_3_25_26_12_19_2
  rename Fr _ _ _ _ => F1
  rename News _ _ _ _ => N1
  rename_i M _ lM _ _ U _ lU _
  have hUM : U ≠ M := Ne.symm (Nat.ne_of_lt lU.1)
  refine whl2 (n₀ := es.length + as.length) (J := fun n m nw => Ex6 fun (i : Nat) (j : Nat) (ms : List (List Nat)) (us : List (List Nat)) (mv : List Value) (uv : List Value) => Ex5 fun (nm : Nat) (nu : Nat) (frs' : List (Addr × Obj)) (ti : Tok) (tj : Tok) => And7 (nw = (U, listOf uv.toArray nu) :: (M, listOf mv.toArray nm) :: frs') (TI.SameUp frs frs') (TI.Frs l frs') (i ≤ es.length) (j ≤ as.length) (n = (es.length - i) + (as.length - j)) (And6 ((∃ f, n ≤ f ∧ R = (ms ++ (sldF f (es.drop i) (as.drop j)).1, us ++ (sldF f (es.drop i) (as.drop j)).2))) (ms.length ≤ i) (us.length ≤ j) (StrsAre mv (txs ms)) (StrsAre uv (txs us)) (LV m [(Str.ofString "expected", .ref le), (Str.ofString "actual", .ref la), (Str.ofString "missing", .ref M), (Str.ofString "unexpected", .ref U), (Str.ofString "i", .int ((i : Nat) : Int) ti), (Str.ofString "j", .int ((j : Nat) : Int) tj)])))
    (O := fun m nw => Ex5 fun (mv : List Value) (uv : List Value) (nm : Nat) (nu : Nat) (frs' : List (Addr × Obj)) => And5 (nw = (U, listOf uv.toArray nu) :: (M, listOf mv.toArray nm) :: frs') (TI.SameUp frs frs') (StrsAre mv (txs R.1)) (StrsAre uv (txs R.2)) (LV m [(Str.ofString "missing", .ref M), (Str.ofString "unexpected", .ref U)])) F1 N1
    ⟨0, 0, [], [], [], [], 0, 0, frs, _, _, rfl, TI.SameUp.refl _, Fs, Nat.zero_le _, Nat.zero_le _, rfl, ⟨_, Nat.le_refl _, hR.symm⟩, Nat.le_refl _, Nat.le_refl _, .nil, .nil, rfl⟩ ?_ ?_
  · clear F1 N1
    intro n m₁ nw₁ h4 tk4 g4 hJ1 F4 N4
    try k_fold
    revert F4 N4
    obtain ⟨i, j, ms, us, mv, uv, nm, nu, frs1, ti, tj, rfl, hSU, Fs1, hi, hj, rfl, ⟨f, hf, hRe⟩, hml, hul, hmv, huv, rL⟩ := hJ1
    intro F4 N4
    w_is_and my_aa
    intros l frs le la es as ve va G R M U v1_ tk m₁ h4 tk4 g4 i j ms us mv uv nm nu frs1 ti tj f
    intro Fs hfr hd hu hve hva hel hal hB hvl hwl hL' hG T hle hla X hkG hkA hR h lM lU hUM hSU Fs1 hi hj hml hul hmv huv rL hf hRe F4 N4; try k_fold
    rw [rL.can] at F4
    w_is_and go_3_25_26_12_19_2
    refine try_E fun E' Nt hNt hE' hPO hPA => ?_
    have hand : ∀ (h6 : Heap) (tk6 : Nat) (g5 : BG) (e5 : Addr) (m5 : Str → Option Value) (i' j' : Nat) (ms' us' : List (List Nat)) (mv' uv' : List Value) (nm' nu' : Nat) (ti' tj' : Tok),
        LV m5 [(Str.ofString "expected", .ref le), (Str.ofString "actual", .ref la), (Str.ofString "missing", .ref M), (Str.ofString "unexpected", .ref U), (Str.ofString "i", .int ((i' : Nat) : Int) ti'), (Str.ofString "j", .int ((j' : Nat) : Int) tj')] →
        R = (ms' ++ es.drop i', us' ++ as.drop j') → ms'.length ≤ 200 → us'.length ≤ 200 → StrsAre mv' (txs ms') → StrsAre uv' (txs us') →
        (∀ (Q₁ : Unit → Shared → Prop) (E₁ : Value → Shared → Prop), (∀ h' frs', TI.SameUp frs frs' → TI.Frs l frs' → TT.HeldN G L h' m5 e5 "IndexError" ((U, listOf uv'.toArray nu') :: (M, listOf mv'.toArray nm') :: frs') → Q₁ () { s with heap := h', toks := tk6, gens := g5 }) → Nt (.ref e5) Q₁ E₁ { s with heap := h6, toks := tk6, gens := g5 }) →
        E' (.ref e5) { s with heap := h6, toks := tk6, gens := g5 } := by
      clear F4 N4
      intro h6 tk6 g5 e5 m5 i' j' ms' us' mv' uv' nm' nu' ti' tj' rL hRR hml' hul' hmv' huv' note
      refine hE' _ _ (note _ _ fun h7 frs7 SU7 Fs7 H => ?_)
      rw [rL.can] at H
      refine caught_held (A₀ := Ar dp un (some l) gd) (T := "IndexError") H (by decide +kernel) (by decide +kernel) (by decide +kernel) (by passes_own) ?_ ?_
      · intro h8 Q' F7 q
        clear note H
        w_is_and go_3_25_26_12_19_2
        exact q
      · intro h8 F7 N7
        clear note H
        w_is_and go_3_25_26_12_19_2
        refine kmk_slice (its := ve.toArray) (lo := some ((i' : Nat) : Int)) (hi := none) F7 N7 (hkG _ F7.keep) ?_ ?_ (fun D8 h8 F8 N8 lt8 => ?_) (by with_unfolding_all rfl) (by intro _; with_unfolding_all rfl) (by rw [sizeLine_eq, List.size_toArray]; omega)
        · exact .int _ _
        · exact .none
        have hoM : ∀ q ∈ frs7, q.1 ≠ M := frs_off Fs7 (fun q hq => (N7 q (.tail _ (.tail _ hq))).1) (N7 _ (.tail _ (.head _))).1
        have hoU : ∀ q ∈ frs7, q.1 ≠ U := frs_off Fs7 (fun q hq => (N7 q (.tail _ (.tail _ hq))).1) (N7 _ (.head _)).1
        have hvm' : mv'.length ≤ 200 := by rw [strsAre_length hmv', List.length_map]; exact hml'
        have hvu' : uv'.length ≤ 200 := by rw [strsAre_length huv', List.length_map]; exact hul'
        have hdM : D8 ≠ M := Ne.symm (Nat.ne_of_lt (lt8 _ (.tail _ (.head _))))
        have hdU : D8 ≠ U := Ne.symm (Nat.ne_of_lt (lt8 _ (.head _)))
        clear F7 N7
        rw [slicePick_from', List.toList_toArray] at N8
        w_is_and go_3_25_26_12_19_2
        try dsimp only
        refine ext_K (us := ve.drop i') F8 N8 (.head _) (.tail hdM (.tail hUM (.head hoM))) (by omega) (by rw [List.length_drop]; omega) fun h9 n9 F9 N9 => ?_
        try dsimp only at N9
        clear F8 N8
        w_is_and go_3_25_26_12_19_2
        refine kmk_slice (its := va.toArray) (lo := some ((j' : Nat) : Int)) (hi := none) F9 N9 (hkA _ F9.keep) (.int _ _) .none (fun D10 h10 F10 N10 lt10 => ?_) (by with_unfolding_all rfl) (by intro _; with_unfolding_all rfl) (by rw [sizeLine_eq, List.size_toArray]; omega)
        have hdU2 : D10 ≠ U := Ne.symm (Nat.ne_of_lt (lt10 _ (.tail _ (.head _))))
        clear F9 N9
        rw [slicePick_from', List.toList_toArray] at N10
        w_is_and go_3_25_26_12_19_2
        try dsimp only
        refine ext_K (us := va.drop j') F10 N10 (.head _) (.tail hdU2 (.tail hdU (.head fun q hq => ?_))) (by omega) (by rw [List.length_drop]; omega) fun h11 n11 F11 N11 => ?_
        · rcases List.mem_cons.mp hq with rfl | hq
          · exact Ne.symm hUM
          · exact hoU q hq
        try dsimp only at N11
        clear F10 N10
        w_is_and go_3_25_26_12_19_2
        refine WOut.intro ((U, listOf (uv' ++ va.drop j').toArray n11) :: (M, listOf (mv' ++ ve.drop i').toArray n9) :: frs7) F11 N11 (fun p hp => .tail _ ?_) ⟨_, _, _, _, frs7, rfl, SU7, ?_, ?_, rfl⟩
        · rcases List.mem_cons.mp hp with rfl | hp
          · exact .tail _ (.head _)
          · exact .tail _ (.tail _ hp)
        · rw [hRR]
          show StrsAre _ (txs (ms' ++ es.drop i'))
          rw [txs, List.map_append, List.map_drop]
          exact strsAre_append hmv' (strsAre_drop hve i')
        · rw [hRR]
          show StrsAre _ (txs (us' ++ as.drop j'))
          rw [txs, List.map_append, List.map_drop]
          exact strsAre_append huv' (strsAre_drop hva j')
    have hnA : ∀ {h7 h9 : Heap} {tk9 : Nat} {g7 : BG} {e9 : Addr} {m7 : Str → Option Value} {uv' mv' : List Value} {nu' nm' : Nat}, Fr G L h7 m7 → News G L h7 ((U, listOf uv'.toArray nu') :: (M, listOf mv'.toArray nm') :: frs1) → Heap.NewExc h7 h9 e9 "IndexError" →
        ∀ (Q₁ : Unit → Shared → Prop) (E₁ : Value → Shared → Prop), (∀ h' frs', TI.SameUp frs frs' → TI.Frs l frs' → TT.HeldN G L h' m7 e9 "IndexError" ((U, listOf uv'.toArray nu') :: (M, listOf mv'.toArray nm') :: frs') → Q₁ () { s with heap := h', toks := tk9, gens := g7 }) → Nt (.ref e9) Q₁ E₁ { s with heap := h9, toks := tk9, gens := g7 } := by
      intro h7 h9 tk9 g7 e9 m7 uv' mv' nu' nm' F7 N7 hx Q₁ E₁ k
      refine hNt _ _ _ _ (TLg.noted_newA (A₀ := Ar dp un (some l) gd) (new := [(U, listOf uv'.toArray nu'), (M, listOf mv'.toArray nm')]) rfl Fs1 hx F7 N7 (frs_hap Fs1 (fun q hq => ?_) N7) (fun h' frs' SU Fs' H => k h' frs' (TI.SameUp.trans hSU SU) Fs' H) rfl)
      rcases List.mem_cons.mp hq with rfl | hq
      · exact ⟨_, _, rfl⟩
      · rw [List.mem_singleton.mp hq]; exact ⟨_, _, rfl⟩
    w_is_and go_3_25_26_12_19_2
    by_cases hie : i < es.length
    · obtain ⟨te, hte⟩ := get_txs hve hie
      have hdi := drop_cons hie
      generalize es.getD i [] = e at hte hdi
      refine sub_val (k := i) (hkG _ F4.keep) hte (by omega) ?_
      w_is_and go_3_25_26_12_19_2
      rename Fr _ _ _ _ => F5
      rename News _ _ _ _ => N5
      by_cases hja : j < as.length
      · obtain ⟨ta, hta⟩ := get_txs hva hja
        have hdj := drop_cons hja
        generalize as.getD j [] = a at hta hdj
        refine sub_val (k := j) (hkA _ F5.keep) hta (by omega) ?_
        w_is_and go_3_25_26_12_19_2
        rename Fr _ _ _ _ => F6
        rename News _ _ _ _ => N6
        obtain ⟨k, rfl⟩ : ∃ k, f = k + 1 := ⟨f - 1, by omega⟩
        rw [hdi, hdj] at hRe
        have hoM : ∀ q ∈ frs1, q.1 ≠ M := frs_off Fs1 (fun q hq => (N6 q (.tail _ (.tail _ hq))).1) (N6 _ (.tail _ (.head _))).1
        have hoU : ∀ q ∈ frs1, q.1 ≠ U := frs_off Fs1 (fun q hq => (N6 q (.tail _ (.tail _ hq))).1) (N6 _ (.head _)).1
        have hvm : mv.length ≤ 100 := by rw [strsAre_length hmv, List.length_map]; omega
        have hvu : uv.length ≤ 100 := by rw [strsAre_length huv, List.length_map]; omega
        w_is_and my_aa
        intros l frs le la es as ve va G R M U m₁ h4 tk4 g4 i j ms us mv uv nm nu frs1 ti tj E' Nt te e ta a v1_ tk k
        intro Fs hfr hd hu hve hva hel hal hB hvl hwl hL' hG T hle hla X hkG hkA hR h lM lU hUM hSU Fs1 hi hj hml hul hmv huv rL hNt hE' hPO hPA hand hnA hie hte hdi hja hta hdj F6 N6 hf hRe hoM hoU hvm hvu; try k_fold
        refine if_dec F6 N6 (decide (e < a)) ?_ ?_
        · w_is_and go_3_25_26_12_19_2
          exact ⟨rfl, WOut.intro _ F6 N6 (fun _ h => h) ⟨rfl, rfl⟩⟩
        clear F6 N6
        intro h6 tk6 g6 F6 N6
        by_cases hea : e < a
        · rw [show decide (e < a) = true from decide_eq_true hea, ite_tt]
          have hRe1 : R = (ms ++ (e :: (sldF k ((es.drop (i + 1)).dropWhile (· == e)) (as.drop j)).1), us ++ (sldF k ((es.drop (i + 1)).dropWhile (· == e)) (as.drop j)).2) := by
            rw [hRe, hdj]
            show (ms ++ (if e < a then _ else if a < e then _ else _ : List (List Nat) × List (List Nat)).1, us ++ (if e < a then _ else if a < e then _ else _ : List (List Nat) × List (List Nat)).2) = _
            rw [if_pos hea]
          w_is_and go_3_25_26_12_19_2
          refine append_K (its := mv.toArray) F6 N6 (.tail hUM (.head hoM)) (fun h8 F8 N8 => ?_) (by rw [sizeLine_eq, List.size_toArray]; omega)
          clear F6 N6
          simp only [List.push_toArray] at N8
          w_is_and go_3_25_26_12_19_2
          rename Fr _ _ _ _ => F6
          rename News _ _ _ _ => N6
          refine whl2 (n₀ := es.length - (i + 1)) (J := fun n m nw => Ex2 fun (q : Nat) (tq : Tok) => And6 (n = es.length - q) (i < q) (q ≤ es.length) (nw = ((U, listOf uv.toArray nu) :: (M, listOf (mv ++ [Value.str ⟨e.toArray⟩ te]).toArray (nm + 1)) :: frs1)) ((es.drop (i + 1)).dropWhile (· == e) = (es.drop q).dropWhile (· == e)) (LV m [(Str.ofString "expected", .ref le), (Str.ofString "actual", .ref la), (Str.ofString "missing", .ref M), (Str.ofString "unexpected", .ref U), (Str.ofString "i", .int ((q : Nat) : Int) tq), (Str.ofString "j", .int ((j : Nat) : Int) tj), (Str.ofString "e", .str ⟨e.toArray⟩ te), (Str.ofString "a", .str ⟨a.toArray⟩ ta)]))
            (O := fun m nw => Ex2 fun (q : Nat) (tq : Tok) => And5 (i < q) (q ≤ es.length) (nw = ((U, listOf uv.toArray nu) :: (M, listOf (mv ++ [Value.str ⟨e.toArray⟩ te]).toArray (nm + 1)) :: frs1)) ((es.drop (i + 1)).dropWhile (· == e) = es.drop q) (LV m [(Str.ofString "expected", .ref le), (Str.ofString "actual", .ref la), (Str.ofString "missing", .ref M), (Str.ofString "unexpected", .ref U), (Str.ofString "i", .int ((q : Nat) : Int) tq), (Str.ofString "j", .int ((j : Nat) : Int) tj), (Str.ofString "e", .str ⟨e.toArray⟩ te), (Str.ofString "a", .str ⟨a.toArray⟩ ta)]))
            F6 N6 ⟨i + 1, _, rfl, Nat.lt_succ_self _, by omega, rfl, rfl, rfl⟩ ?_ ?_ hPO
          · clear F6 N6
            intro n m₂ nw₂ h7 tk7 g7 hJ2 F7 N7
            try k_fold
            revert F7 N7
            obtain ⟨q, tq, rfl, hq1, hq2, rfl, hdw, rL⟩ := hJ2
            intro F7 N7
            rw [rL.can] at F7
            w_is_and go_3_25_26_12_19_2
            by_cases hq3 : q < es.length
            · obtain ⟨tz, hz⟩ := get_txs hve hq3
              refine sub_val (k := q) (hkG _ F7.keep) hz (by omega) ?_
              w_is_and go_3_25_26_12_19_2
              · rename (_ == _) = true => z
                rw [str_beq] at z
                rename Fr _ _ _ _ => F8
                rename News _ _ _ _ => N8
                refine WEnd.intro (es.length - (q + 1)) _ F8 N8 (fun _ h => h) (by omega) ⟨q + 1, _, rfl, by omega, by omega, rfl, ?_, rfl⟩
                rw [hdw, drop_cons hq3, List.dropWhile_cons, if_pos z]
              · rename (_ == _) = false => z
                rw [str_beq] at z
                refine WOut.intro _ F7 N7 (fun _ h => h) ⟨q, _, hq1, hq2, rfl, ?_, rfl⟩
                rw [hdw, drop_cons hq3, List.dropWhile_cons, if_neg (by rw [z]; exact Bool.false_ne_true)]
            · have hq4 : q = es.length := by omega
              have hdn : (es.drop (i + 1)).dropWhile (· == e) = [] := by rw [hdw, hq4, List.drop_length]; rfl
              refine sub_out rfl (hkG _ F7.keep) (by omega) (by omega) fun h9 tk9 e9 hx => ?_
              exact hand h9 tk9 g7 e9 _ q j (ms ++ [e]) us _ uv _ nu tq tj (by exact rfl) (by rw [hRe1, hdn, sld_nil, hq4, List.drop_length]; simp) (by rw [List.length_append, List.length_singleton]; omega) (by omega) (by rw [show txs (ms ++ [e]) = txs ms ++ [⟨e.toArray⟩] by simp]; exact strsAre_append hmv (.cons _ _ .nil)) huv (hnA F7 N7 hx)
          · clear F6 N6
            intro m₂ nw₂ h7 tk7 g7 hJ3 F7 N7
            try k_fold
            revert F7 N7
            obtain ⟨q, tq, hq1, hq2, rfl, hdw, rL⟩ := hJ3
            intro F7 N7
            rw [rL.can] at F7
            try dsimp only
            w_is_and go_3_25_26_12_19_2
            exact WEnd.intro ((es.length - q) + (as.length - j)) _ F7 N7 (fun _ h => h) (by omega) ⟨q, j, ms ++ [e], us, _, _, _, _, frs1, _, _, rfl, hSU, Fs1, hq2, hj, rfl, ⟨k, by omega, by rw [hRe1, hdw]; simp⟩, by rw [List.length_append, List.length_singleton]; omega, hul, by rw [show txs (ms ++ [e]) = txs ms ++ [⟨e.toArray⟩] by simp]; exact strsAre_append hmv (.cons _ _ .nil), huv, rfl⟩

        · rw [show decide (e < a) = false from decide_eq_false hea, ite_ff]
          w_is_and go_3_25_26_12_19_2
          refine if_dec F6 N6 (decide (a < e)) ?_ ?_
          · w_is_and go_3_25_26_12_19_2
            exact ⟨rfl, WOut.intro _ F6 N6 (fun _ h => h) ⟨rfl, rfl⟩⟩
          clear F6 N6
          intro h6 tk6 g6 F6 N6
          by_cases hae : a < e
          · rw [show decide (a < e) = true from decide_eq_true hae, ite_tt]
            have hRe1 : R = (ms ++ (sldF k (es.drop i) ((as.drop (j + 1)).dropWhile (· == a))).1, us ++ (a :: (sldF k (es.drop i) ((as.drop (j + 1)).dropWhile (· == a))).2)) := by
              rw [hRe, hdi]
              show (ms ++ (if e < a then _ else if a < e then _ else _ : List (List Nat) × List (List Nat)).1, us ++ (if e < a then _ else if a < e then _ else _ : List (List Nat) × List (List Nat)).2) = _
              rw [if_neg hea, if_pos hae]
            w_is_and go_3_25_26_12_19_2
            refine append_K (its := uv.toArray) F6 N6 (.head fun q hq => ?_) (fun h8 F8 N8 => ?_) (by rw [sizeLine_eq, List.size_toArray]; omega)
            · rcases List.mem_cons.mp hq with rfl | hq
              · exact Ne.symm hUM
              · exact hoU q hq
            clear F6 N6
            simp only [List.push_toArray] at N8
            w_is_and go_3_25_26_12_19_2
            rename Fr _ _ _ _ => F6
            rename News _ _ _ _ => N6
            refine whl2 (n₀ := as.length - (j + 1)) (J := fun n m nw => Ex2 fun (q : Nat) (tq : Tok) => And6 (n = as.length - q) (j < q) (q ≤ as.length) (nw = ((U, listOf (uv ++ [Value.str ⟨a.toArray⟩ ta]).toArray (nu + 1)) :: (M, listOf mv.toArray nm) :: frs1)) ((as.drop (j + 1)).dropWhile (· == a) = (as.drop q).dropWhile (· == a)) (LV m [(Str.ofString "expected", .ref le), (Str.ofString "actual", .ref la), (Str.ofString "missing", .ref M), (Str.ofString "unexpected", .ref U), (Str.ofString "i", .int ((i : Nat) : Int) ti), (Str.ofString "j", .int ((q : Nat) : Int) tq), (Str.ofString "e", .str ⟨e.toArray⟩ te), (Str.ofString "a", .str ⟨a.toArray⟩ ta)]))
              (O := fun m nw => Ex2 fun (q : Nat) (tq : Tok) => And5 (j < q) (q ≤ as.length) (nw = ((U, listOf (uv ++ [Value.str ⟨a.toArray⟩ ta]).toArray (nu + 1)) :: (M, listOf mv.toArray nm) :: frs1)) ((as.drop (j + 1)).dropWhile (· == a) = as.drop q) (LV m [(Str.ofString "expected", .ref le), (Str.ofString "actual", .ref la), (Str.ofString "missing", .ref M), (Str.ofString "unexpected", .ref U), (Str.ofString "i", .int ((i : Nat) : Int) ti), (Str.ofString "j", .int ((q : Nat) : Int) tq), (Str.ofString "e", .str ⟨e.toArray⟩ te), (Str.ofString "a", .str ⟨a.toArray⟩ ta)]))
              F6 N6 ⟨j + 1, _, rfl, Nat.lt_succ_self _, by omega, rfl, rfl, rfl⟩ ?_ ?_ hPO
            · clear F6 N6
              intro n m₂ nw₂ h7 tk7 g7 hJ4 F7 N7
              try k_fold
              revert F7 N7
              obtain ⟨q, tq, rfl, hq1, hq2, rfl, hdw, rL⟩ := hJ4
              intro F7 N7
              rw [rL.can] at F7
              w_is_and go_3_25_26_12_19_2
              by_cases hq3 : q < as.length
              · obtain ⟨tz, hz⟩ := get_txs hva hq3
                refine sub_val (k := q) (hkA _ F7.keep) hz (by omega) ?_
                w_is_and go_3_25_26_12_19_2
                · rename (_ == _) = true => z
                  rw [str_beq] at z
                  rename Fr _ _ _ _ => F8
                  rename News _ _ _ _ => N8
                  refine WEnd.intro (as.length - (q + 1)) _ F8 N8 (fun _ h => h) (by omega) ⟨q + 1, _, rfl, by omega, by omega, rfl, ?_, rfl⟩
                  rw [hdw, drop_cons hq3, List.dropWhile_cons, if_pos z]
                · rename (_ == _) = false => z
                  rw [str_beq] at z
                  refine WOut.intro _ F7 N7 (fun _ h => h) ⟨q, _, hq1, hq2, rfl, ?_, rfl⟩
                  rw [hdw, drop_cons hq3, List.dropWhile_cons, if_neg (by rw [z]; exact Bool.false_ne_true)]
              · have hq4 : q = as.length := by omega
                have hdn : (as.drop (j + 1)).dropWhile (· == a) = [] := by rw [hdw, hq4, List.drop_length]; rfl
                refine sub_out rfl (hkA _ F7.keep) (by omega) (by omega) fun h9 tk9 e9 hx => ?_
                exact hand h9 tk9 g7 e9 _ i q ms (us ++ [a]) mv _ nm _ ti tq (by exact rfl) (by rw [hRe1, hdn, sld_nil2, hq4, List.drop_length]; simp) (by omega) (by rw [List.length_append, List.length_singleton]; omega) hmv (by rw [show txs (us ++ [a]) = txs us ++ [⟨a.toArray⟩] by simp]; exact strsAre_append huv (.cons _ _ .nil)) (hnA F7 N7 hx)
            · clear F6 N6
              intro m₂ nw₂ h7 tk7 g7 hJ5 F7 N7
              try k_fold
              revert F7 N7
              obtain ⟨q, tq, hq1, hq2, rfl, hdw, rL⟩ := hJ5
              intro F7 N7
              rw [rL.can] at F7
              try dsimp only
              w_is_and go_3_25_26_12_19_2
              exact WEnd.intro ((es.length - i) + (as.length - q)) _ F7 N7 (fun _ h => h) (by omega) ⟨i, q, ms, us ++ [a], _, _, _, _, frs1, _, _, rfl, hSU, Fs1, hi, hq2, rfl, ⟨k, by omega, by rw [hRe1, hdw]; simp⟩, hml, by rw [List.length_append, List.length_singleton]; omega, hmv, by rw [show txs (us ++ [a]) = txs us ++ [⟨a.toArray⟩] by simp]; exact strsAre_append huv (.cons _ _ .nil), rfl⟩

          · rw [show decide (a < e) = false from decide_eq_false hae, ite_ff]
            have hRe1 : R = (ms ++ (sldF k ((es.drop (i + 1)).dropWhile (· == e)) ((as.drop (j + 1)).dropWhile (· == a))).1, us ++ (sldF k ((es.drop (i + 1)).dropWhile (· == e)) ((as.drop (j + 1)).dropWhile (· == a))).2) := by
              rw [hRe]
              show (ms ++ (if e < a then _ else if a < e then _ else _ : List (List Nat) × List (List Nat)).1, us ++ (if e < a then _ else if a < e then _ else _ : List (List Nat) × List (List Nat)).2) = _
              rw [if_neg hea, if_neg hae]
            w_is_and go_3_25_26_12_19_2
            rename Fr _ _ _ _ => F6
            rename News _ _ _ _ => N6
            refine wpAny_Try_finally ?_
            w_is_and go_3_25_26_12_19_2
            refine whl2 (n₀ := es.length - (i + 1)) (J := fun n m nw => Ex2 fun (q : Nat) (tq : Tok) => And6 (n = es.length - q) (i < q) (q ≤ es.length) (nw = ((U, listOf uv.toArray nu) :: (M, listOf mv.toArray nm) :: frs1)) ((es.drop (i + 1)).dropWhile (· == e) = (es.drop q).dropWhile (· == e)) (LV m [(Str.ofString "expected", .ref le), (Str.ofString "actual", .ref la), (Str.ofString "missing", .ref M), (Str.ofString "unexpected", .ref U), (Str.ofString "i", .int ((q : Nat) : Int) tq), (Str.ofString "j", .int ((j : Nat) : Int) tj), (Str.ofString "e", .str ⟨e.toArray⟩ te), (Str.ofString "a", .str ⟨a.toArray⟩ ta)]))
              (O := fun m nw => Ex2 fun (q : Nat) (tq : Tok) => And5 (i < q) (q ≤ es.length) (nw = ((U, listOf uv.toArray nu) :: (M, listOf mv.toArray nm) :: frs1)) ((es.drop (i + 1)).dropWhile (· == e) = es.drop q) (LV m [(Str.ofString "expected", .ref le), (Str.ofString "actual", .ref la), (Str.ofString "missing", .ref M), (Str.ofString "unexpected", .ref U), (Str.ofString "i", .int ((q : Nat) : Int) tq), (Str.ofString "j", .int ((j : Nat) : Int) tj), (Str.ofString "e", .str ⟨e.toArray⟩ te), (Str.ofString "a", .str ⟨a.toArray⟩ ta)]))
              F6 N6 ⟨i + 1, _, rfl, Nat.lt_succ_self _, by omega, rfl, rfl, rfl⟩ ?_ ?_ PassesOwn.looking
            · clear F6 N6
              intro n m₂ nw₂ h7 tk7 g7 hJ6 F7 N7
              try k_fold
              revert F7 N7
              obtain ⟨q, tq, rfl, hq1, hq2, rfl, hdw, rL⟩ := hJ6
              intro F7 N7
              rw [rL.can] at F7
              w_is_and go_3_25_26_12_19_2
              by_cases hq3 : q < es.length
              · obtain ⟨tz, hz⟩ := get_txs hve hq3
                refine sub_val (k := q) (hkG _ F7.keep) hz (by omega) ?_
                w_is_and go_3_25_26_12_19_2
                · rename (_ == _) = true => z
                  rw [str_beq] at z
                  rename Fr _ _ _ _ => F8
                  rename News _ _ _ _ => N8
                  refine WEnd.intro (es.length - (q + 1)) _ F8 N8 (fun _ h => h) (by omega) ⟨q + 1, _, rfl, by omega, by omega, rfl, ?_, rfl⟩
                  rw [hdw, drop_cons hq3, List.dropWhile_cons, if_pos z]
                · rename (_ == _) = false => z
                  rw [str_beq] at z
                  refine WOut.intro _ F7 N7 (fun _ h => h) ⟨q, _, hq1, hq2, rfl, ?_, rfl⟩
                  rw [hdw, drop_cons hq3, List.dropWhile_cons, if_neg (by rw [z]; exact Bool.false_ne_true)]
              · have hq4 : q = es.length := by omega
                have hdn : (es.drop (i + 1)).dropWhile (· == e) = [] := by rw [hdw, hq4, List.drop_length]; rfl
                refine sub_out rfl (hkG _ F7.keep) (by omega) (by omega) fun h9 tk9 e9 hx => ?_
                obtain ⟨ob0, tp0, he0, hcls0, hd0⟩ := hx.there
                have hlsts : ∀ p ∈ [(U, listOf uv.toArray nu), (M, listOf mv.toArray nm)], ∃ its n, p.2 = listOf its n := fun p hp => by
                  rcases List.mem_cons.mp hp with rfl | hp
                  · exact ⟨_, _, rfl⟩
                  · rw [List.mem_singleton.mp hp]; exact ⟨_, _, rfl⟩
                refine noted_newC (A₀ := Ar dp un (some l) gd) (new := [(U, listOf uv.toArray nu), (M, listOf mv.toArray nm)]) (cx := .none) rfl Fs1 hx.keeps hx.new he0 hcls0 hd0 F7 N7 (frs_hap Fs1 hlsts N7) (fun h10 frs10 SU10 Fs10 H hcx => ?_) rfl
                obtain ⟨oc, vc, hec, hdc, hc2⟩ := hcx
                refine ⟨ref_ne_byPass _, ?_⟩
                refine noted_again H.held (fun _ _ => ?_)
                clear F7 N7
                obtain ⟨⟨F10, ⟨ob, vs, tb, otb, tvs, he, hcls, hd, h1, htb, htd, h3, htbL, htbe, htb0⟩, hf0⟩, N10, hap0⟩ := H
                have hob : ob = oc := Option.some.inj (he.symm.trans hec)
                have hvs2 : vs[2]? = some .none := by
                  rw [hob, hdc] at hd
                  cases hd
                  exact hc2
                have hap := hap0 ob vs tb he hd h1
                have hsz3 : 3 < tvs.size := (Array.getElem?_eq_some_iff.mp h3).1
                refine wpAny_setFlight_none he hd h1 htb htd hsz3 ?_
                have F11 := fr_upd F10 htbL htb0 (Obj.mapFields (·.setIfInBounds 3 Value.none))
                have N11 : News G L (h10.update tb (Obj.mapFields (·.setIfInBounds 3 Value.none))) ((e9, ob) :: (tb, Obj.mapFields (·.setIfInBounds 3 Value.none) otb) :: (U, listOf uv.toArray nu) :: (M, listOf mv.toArray nm) :: frs10) := fun p hp => by
                  rcases List.mem_cons.mp hp with rfl | hp
                  · exact ⟨(Heap.get?_update_other _ _ htbe).trans he, (fun z => by
                      obtain ⟨oL, es1, ep1, eL, hLd, _⟩ := F10.ns
                      replace z : e9 = L := z
                      rw [← z, he] at eL; cases eL; rw [hd] at hLd; cases hLd), hf0⟩
                  · rcases List.mem_cons.mp hp with rfl | hp
                    · exact ⟨Heap.get?_update_self _ htb (Obj.isFreed_of_fields (Obj.data_mapFields htd _)), htbL, htb0⟩
                    · exact news_upd N10 hap _ p hp
                clear F10 N10
                refine wpAny_passesOwnAt (hPA _ _) ?_
                w_is_and go_3_25_26_12_19_2
                rename Fr _ _ _ _ => FI
                rename News _ _ _ _ => NI
                refine whl2 (n₀ := as.length - (j + 1)) (J := fun n m nw => Ex2 fun (q3 : Nat) (tq3 : Tok) => And6 (n = as.length - q3) (j < q3) (q3 ≤ as.length) (nw = ((e9, ob) :: (tb, Obj.mapFields (·.setIfInBounds 3 Value.none) otb) :: (U, listOf uv.toArray nu) :: (M, listOf mv.toArray nm) :: frs10)) ((as.drop (j + 1)).dropWhile (· == a) = (as.drop q3).dropWhile (· == a)) (LV m [(Str.ofString "expected", .ref le), (Str.ofString "actual", .ref la), (Str.ofString "missing", .ref M), (Str.ofString "unexpected", .ref U), (Str.ofString "i", .int ((q : Nat) : Int) tq), (Str.ofString "j", .int ((q3 : Nat) : Int) tq3), (Str.ofString "e", .str ⟨e.toArray⟩ te), (Str.ofString "a", .str ⟨a.toArray⟩ ta)]))
                  (O := fun m nw => Ex2 fun (q3 : Nat) (tq3 : Tok) => And5 (j < q3) (q3 ≤ as.length) (nw = ((e9, ob) :: (tb, Obj.mapFields (·.setIfInBounds 3 Value.none) otb) :: (U, listOf uv.toArray nu) :: (M, listOf mv.toArray nm) :: frs10)) ((as.drop (j + 1)).dropWhile (· == a) = as.drop q3) (LV m [(Str.ofString "expected", .ref le), (Str.ofString "actual", .ref la), (Str.ofString "missing", .ref M), (Str.ofString "unexpected", .ref U), (Str.ofString "i", .int ((q : Nat) : Int) tq), (Str.ofString "j", .int ((q3 : Nat) : Int) tq3), (Str.ofString "e", .str ⟨e.toArray⟩ te), (Str.ofString "a", .str ⟨a.toArray⟩ ta)]))
                  FI NI ⟨j + 1, _, rfl, Nat.lt_succ_self _, by omega, rfl, rfl, rfl⟩ ?_ ?_ (hPA _ _)
                · clear FI NI
                  intro n m₂ nw₂ h73 tk73 g73 hJ7 F73 N73
                  try k_fold
                  revert F73 N73
                  obtain ⟨q3, tq3, rfl, hq13, hq23, rfl, hdw3, rL⟩ := hJ7
                  intro F73 N73
                  rw [rL.can] at F73
                  w_is_and go_3_25_26_12_19_2
                  by_cases hq33 : q3 < as.length
                  · obtain ⟨tz3, hz3⟩ := get_txs hva hq33
                    refine sub_val (k := q3) (hkA _ F73.keep) hz3 (by omega) ?_
                    w_is_and go_3_25_26_12_19_2
                    · rename (_ == _) = true => z
                      rw [str_beq] at z
                      rename Fr _ _ _ _ => F83
                      rename News _ _ _ _ => N83
                      refine WEnd.intro (as.length - (q3 + 1)) _ F83 N83 (fun _ h => h) (by omega) ⟨q3 + 1, _, rfl, by omega, by omega, rfl, ?_, rfl⟩
                      rw [hdw3, drop_cons hq33, List.dropWhile_cons, if_pos z]
                    · rename (_ == _) = false => z
                      rw [str_beq] at z
                      refine WOut.intro _ F73 N73 (fun _ h => h) ⟨q3, _, hq13, hq23, rfl, ?_, rfl⟩
                      rw [hdw3, drop_cons hq33, List.dropWhile_cons, if_neg (by rw [z]; exact Bool.false_ne_true)]
                  · have hq43 : q3 = as.length := by omega
                    have hdn3 : (as.drop (j + 1)).dropWhile (· == a) = [] := by rw [hdw3, hq43, List.drop_length]; rfl
                    refine sub_outH rfl (N73 (e9, ob) (.head _)).1 hd hvs2 (hkA _ F73.keep) (by omega) (by omega) fun h12 tk12 e12 tp12 ob12 kk hn12 he12 hc12 hd12 => ?_
                    refine hand h12 tk12 g73 e12 _ q q3 ms us mv uv nm nu tq tq3 (by exact rfl) (by rw [hRe1, hdn, hdn3, sld_nil, hq4, hq43, List.drop_length, List.drop_length]) (by omega) (by omega) hmv huv (fun Q₁ E₁ kq => hNt _ _ _ _ (noted_newC (A₀ := Ar dp un (some l) gd) (new := [(U, listOf uv.toArray nu), (M, listOf mv.toArray nm)]) rfl Fs10 kk hn12 he12 hc12 hd12 F73 (fun p hp => N73 p (.tail _ (.tail _ hp))) (frs_hap Fs10 hlsts fun p hp => N73 p (.tail _ (.tail _ hp))) (fun h' frs' SU Fs' H _ => kq h' frs' (TI.SameUp.trans (TI.SameUp.trans hSU SU10) SU) Fs' H) rfl))
                · clear FI NI
                  intro m₂ nw₂ h73 tk73 g73 hJ8 F73 N73
                  try k_fold
                  revert F73 N73
                  obtain ⟨q3, tq3, hq13, hq23, rfl, hdw3, rL⟩ := hJ8
                  intro F73 N73
                  rw [rL.can] at F73
                  try dsimp only
                  refine wpAny_execs_nil ?_
                  try dsimp only
                  refine passOn_held (N73 (e9, ob) (.head _)).1 hd h1 (N73 (tb, _) (.tail _ (.head _))).1 (Obj.data_mapFields htd _) (by simpa using hsz3) rfl ?_
                  have HH := held_set (fl := rawInt L) F73 N73 hcls hd h1 (Obj.data_mapFields htd _) (by simpa using hsz3) htbe hap
                  refine hand _ _ _ e9 _ q q3 ms us mv uv nm nu tq tq3 (by exact rfl) (by rw [hRe1, hdn, hdw3, sld_nil, hq4, List.drop_length]) (by omega) (by omega) hmv huv (fun Q₁ E₁ kq => hNt _ _ _ _ (noted_again HH.held fun _ _ => kq _ frs10 (TI.SameUp.trans hSU SU10) Fs10 HH))

            · clear F6 N6
              intro m₂ nw₂ h7 tk7 g7 hJ9 F7 N7
              try k_fold
              revert F7 N7
              obtain ⟨q, tq, hq1, hq2, rfl, hdw, rL⟩ := hJ9
              intro F7 N7
              rw [rL.can] at F7
              try dsimp only
              refine wpAny_execs_nil ?_
              try dsimp only
              refine wpAny_execs_nil ?_
              try dsimp only
              refine wpAny_passesOwn hPO ?_
              w_is_and go_3_25_26_12_19_2
              rename Fr _ _ _ _ => FI
              rename News _ _ _ _ => NI
              refine whl2 (n₀ := as.length - (j + 1)) (J := fun n m nw => Ex2 fun (q4 : Nat) (tq4 : Tok) => And6 (n = as.length - q4) (j < q4) (q4 ≤ as.length) (nw = ((U, listOf uv.toArray nu) :: (M, listOf mv.toArray nm) :: frs1)) ((as.drop (j + 1)).dropWhile (· == a) = (as.drop q4).dropWhile (· == a)) (LV m [(Str.ofString "expected", .ref le), (Str.ofString "actual", .ref la), (Str.ofString "missing", .ref M), (Str.ofString "unexpected", .ref U), (Str.ofString "i", .int ((q : Nat) : Int) tq), (Str.ofString "j", .int ((q4 : Nat) : Int) tq4), (Str.ofString "e", .str ⟨e.toArray⟩ te), (Str.ofString "a", .str ⟨a.toArray⟩ ta)]))
                (O := fun m nw => Ex2 fun (q4 : Nat) (tq4 : Tok) => And5 (j < q4) (q4 ≤ as.length) (nw = ((U, listOf uv.toArray nu) :: (M, listOf mv.toArray nm) :: frs1)) ((as.drop (j + 1)).dropWhile (· == a) = as.drop q4) (LV m [(Str.ofString "expected", .ref le), (Str.ofString "actual", .ref la), (Str.ofString "missing", .ref M), (Str.ofString "unexpected", .ref U), (Str.ofString "i", .int ((q : Nat) : Int) tq), (Str.ofString "j", .int ((q4 : Nat) : Int) tq4), (Str.ofString "e", .str ⟨e.toArray⟩ te), (Str.ofString "a", .str ⟨a.toArray⟩ ta)]))
                FI NI ⟨j + 1, _, rfl, Nat.lt_succ_self _, by omega, rfl, rfl, rfl⟩ ?_ ?_ hPO
              · clear FI NI
                intro n m₂ nw₂ h74 tk74 g74 hJ10 F74 N74
                try k_fold
                revert F74 N74
                obtain ⟨q4, tq4, rfl, hq14, hq24, rfl, hdw4, rL⟩ := hJ10
                intro F74 N74
                rw [rL.can] at F74
                w_is_and go_3_25_26_12_19_2
                by_cases hq34 : q4 < as.length
                · obtain ⟨tz4, hz4⟩ := get_txs hva hq34
                  refine sub_val (k := q4) (hkA _ F74.keep) hz4 (by omega) ?_
                  w_is_and go_3_25_26_12_19_2
                  · rename (_ == _) = true => z
                    rw [str_beq] at z
                    rename Fr _ _ _ _ => F84
                    rename News _ _ _ _ => N84
                    refine WEnd.intro (as.length - (q4 + 1)) _ F84 N84 (fun _ h => h) (by omega) ⟨q4 + 1, _, rfl, by omega, by omega, rfl, ?_, rfl⟩
                    rw [hdw4, drop_cons hq34, List.dropWhile_cons, if_pos z]
                  · rename (_ == _) = false => z
                    rw [str_beq] at z
                    refine WOut.intro _ F74 N74 (fun _ h => h) ⟨q4, _, hq14, hq24, rfl, ?_, rfl⟩
                    rw [hdw4, drop_cons hq34, List.dropWhile_cons, if_neg (by rw [z]; exact Bool.false_ne_true)]
                · have hq44 : q4 = as.length := by omega
                  have hdn4 : (as.drop (j + 1)).dropWhile (· == a) = [] := by rw [hdw4, hq44, List.drop_length]; rfl
                  refine sub_out rfl (hkA _ F74.keep) (by omega) (by omega) fun h9 tk9 e9 hx => ?_
                  exact hand h9 tk9 g74 e9 _ q q4 ms us mv uv nm nu tq tq4 (by exact rfl) (by rw [hRe1, hdw, hdn4, sld_nil2, hq44, List.drop_length]) (by omega) (by omega) hmv huv (hnA F74 N74 hx)
              · clear FI NI
                intro m₂ nw₂ h74 tk74 g74 hJ11 F74 N74
                try k_fold
                revert F74 N74
                obtain ⟨q4, tq4, hq14, hq24, rfl, hdw4, rL⟩ := hJ11
                intro F74 N74
                rw [rL.can] at F74
                try dsimp only
                w_is_and go_3_25_26_12_19_2
                exact WEnd.intro ((es.length - q) + (as.length - q4)) _ F74 N74 (fun _ h => h) (by omega) ⟨q, q4, ms, us, _, _, _, _, frs1, _, _, rfl, hSU, Fs1, by omega, by omega, rfl, ⟨k, by omega, by rw [hRe1, hdw, hdw4]⟩, by omega, by omega, hmv, huv, rfl⟩


      · refine sub_out rfl (hkA _ F5.keep) (by omega) (by omega) fun h5 tk5 e5 hx => ?_
        have hj2 : j = as.length := by omega
        exact hand h5 tk5 g4 e5 _ i j ms us mv uv nm nu ti tj (by exact rfl) (by rw [hRe, hj2, List.drop_length, sld_nil2]) (by omega) (by omega) hmv huv (hnA F5 N5 hx)
    · refine sub_out rfl (hkG _ F4.keep) (by omega) (by omega) fun h5 tk5 e5 hx => ?_
      have hi2 : i = es.length := by omega
      exact hand h5 tk5 g4 e5 _ i j ms us mv uv nm nu ti tj (by exact rfl) (by rw [hRe, hi2, List.drop_length, sld_nil]) (by omega) (by omega) hmv huv (hnA F4 N4 hx)
  · clear F1 N1
    intro m₁ nw₁ h4 tk4 g4 hJ12 F4 N4
    try k_fold
    revert F4 N4
    obtain ⟨mv, uv, nm, nu, frs1, rfl, hSU, hmv, huv, rL⟩ := hJ12
    intro F4 N4
    rw [rL.can] at F4
    w_is_and go_3_25_26_12_19_2
    rename Fr _ _ _ _ => F5
    rename News _ _ _ _ => N5
    refine h _ _ g4 frs1 _ M U mv uv nm nu hSU (fun p hp => (N5 p (.tail _ (.tail _ (.tail _ hp)))).1) F5.keep (fun p hp => ?_) hmv huv
    rcases List.mem_cons.mp hp with rfl | hp
    · exact ⟨(N5 _ (.head _)).1, (N5 _ (.head _)).2.2⟩
    · rcases List.mem_cons.mp hp with rfl | hp
      · exact ⟨(N5 _ (.tail _ (.tail _ (.head _)))).1, (N5 _ (.tail _ (.tail _ (.head _)))).2.2⟩
      · rw [List.mem_singleton.mp hp]; exact ⟨(N5 _ (.tail _ (.head _))).1, (N5 _ (.tail _ (.head _))).2.2⟩
end Ksld_call
section
variable {w : World} {p : Program} {loose : List Str} {mean : ExcName → Option Value} {mg mb : Str → Option Value} {dp un : Nat} {fr : Option (List Env)} {gd : Option (List Code)} {s : Shared} {Q E : Value → Shared → Prop}
theorem sld_call {l : List Env} {frs : List (Addr × Obj)} {le la : Addr} {es as : List (List Nat)} {ve va : List Value} (Fs : TI.Frs l frs) (hfr : ∀ p ∈ frs, s.heap.get? p.1 = some p.2) (X : (KK w).In (hidF s.heap frs)) (T : Top p loose mean mg mb (hidF s.heap frs)) (hd : dp + 20 < recursionLimit) (hu : un + 100 < cLine) (hle : (hidF s.heap frs).IsList le ve.toArray) (hve : StrsAre ve (txs es)) (hla : (hidF s.heap frs).IsList la va.toArray) (hva : StrsAre va (txs as)) (hel : es.length ≤ 100) (hal : as.length ≤ 100) (h : ∀ h' t' (g' : BG) frs' D M U vm vu nm nu, TI.SameUp frs frs' → (∀ p ∈ frs', h'.get? p.1 = some p.2) → Ext (hidF s.heap frs) h' →
      New (hidF s.heap frs) h' [(D, ({ cls := .type "tuple", data := .seq #[.ref M, .ref U] } : Obj)), (M, listOf vm.toArray nm), (U, listOf vu.toArray nu)] → StrsAre vm (txs (sldF (es.length + as.length) es as).1) → StrsAre vu (txs (sldF (es.length + as.length) es as).2) →
      Q (.ref D) { s with heap := h', toks := t', gens := g' }) (hB : AllBare s.gens := by first | assumption | exact BG.ok _) :
    wpAny (model PG w) (Ar dp un (some l) gd) (call (.ref 97) [.ref le, .ref la]) Q E s :=
  (Base.all Ksld_call.St (by with_unfolding_all exact Ksld_call.at_bad) ⟨w, p, loose, mean, mg, mb, dp, un, none, gd, s, Q, E⟩) l frs le la es as ve va Fs hfr X T hd hu hle hve hla hva hel hal h hB
end
end Mine
end

section
open PySem PySem.W PyProof.Rows PySem.Calls PySem.Spec
set_option maxRecDepth 100000
set_option maxHeartbeats 8000000
namespace Mine
set_option hygiene false
set_option hygiene true
section
variable {w : World} {p : Program} {loose : List Str} {mean : ExcName → Option Value} {mg mb : Str → Option Value} {dp un : Nat} {fr : Option (List Env)} {gd : Option (List Code)} {s : Shared} {Q E : Value → Shared → Prop}
noncomputable def Ext57 (h h' : Heap) : Prop := ∀ b o, b ≠ 57 → h.get? b = some o → h'.get? b = some o
theorem TabOk.mono {h h' : Heap} {ps : Array Value} (x : TabOk h ps) (k : Ext57 h h') : TabOk h' ps := ⟨x.1, fun cv e => let ⟨c', oc, vs, t, e1, e2, e3, e4, e5⟩ := x.2 cv e; ⟨c', oc, vs, t, e1, e2, k _ _ e2 e3, e4, e5⟩⟩
theorem fr_ext57 {h₀ h h' : Heap} {L : Addr} {m : Str → Option Value} (F : Fr (hid57 h₀) L h m) (k : Ext57 h h') (hL : L ≠ 57) : Fr (hid57 h₀) L h' m :=
  ⟨F.ns.at' fun o e => k _ _ hL e, fun b o e => k b o (fun q => by rw [q, hid57_none] at e; cases e) (F.keep b o e), F.above⟩

theorem ext57_of {h h' : Heap} (k : Ext (hid57 h) h') : Ext57 h h' := fun b o hb e => k b o (hideAll_get _ e (fun q => hb (List.mem_singleton.mp q)))
/-- the code that the table names is kept in the ledger -/
theorem tab_cs {G0 h : Heap} {L : Addr} {m : Str → Option Value} {ps : Array Value} (F : Fr G0 L h m) (x : TabOk h ps) : ∃ cs, News G0 L h cs ∧ ∀ h', Ext G0 h' → News G0 L h' cs → TabOk h' ps := by
  cases q : codeAmong lamPos ps.toList with
  | none => exact ⟨[], News.nil, fun h' _ _ => ⟨x.1, fun cv e => by rw [q] at e; cases e⟩⟩
  | some cv =>
    obtain ⟨c', oc, vs, t, e1, e2, e3, e4, e5⟩ := x.2 cv q
    cases q2 : G0.get? c' with
    | some o' =>
      have := F.keep _ _ q2
      rw [e3] at this
      cases this
      refine ⟨[], News.nil, fun h' k _ => ⟨x.1, fun cv' e => ?_⟩⟩
      rw [q] at e; cases e
      exact ⟨c', oc, vs, t, e1, e2, k _ _ q2, e4, e5⟩
    | none =>
      refine ⟨[(c', oc)], fun p hp => ?_, fun h' k N => ⟨x.1, fun cv' e => ?_⟩⟩
      · rw [List.mem_singleton.mp hp]
        refine ⟨e3, fun z => ?_, q2⟩
        obtain ⟨o, es, ep, eo, hd, _⟩ := F.ns
        replace z : c' = L := z
        rw [← z, e3] at eo
        cases eo
        rw [e4] at hd; cases hd
      · rw [q] at e; cases e
        exact ⟨c', oc, vs, t, e1, e2, (N _ (List.mem_cons_self ..)).1, e4, e5⟩

noncomputable abbrev three (p1 p2 p3 : Pc) : List (Option Pc) := [none, some p1, none, some p2, none, some p3, none]
noncomputable abbrev madeF (p1 p2 p3 : Pc) : List Nat := [40, 63, 115, 58] ++ (wrapF p1 ++ wrapF p2 ++ wrapF p3 ++ [46, 42, 41, 92, 90])
theorem out_len (p : Pc) (hp : p.ok) : p.out.length ≤ 12 := by
  cases p with
  | bare c => show (escE c).length ≤ 12; unfold escE; split <;> simp
  | one c =>
    obtain ⟨d, l, _, _, h, e⟩ := sig_of (.one c) hp (fun _ h => nomatch h)
    show ([91] ++ Pc.inner (.one c) ++ [93]).length ≤ 12
    rw [e]
    simp only [List.length_cons] at h
    split
    · simp only [List.length_append, List.length_cons, List.length_nil]; omega
    · split <;> (simp only [List.length_append, List.length_cons, List.length_nil]; omega)
  | bar a b c =>
    obtain ⟨d, l, _, _, h, e⟩ := sig_of (.bar a b c) hp (fun _ h => nomatch h)
    show ([91] ++ Pc.inner (.bar a b c) ++ [93]).length ≤ 12
    rw [e]
    simp only [List.length_cons] at h
    split
    · simp only [List.length_append, List.length_cons, List.length_nil]; omega
    · split <;> (simp only [List.length_append, List.length_cons, List.length_nil]; omega)
theorem text_len (p : Pc) : p.text.length ≤ 6 := by cases p <;> simp [Pc.text]

end
noncomputable def Ktl_call.St (w : World) (p : Program) (loose : List Str) (mean : ExcName → Option Value) (mg : Str → Option Value) (mb : Str → Option Value) (dp : Nat) (un : Nat) (fr : Option (List Env)) (gd : Option (List Code)) (s : Shared) (Q : Value → Shared → Prop) (E : Value → Shared → Prop) : Prop :=
  ∀ (G : Heap) (ps : Array Value) (p1 p2 p3 : Pc) (t : Tok) (X : (KK w).In G) (T : Top p loose mean mg mb G) (hG : Ext G s.heap) (hG0 : G.get? 57 = none) (C : CodeHd G 61 57) (hP : s.heap.get? 57 = some (tabObj ps)) (hps : TabOk s.heap ps) (hd : dp + 80 < recursionLimit) (hu : un + 400 < cLine) (ok1 : p1.ok) (ok2 : p2.ok) (ok3 : p3.ok) (h : ∀ h' t' (g' : BG) tk ps', Ext57 s.heap h' → h'.get? 57 = some (tabObj ps') → TabOk h' ps' → Q (.str ⟨(madeF p1 p2 p3).toArray⟩ tk) { s with heap := h', toks := t', gens := g' }) (hB : AllBare s.gens),
    wpAny (model PG w) (Ar dp un fr gd) (call (.ref 43) [.str ⟨((three p1 p2 p3).flatMap tkText).toArray⟩ t]) Q E s
namespace Ktl_call
@[irreducible] noncomputable def bad : Base := Base.bad St
noncomputable def w : World := bad.w
noncomputable def p : Program := bad.p
noncomputable def loose : List Str := bad.loose
noncomputable def mean : ExcName → Option Value := bad.mean
noncomputable def mg : Str → Option Value := bad.mg
noncomputable def mb : Str → Option Value := bad.mb
noncomputable def dp : Nat := bad.dp
noncomputable def un : Nat := bad.un
noncomputable def fr : Option (List Env) := bad.fr
noncomputable def gd : Option (List Code) := bad.gd
noncomputable def s : Shared := bad.s
noncomputable def Q : Value → Shared → Prop := bad.Q
noncomputable def E : Value → Shared → Prop := bad.E
noncomputable def L : Addr := s.heap.objs.size
theorem hL : s.heap.objs.size = L := rfl
theorem at_bad : St w p loose mean mg mb dp un fr gd s Q E := by
  unfold St
  intros G ps p1 p2 p3 t X T hG hG0 C hP hps hd hu ok1 ok2 ok3 h hB
  generalize hx : (⟨((three p1 p2 p3).flatMap tkText).toArray⟩ : Str) = x
  have X0 := X
  have T0 := T
  revert X; unfold PG KK
  k_fill; intro X
  refine enterX (binds := [(Str.ofString "pat", .str x t)]) (X.keeps hG) (T.keeps hG).nolimit (by k_is) (by k_is) (by omega) rfl rfl (fun L' h₁ hL' F0 N0 => ?_)
  obtain rfl : L' = L := hL'.symm.trans hL
  k_fold
  have hGs : Ext G (hid57 s.heap) := hid57_ext hG hG0
  have F := hid57_fr F0
  have N := hid57_news F0 hP
  have hL57 : L ≠ 57 := fun e => by
    have := Heap.lt_size hP
    rw [hL, e] at this
    exact Nat.lt_irrefl _ this
  have hps1 : TabOk h₁ ps := hps.mono fun b o _ e => F0.keep b o e
  clear F0 N0
  replace X := X.keeps hGs
  replace T := T.keeps hGs
  w_is_and go_10_8
  refine object_call ?_
  generalize hst0 : h₁.objs.size = st
  have hst : ∀ o, h₁.get? st = some o → False := fun o e => by have := Heap.lt_size e; rw [hst0] at this; exact Nat.lt_irrefl _ this
  have h57 := (N ((57 : Addr), tabObj ps) (List.mem_cons_self ..)).1
  have hst57 : st ≠ 57 := fun e => hst _ (e ▸ h57)
  dsimp only
  have kp : Ext h₁ (h₁.push { cls := .type "object", data := .plain }) := fun b o e => Heap.get?_push_of_some _ e
  have F2 := F.keeps kp
  have N2 := News.ext N kp
  have hps2 := hps1.mono fun b o _ e => kp b o e
  clear F N hps1
  w_is_and go_10_8
  rename Fr _ _ _ _ => F3
  rename News _ _ _ _ => N3
  subst hx
  refine tr_call (ts := three p1 p2 p3) X0 T0 (fun b o e => F3.keep b o (hGs b o e)) hG0 C (N3 ((57 : Addr), tabObj ps) (List.mem_cons_self ..)).1 (hps.mono (ext57_of F3.keep)) (by omega) (by omega) (by show 7 ≤ 20; decide) ?_ ?_ hst57 ?_ fun h2 t2 g2 R rv n1 ps2 k57 hP2 hps2 hR hR0 hrv => ?_
  · have := text_len p1
    have := text_len p2
    have := text_len p3
    simp only [List.flatMap_cons, List.flatMap_nil, List.length_append, tkText, List.length_cons, List.length_nil]; omega
  · intro q hq
    simp only [List.mem_cons, List.not_mem_nil, or_false, Option.some.injEq, reduceCtorEq, false_or] at hq
    rcases hq with rfl | rfl | rfl
    · exact ok1
    · exact ok2
    · exact ok3
  · intro j hj i hi
    subst hi
    rcases (by have := (List.getElem?_eq_some_iff.mp hj).1; simp only [List.length_cons, List.length_nil] at this; omega : i = 0 ∨ i = 1 ∨ i = 2 ∨ i = 3 ∨ i = 4 ∨ i = 5) with rfl | rfl | rfl | rfl | rfl | rfl
    · cases hj
    · exact ⟨_, rfl⟩
    · cases hj
    · exact ⟨_, rfl⟩
    · cases hj
    · exact ⟨_, rfl⟩
  have F4 := fr_ext57 F3 k57 hL57
  have hR57 : R ≠ 57 := fun e => by rw [e, (N3 ((57 : Addr), tabObj ps) (List.mem_cons_self ..)).1] at hR0; cases hR0
  have hRL : R ≠ L := fun e => by
    obtain ⟨o, es, ep, eo, _⟩ := F3.ns
    rw [e, eo] at hR0; cases hR0
  have hRG : (hid57 s.heap).get? R = none := by
    cases q : (hid57 s.heap).get? R with
    | none => rfl
    | some o => rw [F3.keep _ _ q] at hR0; cases hR0
  obtain ⟨cs, Ncs, hcs⟩ := tab_cs F4 hps2
  have N4 : News (hid57 s.heap) L h2 ((R, listOf rv.toArray n1) :: ((57 : Addr), tabObj ps2) :: cs) := fun p hp => by
    rcases List.mem_cons.mp hp with rfl | hp
    · exact ⟨hR, hRL, hRG⟩
    · rcases List.mem_cons.mp hp with rfl | hp
      · exact ⟨hP2, Ne.symm hL57, hid57_none⟩
      · exact Ncs p hp
  clear F3 N3 Ncs hP2
  w_is_and go_10_8
  rename Fr _ _ _ _ => F5
  rename News _ _ _ _ => N5
  refine jt_call (X.keeps F5.keep) (T.keeps F5.keep) (by omega) (by omega) (N5.isList (List.mem_cons_self ..)) hrv ?_ fun h5 t5 g5 tk5 k5 => ?_
  · intro q hq
    simp only [List.mem_cons, List.not_mem_nil, or_false] at hq
    rcases hq with rfl | rfl | rfl
    · exact out_len _ ok1
    · exact out_len _ ok2
    · exact out_len _ ok3
  · exact h _ _ g5 _ ps2 (fun b o hb e => k5 b o (ext57_of F5.keep b o hb e)) (k5 _ _ (N5 ((57 : Addr), tabObj ps2) (.tail _ (.head _))).1) ((hcs _ F5.keep fun p hp => N5 p (.tail _ (.tail _ hp))).mono fun b o _ e => k5 b o e)
end Ktl_call
section
variable {w : World} {p : Program} {loose : List Str} {mean : ExcName → Option Value} {mg mb : Str → Option Value} {dp un : Nat} {fr : Option (List Env)} {gd : Option (List Code)} {s : Shared} {Q E : Value → Shared → Prop}
theorem tl_call {G : Heap} {ps : Array Value} {p1 p2 p3 : Pc} {t : Tok} (X : (KK w).In G) (T : Top p loose mean mg mb G) (hG : Ext G s.heap) (hG0 : G.get? 57 = none) (C : CodeHd G 61 57) (hP : s.heap.get? 57 = some (tabObj ps)) (hps : TabOk s.heap ps) (hd : dp + 80 < recursionLimit) (hu : un + 400 < cLine) (ok1 : p1.ok) (ok2 : p2.ok) (ok3 : p3.ok) (h : ∀ h' t' (g' : BG) tk ps', Ext57 s.heap h' → h'.get? 57 = some (tabObj ps') → TabOk h' ps' → Q (.str ⟨(madeF p1 p2 p3).toArray⟩ tk) { s with heap := h', toks := t', gens := g' }) (hB : AllBare s.gens := by first | assumption | exact BG.ok _) :
    wpAny (model PG w) (Ar dp un fr gd) (call (.ref 43) [.str ⟨((three p1 p2 p3).flatMap tkText).toArray⟩ t]) Q E s :=
  (Base.all Ktl_call.St (by with_unfolding_all exact Ktl_call.at_bad) ⟨w, p, loose, mean, mg, mb, dp, un, fr, gd, s, Q, E⟩) G ps p1 p2 p3 t X T hG hG0 C hP hps hd hu ok1 ok2 ok3 h hB
end
end Mine
end

section
open PySem PySem.W PyProof.Rows PySem.Calls PySem.Spec
set_option maxRecDepth 100000
set_option maxHeartbeats 8000000
namespace Mine
set_option hygiene false
set_option hygiene true
section
variable {w : World} {p : Program} {loose : List Str} {mean : ExcName → Option Value} {mg mb : Str → Option Value} {dp un : Nat} {fr : Option (List Env)} {gd : Option (List Code)} {s : Shared} {Q E : Value → Shared → Prop}

noncomputable def isTx (c : List Nat) : Value → Bool
  | .str s _ => s == ⟨c.toArray⟩
  | _ => false
theorem mem_strs {vs : List Value} {ss : List Str} (h : StrsAre vs ss) {v : Value} (hv : v ∈ vs) : ∃ x t, v = .str x t ∧ x ∈ ss := by
  induction h with
  | nil => cases hv
  | cons y t h ih =>
    rcases List.mem_cons.mp hv with rfl | hv
    · exact ⟨y, t, rfl, List.mem_cons_self ..⟩
    · obtain ⟨x, t', e, hx⟩ := ih hv
      exact ⟨x, t', e, List.mem_cons_of_mem _ hx⟩
section
variable {prog : Program} {A : Around} {h₀ : Heap} {L D : Addr} {m : Str → Option Value} {news news' : List (Addr × Obj)}
theorem rem_hit {a1 a2 : List (List Nat)} {c : List Nat} {vs : List Value} {n : Nat} {tx : Tok} {Q : Value → Shared → Prop} (F : Fr h₀ L s.heap m) (N : News h₀ L s.heap news) (hv : StrsAre vs (txs (a1 ++ c :: a2))) (hc : c ∉ a1) (hz : vs.length ≤ 1000)
    (U : ∀ us : List Value, ∃ news', Upd D (listOf vs.toArray n) (listOf us.toArray (n + 1)) news news' ∧ ∀ h', Fr h₀ L h' m → News h₀ L h' news' → StrsAre us (txs (a1 ++ a2)) → Q .none { s with heap := h' }) :
    wpAny (model prog w) A (call (.builtin "list.remove") [.ref D, .str ⟨c.toArray⟩ tx]) Q E s := by
  have hlen := strsAre_length hv
  rw [List.length_map, List.length_append, List.length_cons] at hlen
  obtain ⟨tk, hk⟩ := get_txs hv (q := a1.length) (by rw [List.length_append, List.length_cons]; omega)
  have hgc : (a1 ++ c :: a2).getD a1.length [] = c := by simp [List.getD]
  rw [hgc] at hk
  have hsp : vs = vs.take a1.length ++ .str ⟨c.toArray⟩ tk :: vs.drop (a1.length + 1) := by
    obtain ⟨hlt, he⟩ := List.getElem?_eq_some_iff.mp hk
    rw [← he, ← List.drop_eq_getElem_cons, List.take_append_drop]
  have hp1 : StrsAre (vs.take a1.length) (txs a1) := by
    have := strsAre_take hv a1.length
    rw [← List.map_take, List.take_left] at this; exact this
  have hp2 : StrsAre (vs.drop (a1.length + 1)) (txs a2) := by
    have := strsAre_drop hv (a1.length + 1)
    have e : (a1 ++ c :: a2).drop (a1.length + 1) = a2 := by rw [show a1 ++ c :: a2 = (a1 ++ [c]) ++ a2 by simp, show a1.length + 1 = (a1 ++ [c]).length by simp, List.drop_left]
    rw [← List.map_drop, e] at this; exact this
  have htl : (vs.take a1.length).length = a1.length := by rw [List.length_take]; omega
  obtain ⟨news', U, k⟩ := U (vs.take a1.length ++ vs.drop (a1.length + 1))
  generalize vs.take a1.length = p at *
  generalize vs.drop (a1.length + 1) = q at *
  subst hsp
  obtain ⟨pre, post, rfl, rfl, x1, x2⟩ := U.split
  have z := N (D, listOf (p ++ Value.str ⟨c.toArray⟩ tk :: q).toArray n) (List.mem_append.mpr (.inr (.head _)))
  refine call_meets PySem.F.slot_list_remove ⟨_, z.1, rfl⟩ PySem.F.entry_list_remove (PySem.F.args_list_remove_2 _ _) (PySem.MeetsSeq.list_remove D _ n (.str ⟨c.toArray⟩ tx) (isTx c) ?_ p.length (by simp) ?_ ?_ (by rw [sizeLine_eq, List.size_toArray]; omega)) ⟨z.1, k _ (F.change (Heap.SameBut.update ..) z.2.1 z.2.2) (kl_turn _ N x1 x2 ?_ ?_) ?_⟩
  · intro y hy
    obtain ⟨x, t, rfl, _⟩ := mem_strs hv (Array.mem_toList_iff.mpr hy)
    exact eqGives_str _ _ _ _
  · simp [isTx]
  · intro i hi hlt
    have hy : (p ++ Value.str ⟨c.toArray⟩ tk :: q).toArray[i] = p[i] := by simp [List.getElem_append_left hlt]
    rw [hy]
    obtain ⟨x, t, e, hx⟩ := mem_strs hp1 (List.getElem_mem hlt)
    rw [e]
    obtain ⟨r, hr, rfl⟩ := List.mem_map.mp hx
    show ((⟨r.toArray⟩ : Str) == ⟨c.toArray⟩) = false
    rw [str_beq]
    exact beq_false_of_ne fun z => hc (z ▸ hr)
  · apply Array.toList_inj.mp
    simp [Array.eraseIdxIfInBounds]
    rw [List.eraseIdx_append_of_length_le (Nat.le_refl _)]; simp
  · simp
  · rw [txs, List.map_append]; exact strsAre_append hp1 hp2
theorem rem_miss {as : List (List Nat)} {c : List Nat} {vs : List Value} {n : Nat} {tx : Tok} {Q : Value → Shared → Prop} (hA : A.handled = none) (N : News h₀ L s.heap news) (hD : (D, listOf vs.toArray n) ∈ news) (hv : StrsAre vs (txs as)) (hc : c ∉ as)
    (k : ∀ h' tk e, Heap.NewExc s.heap h' e "ValueError" → E (.ref e) { s with heap := h', toks := tk }) :
    wpAny (model prog w) A (call (.builtin "list.remove") [.ref D, .str ⟨c.toArray⟩ tx]) Q E s := by
  have z := N _ hD
  refine call_meets PySem.F.slot_list_remove ⟨_, z.1, rfl⟩ PySem.F.entry_list_remove (PySem.F.args_list_remove_2 _ _) (PySem.MeetsSeq.list_remove_none D _ n (.str ⟨c.toArray⟩ tx) (isTx c) ?_ ?_) ⟨z.1, hA, k⟩
  · intro y hy
    obtain ⟨x, t, rfl, _⟩ := mem_strs hv (Array.mem_toList_iff.mpr hy)
    exact eqGives_str _ _ _ _
  · intro i hi
    obtain ⟨x, t, e, hx⟩ := mem_strs hv (v := vs.toArray[i]) (by simp)
    rw [e]
    obtain ⟨r, hr, rfl⟩ := List.mem_map.mp hx
    show ((⟨r.toArray⟩ : Str) == ⟨c.toArray⟩) = false
    rw [str_beq]
    exact beq_false_of_ne fun z => hc (z ▸ hr)
end

end
noncomputable def Kuld_call.St (w : World) (p : Program) (loose : List Str) (mean : ExcName → Option Value) (mg : Str → Option Value) (mb : Str → Option Value) (dp : Nat) (un : Nat) (fr : Option (List Env)) (gd : Option (List Code)) (s : Shared) (Q : Value → Shared → Prop) (E : Value → Shared → Prop) : Prop :=
  ∀ (l : List Env) (frs : List (Addr × Obj)) (le la : Addr) (es as : List (List Nat)) (ve va : List Value) (ne na : Nat) (Fs : TI.Frs l frs) (hfr : ∀ p ∈ (le, listOf ve.toArray ne) :: (la, listOf va.toArray na) :: frs, s.heap.get? p.1 = some p.2) (hel2 : le ≠ la) (X : (KK w).In (hidF s.heap ((le, listOf ve.toArray ne) :: (la, listOf va.toArray na) :: frs))) (T : Top p loose mean mg mb (hidF s.heap ((le, listOf ve.toArray ne) :: (la, listOf va.toArray na) :: frs))) (hd : dp + 20 < recursionLimit) (hu : un + 100 < cLine) (hve : StrsAre ve (txs es)) (hva : StrsAre va (txs as)) (hel : es.length ≤ 100) (hal : as.length ≤ 100) (h : ∀ h' t' (g' : BG) frs' D M vm vr nm n1 n2, TI.SameUp frs frs' → (∀ p ∈ frs', h'.get? p.1 = some p.2) → Ext (hidF s.heap ((le, listOf ve.toArray ne) :: (la, listOf va.toArray na) :: frs)) h' →
      New (hidF s.heap ((le, listOf ve.toArray ne) :: (la, listOf va.toArray na) :: frs)) h' [(D, ({ cls := .type "tuple", data := .seq #[.ref M, .ref la] } : Obj)), (M, listOf vm.toArray nm)] → h'.get? le = some (listOf #[] n1) → h'.get? la = some (listOf vr.toArray n2) →
      StrsAre vm (txs (uldF es.reverse as).1) → StrsAre vr (txs (uldF es.reverse as).2) → Q (.ref D) { s with heap := h', toks := t', gens := g' }) (hB : AllBare s.gens),
    wpAny (model PG w) (Ar dp un (some l) gd) (call (.ref 104) [.ref le, .ref la]) Q E s
namespace Kuld_call
@[irreducible] noncomputable def bad : Base := Base.bad St
noncomputable def w : World := bad.w
noncomputable def p : Program := bad.p
noncomputable def loose : List Str := bad.loose
noncomputable def mean : ExcName → Option Value := bad.mean
noncomputable def mg : Str → Option Value := bad.mg
noncomputable def mb : Str → Option Value := bad.mb
noncomputable def dp : Nat := bad.dp
noncomputable def un : Nat := bad.un
noncomputable def fr : Option (List Env) := bad.fr
noncomputable def gd : Option (List Code) := bad.gd
noncomputable def s : Shared := bad.s
noncomputable def Q : Value → Shared → Prop := bad.Q
noncomputable def E : Value → Shared → Prop := bad.E
noncomputable def L : Addr := s.heap.objs.size
theorem hL : s.heap.objs.size = L := rfl
theorem at_bad : St w p loose mean mg mb dp un fr gd s Q E := by
  unfold St
  intros l frs le la es as ve va ne na Fs hfr hel2 X T hd hu hve hva hel hal h hB
  have hvl : ve.length = es.length := by rw [strsAre_length hve, List.length_map]
  have hwl : va.length = as.length := by rw [strsAre_length hva, List.length_map]
  revert X; unfold PG KK
  k_fill; intro X
  refine enterX (binds := [(Str.ofString "expected", .ref le), (Str.ofString "actual", .ref la)]) (X.keeps fun b o e => of_hideAll _ e) (T.nolimit.keeps fun b o e => of_hideAll _ e) (by k_is) (by k_is) (by omega) rfl rfl (fun L' h₁ hL' F0 N0 => ?_)
  obtain rfl : L' = L := hL'.symm.trans hL
  k_fold
  have F := hidF_fr (frs := (le, listOf ve.toArray ne) :: (la, listOf va.toArray na) :: frs) F0
  have N := hidF_news F0 hfr
  clear F0 N0 hfr
  generalize hG : hidF s.heap ((le, listOf ve.toArray ne) :: (la, listOf va.toArray na) :: frs) = G at *
  generalize hR : uldF es.reverse as = R at h
  w_is_and go_3_5_31_20_19_2
  rename Fr _ _ _ _ => F1
  rename News _ _ _ _ => N1
  rename_i M _ lM _
  refine whl2 (n₀ := es.length) (J := fun n m nw => Ex8 fun (ms : List (List Nat)) (as' : List (List Nat)) (mv : List Value) (va' : List Value) (nm : Nat) (n1 : Nat) (n2 : Nat) (frs' : List (Addr × Obj)) => And7 (nw = (M, listOf mv.toArray nm) :: (le, listOf (ve.take n).toArray n1) :: (la, listOf va'.toArray n2) :: frs') (n ≤ es.length) (TI.SameUp frs frs') (TI.Frs l frs') (R = (ms ++ (uldF (es.take n).reverse as').1, (uldF (es.take n).reverse as').2)) (ms.length + n ≤ es.length) (And4 (as'.length ≤ 100) (StrsAre mv (txs ms)) (StrsAre va' (txs as')) (LV m [(Str.ofString "expected", .ref le), (Str.ofString "actual", .ref la), (Str.ofString "missing", .ref M)])))
    (O := fun m nw => Ex6 fun (mv : List Value) (va' : List Value) (nm : Nat) (n1 : Nat) (n2 : Nat) (frs' : List (Addr × Obj)) => And5 (nw = (M, listOf mv.toArray nm) :: (le, listOf #[] n1) :: (la, listOf va'.toArray n2) :: frs') (TI.SameUp frs frs') (StrsAre mv (txs R.1)) (StrsAre va' (txs R.2)) (LV m [(Str.ofString "missing", .ref M), (Str.ofString "actual", .ref la)])) F1 N1
    ⟨[], as, [], va, 0, ne, na, frs, by rw [← hvl, List.take_length], Nat.le_refl _, TI.SameUp.refl _, Fs, by rw [← hR, List.take_length]; rfl, by simp, hal, .nil, hva, rfl⟩ ?_ ?_
  · clear F1 N1
    intro n m₁ nw₁ h4 tk4 g4 hJ1 F4 N4
    try k_fold
    revert F4 N4
    obtain ⟨ms, as', mv, va', nm, n1, n2, frs1, rfl, hn, hSU, Fs1, hRe, hml, hal', hmv, hva', rL⟩ := hJ1
    intro F4 N4
    w_is_and my_aa
    intros l frs le la es as ve va ne na G R M v1_ tk n m₁ h4 tk4 g4 ms as' mv va' nm n1 n2 frs1
    intro Fs hel2 hd hu hve hva hel hal hB hvl hwl hL' hG T X hR h lM hn hSU Fs1 hRe hml hal' hmv hva' rL F4 N4; try k_fold
    rw [rL.can] at F4
    have hMle : M ≠ le := Ne.symm (Nat.ne_of_lt lM.1)
    have hMla : M ≠ la := Ne.symm (Nat.ne_of_lt lM.2.1)
    have hoff : ∀ {h5 : Heap} {frsX : List (Addr × Obj)} {D : Addr} {its : Array Value} {k : Nat}, TI.Frs l frsX → (∀ q ∈ frsX, h5.get? q.1 = some q.2) → h5.get? D = some (listOf its k) → ∀ q ∈ frsX, q.1 ≠ D := fun F' N' hD => frs_off F' N' hD
    w_is_and go_3_5_31_20_19_2
    refine wpAny_truthy_list (items := (ve.take n).toArray) (N4.isList (.tail _ (.head _))) (by rw [List.size_toArray, List.length_take]; omega) ?_
    k_unfold
    cases n with
    | zero =>
      rw [List.take_zero] at N4 ⊢
      rw [show (!(([] : List Value).toArray.isEmpty)) = false from rfl, if_neg Bool.false_ne_true]
      rw [List.take_zero] at hRe
      exact WOut.intro _ F4 N4 (fun _ h => h) ⟨mv, va', nm, n1, n2, frs1, rfl, hSU, by rw [hRe]; show StrsAre mv (txs (ms ++ [])); rw [List.append_nil]; exact hmv, by rw [hRe]; exact hva', rfl⟩
    | succ k =>
      have hkl : k < es.length := hn
      obtain ⟨te, hte⟩ := get_txs hve hkl
      have htk : ve.take (k + 1) = ve.take k ++ [.str ⟨(es.getD k []).toArray⟩ te] := by rw [List.take_add_one, hte]; rfl
      have hek : (es.take (k + 1)).reverse = es.getD k [] :: (es.take k).reverse := by
        rw [List.take_add_one, show es[k]? = some (es.getD k []) by simp [List.getD, hkl]]; simp
      generalize es.getD k [] = e at hte htk hek
      rw [htk] at N4 ⊢
      rw [show (!((ve.take k ++ [Value.str ⟨e.toArray⟩ te]).toArray.isEmpty)) = true by simp, if_pos rfl]
      w_is_and go_3_5_31_20_19_2
      have hofM : ∀ q ∈ frs1, q.1 ≠ M := hoff Fs1 (fun q hq => (N4 q (.tail _ (.tail _ (.tail _ hq)))).1) (N4 _ (.head _)).1
      have hofe : ∀ q ∈ frs1, q.1 ≠ le := hoff Fs1 (fun q hq => (N4 q (.tail _ (.tail _ (.tail _ hq)))).1) (N4 _ (.tail _ (.head _))).1
      have hofa : ∀ q ∈ frs1, q.1 ≠ la := hoff Fs1 (fun q hq => (N4 q (.tail _ (.tail _ (.tail _ hq)))).1) (N4 _ (.tail _ (.tail _ (.head _)))).1
      refine kl_pop (its := (ve.take k ++ [Value.str ⟨e.toArray⟩ te]).toArray) (p := ve.take k) (y := Value.str ⟨e.toArray⟩ te) F4 N4 (kl_last_snoc _ _) (.tail hMle (.head fun q hq => ?_)) ?_ fun h5 F5 N5 => ?_
      · rcases List.mem_cons.mp hq with rfl | hq
        · exact Ne.symm hel2
        · exact hofe q hq
      · rw [sizeLine_eq]; simp; omega
      clear F4 N4
      w_is_and go_3_5_31_20_19_2
      rename Fr _ _ _ _ => F6
      rename News _ _ _ _ => N6
      refine try_E fun E' Nt hNt hE' hPO hPA => ?_
      w_is_and go_3_5_31_20_19_2
      have hvl' : va'.length = as'.length := by rw [strsAre_length hva', List.length_map]
      by_cases hc : e ∈ as'
      · obtain ⟨a1, a2, hn1, hsp, her⟩ := List.exists_erase_eq hc
        subst hsp
        refine rem_hit F6 N6 hva' hn1 (by omega) fun us => ⟨_, .tail hMla (.tail hel2 (.head hofa)), fun h7 F7 N7 hus => ?_⟩
        clear F6 N6
        w_is_and go_3_5_31_20_19_2
        have hRe2 : R = (ms ++ (uldF (es.take k).reverse (a1 ++ a2)).1, (uldF (es.take k).reverse (a1 ++ a2)).2) := by
          rw [hRe, hek, uldF, if_pos (by simp), her]
        exact WEnd.intro k _ F7 N7 (fun _ h => h) (Nat.lt_succ_self _) ⟨ms, a1 ++ a2, mv, us, nm, _, _, frs1, rfl, by omega, hSU, Fs1, hRe2, by omega, by simp only [List.length_append, List.length_cons] at hal' ⊢; omega, hmv, hus, rfl⟩
      · refine rem_miss rfl N6 (.tail _ (.tail _ (.head _))) hva' hc fun h7 tk7 e7 hx => ?_
        refine hE' _ _ (hNt _ _ _ _ (TLg.noted_newA (A₀ := Ar dp un (some l) gd) (new := [(M, listOf mv.toArray nm), (le, listOf (ve.take k).toArray (n1 + 1)), (la, listOf va'.toArray n2)]) rfl Fs1 hx F6 N6 (frs_hap Fs1 (fun q hq => ?_) N6) (fun h8 frs8 SU8 Fs8 H => ?_) rfl))
        · rcases List.mem_cons.mp hq with rfl | hq
          · exact ⟨_, _, rfl⟩
          · rcases List.mem_cons.mp hq with rfl | hq
            · exact ⟨_, _, rfl⟩
            · rw [List.mem_singleton.mp hq]; exact ⟨_, _, rfl⟩
        · clear F6 N6
          refine caught_held (A₀ := Ar dp un (some l) gd) (T := "ValueError") H (by decide +kernel) (by decide +kernel) (by decide +kernel) (by passes_own) ?_ ?_
          · intro h9 Q' F7 q
            clear H
            w_is_and go_3_5_31_20_19_2
            exact q
          · intro h9 F7 N7
            clear H
            dsimp only [List.cons_append, List.nil_append] at N7
            w_is_and go_3_5_31_20_19_2
            have hofM8 : ∀ q ∈ frs8, q.1 ≠ M := hoff Fs8 (fun q hq => (N7 q (.tail _ (.tail _ (.tail _ hq)))).1) (N7 _ (.head _)).1
            refine append_K (its := mv.toArray) F7 N7 (.head fun q hq => ?_) (fun h10 F8 N8 => ?_) (by rw [sizeLine_eq, List.size_toArray, strsAre_length hmv, List.length_map]; omega)
            · rcases List.mem_cons.mp hq with rfl | hq
              · exact Ne.symm hMle
              · rcases List.mem_cons.mp hq with rfl | hq
                · exact Ne.symm hMla
                · exact hofM8 q hq
            clear F7 N7
            simp only [List.push_toArray] at N8
            w_is_and go_3_5_31_20_19_2
            have hRe2 : R = ((ms ++ [e]) ++ (uldF (es.take k).reverse as').1, (uldF (es.take k).reverse as').2) := by
              rw [hRe, hek, uldF, if_neg (by simpa using hc)]; simp
            exact WEnd.intro k _ F8 N8 (fun _ h => h) (Nat.lt_succ_self _) ⟨ms ++ [e], as', _, va', _, _, _, frs8, rfl, by omega, TI.SameUp.trans hSU SU8, Fs8, hRe2, by rw [List.length_append, List.length_singleton]; omega, hal', by rw [show txs (ms ++ [e]) = txs ms ++ [⟨e.toArray⟩] by simp]; exact strsAre_append hmv (.cons _ _ .nil), hva', rfl⟩
  · clear F1 N1
    intro m₁ nw₁ h4 tk4 g4 hJ2 F4 N4
    try k_fold
    revert F4 N4
    obtain ⟨mv, va', nm, n1, n2, frs1, rfl, hSU, hmv, hva', rL⟩ := hJ2
    intro F4 N4
    rw [rL.can] at F4
    w_is_and go_3_5_31_20_19_2
    rename Fr _ _ _ _ => F5
    rename News _ _ _ _ => N5
    refine h _ _ g4 frs1 _ M mv va' nm n1 n2 hSU (fun p hp => (N5 p (.tail _ (.tail _ (.tail _ (.tail _ hp))))).1) F5.keep (fun p hp => ?_) (N5 _ (.tail _ (.tail _ (.head _)))).1 (N5 _ (.tail _ (.tail _ (.tail _ (.head _))))).1 hmv hva'
    rcases List.mem_cons.mp hp with rfl | hp
    · exact ⟨(N5 _ (.head _)).1, (N5 _ (.head _)).2.2⟩
    · rw [List.mem_singleton.mp hp]; exact ⟨(N5 _ (.tail _ (.head _))).1, (N5 _ (.tail _ (.head _))).2.2⟩
end Kuld_call
section
variable {w : World} {p : Program} {loose : List Str} {mean : ExcName → Option Value} {mg mb : Str → Option Value} {dp un : Nat} {fr : Option (List Env)} {gd : Option (List Code)} {s : Shared} {Q E : Value → Shared → Prop}
theorem uld_call {l : List Env} {frs : List (Addr × Obj)} {le la : Addr} {es as : List (List Nat)} {ve va : List Value} {ne na : Nat} (Fs : TI.Frs l frs) (hfr : ∀ p ∈ (le, listOf ve.toArray ne) :: (la, listOf va.toArray na) :: frs, s.heap.get? p.1 = some p.2) (hel2 : le ≠ la) (X : (KK w).In (hidF s.heap ((le, listOf ve.toArray ne) :: (la, listOf va.toArray na) :: frs))) (T : Top p loose mean mg mb (hidF s.heap ((le, listOf ve.toArray ne) :: (la, listOf va.toArray na) :: frs))) (hd : dp + 20 < recursionLimit) (hu : un + 100 < cLine) (hve : StrsAre ve (txs es)) (hva : StrsAre va (txs as)) (hel : es.length ≤ 100) (hal : as.length ≤ 100) (h : ∀ h' t' (g' : BG) frs' D M vm vr nm n1 n2, TI.SameUp frs frs' → (∀ p ∈ frs', h'.get? p.1 = some p.2) → Ext (hidF s.heap ((le, listOf ve.toArray ne) :: (la, listOf va.toArray na) :: frs)) h' →
      New (hidF s.heap ((le, listOf ve.toArray ne) :: (la, listOf va.toArray na) :: frs)) h' [(D, ({ cls := .type "tuple", data := .seq #[.ref M, .ref la] } : Obj)), (M, listOf vm.toArray nm)] → h'.get? le = some (listOf #[] n1) → h'.get? la = some (listOf vr.toArray n2) →
      StrsAre vm (txs (uldF es.reverse as).1) → StrsAre vr (txs (uldF es.reverse as).2) → Q (.ref D) { s with heap := h', toks := t', gens := g' }) (hB : AllBare s.gens := by first | assumption | exact BG.ok _) :
    wpAny (model PG w) (Ar dp un (some l) gd) (call (.ref 104) [.ref le, .ref la]) Q E s :=
  (Base.all Kuld_call.St (by with_unfolding_all exact Kuld_call.at_bad) ⟨w, p, loose, mean, mg, mb, dp, un, none, gd, s, Q, E⟩) l frs le la es as ve va ne na Fs hfr hel2 X T hd hu hve hva hel hal h hB
end
end Mine
end

section
open PySem PySem.W PyProof.Rows PySem.Calls PySem.Spec
set_option maxRecDepth 100000
set_option maxHeartbeats 8000000
namespace Mine
set_option hygiene false
set_option hygiene true
section
variable {w : World} {p : Program} {loose : List Str} {mean : ExcName → Option Value} {mg mb : Str → Option Value} {dp un : Nat} {fr : Option (List Env)} {gd : Option (List Code)} {s : Shared} {Q E : Value → Shared → Prop}

/-- after a call that noted frames: the frame and the ledger of the caller -/
theorem call_back {G h h' : Heap} {L : Addr} {m : Str → Option Value} {oL : Obj} {own frs frs' : List (Addr × Obj)} {l : List Env} (F : Fr G L h m) (N : News G L h (own ++ frs)) (Fs : TI.Frs l frs) (hap : ∀ p ∈ own, p.1 ∉ L :: frs.map (·.1)) (hL : h.get? L = some oL)
    (SU : TI.SameUp ((L, oL) :: frs) frs') (hg : ∀ p ∈ frs', h'.get? p.1 = some p.2) (k : Ext (hidF h ((L, oL) :: frs)) h') : ∃ frs2, TI.SameUp frs frs2 ∧ TI.Frs l frs2 ∧ Fr G L h' m ∧ News G L h' (own ++ frs2) := by
  cases frs' with
  | nil => exact SU.elim
  | cons q frs2 =>
    obtain ⟨e1, ⟨sl, e2⟩, SU2⟩ := SU
    have hL' : h'.get? L = some { oL with slots := sl } := by
      have := hg q (.head _)
      rw [e1, e2] at this; exact this
    have keep : ∀ b o, b ∉ L :: frs.map (·.1) → h.get? b = some o → h'.get? b = some o := fun b o hn e => k b o (hideAll_get _ e hn)
    have hfN : ∀ q ∈ frs, G.get? q.1 = none ∧ q.1 ≠ L := fun q hq => ⟨(N q (List.mem_append_right _ hq)).2.2, (N q (List.mem_append_right _ hq)).2.1⟩
    refine ⟨frs2, SU2, Fs.up SU2, ⟨?_, fun b o e => keep b o (fun hm => ?_) (F.keep b o e), F.above⟩, fun p hp => ?_⟩
    · obtain ⟨o, es, ep, eo, hd, r1, r2⟩ := F.ns
      rw [hL] at eo
      cases eo
      exact ⟨_, es, ep, hL', hd, r1, r2⟩
    · rcases List.mem_cons.mp hm with rfl | hm
      · exact absurd (Heap.lt_size e) (Nat.not_lt.mpr F.above)
      · obtain ⟨x, hx, hx2⟩ := List.mem_map.mp hm
        rw [← hx2, (hfN x hx).1] at e; cases e
    · rcases List.mem_append.mp hp with hp | hp
      · have z := N p (List.mem_append_left _ hp)
        exact ⟨keep _ _ (hap p hp) z.1, z.2⟩
      · obtain ⟨x, hx, hx2⟩ := SU2.fwd p hp
        have z := N x (List.mem_append_right _ hx)
        exact ⟨hg p (.tail _ hp), by rw [hx2]; exact z.2.1, by rw [hx2]; exact z.2.2⟩
noncomputable def NoD (l : List (Addr × Obj)) : Prop := ∀ p ∈ l, ∀ es ep, p.2.data ≠ .dict es ep
theorem NoD.nil : NoD [] := fun p hp => by cases hp
theorem NoD.cons {q : Addr × Obj} {l : List (Addr × Obj)} (h : ∀ es ep, q.2.data ≠ .dict es ep) (hl : NoD l) : NoD (q :: l) := fun p hp => by
  rcases List.mem_cons.mp hp with rfl | hp
  · exact h
  · exact hl p hp
theorem noD_hap {l : List Env} {frs own : List (Addr × Obj)} {G h : Heap} {L : Addr} (Fs : TI.Frs l frs) (hl : NoD own) (N : News G L h (own ++ frs)) : ∀ q ∈ own, q.1 ∉ L :: frs.map (·.1) := fun q hq hm => by
  have e1 := N q (List.mem_append_left _ hq)
  rcases List.mem_cons.mp hm with z | hm
  · exact e1.2.1 z
  · obtain ⟨x, hx1, hx2⟩ := List.mem_map.mp hm
    have e2 := (N x (List.mem_append_right _ hx1)).1
    rw [hx2, e1.1] at e2
    obtain ⟨es1, ep1, e3⟩ := Fs.dict x hx1
    rw [← Option.some.inj e2] at e3
    exact hl q hq _ _ e3
theorem hidF_keep {G h : Heap} {L : Addr} {m : Str → Option Value} {oL : Obj} {frs own : List (Addr × Obj)} (F : Fr G L h m) (N : News G L h (own ++ frs)) : Ext G (hidF h ((L, oL) :: frs)) := fun b o e => hideAll_get _ (F.keep b o e) (fun hm => by
  rcases List.mem_cons.mp hm with rfl | hm
  · exact absurd (Heap.lt_size e) (Nat.not_lt.mpr F.above)
  · obtain ⟨x, hx, hx2⟩ := List.mem_map.mp hm
    have := (N x (List.mem_append_right _ hx)).2.2
    rw [← hx2, this] at e; cases e)

theorem fr_obj {G h : Heap} {L : Addr} {m : Str → Option Value} (F : Fr G L h m) : ∃ oL es ep, h.get? L = some oL ∧ oL.data = .dict es ep := by
  obtain ⟨o, es, ep, eo, hd, r1, r2⟩ := F.ns
  exact ⟨o, es, ep, eo, hd⟩
theorem fr_hfr {G h : Heap} {L : Addr} {oL : Obj} {frs own : List (Addr × Obj)} (N : News G L h (own ++ frs)) (hL : h.get? L = some oL) : ∀ p ∈ (L, oL) :: frs, h.get? p.1 = some p.2 := fun p hp => by
  rcases List.mem_cons.mp hp with rfl | hp
  · exact hL
  · exact (N p (List.mem_append_right _ hp)).1
/-- after a call that noted frames and made new things -/
theorem call_back2 {G h h' : Heap} {L : Addr} {m : Str → Option Value} {oL : Obj} {own new frs frs' : List (Addr × Obj)} {l : List Env} (F : Fr G L h m) (N : News G L h (own ++ frs)) (Fs : TI.Frs l frs) (ho : NoD own) (hn : NoD new) (hL : h.get? L = some oL)
    (SU : TI.SameUp ((L, oL) :: frs) frs') (hg : ∀ p ∈ frs', h'.get? p.1 = some p.2) (k : Ext (hidF h ((L, oL) :: frs)) h') (Nw : New (hidF h ((L, oL) :: frs)) h' new) : ∃ frs2, TI.SameUp frs frs2 ∧ TI.Frs l frs2 ∧ Fr G L h' m ∧ News G L h' (new ++ (own ++ frs2)) := by
  obtain ⟨frs2, SU2, Fs2, F2, N2⟩ := call_back F N Fs (noD_hap Fs ho N) hL SU hg k
  refine ⟨frs2, SU2, Fs2, F2, fun p hp => ?_⟩
  rcases List.mem_append.mp hp with hp | hp
  · have z := Nw p hp
    refine ⟨z.1, fun e => ?_, ?_⟩
    · obtain ⟨o, es, ep, e1, e2⟩ := fr_obj F2
      rw [← e, z.1] at e1
      rw [← Option.some.inj e1] at e2
      exact hn p hp _ _ e2
    · cases hq : G.get? p.1 with
      | none => rfl
      | some o =>
        have := hidF_keep (oL := oL) F N _ _ hq
        rw [z.2] at this; cases this
  · exact N2 p hp

theorem hid_list {l : List Env} {frs own : List (Addr × Obj)} {G h : Heap} {L b : Addr} {oL : Obj} {its : Array Value} {n : Nat} (Fs : TI.Frs l frs) (hl : NoD own) (N : News G L h (own ++ frs)) (hb : (b, listOf its n) ∈ own) : (hidF h ((L, oL) :: frs)).IsList b its :=
  ⟨_, hideAll_get _ (N _ (List.mem_append_left _ hb)).1 (noD_hap Fs hl N _ hb), rfl, _, rfl⟩

theorem strs_eqAt {A : Around} {l b : Addr} {vs us : List Value} {ss : List Str} (hv : StrsAre vs ss) (hu : StrsAre us ss) (hl : s.heap.IsList l vs.toArray) (hb : s.heap.IsList b us.toArray) (hun : A.units < cLine) : PySem.SeqAt.EqAt A s (.ref l) (.ref b) true := by
  by_cases e : l = b
  · subst e; exact PySem.SeqAt.EqAt.same _
  · have hlen : vs.length = us.length := by rw [strsAre_length hv, strsAre_length hu]
    have := PySem.SeqAt.EqAt.of_refs e (PySem.SeqAt.RcAt.lists (A := A) (s := s) (e := fun _ => true) hl hb (by simp [hlen]) hun fun j h1 h2 => ?_)
    · rw [List.all_eq_true.mpr (fun _ _ => rfl)] at this; exact this
    · simp only [List.size_toArray] at h1 h2
      have hss : j < ss.length := by rw [← strsAre_length hv]; exact h1
      obtain ⟨t1, e1⟩ := strsAre_get hv (List.getElem?_eq_getElem h1) (List.getElem?_eq_getElem hss)
      obtain ⟨t2, e2⟩ := strsAre_get hu (List.getElem?_eq_getElem h2) (List.getElem?_eq_getElem hss)
      have := (eqGives_str ss[j] ss[j] t1 t2).at A.in1 s
      rw [beq_self_eq_true] at this
      simp only [List.getElem_toArray, e1, e2]
      exact this

theorem pair_ne {prog : Program} {A : Around} {D T M U M2 U2 : Addr} {Q : Value → Shared → Prop} (hD : s.heap.IsTuple D #[.ref M, .ref U]) (hT : s.heap.IsTuple T #[.ref M2, .ref U2]) (hu : A.units < cLine) (e1 : PySem.SeqAt.EqAt A.in1 s (.ref M) (.ref M2) true) (e2 : PySem.SeqAt.EqAt A.in1 s (.ref U) (.ref U2) true)
    (h : Q (.bool false) s) : wpAny (model prog w) A (compareOp .NotEq (.ref D) (.ref T)) Q E s :=
  PySem.SeqAt.RcNeAt.tuples (e := fun _ => true) hD hT hu (fun j h1 h2 => by
    match j, h1 with
    | 0, _ => exact e1
    | 1, _ => exact e2) prog w E Q (by rw [List.all_eq_true.mpr (fun _ _ => rfl)]; exact h)
theorem pair_eq {prog : Program} {A : Around} {D T M U M2 U2 : Addr} {Q : Value → Shared → Prop} (hD : s.heap.IsTuple D #[.ref M, .ref U]) (hT : s.heap.IsTuple T #[.ref M2, .ref U2]) (hu : A.units < cLine) (e1 : PySem.SeqAt.EqAt A.in1 s (.ref M) (.ref M2) true) (e2 : PySem.SeqAt.EqAt A.in1 s (.ref U) (.ref U2) true)
    (h : Q (.bool true) s) : wpAny (model prog w) A (compareOp .Eq (.ref D) (.ref T)) Q E s :=
  PySem.SeqAt.eq_tupleAt (e := fun _ => true) hD hT hu (fun j h1 h2 => by
    match j, h1 with
    | 0, _ => exact e1
    | 1, _ => exact e2) (by rw [List.all_eq_true.mpr (fun _ _ => rfl)]; exact h)
theorem txs_of (ss : List Str) : ∃ l, ss = txs l := ⟨ss.map (·.cps.toList), by
  unfold txs; rw [List.map_map]
  exact (List.map_id _).symm.trans (List.map_congr_left fun x _ => rfl)⟩

theorem noD3 {D M U : Addr} {a b c : Array Value} {n k : Nat} : NoD [(D, ({ cls := .type "tuple", data := .seq a } : Obj)), (M, listOf b n), (U, listOf c k)] := .cons (fun _ _ h => nomatch h) (.cons (fun _ _ h => nomatch h) (.cons (fun _ _ h => nomatch h) .nil))
end
noncomputable def Kbw_call.St (w : World) (p : Program) (loose : List Str) (mean : ExcName → Option Value) (mg : Str → Option Value) (mb : Str → Option Value) (dp : Nat) (un : Nat) (fr : Option (List Env)) (gd : Option (List Code)) (s : Shared) (Q : Value → Shared → Prop) (E : Value → Shared → Prop) : Prop :=
  ∀ (l : List Env) (frs : List (Addr × Obj)) (lo lc lt : Addr) (os cs ts : List (List Nat)) (vo vc vt : List Value) (Fs : TI.Frs l frs) (hfr : ∀ p ∈ frs, s.heap.get? p.1 = some p.2) (X : (KK w).In (hidF s.heap frs)) (T : Top p loose mean mg mb (hidF s.heap frs)) (hd : dp + 40 < recursionLimit) (hu : un + 200 < cLine) (hlo : (hidF s.heap frs).IsList lo vo.toArray) (hvo : StrsAre vo (txs os)) (hlc : (hidF s.heap frs).IsList lc vc.toArray) (hvc : StrsAre vc (txs cs)) (hlt : (hidF s.heap frs).IsList lt vt.toArray) (hvt : StrsAre vt (txs ts)) (hol : os.length ≤ 30) (hcl : cs.length ≤ 30) (hc2 : 0 < cs.length) (hs : ∀ ds : List (List Nat), (txs ds).Perm (txs (cs ++ cs)) → sortedS (txs ds) = true → (∀ k, os.length ≤ k → sldF k os ds = (ts, [])) ∧ ∀ k, os.length ≤ k → sldF k ds os = ([], ts)) (h : ∀ h' t' (g' : BG) frs', TI.SameUp frs frs' → (∀ p ∈ frs', h'.get? p.1 = some p.2) → Ext (hidF s.heap frs) h' → Q (.bool true) { s with heap := h', toks := t', gens := g' }) (hB : AllBare s.gens),
    wpAny (model PG w) (Ar dp un (some l) gd) (call (.ref 185) [.ref lo, .ref lc, .ref lt]) Q E s
namespace Kbw_call
@[irreducible] noncomputable def bad : Base := Base.bad St
noncomputable def w : World := bad.w
noncomputable def p : Program := bad.p
noncomputable def loose : List Str := bad.loose
noncomputable def mean : ExcName → Option Value := bad.mean
noncomputable def mg : Str → Option Value := bad.mg
noncomputable def mb : Str → Option Value := bad.mb
noncomputable def dp : Nat := bad.dp
noncomputable def un : Nat := bad.un
noncomputable def fr : Option (List Env) := bad.fr
noncomputable def gd : Option (List Code) := bad.gd
noncomputable def s : Shared := bad.s
noncomputable def Q : Value → Shared → Prop := bad.Q
noncomputable def E : Value → Shared → Prop := bad.E
noncomputable def L : Addr := s.heap.objs.size
theorem hL : s.heap.objs.size = L := rfl
theorem at_bad : St w p loose mean mg mb dp un fr gd s Q E := by
  unfold St
  intros l frs lo lc lt os cs ts vo vc vt Fs hfr X T hd hu hlo hvo hlc hvc hlt hvt hol hcl hc2 hs h hB
  have hvol : vo.length = os.length := by rw [strsAre_length hvo, List.length_map]
  have hvcl : vc.length = cs.length := by rw [strsAre_length hvc, List.length_map]
  have X0 := X
  have T0 := T
  revert X; unfold PG KK
  k_fill; intro X
  refine enterX (binds := [(Str.ofString "orders", .ref lo), (Str.ofString "came", .ref lc), (Str.ofString "taken", .ref lt)]) (X.keeps fun b o e => of_hideAll _ e) (T.nolimit.keeps fun b o e => of_hideAll _ e) (by k_is) (by k_is) (by omega) rfl rfl (fun L' h₁ hL' F0 N0 => ?_)
  obtain rfl : L' = L := hL'.symm.trans hL
  k_fold
  have F := hidF_fr (frs := frs) F0
  have N := hidF_news F0 hfr
  clear F0 N0
  generalize hG : hidF s.heap frs = G at *
  w_is_and go_8_7_10_13_14
  refine kmk_add_lit (its := vc.toArray) (its2 := vc.toArray) (zs := vc ++ vc) F N ?_ ?_ rfl (fun Da h7 F10 N10 lt10 => ?_) (by rw [sizeLine_eq]; simp; omega)
  · obtain ⟨o, e, r⟩ := hlc; exact ⟨o, F.keep _ _ e, r⟩
  · obtain ⟨o, e, r⟩ := hlc; exact ⟨o, F.keep _ _ e, r⟩
  clear F N
  w_is_and go_8_7_10_13_14
  refine sorted_N_str F10 N10 (N10.isList (List.mem_cons_self ..)) (strsAre_append hvc hvc) (by rw [List.length_append]; omega) fun h9 vs9 os9 e9 F9 N9 hS9 hp9 hs9 => ?_
  clear F10
  obtain ⟨ds, rfl⟩ := txs_of os9
  have hp9' : (txs ds).Perm (txs (cs ++ cs)) := by rw [show txs (cs ++ cs) = txs cs ++ txs cs by simp]; exact hp9
  obtain ⟨hs1, hs2⟩ := hs ds hp9' hs9
  have hdl : ds.length = cs.length + cs.length := by
    have := hp9'.length_eq
    simpa using this
  have hvdl : vs9.length = ds.length := by rw [strsAre_length hS9, List.length_map]
  w_is_and go_8_7_10_13_14
  dsimp only at *
  generalize h7.objs.size + 1 = Dd at *
  rename Fr _ _ _ _ => F
  rename News _ _ _ _ => N
  refine list_copyK (items := vo.toArray) F N (by obtain ⟨o, e, r⟩ := hlo; exact ⟨o, F.keep _ _ e, r⟩) (fun K1 c1 h10 F11 N11 lt11 => ?_) (by rw [sizeLine_eq]; simp; omega)
  clear F N
  w_is_and go_8_7_10_13_14
  refine list_copyK (items := vs9.toArray) F11 N11 (N11.isList (.tail _ (.head _))) (fun K2 c2 h11 F12 N12 lt12 => ?_) (by rw [sizeLine_eq]; simp; omega)
  clear F11 N11
  w_is_and go_8_7_10_13_14
  rename Fr _ _ _ _ => F
  rename News _ _ _ _ => N
  rename_i KP _ _ h12
  obtain ⟨oL, esL, epL, hoL, hoD⟩ := fr_obj F
  have N' : News G L h12 ([_, _, _, _, _] ++ frs) := N
  have hown : NoD [(KP, ({ cls := Value.type "tuple", data := Data.seq #[Value.ref K1, Value.ref K2] } : Obj)), (K2, W.listOf vs9.toArray c2), (K1, W.listOf vo.toArray c1), (Dd, seqObj "list" vs9.toArray e9), (Da, W.listOf (vc ++ vc).toArray 0)] := .cons (fun _ _ h => nomatch h) (.cons (fun _ _ h => nomatch h) (.cons (fun _ _ h => nomatch h) (.cons (fun _ _ h => nomatch h) (.cons (fun _ _ h => nomatch h) .nil))))
  have hkp := hidF_keep (oL := oL) F N'
  refine sld_call (frs := (L, oL) :: frs) (es := os) (as := ds) (ve := vo) (va := vs9) ⟨(fun z => nomatch z), rfl, ⟨_, _, hoD⟩, Fs⟩ (fr_hfr N' hoL) (X0.keeps hkp) (T0.keeps hkp) (by omega) (by omega) ?_ hvo ?_ hS9 (by omega) (by omega) fun h13 t13 g13 frs' D1 M1 U1 vm1 vu1 nm1 nu1 SU1 hg1 k1 Nw1 hm1 hu1 => ?_
  · obtain ⟨o, e, r⟩ := hlo; exact ⟨o, hkp _ _ e, r⟩
  · exact hid_list Fs hown N' (n := e9) (.tail _ (.tail _ (.tail _ (.head _))))
  rw [hs1 _ (by omega)] at hm1 hu1
  obtain ⟨frs2, SU2, Fs2, F13, N13⟩ := call_back2 F N' Fs hown (noD3 (D := D1) (M := M1) (U := U1)) hoL SU1 hg1 k1 Nw1
  clear F N N' SU1 hg1 k1 Nw1 hkp hoL hoD
  dsimp only [List.cons_append, List.nil_append] at N13
  dsimp only
  w_is_and go_8_7_10_13_14
  rename Fr _ _ _ _ => F
  rename News _ _ _ _ => N
  rename_i NL _ _ NT h14 _
  have hltk : ∀ h', Ext G h' → h'.IsList lt vt.toArray := fun h' k => by obtain ⟨o, e, r⟩ := hlt; exact ⟨o, k _ _ e, r⟩
  refine pair_ne (M := M1) (U := U1) (M2 := lt) (U2 := NL) ⟨_, (N _ (.tail _ (.tail _ (.head _)))).1, rfl, _, rfl⟩ ⟨_, (N _ (.head _)).1, rfl, _, rfl⟩ (by simp [Ar]; omega) (strs_eqAt hm1 hvt (N.isList (.tail _ (.tail _ (.tail _ (.head _))))) (hltk _ F.keep) (by simp [Ar]; omega)) (strs_eqAt hu1 .nil (N.isList (.tail _ (.tail _ (.tail _ (.tail _ (.head _)))))) (N.isList (.tail _ (.head _))) (by simp [Ar]; omega)) ?_
  w_is_and go_8_7_10_13_14
  have N5 : News G L h14 ([(KP, ({ cls := Value.type "tuple", data := Data.seq #[Value.ref K1, Value.ref K2] } : Obj)), (K2, W.listOf vs9.toArray c2), (K1, W.listOf vo.toArray c1), (Dd, seqObj "list" vs9.toArray e9), (Da, W.listOf (vc ++ vc).toArray 0)] ++ frs2) := fun p hp => N p (.tail _ (.tail _ (.tail _ (.tail _ (.tail _ hp)))))
  clear N
  obtain ⟨oL2, esL2, epL2, hoL2, hoD2⟩ := fr_obj F
  have hkp2 := hidF_keep (oL := oL2) F N5
  refine sld_call (frs := (L, oL2) :: frs2) (es := ds) (as := os) (ve := vs9) (va := vo) ⟨(fun z => nomatch z), rfl, ⟨_, _, hoD2⟩, Fs2⟩ (fr_hfr N5 hoL2) (X0.keeps hkp2) (T0.keeps hkp2) (by omega) (by omega) ?_ hS9 ?_ hvo (by omega) (by omega) fun h15 t15 g15 frs'' D3 M3 U3 vm3 vu3 nm3 nu3 SU3 hg3 k3 Nw3 hm3 hu3 => ?_
  · exact hid_list Fs2 hown N5 (n := e9) (.tail _ (.tail _ (.tail _ (.head _))))
  · obtain ⟨o, e, r⟩ := hlo; exact ⟨o, hkp2 _ _ e, r⟩
  rw [hs2 _ (by omega)] at hm3 hu3
  obtain ⟨frs4, SU4, Fs4, F15, N15⟩ := call_back2 F N5 Fs2 hown (noD3 (D := D3) (M := M3) (U := U3)) hoL2 SU3 hg3 k3 Nw3
  clear F N5 SU3 hg3 k3 Nw3 hkp2 hoL2 hoD2
  dsimp only [List.cons_append, List.nil_append] at N15
  dsimp only
  w_is_and go_8_7_10_13_14
  rename Fr _ _ _ _ => F
  rename News _ _ _ _ => N
  rename_i NL2 _ _ NT2 h16 _
  refine pair_ne (M := M3) (U := U3) (M2 := NL2) (U2 := lt) ⟨_, (N _ (.tail _ (.tail _ (.head _)))).1, rfl, _, rfl⟩ ⟨_, (N _ (.head _)).1, rfl, _, rfl⟩ (by simp [Ar]; omega) (strs_eqAt hm3 .nil (N.isList (.tail _ (.tail _ (.tail _ (.head _))))) (N.isList (.tail _ (.head _))) (by simp [Ar]; omega)) (strs_eqAt hu3 hvt (N.isList (.tail _ (.tail _ (.tail _ (.tail _ (.head _)))))) (hltk _ F.keep) (by simp [Ar]; omega)) ?_
  w_is_and go_8_7_10_13_14
  rename Fr _ _ _ _ => F9
  rename News _ _ _ _ => N9
  rename_i hA hB NP h17 _
  refine pair_eq (M := lo) (U := Dd) (M2 := K1) (U2 := K2) ⟨_, (N9 _ (.head _)).1, rfl, _, rfl⟩ ⟨_, (N9 _ (.tail _ (.tail _ (.tail _ (.tail _ (.tail _ (.tail _ (.head _)))))))).1, rfl, _, rfl⟩ (by simp [Ar]; omega) (strs_eqAt hvo hvo (by obtain ⟨o, e, r⟩ := hlo; exact ⟨o, F9.keep _ _ e, r⟩) (N9.isList (.tail _ (.tail _ (.tail _ (.tail _ (.tail _ (.tail _ (.tail _ (.tail _ (.head _)))))))))) (by simp [Ar]; omega))
    (strs_eqAt hS9 hS9 (N9.isList (n := e9) (.tail _ (.tail _ (.tail _ (.tail _ (.tail _ (.tail _ (.tail _ (.tail _ (.tail _ (.head _))))))))))) (N9.isList (.tail _ (.tail _ (.tail _ (.tail _ (.tail _ (.tail _ (.tail _ (.head _))))))))) (by simp [Ar]; omega)) ?_
  try dsimp only
  w_is_and go_8_7_10_13_14
  refine h _ _ ⟨_, by first | assumption | exact BG.ok _⟩ frs4 (TI.SameUp.trans SU2 SU4) (fun p hp => (N9 p (.tail _ (.tail _ (.tail _ (.tail _ (.tail _ (.tail _ (.tail _ (.tail _ (.tail _ (.tail _ (.tail _ hp)))))))))))).1) F9.keep
end Kbw_call
section
variable {w : World} {p : Program} {loose : List Str} {mean : ExcName → Option Value} {mg mb : Str → Option Value} {dp un : Nat} {fr : Option (List Env)} {gd : Option (List Code)} {s : Shared} {Q E : Value → Shared → Prop}
theorem bw_call {l : List Env} {frs : List (Addr × Obj)} {lo lc lt : Addr} {os cs ts : List (List Nat)} {vo vc vt : List Value} (Fs : TI.Frs l frs) (hfr : ∀ p ∈ frs, s.heap.get? p.1 = some p.2) (X : (KK w).In (hidF s.heap frs)) (T : Top p loose mean mg mb (hidF s.heap frs)) (hd : dp + 40 < recursionLimit) (hu : un + 200 < cLine) (hlo : (hidF s.heap frs).IsList lo vo.toArray) (hvo : StrsAre vo (txs os)) (hlc : (hidF s.heap frs).IsList lc vc.toArray) (hvc : StrsAre vc (txs cs)) (hlt : (hidF s.heap frs).IsList lt vt.toArray) (hvt : StrsAre vt (txs ts)) (hol : os.length ≤ 30) (hcl : cs.length ≤ 30) (hc2 : 0 < cs.length) (hs : ∀ ds : List (List Nat), (txs ds).Perm (txs (cs ++ cs)) → sortedS (txs ds) = true → (∀ k, os.length ≤ k → sldF k os ds = (ts, [])) ∧ ∀ k, os.length ≤ k → sldF k ds os = ([], ts)) (h : ∀ h' t' (g' : BG) frs', TI.SameUp frs frs' → (∀ p ∈ frs', h'.get? p.1 = some p.2) → Ext (hidF s.heap frs) h' → Q (.bool true) { s with heap := h', toks := t', gens := g' }) (hB : AllBare s.gens := by first | assumption | exact BG.ok _) :
    wpAny (model PG w) (Ar dp un (some l) gd) (call (.ref 185) [.ref lo, .ref lc, .ref lt]) Q E s :=
  (Base.all Kbw_call.St (by with_unfolding_all exact Kbw_call.at_bad) ⟨w, p, loose, mean, mg, mb, dp, un, none, gd, s, Q, E⟩) l frs lo lc lt os cs ts vo vc vt Fs hfr X T hd hu hlo hvo hlc hvc hlt hvt hol hcl hc2 hs h hB
end
end Mine
end

section
open PySem PySem.W PyProof.Rows PySem.Calls PySem.Spec
set_option maxRecDepth 100000
set_option maxHeartbeats 8000000
namespace Mine
set_option hygiene false
set_option hygiene true
section
variable {w : World} {p : Program} {loose : List Str} {mean : ExcName → Option Value} {mg mb : Str → Option Value} {dp un : Nat} {fr : Option (List Env)} {gd : Option (List Code)} {s : Shared} {Q E : Value → Shared → Prop}

/-- how a sign is dressed -/
noncomputable def othersF (sg : List Nat) (c : Nat) : List Nat := sg.filter fun o => o != c
noncomputable def arrF (l : List Nat) : List Nat := l.filter (fun o => o == 93) ++ l.filter (fun o => !(o == 93 || o == 45)) ++ l.filter (fun o => o == 45)
noncomputable def dressP (sg : List Nat) (c kind : Nat) : List Nat :=
  if kind = 0 ∧ ¬ (c = 42 ∨ c = 63 ∨ c = 91) then [c] else if kind = 1 ∧ c = 33 then [c] else if kind < 2 then [91, c, 93] else [91, 33] ++ arrF (othersF sg c) ++ [93]

end
theorem one_eq2 (c d : Nat) : ((⟨#[c]⟩ : Str) == (⟨#[d]⟩ : Str)) = (c == d) := (one_eq c d).trans (by by_cases h : c = d <;> simp [h])
theorem one_ne2 (c d : Nat) : ((⟨#[c]⟩ : Str) != (⟨#[d]⟩ : Str)) = (c != d) := congrArg not (one_eq2 c d)
theorem br2 (r : Nat) : (!decide (r ∈ [93, 45])) = !(r == 93 || r == 45) := by
  refine congrArg not ?_
  by_cases a : r = 93 <;> by_cases b : r = 45 <;> simp [a, b]
theorem ones_get' {ot : List Nat} {vs : List Value} {i : Nat} {v : Value} (hvs : StrsAre vs (ones ot)) (hv : vs[i]? = some v) : ∃ r t, ot[i]? = some r ∧ v = .str ⟨#[r]⟩ t := by
  have hi : i < ot.length := by have := (List.getElem?_eq_some_iff.mp hv).1; rw [strsAre_length hvs, List.length_map] at this; exact this
  obtain ⟨t, e⟩ := strsAre_get hvs hv (show (ones ot)[i]? = some ⟨#[ot[i]]⟩ by simp [hi])
  exact ⟨ot[i], t, List.getElem?_eq_getElem hi, e⟩
theorem fil_yes {f : Nat → Bool} {ot : List Nat} {i r : Nat} {ys : List Value} {t : Tok} (hi : ot[i]? = some r) (hys : StrsAre ys (ones ((ot.take i).filter f))) (hf : f r = true) : StrsAre (ys ++ [.str ⟨#[r]⟩ t]) (ones ((ot.take (i + 1)).filter f)) := by
  have e : ones ((ot.take (i + 1)).filter f) = ones ((ot.take i).filter f) ++ [⟨#[r]⟩] := by
    rw [List.take_add_one, hi, Option.toList_some, List.filter_append, List.filter_cons, if_pos hf, List.filter_nil]; exact List.map_append
  rw [e]; exact strsAre_append hys (.cons _ _ .nil)
theorem fil_no {f : Nat → Bool} {ot : List Nat} {i r : Nat} {ys : List Value} (hi : ot[i]? = some r) (hys : StrsAre ys (ones ((ot.take i).filter f))) (hf : f r = false) : StrsAre ys (ones ((ot.take (i + 1)).filter f)) := by
  rw [List.take_add_one, hi, Option.toList_some, List.filter_append, List.filter_cons, if_neg (by rw [hf]; exact Bool.false_ne_true), List.filter_nil, List.append_nil]; exact hys
theorem wrap1 (c : Nat) : Str.ofString "[" ++ (⟨#[c]⟩ : Str) ++ Str.ofString "]" = ⟨[91, c, 93].toArray⟩ := by
  rw [o91, o93, show ((⟨#[91]⟩ : Str) ++ ⟨#[c]⟩) = ⟨([91] ++ [c]).toArray⟩ from mk_append [91] [c]]
  exact mk_append ([91] ++ [c]) [93]
theorem wrap2 (l : List Nat) : Str.ofString "[!" ++ (⟨l.toArray⟩ : Str) ++ Str.ofString "]" = ⟨([91, 33] ++ l ++ [93]).toArray⟩ := by
  rw [o93, show Str.ofString "[!" ++ (⟨l.toArray⟩ : Str) = ⟨([91, 33] ++ l).toArray⟩ by
    rw [show Str.ofString "[!" = (⟨[91, 33].toArray⟩ : Str) from by decide +kernel]; exact mk_append _ _]
  exact mk_append _ _
theorem oS3 : Str.ofString "*?[" = (⟨[42, 63, 91].toArray⟩ : Str) := by decide +kernel
theorem oS2 : Str.ofString "]-" = (⟨[93, 45].toArray⟩ : Str) := by decide +kernel
theorem flat1 (l : List Nat) : (l.map fun c => [c]).flatten = l := by
  induction l with
  | nil => rfl
  | cons a r ih => simp [ih]
theorem dressP0 {sg : List Nat} {c : Nat} (e : (!decide (c ∈ [42, 63, 91])) = true) : dressP sg c 0 = [c] := by
  have : c ∉ [42, 63, 91] := by simpa using e
  simp only [List.mem_cons, List.not_mem_nil, or_false] at this
  rw [dressP, if_pos ⟨rfl, this⟩]
theorem dressP0' {sg : List Nat} {c : Nat} (e : (!decide (c ∈ [42, 63, 91])) = false) : dressP sg c 0 = [91, c, 93] := by
  have m : c ∈ [42, 63, 91] := Decidable.byContradiction fun q => by rw [decide_eq_false q] at e; cases e
  have this : c = 42 ∨ c = 63 ∨ c = 91 := by simpa only [List.mem_cons, List.not_mem_nil, or_false] using m
  rw [dressP, if_neg (fun q => q.2 this), if_neg (fun q => nomatch q.1), if_pos (by decide)]
theorem dressP1 {sg : List Nat} {c : Nat} (e : decide (c = 33) = true) : dressP sg c 1 = [c] := by
  rw [dressP, if_neg (fun q => nomatch q.1), if_pos ⟨rfl, of_decide_eq_true e⟩]
theorem dressP1' {sg : List Nat} {c : Nat} (e : decide (c = 33) = false) : dressP sg c 1 = [91, c, 93] := by
  rw [dressP, if_neg (fun q => nomatch q.1), if_neg (fun q => of_decide_eq_false e q.2), if_pos (by decide)]
theorem dressP2 {sg : List Nat} {c : Nat} : dressP sg c 2 = [91, 33] ++ arrF (othersF sg c) ++ [93] := by
  rw [dressP, if_neg (fun q => nomatch q.1), if_neg (fun q => nomatch q.1), if_neg (by decide)]
noncomputable def Kdress_call.St (w : World) (p : Program) (loose : List Str) (mean : ExcName → Option Value) (mg : Str → Option Value) (mb : Str → Option Value) (dp : Nat) (un : Nat) (fr : Option (List Env)) (gd : Option (List Code)) (s : Shared) (Q : Value → Shared → Prop) (E : Value → Shared → Prop) : Prop :=
  ∀ (l : Addr) (sg : List Nat) (vs : List Value) (c kind : Nat) (t tk : Tok) (X : (KK w).In s.heap) (T : Top p loose mean mg mb s.heap) (hd : dp + 20 < recursionLimit) (hu : un + 100 < cLine) (hl : s.heap.IsList l vs.toArray) (hvs : StrsAre vs (ones sg)) (hsg : sg.length = 4) (hk : kind < 3) (h : ∀ h' t' (g' : BG) tx, Ext s.heap h' → Q (.str ⟨(dressP sg c kind).toArray⟩ tx) { s with heap := h', toks := t', gens := g' }) (hB : AllBare s.gens),
    wpAny (model PG w) (Ar dp un fr gd) (call (.ref 116) [.str ⟨#[c]⟩ t, .ref l, .int ((kind : Nat) : Int) tk]) Q E s
namespace Kdress_call
@[irreducible] noncomputable def bad : Base := Base.bad St
noncomputable def w : World := bad.w
noncomputable def p : Program := bad.p
noncomputable def loose : List Str := bad.loose
noncomputable def mean : ExcName → Option Value := bad.mean
noncomputable def mg : Str → Option Value := bad.mg
noncomputable def mb : Str → Option Value := bad.mb
noncomputable def dp : Nat := bad.dp
noncomputable def un : Nat := bad.un
noncomputable def fr : Option (List Env) := bad.fr
noncomputable def gd : Option (List Code) := bad.gd
noncomputable def s : Shared := bad.s
noncomputable def Q : Value → Shared → Prop := bad.Q
noncomputable def E : Value → Shared → Prop := bad.E
noncomputable def L : Addr := s.heap.objs.size
theorem hL : s.heap.objs.size = L := rfl
theorem at_bad : St w p loose mean mg mb dp un fr gd s Q E := by
  unfold St
  intros l sg vs c kind t tk X T hd hu hl hvs hsg hk h hB
  revert X; unfold PG KK
  k_fill; intro X
  refine enterC (binds := [(Str.ofString "sign", .str ⟨#[c]⟩ t), (Str.ofString "signs", .ref l), (Str.ofString "kind", .int ((kind : Nat) : Int) tk)]) X T.nolimit (by k_is) (by k_is) (by omega) rfl rfl (fun L' h₁ tk' cells hL' F N Y => ?_)
  obtain rfl : L' = L := hL'.symm.trans hL
  k_fold
  k_cells Y
  rcases (by omega : kind = 0 ∨ kind = 1 ∨ kind = 2) with rfl | rfl | rfl
  · w_is_and go_11_14_0_1
    · rename _ = true => e
      rw [oS3, empty_one] at e
      rw [dressP0 e] at h
      exact h _ _ ⟨_, by first | assumption | exact BG.ok _⟩ _ F.keep
    · rename (Builtin.Str.occurrences _ _ _ _ _).isEmpty = false => e
      rw [oS3, empty_one] at e
      rw [dressP0' e] at h
      rw [wrap1]
      exact h _ _ ⟨_, by first | assumption | exact BG.ok _⟩ _ F.keep
  · w_is_and go_11_14_0_1
    · rename (_ == _) = true => e
      rw [o33, one_eq] at e
      rw [dressP1 e] at h
      exact h _ _ ⟨_, by first | assumption | exact BG.ok _⟩ _ F.keep
    · rename (_ == _) = false => e
      rw [o33, one_eq] at e
      rw [dressP1' e] at h
      rw [wrap1]
      exact h _ _ ⟨_, by first | assumption | exact BG.ok _⟩ _ F.keep
  · w_is_and go_11_14_0_1
    rename Fr _ _ _ _ => F1
    rename News _ _ _ _ => N1
    have hvl : vs.length = sg.length := by rw [strsAre_length hvs, List.length_map]
    have hsl : sg.length ≤ 4 := Nat.le_of_eq hsg
    have hl1 : h₁.IsList l vs.toArray := by obtain ⟨o, e, r⟩ := hl; exact ⟨o, F1.keep _ _ e, r⟩
    rename Obj => oc
    rename _ = Data.cell _ => d1
    replace d1 : oc.data = .cell (some (.str ⟨#[c]⟩ t)) := by rw [d1]; with_unfolding_all rfl
    refine comp_A F1 (by with_unfolding_all rfl) (by with_unfolding_all rfl) (by decide) rfl (by decide) rfl rfl ?_
    w_is_and go_11_14_0_1
    refine CSrc.list (vs := vs) (fun i ys nw => And2 (nw = [(L + 1, oc)]) (StrsAre ys (ones ((sg.take i).filter fun o => o != c)))) rfl F1 N1 hl1 (by rw [hvl]; exact Nat.le_trans hsl (by decide +kernel)) (fun i ys nw h' hJ F' N' => by obtain ⟨o, e, r⟩ := hl; exact ⟨o, F'.keep _ _ e, r⟩) ⟨rfl, .nil⟩ ?_ ?_
    · intro gg
      refine CTurn.n1 rfl rfl ?_
      rintro i v I oI C oC D mC h5 tk5 g5 ys nw5 E' hv ⟨rfl, hys⟩ hns hmv F5 N5 off ne5
      obtain ⟨r, tv, hr, rfl⟩ := ones_get' hvs hv
      clear F1 N1
      w_is_and go_11_14_0_1
      · rename (_ != _) = true => e
        rw [one_ne2] at e
        refine CEnd.introN (nx := [(L + 1, oc)]) F5 N5 (List.mem_cons_self ..) (List.mem_cons_of_mem _ (List.mem_cons_self ..)) (List.mem_cons_of_mem _ (List.mem_cons_of_mem _ (List.mem_cons_self ..))) hns (fun p hp => List.mem_cons_of_mem _ (List.mem_cons_of_mem _ (List.mem_cons_of_mem _ hp))) off ⟨rfl, fil_yes hr hys e⟩
      · rename (_ != _) = false => e
        rw [one_ne2] at e
        refine CEnd.introN (nx := [(L + 1, oc)]) F5 N5 (List.mem_cons_self ..) (List.mem_cons_of_mem _ (List.mem_cons_self ..)) (List.mem_cons_of_mem _ (List.mem_cons_of_mem _ (List.mem_cons_self ..))) hns (fun p hp => List.mem_cons_of_mem _ (List.mem_cons_of_mem _ (List.mem_cons_of_mem _ hp))) off ⟨rfl, fil_no hr hys e⟩
    rintro gg ys3 nw3 ⟨rfl, hys3⟩ D3 h6 tk6 g6 F3 N3 o3
    rw [hvl, List.take_length] at hys3
    clear F1 N1
    w_is_and go_11_14_0_1
    rename Fr _ _ _ _ => F4
    rename News _ _ _ _ => N4
    obtain ⟨ot, hot⟩ : ∃ ot, ot = sg.filter fun o => o != c := ⟨_, rfl⟩
    rw [← hot] at hys3
    have hol : ys3.length = ot.length := by rw [strsAre_length hys3, List.length_map]
    clear hsl
    have hsl : ot.length ≤ 4 := by rw [hot]; exact Nat.le_trans (List.length_filter_le _ _) (Nat.le_of_eq hsg)
    refine comp_A F4 (by with_unfolding_all rfl) (by with_unfolding_all rfl) (by decide) rfl (by decide) rfl rfl ?_
    w_is_and go_11_14_0_1
    refine CSrc.list (vs := ys3) (fun i ys nw => And2 (nw = [(D3, LCg.lst ys3), (L + 1, oc)]) (StrsAre ys (ones ((ot.take i).filter fun o => o == 93)))) rfl F4 N4 (N4.isList (List.mem_cons_self ..)) (by rw [hol]; exact Nat.le_trans hsl (by decide +kernel)) (fun i ys nw h' hJ F' N' => by rw [hJ.1] at N'; exact N'.isList (List.mem_cons_self ..)) ⟨rfl, .nil⟩ ?_ ?_
    · intro gg
      refine CTurn.n1 rfl rfl ?_
      rintro i v I oI C oC D mC h5 tk5 g5 ys nw5 E' hv ⟨rfl, hys⟩ hns hmv F5 N5 off ne5
      obtain ⟨r, tv, hr, rfl⟩ := ones_get' hys3 hv
      clear F4 N4
      w_is_and go_11_14_0_1
      · rename (_ == _) = true => e
        rw [o93, one_eq2] at e
        refine CEnd.introN (nx := [(D3, LCg.lst ys3), (L + 1, oc)]) F5 N5 (List.mem_cons_self ..) (List.mem_cons_of_mem _ (List.mem_cons_self ..)) (List.mem_cons_of_mem _ (List.mem_cons_of_mem _ (List.mem_cons_self ..))) hns (fun p hp => List.mem_cons_of_mem _ (List.mem_cons_of_mem _ (List.mem_cons_of_mem _ hp))) off ⟨rfl, fil_yes hr hys e⟩
      · rename (_ == _) = false => e
        rw [o93, one_eq2] at e
        refine CEnd.introN (nx := [(D3, LCg.lst ys3), (L + 1, oc)]) F5 N5 (List.mem_cons_self ..) (List.mem_cons_of_mem _ (List.mem_cons_self ..)) (List.mem_cons_of_mem _ (List.mem_cons_of_mem _ (List.mem_cons_self ..))) hns (fun p hp => List.mem_cons_of_mem _ (List.mem_cons_of_mem _ (List.mem_cons_of_mem _ hp))) off ⟨rfl, fil_no hr hys e⟩
    rintro gg ys5 nw5 ⟨rfl, hys5⟩ D5 h6 tk6 g6 F5 N5 o5
    rw [hol, List.take_length] at hys5
    clear F4 N4
    w_is_and go_11_14_0_1
    rename Fr _ _ _ _ => F6
    rename News _ _ _ _ => N6
    refine comp_A F6 (by with_unfolding_all rfl) (by with_unfolding_all rfl) (by decide) rfl (by decide) rfl rfl ?_
    w_is_and go_11_14_0_1
    refine CSrc.list (vs := ys3) (fun i ys nw => And2 (nw = [(D5, LCg.lst ys5), (D3, LCg.lst ys3), (L + 1, oc)]) (StrsAre ys (ones ((ot.take i).filter fun o => o == 45)))) rfl F6 N6 (N6.isList (List.mem_cons_of_mem _ (List.mem_cons_self ..))) (by rw [hol]; exact Nat.le_trans hsl (by decide +kernel)) (fun i ys nw h' hJ F' N' => by rw [hJ.1] at N'; exact N'.isList (List.mem_cons_of_mem _ (List.mem_cons_self ..))) ⟨rfl, .nil⟩ ?_ ?_
    · intro gg
      refine CTurn.n1 rfl rfl ?_
      rintro i v I oI C oC D mC h5 tk5 g5 ys nw5 E' hv ⟨rfl, hys⟩ hns hmv F5 N5 off ne5
      obtain ⟨r, tv, hr, rfl⟩ := ones_get' hys3 hv
      clear F6 N6
      w_is_and go_11_14_0_1
      · rename (_ == _) = true => e
        rw [o45, one_eq2] at e
        refine CEnd.introN (nx := [(D5, LCg.lst ys5), (D3, LCg.lst ys3), (L + 1, oc)]) F5 N5 (List.mem_cons_self ..) (List.mem_cons_of_mem _ (List.mem_cons_self ..)) (List.mem_cons_of_mem _ (List.mem_cons_of_mem _ (List.mem_cons_self ..))) hns (fun p hp => List.mem_cons_of_mem _ (List.mem_cons_of_mem _ (List.mem_cons_of_mem _ hp))) off ⟨rfl, fil_yes hr hys e⟩
      · rename (_ == _) = false => e
        rw [o45, one_eq2] at e
        refine CEnd.introN (nx := [(D5, LCg.lst ys5), (D3, LCg.lst ys3), (L + 1, oc)]) F5 N5 (List.mem_cons_self ..) (List.mem_cons_of_mem _ (List.mem_cons_self ..)) (List.mem_cons_of_mem _ (List.mem_cons_of_mem _ (List.mem_cons_self ..))) hns (fun p hp => List.mem_cons_of_mem _ (List.mem_cons_of_mem _ (List.mem_cons_of_mem _ hp))) off ⟨rfl, fil_no hr hys e⟩
    rintro gg ys7 nw7 ⟨rfl, hys7⟩ D7 h6 tk6 g6 F7 N7 o7
    rw [hol, List.take_length] at hys7
    clear F6 N6
    w_is_and go_11_14_0_1
    rename Fr _ _ _ _ => F8
    rename News _ _ _ _ => N8
    refine comp_E F8 (by with_unfolding_all rfl) (by decide) rfl (by decide) ?_
    w_is_and go_11_14_0_1
    refine CSrc.list (vs := ys3) (fun i ys nw => And2 (nw = [(D7, LCg.lst ys7), (D5, LCg.lst ys5), (D3, LCg.lst ys3), (L + 1, oc)]) (StrsAre ys (ones ((ot.take i).filter fun o => !(o == 93 || o == 45))))) rfl F8 N8 (N8.isList (List.mem_cons_of_mem _ (List.mem_cons_of_mem _ (List.mem_cons_self ..)))) (by rw [hol]; exact Nat.le_trans hsl (by decide +kernel)) (fun i ys nw h' hJ F' N' => by rw [hJ.1] at N'; exact N'.isList (List.mem_cons_of_mem _ (List.mem_cons_of_mem _ (List.mem_cons_self ..)))) ⟨rfl, .nil⟩ ?_ ?_
    · intro gg
      refine CTurn.n1 rfl rfl ?_
      rintro i v I oI C oC D mC h5 tk5 g5 ys nw5 E' hv ⟨rfl, hys⟩ hns hmv F5 N5 off ne5
      obtain ⟨r, tv, hr, rfl⟩ := ones_get' hys3 hv
      clear F8 N8
      w_is_and go_11_14_0_1
      · rename (Builtin.Str.occurrences _ _ _ _ _).isEmpty = true => e
        rw [oS2, empty_one] at e
        refine CEnd.introN (nx := [(D7, LCg.lst ys7), (D5, LCg.lst ys5), (D3, LCg.lst ys3), (L + 1, oc)]) F5 N5 (List.mem_cons_self ..) (List.mem_cons_of_mem _ (List.mem_cons_self ..)) (List.mem_cons_of_mem _ (List.mem_cons_of_mem _ (List.mem_cons_self ..))) hns (fun p hp => List.mem_cons_of_mem _ (List.mem_cons_of_mem _ (List.mem_cons_of_mem _ hp))) off ⟨rfl, fil_yes hr hys ((br2 r).symm.trans e)⟩
      · rename (Builtin.Str.occurrences _ _ _ _ _).isEmpty = false => e
        rw [oS2, empty_one] at e
        refine CEnd.introN (nx := [(D7, LCg.lst ys7), (D5, LCg.lst ys5), (D3, LCg.lst ys3), (L + 1, oc)]) F5 N5 (List.mem_cons_self ..) (List.mem_cons_of_mem _ (List.mem_cons_self ..)) (List.mem_cons_of_mem _ (List.mem_cons_of_mem _ (List.mem_cons_self ..))) hns (fun p hp => List.mem_cons_of_mem _ (List.mem_cons_of_mem _ (List.mem_cons_of_mem _ hp))) off ⟨rfl, fil_no hr hys ((br2 r).symm.trans e)⟩
    rintro gg ys9 nw9 ⟨rfl, hys9⟩ D9 h6 tk6 g6 F9 N9 o9
    rw [hol, List.take_length] at hys9
    clear F8 N8
    have hz5 : ys5.length ≤ 4 := by rw [strsAre_length hys5, List.length_map]; exact Nat.le_trans (List.length_filter_le _ _) hsl
    have hz7 : ys7.length ≤ 4 := by rw [strsAre_length hys7, List.length_map]; exact Nat.le_trans (List.length_filter_le _ _) hsl
    have hz9 : ys9.length ≤ 4 := by rw [strsAre_length hys9, List.length_map]; exact Nat.le_trans (List.length_filter_le _ _) hsl
    have hz0 : ∀ n, n ≤ 12 → n ≤ sizeLine := fun n h => Nat.le_trans h (by decide +kernel)
    have hall : StrsAre (ys5 ++ ys9 ++ ys7) (txs ((arrF ot).map fun c => [c])) := by
      have := strsAre_append (strsAre_append hys5 hys9) hys7
      have e : txs ((arrF ot).map fun c => [c]) = ones (ot.filter fun o => o == 93) ++ ones (ot.filter fun o => !(o == 93 || o == 45)) ++ ones (ot.filter fun o => o == 45) := by
        rw [arrF, txs, List.map_map, List.map_append, List.map_append]; rfl
      rw [e]; exact this
    refine kmk_add_lit (its := ys5.toArray) (its2 := ys9.toArray) (zs := ys5 ++ ys9) F9 N9 ?_ ?_ rfl (fun Da h7 F10 N10 lt10 => ?_) (hz0 _ (by show ys5.length + ys9.length ≤ 12; omega))
    · exact N9.isList (.tail _ (.tail _ (.head _)))
    · exact N9.isList (.head _)
    clear F9 N9
    w_is_and go_11_14_0_1
    refine kmk_add_lit (its := (ys5 ++ ys9).toArray) (its2 := ys7.toArray) (zs := ys5 ++ ys9 ++ ys7) F10 N10 ?_ ?_ rfl (fun Db h8 F11 N11 lt11 => ?_) (hz0 _ (by show (ys5 ++ ys9).length + ys7.length ≤ 12; rw [List.length_append]; omega))
    · exact N10.isList (.head _)
    · exact N10.isList (.tail _ (.tail _ (.head _)))
    clear F10 N10
    w_is_and go_11_14_0_1
    have hal : (arrF ot).length ≤ 12 := by
      have := strsAre_length hall
      simp only [List.length_map, List.length_append] at this; omega
    refine join_listW (N11.isList (List.mem_cons_self ..)) (ys := txs ((arrF ot).map fun c => [c])) hall (by decide) (sum_bound (n := 1) (k := 12) (fun y hy => ?_) (by rw [List.length_map, List.length_map]; exact hal) (by decide)) fun t' k => ?_
    · obtain ⟨r, hr, rfl⟩ := List.mem_map.mp hy
      obtain ⟨c, _, rfl⟩ := List.mem_map.mp hr
      exact Nat.le_refl _
    rw [join_txs, flat1]
    w_is_and go_11_14_0_1
    rw [dressP2, show othersF sg c = ot from hot.symm] at h
    rw [wrap2]
    exact h _ _ g6 _ F11.keep
end Kdress_call
section
variable {w : World} {p : Program} {loose : List Str} {mean : ExcName → Option Value} {mg mb : Str → Option Value} {dp un : Nat} {fr : Option (List Env)} {gd : Option (List Code)} {s : Shared} {Q E : Value → Shared → Prop}
theorem dress_call {l : Addr} {sg : List Nat} {vs : List Value} {c kind : Nat} {t tk : Tok} (X : (KK w).In s.heap) (T : Top p loose mean mg mb s.heap) (hd : dp + 20 < recursionLimit) (hu : un + 100 < cLine) (hl : s.heap.IsList l vs.toArray) (hvs : StrsAre vs (ones sg)) (hsg : sg.length = 4) (hk : kind < 3) (h : ∀ h' t' (g' : BG) tx, Ext s.heap h' → Q (.str ⟨(dressP sg c kind).toArray⟩ tx) { s with heap := h', toks := t', gens := g' }) (hB : AllBare s.gens := by first | assumption | exact BG.ok _) :
    wpAny (model PG w) (Ar dp un fr gd) (call (.ref 116) [.str ⟨#[c]⟩ t, .ref l, .int ((kind : Nat) : Int) tk]) Q E s :=
  (Base.all Kdress_call.St (by with_unfolding_all exact Kdress_call.at_bad) ⟨w, p, loose, mean, mg, mb, dp, un, fr, gd, s, Q, E⟩) l sg vs c kind t tk X T hd hu hl hvs hsg hk h hB
end
end Mine
end

section
open PySem PySem.W PyProof.Rows PySem.Calls PySem.Spec
set_option maxRecDepth 100000
set_option maxHeartbeats 8000000
namespace Mine
set_option hygiene false
set_option hygiene true
section
variable {w : World} {p : Program} {loose : List Str} {mean : ExcName → Option Value} {mg mb : Str → Option Value} {dp un : Nat} {fr : Option (List Env)} {gd : Option (List Code)} {s : Shared} {Q E : Value → Shared → Prop}

theorem hid_keepG {G h : Heap} {l : List (Addr × Obj)} (k : Ext G h) (hn : ∀ p ∈ l, G.get? p.1 = none) : Ext G (hidF h l) := fun b o e => hideAll_get _ (k b o e) (fun hm => by
  obtain ⟨x, hx, hx2⟩ := List.mem_map.mp hm
  rw [← hx2, hn x hx] at e; cases e)
theorem fr_gnone {G h : Heap} {L : Addr} {m : Str → Option Value} (F : Fr G L h m) : G.get? L = none := by
  cases hq : G.get? L with
  | none => rfl
  | some o => exact absurd (Heap.lt_size hq) (Nat.not_lt.mpr F.above)
/-- after a call that noted frames, changed two lists and made new things -/
theorem call_back3 {G h h' : Heap} {L le la : Addr} {m : Str → Option Value} {oL ol oa ol' oa' : Obj} {new frs frs' : List (Addr × Obj)} {l : List Env} (F : Fr G L h m) (N : News G L h ((le, ol) :: (la, oa) :: frs)) (Fs : TI.Frs l frs) (hn : NoD new) (hL : h.get? L = some oL)
    (SU : TI.SameUp ((L, oL) :: frs) frs') (hg : ∀ p ∈ frs', h'.get? p.1 = some p.2) (k : Ext (hidF h ((le, ol) :: (la, oa) :: (L, oL) :: frs)) h') (Nw : New (hidF h ((le, ol) :: (la, oa) :: (L, oL) :: frs)) h' new) (el : h'.get? le = some ol') (ea : h'.get? la = some oa') :
    ∃ frs2, TI.SameUp frs frs2 ∧ TI.Frs l frs2 ∧ Fr G L h' m ∧ News G L h' (new ++ ((le, ol') :: (la, oa') :: frs2)) := by
  cases frs' with
  | nil => exact SU.elim
  | cons q frs2 =>
    obtain ⟨e1, ⟨sl, e2⟩, SU2⟩ := SU
    have hL' : h'.get? L = some { oL with slots := sl } := by
      have := hg q (.head _)
      rw [e1, e2] at this; exact this
    have hN : ∀ q ∈ (le, ol) :: (la, oa) :: (L, oL) :: frs, G.get? q.1 = none := fun q hq => by
      rcases List.mem_cons.mp hq with rfl | hq
      · exact (N _ (.head _)).2.2
      · rcases List.mem_cons.mp hq with rfl | hq
        · exact (N _ (.tail _ (.head _))).2.2
        · rcases List.mem_cons.mp hq with rfl | hq
          · exact fr_gnone F
          · exact (N _ (.tail _ (.tail _ hq))).2.2
    have hE := hid_keepG F.keep hN
    have F2 : Fr G L h' m := by
      refine ⟨?_, fun b o e => k b o (hE b o e), F.above⟩
      obtain ⟨o, es, ep, eo, hd, r1, r2⟩ := F.ns
      rw [hL] at eo
      cases eo
      exact ⟨_, es, ep, hL', hd, r1, r2⟩
    refine ⟨frs2, SU2, Fs.up SU2, F2, fun p hp => ?_⟩
    rcases List.mem_append.mp hp with hp | hp
    · have z := Nw p hp
      refine ⟨z.1, fun e => ?_, ?_⟩
      · obtain ⟨o, es, ep, e1, e2⟩ := fr_obj F2
        rw [← e, z.1] at e1
        rw [← Option.some.inj e1] at e2
        exact hn p hp _ _ e2
      · cases hq : G.get? p.1 with
        | none => rfl
        | some o =>
          have := hE _ _ hq
          rw [z.2] at this; cases this
    · rcases List.mem_cons.mp hp with rfl | hp
      · exact ⟨el, (N _ (.head _)).2⟩
      · rcases List.mem_cons.mp hp with rfl | hp
        · exact ⟨ea, (N _ (.tail _ (.head _))).2⟩
        · obtain ⟨x, hx, hx2⟩ := SU2.fwd p hp
          have z := N x (.tail _ (.tail _ hx))
          exact ⟨hg p (.tail _ hp), by rw [hx2]; exact z.2.1, by rw [hx2]; exact z.2.2⟩

theorem strsAre_rev {vs : List Value} {ss : List Str} (h : StrsAre vs ss) : StrsAre vs.reverse ss.reverse := by
  induction h with
  | nil => exact .nil
  | cons y t _ ih =>
    rw [List.reverse_cons, List.reverse_cons]
    exact strsAre_append ih (.cons y t .nil)
theorem noD2 {D M : Addr} {a b : Array Value} {n : Nat} : NoD [(D, ({ cls := .type "tuple", data := .seq a } : Obj)), (M, listOf b n)] := .cons (fun _ _ h => nomatch h) (.cons (fun _ _ h => nomatch h) .nil)
end
noncomputable def Kfe_call.St (w : World) (p : Program) (loose : List Str) (mean : ExcName → Option Value) (mg : Str → Option Value) (mb : Str → Option Value) (dp : Nat) (un : Nat) (fr : Option (List Env)) (gd : Option (List Code)) (s : Shared) (Q : Value → Shared → Prop) (E : Value → Shared → Prop) : Prop :=
  ∀ (l : List Env) (frs : List (Addr × Obj)) (lo lc lt : Addr) (os cs ts : List (List Nat)) (vo vc vt : List Value) (Fs : TI.Frs l frs) (hfr : ∀ p ∈ frs, s.heap.get? p.1 = some p.2) (X : (KK w).In (hidF s.heap frs)) (T : Top p loose mean mg mb (hidF s.heap frs)) (hd : dp + 40 < recursionLimit) (hu : un + 200 < cLine) (hlo : (hidF s.heap frs).IsList lo vo.toArray) (hvo : StrsAre vo (txs os)) (hlc : (hidF s.heap frs).IsList lc vc.toArray) (hvc : StrsAre vc (txs cs)) (hlt : (hidF s.heap frs).IsList lt vt.toArray) (hvt : StrsAre vt (txs ts)) (hol : os.length ≤ 30) (hcl : cs.length ≤ 30) (htl : ts.length ≤ 30) (hs : uldF os.reverse cs = (ts.reverse, [])) (h : ∀ h' t' (g' : BG) frs', TI.SameUp frs frs' → (∀ p ∈ frs', h'.get? p.1 = some p.2) → Ext (hidF s.heap frs) h' → Q (.bool true) { s with heap := h', toks := t', gens := g' }) (hB : AllBare s.gens),
    wpAny (model PG w) (Ar dp un (some l) gd) (call (.ref 192) [.ref lo, .ref lc, .ref lt]) Q E s
namespace Kfe_call
@[irreducible] noncomputable def bad : Base := Base.bad St
noncomputable def w : World := bad.w
noncomputable def p : Program := bad.p
noncomputable def loose : List Str := bad.loose
noncomputable def mean : ExcName → Option Value := bad.mean
noncomputable def mg : Str → Option Value := bad.mg
noncomputable def mb : Str → Option Value := bad.mb
noncomputable def dp : Nat := bad.dp
noncomputable def un : Nat := bad.un
noncomputable def fr : Option (List Env) := bad.fr
noncomputable def gd : Option (List Code) := bad.gd
noncomputable def s : Shared := bad.s
noncomputable def Q : Value → Shared → Prop := bad.Q
noncomputable def E : Value → Shared → Prop := bad.E
noncomputable def L : Addr := s.heap.objs.size
theorem hL : s.heap.objs.size = L := rfl
theorem at_bad : St w p loose mean mg mb dp un fr gd s Q E := by
  unfold St
  intros l frs lo lc lt os cs ts vo vc vt Fs hfr X T hd hu hlo hvo hlc hvc hlt hvt hol hcl htl hs h hB
  have hvol : vo.length = os.length := by rw [strsAre_length hvo, List.length_map]
  have hvcl : vc.length = cs.length := by rw [strsAre_length hvc, List.length_map]
  have hvtl : vt.length = ts.length := by rw [strsAre_length hvt, List.length_map]
  have X0 := X
  have T0 := T
  revert X; unfold PG KK
  k_fill; intro X
  refine enterX (binds := [(Str.ofString "orders", .ref lo), (Str.ofString "came", .ref lc), (Str.ofString "taken", .ref lt)]) (X.keeps fun b o e => of_hideAll _ e) (T.nolimit.keeps fun b o e => of_hideAll _ e) (by k_is) (by k_is) (by omega) rfl rfl (fun L' h₁ hL' F0 N0 => ?_)
  obtain rfl : L' = L := hL'.symm.trans hL
  k_fold
  have F := hidF_fr (frs := frs) F0
  have N := hidF_news F0 hfr
  clear F0 N0
  generalize hG : hidF s.heap frs = G at *
  have hltk : ∀ h', Ext G h' → h'.IsList lt vt.toArray := fun h' k => by obtain ⟨o, e, r⟩ := hlt; exact ⟨o, k _ _ e, r⟩
  w_is_and go_8_10_15
  refine list_copyK (items := vo.toArray) F N (by obtain ⟨o, e, r⟩ := hlo; exact ⟨o, F.keep _ _ e, r⟩) (fun K1 c1 h10 F11 N11 lt11 => ?_) (by rw [sizeLine_eq]; simp; omega)
  clear F N
  w_is_and go_8_10_15
  rename Fr _ _ _ _ => F
  rename News _ _ _ _ => N
  refine list_copyK (items := vc.toArray) F N (by obtain ⟨o, e, r⟩ := hlc; exact ⟨o, F.keep _ _ e, r⟩) (fun K2 c2 h11 F12 N12 lt12 => ?_) (by rw [sizeLine_eq]; simp; omega)
  clear F N
  have h12 : K1 < K2 := lt12 _ (.head _)
  w_is_and go_8_10_15
  rename Fr _ _ _ _ => F
  rename News _ _ _ _ => N
  rename_i h13
  have N' : News G L h13 ((K1, listOf vo.toArray c1) :: (K2, listOf vc.toArray c2) :: frs) := fun q hq => by
    rcases List.mem_cons.mp hq with rfl | hq
    · exact N _ (.tail _ (.head _))
    · rcases List.mem_cons.mp hq with rfl | hq
      · exact N _ (.head _)
      · exact N _ (.tail _ (.tail _ hq))
  clear N
  obtain ⟨oL, esL, epL, hoL, hoD⟩ := fr_obj F
  have hfr2 : ∀ q ∈ (K1, listOf vo.toArray c1) :: (K2, listOf vc.toArray c2) :: (L, oL) :: frs, h13.get? q.1 = some q.2 ∧ G.get? q.1 = none := fun q hq => by
    rcases List.mem_cons.mp hq with rfl | hq
    · exact ⟨(N' _ (.head _)).1, (N' _ (.head _)).2.2⟩
    · rcases List.mem_cons.mp hq with rfl | hq
      · exact ⟨(N' _ (.tail _ (.head _))).1, (N' _ (.tail _ (.head _))).2.2⟩
      · rcases List.mem_cons.mp hq with rfl | hq
        · exact ⟨hoL, fr_gnone F⟩
        · exact ⟨(N' _ (.tail _ (.tail _ hq))).1, (N' _ (.tail _ (.tail _ hq))).2.2⟩
  have hkp := hid_keepG F.keep (fun q hq => (hfr2 q hq).2)
  refine uld_call (frs := (L, oL) :: frs) (es := os) (as := cs) (ve := vo) (va := vc) (ne := c1) (na := c2) ⟨(fun z => nomatch z), rfl, ⟨_, _, hoD⟩, Fs⟩ (fun q hq => (hfr2 q hq).1) (Nat.ne_of_lt h12) (X0.keeps hkp) (T0.keeps hkp) (by omega) (by omega) hvo hvc (by omega) (by omega) fun h14 t14 g14 frs' D1 M1 vm1 vr1 nm1 n1 n2 SU1 hg1 k1 Nw1 el ea hm1 hr1 => ?_
  rw [hs] at hm1 hr1
  obtain ⟨frs2, SU2, Fs2, F14, N14⟩ := call_back3 F N' Fs (noD2 (D := D1) (M := M1)) hoL SU1 hg1 k1 Nw1 el ea
  clear F N' SU1 hg1 k1 Nw1 hkp hoL hoD hfr2 el ea
  dsimp only [List.cons_append, List.nil_append] at N14
  dsimp only
  w_is_and go_8_10_15
  rename Fr _ _ _ _ => F
  rename News _ _ _ _ => N
  dsimp only at F N ⊢
  rename_i h15 _ l15 _ _ NT h16 _
  generalize h15.objs.size + 1 = NR at *
  have hrv : slicePick vt.toArray none none (some (-1)) = vt.reverse.toArray := krv_pick _
  rw [hrv] at N
  have hvr : StrsAre vt.reverse (txs ts.reverse) := by rw [show txs ts.reverse = (txs ts).reverse from List.map_reverse]; exact strsAre_rev hvt
  refine pair_eq (M := M1) (U := K2) (M2 := NR) (U2 := l15) ⟨_, (N _ (.tail _ (.tail _ (.tail _ (.head _))))).1, rfl, _, rfl⟩ ⟨_, (N _ (.head _)).1, rfl, _, rfl⟩ (by simp [Ar]; omega) (strs_eqAt hm1 hvr (N.isList (.tail _ (.tail _ (.tail _ (.tail _ (.head _)))))) (N.isList (n := 0) (.tail _ (.tail _ (.head _)))) (by simp [Ar]; omega)) (strs_eqAt hr1 .nil (N.isList (.tail _ (.tail _ (.tail _ (.tail _ (.tail _ (.tail _ (.head _)))))))) (N.isList (.tail _ (.head _))) (by simp [Ar]; omega)) ?_
  w_is_and go_8_10_15
  rename Fr _ _ _ _ => F
  rename News _ _ _ _ => N
  refine PySem.SeqAt.eq_listAt (e := fun _ => true) (N.isList (.tail _ (.tail _ (.tail _ (.tail _ (.tail _ (.tail _ (.head _)))))))) (N.isList (.head _)) rfl (by simp [Ar]; omega) (fun j h1 h2 => absurd h1 (by simp)) ?_
  rw [List.all_eq_true.mpr (fun _ _ => rfl)]
  w_is_and go_8_10_15
  try dsimp only
  try w_is_and go_8_10_15
  exact h _ _ ⟨_, by first | assumption | exact BG.ok _⟩ frs2 SU2 (fun q hq => (N q (.tail _ (.tail _ (.tail _ (.tail _ (.tail _ (.tail _ (.tail _ (.tail _ hq))))))))).1) F.keep
end Kfe_call
section
variable {w : World} {p : Program} {loose : List Str} {mean : ExcName → Option Value} {mg mb : Str → Option Value} {dp un : Nat} {fr : Option (List Env)} {gd : Option (List Code)} {s : Shared} {Q E : Value → Shared → Prop}
theorem fe_call {l : List Env} {frs : List (Addr × Obj)} {lo lc lt : Addr} {os cs ts : List (List Nat)} {vo vc vt : List Value} (Fs : TI.Frs l frs) (hfr : ∀ p ∈ frs, s.heap.get? p.1 = some p.2) (X : (KK w).In (hidF s.heap frs)) (T : Top p loose mean mg mb (hidF s.heap frs)) (hd : dp + 40 < recursionLimit) (hu : un + 200 < cLine) (hlo : (hidF s.heap frs).IsList lo vo.toArray) (hvo : StrsAre vo (txs os)) (hlc : (hidF s.heap frs).IsList lc vc.toArray) (hvc : StrsAre vc (txs cs)) (hlt : (hidF s.heap frs).IsList lt vt.toArray) (hvt : StrsAre vt (txs ts)) (hol : os.length ≤ 30) (hcl : cs.length ≤ 30) (htl : ts.length ≤ 30) (hs : uldF os.reverse cs = (ts.reverse, [])) (h : ∀ h' t' (g' : BG) frs', TI.SameUp frs frs' → (∀ p ∈ frs', h'.get? p.1 = some p.2) → Ext (hidF s.heap frs) h' → Q (.bool true) { s with heap := h', toks := t', gens := g' }) (hB : AllBare s.gens := by first | assumption | exact BG.ok _) :
    wpAny (model PG w) (Ar dp un (some l) gd) (call (.ref 192) [.ref lo, .ref lc, .ref lt]) Q E s :=
  (Base.all Kfe_call.St (by with_unfolding_all exact Kfe_call.at_bad) ⟨w, p, loose, mean, mg, mb, dp, un, none, gd, s, Q, E⟩) l frs lo lc lt os cs ts vo vc vt Fs hfr X T hd hu hlo hvo hlc hvc hlt hvt hol hcl htl hs h hB
end
end Mine
end

section
open PySem PySem.W PyProof.Rows PySem.Calls PySem.Spec
set_option maxRecDepth 100000
set_option maxHeartbeats 8000000
namespace Mine
theorem fresh_PT : True := by w_top off; trivial
-- old walk
set_option hygiene false
set_option hygiene true
section
variable {w : World} {p : Program} {loose : List Str} {mean : ExcName → Option Value} {mg mb : Str → Option Value} {dp un : Nat} {fr : Option (List Env)} {gd : Option (List Code)} {s : Shared} {Q E : Value → Shared → Prop}

noncomputable def kindF (n k : Nat) : Nat := (n / 3 ^ k + k) % 3
noncomputable def dressL (sg : List Nat) (n : Nat) : List (List Nat) := (List.range 4).map fun k => dressP sg (sg.getD k 0) (kindF n k)

theorem kind_eq (z : Int) (n i : Nat) (hn : n = (z.fmod 81).toNat) (hi : i < 4) : ((z.fdiv (3 ^ (((i : Nat) : Int)).toNat) + ((i : Nat) : Int)).fmod 3) = ((kindF n i : Nat) : Int) := by
  rw [Int.fmod_eq_emod_of_nonneg _ (by decide)] at hn ⊢
  rw [Int.toNat_natCast, Int.fdiv_eq_ediv_of_nonneg _ (Int.pow_nonneg (by decide))]
  have := mod_split (z := z) (d := 3 ^ i) (m := 3) (c := i) (e := 3 ^ (3 - i)) hn (by revert i; decide) (by decide)
  rw [Int.natCast_pow] at this
  exact this
theorem dressP_len (sg : List Nat) (hsg : sg.length = 4) (c k : Nat) : (dressP sg c k).length ≤ 20 := by
  unfold dressP
  have h1 : ∀ q : Nat → Bool, ((othersF sg c).filter q).length ≤ 4 := fun q => Nat.le_trans (List.length_filter_le _ _) (Nat.le_trans (List.length_filter_le _ _) (Nat.le_of_eq hsg))
  split
  · simp
  · split
    · simp
    · split
      · simp
      · unfold arrF
        have a := h1 fun o => o == 93
        have b := h1 fun o => !(o == 93 || o == 45)
        have d := h1 fun o => o == 45
        simp only [List.length_append, List.length_cons, List.length_nil]; omega
noncomputable def thrI : List (Nat × Nat × Nat) := [(0, 1, 2), (0, 1, 3), (0, 2, 3), (1, 2, 3)]
noncomputable def patL (sg : List Nat) (n : Nat) (x : Nat × Nat × Nat) : List Nat := [42] ++ (dressL sg n).getD x.2.2 [] ++ [42] ++ (dressL sg n).getD x.1 [] ++ [42] ++ (dressL sg n).getD x.2.1 [] ++ [42]
theorem star3 (r1 r2 r3 : List Nat) : (Str.ofString "*" ++ (⟨r3.toArray⟩ : Str) ++ Str.ofString "*" ++ ⟨r1.toArray⟩ ++ Str.ofString "*" ++ ⟨r2.toArray⟩ ++ Str.ofString "*") = ⟨([42] ++ r3 ++ [42] ++ r1 ++ [42] ++ r2 ++ [42]).toArray⟩ := by
  rw [show Str.ofString "*" = (⟨[42].toArray⟩ : Str) from by decide +kernel]
  rw [mk_append, mk_append, mk_append, mk_append, mk_append, mk_append]
end
noncomputable def Kpatterns_call.St (w : World) (p : Program) (loose : List Str) (mean : ExcName → Option Value) (mg : Str → Option Value) (mb : Str → Option Value) (dp : Nat) (un : Nat) (fr : Option (List Env)) (gd : Option (List Code)) (s : Shared) (Q : Value → Shared → Prop) (E : Value → Shared → Prop) : Prop :=
  ∀ (l : Addr) (sg : List Nat) (vs : List Value) (z : Int) (n : Nat) (t : Tok) (X : (KK w).In s.heap) (T : Top p loose mean mg mb s.heap) (hd : dp + 40 < recursionLimit) (hu : un + 200 < cLine) (hl : s.heap.IsList l vs.toArray) (hvs : StrsAre vs (ones sg)) (hsg : sg.length = 4) (hn : n = (z.fmod 81).toNat) (h : ∀ h' t' (g' : BG) D ys m, Ext s.heap h' → New s.heap h' [(D, listOf ys.toArray m)] → StrsAre ys (txs (thrI.map (patL sg n))) → Q (.ref D) { s with heap := h', toks := t', gens := g' }) (hB : AllBare s.gens),
    wpAny (model PG w) (Ar dp un fr gd) (call (.ref 121) [.ref l, .int z t]) Q E s
namespace Kpatterns_call
@[irreducible] noncomputable def bad : Base := Base.bad St
noncomputable def w : World := bad.w
noncomputable def p : Program := bad.p
noncomputable def loose : List Str := bad.loose
noncomputable def mean : ExcName → Option Value := bad.mean
noncomputable def mg : Str → Option Value := bad.mg
noncomputable def mb : Str → Option Value := bad.mb
noncomputable def dp : Nat := bad.dp
noncomputable def un : Nat := bad.un
noncomputable def fr : Option (List Env) := bad.fr
noncomputable def gd : Option (List Code) := bad.gd
noncomputable def s : Shared := bad.s
noncomputable def Q : Value → Shared → Prop := bad.Q
noncomputable def E : Value → Shared → Prop := bad.E
noncomputable def L : Addr := s.heap.objs.size
theorem hL : s.heap.objs.size = L := rfl
theorem at_bad : St w p loose mean mg mb dp un fr gd s Q E := by
  unfold St
  intros l sg vs z n t X T hd hu hl hvs hsg hn h hB
  revert X; unfold PG KK
  k_fill; intro X
  refine enterC (binds := [(Str.ofString "signs", .ref l), (Str.ofString "number", .int z t)]) X T.nolimit (by k_is) (by k_is) (by omega) rfl rfl (fun L' h₁ tk' cells hL' F N Y => ?_)
  obtain rfl : L' = L := hL'.symm.trans hL
  k_fold
  k_cells Y
  rename_i od on os dd dn ds
  replace dn : on.data = .cell (some (.int z t)) := by rw [dn]; with_unfolding_all rfl
  replace ds : os.data = .cell (some (.ref l)) := by rw [ds]; with_unfolding_all rfl
  replace dd : od.data = .cell none := by rw [dd]; with_unfolding_all rfl
  w_is_and old_8_9_0_1
  walk1
  rename Fr _ _ _ _ => F2
  rename News _ _ _ _ => N2
  refine comp_E F2 (by with_unfolding_all rfl) (by decide) rfl (by decide) ?_
  w_is_and old_8_9_0_1
  rename IsRange _ _ _ _ _ _ _ _ => hr
  rename Fr _ _ _ _ => F1
  rename News _ _ _ _ => N1
  try dsimp only
  refine CSrc.range (n := 4) (fun i ys nw => And2 (nw = [(L + 1 + 1 + 1, od), (L + 1 + 1, on), (L + 1, os)]) (StrsAre ys (txs ((dressL sg n).take i)))) rfl F1 N1 hr (by decide) (by decide) (by decide +kernel) ⟨rfl, .nil⟩ ?_ ?_
  · intro gg
    refine CTurn.n0 rfl rfl ?_
    rintro i v I oI C oC D mC h5 tk5 g5 ys nw5 E' ⟨hi, u, rfl⟩ ⟨rfl, hys⟩ hns hmv F5 N5 off ne5
    clear F1 N1
    w_is_and old_8_9_0_1
    refine sub_at (k := i) (by obtain ⟨o, e, r⟩ := hl; exact ⟨o, F5.keep _ _ e, r⟩) hvs (show (ones sg)[i]? = some ⟨#[sg.getD i 0]⟩ by simp [List.getD, hsg, hi]) (by omega) fun tx => ?_
    have e1 : (dressL sg n).take (i + 1) = (dressL sg n).take i ++ [dressP sg (sg.getD i 0) (kindF n i)] := by
      rw [List.take_add_one]; simp [dressL, hi]
    rcases (by omega : i = 0 ∨ i = 1 ∨ i = 2 ∨ i = 3) with rfl | rfl | rfl | rfl
    all_goals
      w_is_and old_8_9_0_1
      rw [kind_eq z n _ hn (by decide)]
      refine dress_call (X.keeps F5.keep) (T.keeps F5.keep) (by omega) (by omega) (by obtain ⟨o, e, r⟩ := hl; exact ⟨o, F5.keep _ _ e, r⟩) hvs hsg (Nat.mod_lt _ (by decide)) fun h' t' g' tx' hk => ?_
      refine CEnd.intro (nx := [(L + 1 + 1 + 1, od), (L + 1 + 1, on), (L + 1, os)]) (F5.keeps hk) (News.ext N5 hk) (List.mem_cons_self ..) (List.mem_cons_of_mem _ (List.mem_cons_self ..)) (List.mem_cons_of_mem _ (List.mem_cons_of_mem _ (List.mem_cons_self ..))) hns (fun p hp => List.mem_cons_of_mem _ (List.mem_cons_of_mem _ (List.mem_cons_of_mem _ hp))) off ⟨rfl, ?_⟩
      rw [e1, txs, List.map_append]
      exact strsAre_append hys (.cons _ _ .nil)
  · rintro gg ys nw5 ⟨rfl, hys⟩ D h6 tk6 g6 F6 N6 o6
    clear F1 N1
    rw [show (dressL sg n).take 4 = dressL sg n from rfl] at hys
    w_is_and old_8_9_0_1
    rename_i od2 hd2 tkz Da ha la Db hb lb Dc hc lc Dd hd' ld T0 hT lT hF F7 N7
    dsimp only [List.cons_append, List.nil_append] at N7
    obtain ⟨led, hled, N8⟩ : ∃ led, led = _ ∧ News s.heap L hF led := ⟨_, rfl, N7⟩
    clear N7
    have mT : (T0, ({ cls := .type "tuple", data := .seq #[.ref Da, .ref Db, .ref Dc, .ref Dd] } : Obj)) ∈ led := by rw [hled]; exact .head _
    have mD : (D, LCg.lst ys) ∈ led := by rw [hled]; exact .tail _ (.tail _ (.tail _ (.tail _ (.tail _ (.head _)))))
    have mc : (L + 1 + 1 + 1, od2) ∈ led := by rw [hled]; exact .tail _ (.tail _ (.tail _ (.tail _ (.tail _ (.tail _ (.head _))))))
    refine comp_E F7 (by with_unfolding_all rfl) (by decide) rfl (by decide) ?_
    w_is_and old_8_9_0_1
    refine CSrc.tup (vs := #[.ref Da, .ref Db, .ref Dc, .ref Dd]) (fun i zs nw => And2 (nw = led) (StrsAre zs (txs ((thrI.map (patL sg n)).take i)))) rfl F7 N8 ⟨_, (N8 _ mT).1, rfl, _, rfl⟩ (Nat.le_trans (show 4 ≤ 1000 by decide) (by decide +kernel)) (fun i zs nw h' hJ F' N' => ⟨_, (N' _ (hJ.1 ▸ mT)).1, rfl, _, rfl⟩) ⟨rfl, .nil⟩ ?_ ?_ (fun I v s' i Q' E' st q => letGo_tupi st q)
    · intro gg2
      refine CTurn.t3 (fun i a b c => ∃ (x : Nat × Nat × Nat) (t1 t2 t3 : Tok), thrI[i]? = some x ∧ a = .int ((x.1 : Nat) : Int) t1 ∧ b = .int ((x.2.1 : Nat) : Int) t2 ∧ c = .int ((x.2.2 : Nat) : Int) t3) rfl rfl rfl rfl rfl (by decide) (by decide) (by decide) ?_ ?_
      · rintro i v h8 zs nw8 hv ⟨hnw8, hzs⟩ F9 N9
        subst hnw8
        rcases (by have := (Array.getElem?_eq_some_iff.mp hv).1; simp only [List.size_toArray, List.length_cons, List.length_nil] at this; omega : i = 0 ∨ i = 1 ∨ i = 2 ∨ i = 3) with rfl | rfl | rfl | rfl
        · obtain rfl : Value.ref Da = v := by simpa using hv
          exact ⟨Da, _, _, _, rfl, ⟨_, (N9 (Da, _) (by rw [hled]; exact .tail _ (.tail _ (.tail _ (.tail _ (.head _)))))).1, rfl, _, rfl⟩, (0, 1, 2), _, _, _, rfl, rfl, rfl, rfl⟩
        · obtain rfl : Value.ref Db = v := by simpa using hv
          exact ⟨Db, _, _, _, rfl, ⟨_, (N9 (Db, _) (by rw [hled]; exact .tail _ (.tail _ (.tail _ (.head _))))).1, rfl, _, rfl⟩, (0, 1, 3), _, _, _, rfl, rfl, rfl, rfl⟩
        · obtain rfl : Value.ref Dc = v := by simpa using hv
          exact ⟨Dc, _, _, _, rfl, ⟨_, (N9 (Dc, _) (by rw [hled]; exact .tail _ (.tail _ (.head _)))).1, rfl, _, rfl⟩, (0, 2, 3), _, _, _, rfl, rfl, rfl, rfl⟩
        · obtain rfl : Value.ref Dd = v := by simpa using hv
          exact ⟨Dd, _, _, _, rfl, ⟨_, (N9 (Dd, _) (by rw [hled]; exact .tail _ (.head _))).1, rfl, _, rfl⟩, (1, 2, 3), _, _, _, rfl, rfl, rfl, rfl⟩
      · rintro i a b c I oI C oC E0 mC h8 tk8 g8 zs nw8 E' ⟨x, t1, t2, t3, hx, rfl, rfl, rfl⟩ ⟨hnw8, hzs⟩ hns hm1 hm2 hm3 F9 N9 off ne9
        subst hnw8
        have hb4 : x.1 < 4 ∧ x.2.1 < 4 ∧ x.2.2 < 4 := by
          have : ∀ y ∈ thrI, y.1 < 4 ∧ y.2.1 < 4 ∧ y.2.2 < 4 := by decide
          exact this x (List.mem_of_getElem? hx)
        have hget : ∀ k, k < 4 → ∃ r, r = (dressL sg n).getD k [] ∧ (txs (dressL sg n))[k]? = some ⟨r.toArray⟩ ∧ r.length ≤ 20 := fun k hk => by
          refine ⟨_, rfl, by simp [dressL, List.getD, hk], ?_⟩
          rw [show (dressL sg n).getD k [] = dressP sg (sg.getD k 0) (kindF n k) by simp [dressL, List.getD, hk]]
          exact dressP_len sg hsg _ _
        obtain ⟨r1, e1, g1, z1⟩ := hget _ hb4.1
        obtain ⟨r2, e2, g2, z2⟩ := hget _ hb4.2.1
        obtain ⟨r3, e3, g3, z3⟩ := hget _ hb4.2.2
        have y1 : (⟨r1.toArray⟩ : Str).length ≤ 20 := by show Array.size _ ≤ 20; rw [List.size_toArray]; exact z1
        have y2 : (⟨r2.toArray⟩ : Str).length ≤ 20 := by show Array.size _ ≤ 20; rw [List.size_toArray]; exact z2
        have y3 : (⟨r3.toArray⟩ : Str).length ≤ 20 := by show Array.size _ ≤ 20; rw [List.size_toArray]; exact z3
        have mD9 : (D, LCg.lst ys) ∈ (I, oI) :: (C, oC) :: (E0, LCg.lst zs) :: nw8 := .tail _ (.tail _ (.tail _ mD))
        have mc9 : (L + 1 + 1 + 1, od2) ∈ (I, oI) :: (C, oC) :: (E0, LCg.lst zs) :: nw8 := .tail _ (.tail _ (.tail _ mc))
        have N10 : News s.heap L h8 [(C, oC), (L + 1 + 1 + 1, od2)] := fun q hq => by
          rcases List.mem_cons.mp hq with rfl | hq
          · exact N9 _ (.tail _ (.head _))
          · rw [List.mem_singleton.mp hq]; exact N9 _ mc9
        clear F7 N8
        have hlD : h8.IsList D ys.toArray := ⟨_, (N9 _ mD9).1, rfl, _, rfl⟩
        w_is_and old_8_9_0_1
        refine sub_at (k := x.2.2) hlD hys g3 (by omega) fun tx3 => ?_
        w_is_and old_8_9_0_1
        refine sub_at (k := x.1) hlD hys g1 (by omega) fun tx1 => ?_
        w_is_and old_8_9_0_1
        refine sub_at (k := x.2.1) hlD hys g2 (by omega) fun tx2 => ?_
        w_is_and old_8_9_0_1
        refine CEnd.introN (nx := nw8) F9 N9 (List.mem_cons_self ..) (List.mem_cons_of_mem _ (List.mem_cons_self ..)) (List.mem_cons_of_mem _ (List.mem_cons_of_mem _ (List.mem_cons_self ..))) hns (fun p hp => List.mem_cons_of_mem _ (List.mem_cons_of_mem _ (List.mem_cons_of_mem _ hp))) off ⟨rfl, ?_⟩
        have e4 : (thrI.map (patL sg n)).take (i + 1) = (thrI.map (patL sg n)).take i ++ [patL sg n x] := by
          rw [List.take_add_one, List.getElem?_map, hx]; rfl
        rw [e4, star3, txs, List.map_append, e1, e2, e3]
        exact strsAre_append hzs (.cons _ _ .nil)
    · rintro gg2 zs nw9 ⟨hnw9, hzs⟩ D9 h9 tk9 g9 F9 N9 o9
      have e5 : (thrI.map (patL sg n)).take (#[Value.ref Da, Value.ref Db, Value.ref Dc, Value.ref Dd] : Array Value).size = thrI.map (patL sg n) := rfl
      rw [e5] at hzs
      exact h _ _ g9 D9 zs _ F9.keep (fun p hp => by
        rw [List.mem_singleton.mp hp]
        exact ⟨(N9 _ (List.mem_cons_self ..)).1, (N9 _ (List.mem_cons_self ..)).2.2⟩) hzs
end Kpatterns_call
section
variable {w : World} {p : Program} {loose : List Str} {mean : ExcName → Option Value} {mg mb : Str → Option Value} {dp un : Nat} {fr : Option (List Env)} {gd : Option (List Code)} {s : Shared} {Q E : Value → Shared → Prop}
theorem patterns_call {l : Addr} {sg : List Nat} {vs : List Value} {z : Int} {n : Nat} {t : Tok} (X : (KK w).In s.heap) (T : Top p loose mean mg mb s.heap) (hd : dp + 40 < recursionLimit) (hu : un + 200 < cLine) (hl : s.heap.IsList l vs.toArray) (hvs : StrsAre vs (ones sg)) (hsg : sg.length = 4) (hn : n = (z.fmod 81).toNat) (h : ∀ h' t' (g' : BG) D ys m, Ext s.heap h' → New s.heap h' [(D, listOf ys.toArray m)] → StrsAre ys (txs (thrI.map (patL sg n))) → Q (.ref D) { s with heap := h', toks := t', gens := g' }) (hB : AllBare s.gens := by first | assumption | exact BG.ok _) :
    wpAny (model PG w) (Ar dp un fr gd) (call (.ref 121) [.ref l, .int z t]) Q E s :=
  (Base.all Kpatterns_call.St (by with_unfolding_all exact Kpatterns_call.at_bad) ⟨w, p, loose, mean, mg, mb, dp, un, fr, gd, s, Q, E⟩) l sg vs z n t X T hd hu hl hvs hsg hn h hB
end
end Mine
end

section
open PySem PySem.W PyProof.Rows PySem.Calls PySem.Spec
set_option maxRecDepth 100000
set_option maxHeartbeats 1000000
namespace Mine
/-! ### the plain laws put together -/
theorem where3 {x y z : Nat} (n : Nat) (hxy : x ≠ y) (hxz : x ≠ z) (hyz : y ≠ z) : (x = n ∧ y ≠ n ∧ z ≠ n) ∨ (x ≠ n ∧ y = n ∧ z ≠ n) ∨ (x ≠ n ∧ y ≠ n ∧ z = n) ∨ (x ≠ n ∧ y ≠ n ∧ z ≠ n) := by
  by_cases hx : x = n
  · exact .inl ⟨hx, fun h => hxy (hx.trans h.symm), fun h => hxz (hx.trans h.symm)⟩
  · by_cases hy : y = n
    · exact .inr (.inl ⟨hx, hy, fun h => hyz (hy.trans h.symm)⟩)
    · by_cases hz : z = n
      · exact .inr (.inr (.inl ⟨hx, hy, hz⟩))
      · exact .inr (.inr (.inr ⟨hx, hy, hz⟩))
theorem m132 {x y z : Nat} (v : Nat) : v ∈ [x, z, y] ↔ v ∈ [x, y, z] := by
  simp only [List.mem_cons, List.not_mem_nil, or_false]; exact or_congr Iff.rfl or_comm
theorem m213 {x y z : Nat} (v : Nat) : v ∈ [y, x, z] ↔ v ∈ [x, y, z] := by
  simp only [List.mem_cons]; exact or_left_comm
theorem m231 {x y z : Nat} (v : Nat) : v ∈ [y, z, x] ↔ v ∈ [x, y, z] := (m132 v).trans (m213 v)
theorem m312 {x y z : Nat} (v : Nat) : v ∈ [z, x, y] ↔ v ∈ [x, y, z] := (m213 v).trans (m132 v)
theorem m321 {x y z : Nat} (v : Nat) : v ∈ [z, y, x] ↔ v ∈ [x, y, z] := (m132 v).trans (m312 v)
theorem arr3 (x y z : Nat) (hxy : x ≠ y) (hxz : x ≠ z) (hyz : y ≠ z) : ∃ a b c, arrF [x, y, z] = [a, b, c] ∧ (b ≠ 93 ∧ c ≠ 93 ∧ a ≠ 45 ∧ b ≠ 45) ∧ ∀ v, v ∈ [a, b, c] ↔ v ∈ [x, y, z] := by
  rcases where3 93 hxy hxz hyz with ⟨h1, h2, h3⟩ | ⟨h1, h2, h3⟩ | ⟨h1, h2, h3⟩ | ⟨h1, h2, h3⟩ <;>
    rcases where3 45 hxy hxz hyz with ⟨k1, k2, k3⟩ | ⟨k1, k2, k3⟩ | ⟨k1, k2, k3⟩ | ⟨k1, k2, k3⟩ <;>
    first
    | exact absurd (h1.symm.trans k1) (by decide)
    | exact absurd (h2.symm.trans k2) (by decide)
    | exact absurd (h3.symm.trans k3) (by decide)
    | (generalize hA : arrF [x, y, z] = A
       simp [arrF, h1, h2, h3, k1, k2, k3] at hA
       subst hA
       try subst h1
       try subst h2
       try subst h3
       try subst k1
       try subst k2
       try subst k3
       exact ⟨_, _, _, rfl, ⟨by first | assumption | decide, by first | assumption | decide, by first | assumption | decide, by first | assumption | decide⟩, by first | exact fun _ => Iff.rfl | exact m132 | exact m213 | exact m231 | exact m312 | exact m321⟩)

theorem four {sg : List Nat} (hl : sg.length = 4) : ∃ a b c d, sg = [a, b, c, d] := by
  match sg, hl with
  | [a, b, c, d], _ => exact ⟨a, b, c, d, rfl⟩
theorem sg_inj {sg : List Nat} (hn : sg.Nodup) (hl : sg.length = 4) : ∀ i j, i < 4 → j < 4 → sg.getD i 0 = sg.getD j 0 → i = j := fun i j hi hj e => by
  have h1 : i < sg.length := by omega
  have h2 : j < sg.length := by omega
  rw [List.getD_eq_getElem?_getD, List.getD_eq_getElem?_getD, List.getElem?_eq_getElem h1, List.getElem?_eq_getElem h2] at e
  replace e : sg[i] = sg[j] := e
  have hp := List.pairwise_iff_getElem.mp hn
  rcases Nat.lt_trichotomy i j with q | q | q
  · exact absurd e (hp i j h1 h2 q)
  · exact q
  · exact absurd e.symm (hp j i h2 h1 q)
theorem four_map {sg : List Nat} (hl : sg.length = 4) : sg = [0, 1, 2, 3].map fun i => sg.getD i 0 := by
  obtain ⟨a, b, c, d, rfl⟩ := four hl; rfl
theorem others_spec {f : Nat → Nat} (hf : ∀ i j, i < 4 → j < 4 → f i = f j → i = j) {k : Nat} (hk : k < 4) : ∃ x y z, othersF ([0, 1, 2, 3].map f) (f k) = [x, y, z] ∧ x ≠ y ∧ x ≠ z ∧ y ≠ z ∧ ∀ v, v ∈ [x, y, z] ↔ ∃ i, i < 4 ∧ i ≠ k ∧ v = f i := by
  have l4 : ∀ i, i ∈ [0, 1, 2, 3] ↔ i < 4 := fun i => by rw [show [0, 1, 2, 3] = List.range 4 from rfl]; exact List.mem_range
  have e : othersF ([0, 1, 2, 3].map f) (f k) = ([0, 1, 2, 3].filter fun i => i != k).map f := by
    rw [othersF, List.filter_map]
    refine congrArg (List.map f) (List.filter_congr fun i hi => ?_)
    show (f i != f k) = (i != k)
    by_cases h : i = k
    · rw [h, bne_self_eq_false, bne_self_eq_false]
    · rw [bne_iff_ne.mpr h, bne_iff_ne.mpr fun q => h (hf _ _ ((l4 i).mp hi) hk q)]
  obtain ⟨a, ha, b, hb, d, hd, e2, n1, n2, n3⟩ : ∃ a, a < 4 ∧ ∃ b, b < 4 ∧ ∃ d, d < 4 ∧ ([0, 1, 2, 3].filter fun i => i != k) = [a, b, d] ∧ a ≠ b ∧ a ≠ d ∧ b ≠ d := by
    revert k; intro k hk _
    exact (by decide : ∀ k, k < 4 → ∃ a, a < 4 ∧ ∃ b, b < 4 ∧ ∃ d, d < 4 ∧ ([0, 1, 2, 3].filter fun i => i != k) = [a, b, d] ∧ a ≠ b ∧ a ≠ d ∧ b ≠ d) k hk
  have e3 : [f a, f b, f d] = ([0, 1, 2, 3].filter fun i => i != k).map f := by rw [e2]; rfl
  refine ⟨f a, f b, f d, by rw [e, e3], fun q => n1 (hf _ _ ha hb q), fun q => n2 (hf _ _ ha hd q), fun q => n3 (hf _ _ hb hd q), fun v => ?_⟩
  rw [e3, List.mem_map]
  constructor
  · rintro ⟨i, hi, rfl⟩
    obtain ⟨h1, h2⟩ := List.mem_filter.mp hi
    exact ⟨i, (l4 i).mp h1, bne_iff_ne.mp h2, rfl⟩
  · rintro ⟨i, h1, h2, rfl⟩
    exact ⟨i, List.mem_filter.mpr ⟨(l4 i).mpr h1, bne_iff_ne.mpr h2⟩, rfl⟩
theorem piece {sg : List Nat} (hn : sg.Nodup) (hl : sg.length = 4) (k kind : Nat) (hk : k < 4) : ∃ p : Pc, p.ok ∧ dressP sg (sg.getD k 0) kind = p.text ∧ TakesAt (fun i => sg.getD i 0) p.item k := by
  have hf := sg_inj hn hl
  generalize hc : sg.getD k 0 = c
  unfold dressP
  by_cases h0 : kind = 0 ∧ ¬ (c = 42 ∨ c = 63 ∨ c = 91)
  · rw [if_pos h0]
    exact ⟨.bare c, by obtain ⟨_, h⟩ := h0; simp only [not_or] at h; exact h, rfl, by rw [← hc]; exact takesAt_one hf hk⟩
  · rw [if_neg h0]
    by_cases h1 : kind = 1 ∧ c = 33
    · rw [if_pos h1]
      exact ⟨.bare c, by obtain ⟨_, rfl⟩ := h1; exact ⟨by decide, by decide, by decide⟩, rfl, by rw [← hc]; exact takesAt_one hf hk⟩
    · rw [if_neg h1]
      by_cases h2 : kind < 2
      · rw [if_pos h2]
        exact ⟨.one c, by show c ≠ 33; rintro rfl; rcases (by omega : kind = 0 ∨ kind = 1) with rfl | rfl; exact h0 ⟨rfl, by decide⟩; exact h1 ⟨rfl, rfl⟩, rfl, by rw [← hc]; exact takesAt_one hf hk⟩
      · rw [if_neg h2]
        obtain ⟨x, y, z, ho, hxy, hxz, hyz, hm⟩ := others_spec hf hk
        rw [← four_map hl, hc] at ho
        obtain ⟨a, b, d, ha, hok, hv⟩ := arr3 x y z hxy hxz hyz
        rw [ho, ha]
        refine ⟨.bar a b d, hok, rfl, ?_⟩
        exact takesAt_bar hf hk fun v => (hv v).trans (hm v)

theorem map_injL {f : Nat → Nat} (hf : ∀ i j, i < 4 → j < 4 → f i = f j → i = j) : ∀ (p q : List Nat), (∀ c ∈ p, c < 4) → (∀ c ∈ q, c < 4) → p.map f = q.map f → p = q
  | [], [], _, _, _ => rfl
  | [], _ :: _, _, _, h => by cases h
  | _ :: _, [], _, _, h => by cases h
  | a :: p, b :: q, h1, h2, h => by
    rw [List.map_cons, List.map_cons, List.cons.injEq] at h
    rw [hf a b (h1 a (.head _)) (h2 b (.head _)) h.1, map_injL hf p q (fun c hc => h1 c (.tail _ hc)) (fun c hc => h2 c (.tail _ hc)) h.2]
theorem nodup_mapOn {α β : Type} {g : α → β} : ∀ {l : List α}, (∀ p ∈ l, ∀ q ∈ l, g p = g q → p = q) → l.Nodup → (l.map g).Nodup
  | [], _, _ => .nil
  | a :: l, h, hn => by
    obtain ⟨h1, h2⟩ := List.nodup_cons.mp hn
    rw [List.map_cons]
    refine List.nodup_cons.mpr ⟨fun hm => ?_, nodup_mapOn (fun p hp q hq => h p (.tail _ hp) q (.tail _ hq)) h2⟩
    obtain ⟨x, hx, e⟩ := List.mem_map.mp hm
    exact h1 (h x (.tail _ hx) a (.head _) e ▸ hx)
theorem txs_perm {a b : List (List Nat)} (h : (txs a).Perm (txs b)) : a.Perm b := by
  have := h.map (fun s : Str => s.cps.toList)
  have e : ∀ l : List (List Nat), (txs l).map (fun s : Str => s.cps.toList) = l := fun l => by
    unfold txs; rw [List.map_map]
    exact (List.map_congr_left fun x _ => by simp).trans (List.map_id _)
  rwa [e, e] at this
/-- the orders that come off the pile -/
noncomputable def csF (sg : List Nat) : List (List Nat) := goodR.map fun r => (cameI r).map fun i => sg.getD i 0
noncomputable def pssF (P : Nat → Pc) : List (List (Bool × List Nat)) := thrI.map fun x => [(P x.2.2).item, (P x.1).item, (P x.2.1).item]
theorem plain_law {sg : List Nat} (hn : sg.Nodup) (hl : sg.length = 4) (n : Nat) : ∃ P : Nat → Pc, (∀ k, k < 4 → (P k).ok) ∧ (∀ x ∈ thrI, patL sg n x = (three (P x.2.2) (P x.1) (P x.2.1)).flatMap tkText) ∧
    ∀ os : List (List Nat), (txs os).Perm (txs (ordN sg)) → sortedS (txs os) = true → os.length = 24 ∧ (csF sg).length ≤ 24 ∧ 0 < (csF sg).length ∧
      (∀ o ∈ os, o.length = 4) ∧
      uldF os.reverse (csF sg) = ((os.filter fun o => (pssF P).any fun its => takes its o).reverse, []) ∧
      ∀ ds : List (List Nat), (txs ds).Perm (txs (csF sg ++ csF sg)) → sortedS (txs ds) = true →
        (∀ k, os.length ≤ k → sldF k os ds = (os.filter fun o => (pssF P).any fun its => takes its o, [])) ∧ ∀ k, os.length ≤ k → sldF k ds os = ([], os.filter fun o => (pssF P).any fun its => takes its o) := by
  have hf := sg_inj hn hl
  have hp : ∀ k, ∃ p : Pc, k < 4 → p.ok ∧ dressP sg (sg.getD k 0) (kindF n k) = p.text ∧ TakesAt (fun i => sg.getD i 0) p.item k := fun k => by
    by_cases hk : k < 4
    · obtain ⟨p, h⟩ := piece hn hl k (kindF n k) hk
      exact ⟨p, fun _ => h⟩
    · exact ⟨.bare 0, fun h => absurd h hk⟩
  obtain ⟨P, hP⟩ := Classical.axiomOfChoice hp
  have hd : ∀ k, k < 4 → (dressL sg n).getD k [] = (P k).text := fun k hk => by
    rw [← (hP k hk).2.1]
    simp [dressL, List.getD, hk]
  refine ⟨P, fun k hk => (hP k hk).1, fun x hx => ?_, fun os hos hss => ?_⟩
  · have hx3 : x.1 < 4 ∧ x.2.1 < 4 ∧ x.2.2 < 4 := (by decide : ∀ x ∈ thrI, x.1 < 4 ∧ x.2.1 < 4 ∧ x.2.2 < 4) x hx
    rw [patL, hd _ hx3.1, hd _ hx3.2.1, hd _ hx3.2.2]
    simp [three, tkText]
  · replace hos := txs_perm hos
    generalize hg : (fun i => sg.getD i 0) = f at hP
    have hf' : ∀ i j, i < 4 → j < 4 → f i = f j → i = j := by rw [← hg]; exact hf
    have hsg : sg = [0, 1, 2, 3].map f := by
      rw [← hg]
      obtain ⟨a, b, c, d, rfl⟩ := four hl
      rfl
    have ho : ordN sg = ordI.map (List.map f) := by rw [hsg]; exact ordN_map f _
    have hc : csF sg = cameL.map (List.map f) := by
      unfold csF cameL
      rw [hg, List.map_map]; rfl
    have hcl : ∀ p ∈ cameL, ∀ c ∈ p, c < 4 := fun p hp => ordI_lt p (cameL_sub p hp)
    have hinj : ∀ p ∈ ordI, ∀ q ∈ ordI, p.map f = q.map f → p = q := fun p hp q hq e => map_injL hf' p q (ordI_lt p hp) (ordI_lt q hq) e
    have hcn : (csF sg).Nodup := by
      rw [hc]; exact nodup_mapOn (fun p hp q hq => hinj p (cameL_sub p hp) q (cameL_sub q hq)) cameL_nodup
    have hon : os.Nodup := by
      refine hos.nodup_iff.mpr ?_
      rw [ho]; exact nodup_mapOn hinj ordI_nodup
    have hsub : ∀ c ∈ csF sg, c ∈ os := fun c hm => by
      rw [hc] at hm
      obtain ⟨p, hp, rfl⟩ := List.mem_map.mp hm
      refine hos.mem_iff.mpr ?_
      rw [ho]; exact List.mem_map_of_mem (cameL_sub p hp)
    have hpw : os.Pairwise (· < ·) := strict_of (sorted_pw os hss) hon
    have hany : ∀ o ∈ os, ((pssF P).any fun its => takes its o) = !(csF sg).contains o := fun o hm => by
      have hm2 := hos.mem_iff.mp hm
      rw [ho] at hm2
      obtain ⟨p, hp, rfl⟩ := List.mem_map.mp hm2
      have hlt := ordI_lt p hp
      have e1 : (csF sg).contains (p.map f) = cameL.contains p := by
        rw [Bool.eq_iff_iff, List.contains_iff_mem, List.contains_iff_mem, hc]
        constructor
        · intro h
          obtain ⟨q, hq, e⟩ := List.mem_map.mp h
          rw [← hinj q (cameL_sub q hq) p hp e]; exact hq
        · exact fun h => List.mem_map_of_mem h
      have tk : ∀ i j k, i < 4 → j < 4 → k < 4 → takes [(P k).item, (P i).item, (P j).item] (p.map f) = takesI [k, i, j] p := fun i j k hi hj hk =>
        takes_map (.cons (hP k hk).2.2 (.cons (hP i hi).2.2 (.cons (hP j hj).2.2 .nil))) p hlt
      have e2 : ((pssF P).any fun its => takes its (p.map f)) = threesI.any fun q => takesI q p := by
        show (([(0, 1, 2), (0, 1, 3), (0, 2, 3), (1, 2, 3)] : List (Nat × Nat × Nat)).map _).any _ = ([[2, 0, 1], [3, 0, 1], [3, 0, 2], [3, 1, 2]] : List (List Nat)).any _
        simp only [List.map_cons, List.map_nil, List.any_cons, List.any_nil]
        rw [tk 0 1 2 (by decide) (by decide) (by decide), tk 0 1 3 (by decide) (by decide) (by decide), tk 0 2 3 (by decide) (by decide) (by decide), tk 1 2 3 (by decide) (by decide) (by decide)]
      rw [e1, e2, knuth p hp, Bool.not_not]
    have hfl : (os.filter fun o => (pssF P).any fun its => takes its o) = os.filter fun o => !(csF sg).contains o := List.filter_congr hany
    have hlen : os.length = 24 := by rw [hos.length_eq, ho, List.length_map]; decide +kernel
    have hcl2 : (csF sg).length = cameL.length := by rw [hc, List.length_map]
    refine ⟨hlen, by rw [hcl2]; decide +kernel, by rw [hcl2]; decide +kernel, fun o hm => ?_, ?_, fun ds hds hdss => ?_⟩
    · have := ordN_len' (hos.mem_iff.mp hm)
      rw [this, hl]
    · rw [hfl]
      refine Prod.ext ?_ ?_
      · rw [uld_filter _ _ ((List.reverse_perm os).nodup_iff.mpr hon), List.filter_reverse]
      · exact uld_rest _ _ hcn fun a ha => List.mem_reverse.mpr (hsub a ha)
    · have hde := doubled_eq hpw hcn hsub (sorted_pw ds hdss) (txs_perm hds)
      rw [hfl, hde]
      exact ⟨fun k hk => sld_one (fun o => (csF sg).contains o) os k hpw hk, fun k hk => sld_two (fun o => (csF sg).contains o) os k hpw hk⟩
end Mine
end

section
open PySem PySem.W PyProof.Rows PySem.Calls PySem.Spec
set_option maxRecDepth 100000
set_option maxHeartbeats 8000000
namespace Mine
theorem fresh_LW : True := by w_top off; trivial
set_option hygiene false
set_option hygiene true

/-- the law's end, with generators left as they are -/
theorem postG {M : Model} {A : Around} {cd : Code} {s s₁ : Shared} {cw : ClaimW} {cl : Str → Option Addr} {mean : ExcName → Option Value} {args : List WData} {tabs : List (Addr × Addr)} (hT : TabsAt tabs s₁.heap) (hr : ∀ a x, cw.raises a x = false)
    (h : codeAny M A cd (fun r s' => (GoodW cw cl mean args { s₁ with heap := ghostOf s₁.heap tabs } r { s' with gens := #[] } ∧ AllBare s'.gens) ∧ GrownAll tabs s'.heap) s) : codeAny M A cd (GoodWG cw cl mean args s₁) s := by
  refine codeAny_mono h fun r s' q => ?_
  obtain ⟨⟨⟨hc, hk, hos, _⟩, hB⟩, hgr⟩ := q
  have tab : ∀ b, b ∈ tabs.map (·.2) → ∀ o, s₁.heap.get? b = some o → isCodeTable s₁.heap b ∧ o = tabObj #[] ∧ ∃ ps, s'.heap.get? b = some (tabObj ps) := fun b hb o e => by
    obtain ⟨q, hq, rfl⟩ := List.mem_map.mp hb
    obtain ⟨t1, t2⟩ := hT q hq
    rw [t2] at e
    exact ⟨(t1.tab t2).isCodeTable, (Option.some.inj e).symm, hgr.get q hq⟩
  refine ⟨?_, ⟨fun b o e => ?_, fun b o e => ?_⟩, hos, hB⟩
  · rcases hc with ⟨v, d, as, r1, r2, r3, r4, r5⟩ | ⟨_, _, x, _, _, _, r4, _⟩
    · refine .inl ⟨v, d, as, r1, r2, r3, r4, fun q => ⟨(r5 q).1, fun a ha => ?_⟩⟩
      cases q1 : s₁.heap.get? a with
      | none => rfl
      | some o =>
        by_cases hb : a ∈ tabs.map (·.2)
        · obtain ⟨_, _, ps, hP⟩ := tab a hb o q1
          exact absurd ha (readsW_apart hP rfl r3)
        · have := (r5 q).2 a ha
          rw [show (ghostOf s₁.heap tabs).get? a = some o from ghost_ne q1 hb] at this
          cases this
    · rw [hr] at r4; cases r4
  · by_cases hb : b ∈ tabs.map (·.2)
    · obtain ⟨ht, rfl, ps, hP⟩ := tab b hb o e
      exact .inr (.inl ⟨ht, rfl, #[], ps, rfl, by rw [Array.empty_append]; exact hP⟩)
    · exact .inl (hk b o (ghost_ne e hb))
  · by_cases hb : b ∈ tabs.map (·.2)
    · obtain ⟨_, _, ps, hP⟩ := tab b hb o e
      exact ⟨_, hP⟩
    · exact ⟨o, hk b o (ghost_ne e hb)⟩

theorem caller_Ar {M : Model} {α : Type} {t : Sem α} {Q : α → Shared → Prop} {E : Value → Shared → Prop} {s : Shared} (e : Env) (h : ∀ dp un, dp + 200 < recursionLimit → un + 500 < cLine → wpAny M (Ar dp un (some [e]) (some [])) t Q E s) : wpAny M (callerA.deeper e) t Q E s := h _ _ (by decide) (by decide)
theorem sum_any {prog : Program} {w : World} {A : Around} {E : Value → Shared → Prop} {s : Shared} {l : Addr} {items : Array Value} {Q : Value → Shared → Prop} (hh : A.handled = none) (hl : s.heap.IsList l items) (hall : AllInts items)
    (h : ∀ h' tk t' z, Ext s.heap h' → Q (.int z t') { s with heap := h', toks := tk }) : wpAny (model prog w) A (call (.builtin "sum") [.ref l]) Q E s := by
  obtain ⟨xs, rfl⟩ := hall.items
  exact sum_intListG hh hl fun h' tk t' hk => h h' tk t' _ hk

theorem len_inv {α : Type} {n : Nat} : ∀ {l : List α}, l.length = n + 1 → ∃ a r, l = a :: r ∧ r.length = n
  | a :: r, h => ⟨a, r, rfl, Nat.succ.inj h⟩
theorem six {l : List Int} (h : l.length = 6) : ∃ a b c d e f, l = [a, b, c, d, e, f] := by
  obtain ⟨a, l1, rfl, h1⟩ := len_inv h
  obtain ⟨b, l2, rfl, h2⟩ := len_inv h1
  obtain ⟨c, l3, rfl, h3⟩ := len_inv h2
  obtain ⟨d, l4, rfl, h4⟩ := len_inv h3
  obtain ⟨e, l5, rfl, h5⟩ := len_inv h4
  obtain ⟨f, l6, rfl, h6⟩ := len_inv h5
  cases List.eq_nil_of_length_eq_zero h6
  exact ⟨a, b, c, d, e, f, rfl⟩
theorem ints_inv {vs : List Value} {a : Int} {l : List Int} (h : IntsAre vs (a :: l)) : ∃ t r, vs = .int a t :: r ∧ IntsAre r l := by
  cases h with
  | cons _ t h => exact ⟨_, _, rfl, h⟩
theorem ints6 {vs : List Value} {a b c d e f : Int} (h : IntsAre vs [a, b, c, d, e, f]) : ∃ t0 t1 t2 t3 t4 t5, vs = [.int a t0, .int b t1, .int c t2, .int d t3, .int e t4, .int f t5] := by
  obtain ⟨t0, r0, rfl, h0⟩ := ints_inv h
  obtain ⟨t1, r1, rfl, h1⟩ := ints_inv h0
  obtain ⟨t2, r2, rfl, h2⟩ := ints_inv h1
  obtain ⟨t3, r3, rfl, h3⟩ := ints_inv h2
  obtain ⟨t4, r4, rfl, h4⟩ := ints_inv h3
  obtain ⟨t5, r5, rfl, h5⟩ := ints_inv h4
  cases h5
  exact ⟨_, _, _, _, _, _, rfl⟩
/-- the code that the table names, kept in the ledger -/
theorem tab_cs2 {G0 h : Heap} {L : Addr} {m : Str → Option Value} {ps : Array Value} (F : Fr G0 L h m) (x : TabOk h ps) : ∃ cs, News G0 L h cs ∧ (∀ q ∈ cs, q.1 ≠ 57 ∧ ∃ vs t, q.2.data = .fields vs ∧ vs[1]? = some (.str lamQ t)) ∧ ∀ h', Ext G0 h' → News G0 L h' cs → TabOk h' ps := by
  cases q : codeAmong lamPos ps.toList with
  | none => exact ⟨[], News.nil, (fun _ h => nomatch h), fun h' _ _ => ⟨x.1, fun cv e => by rw [q] at e; cases e⟩⟩
  | some cv =>
    obtain ⟨c', oc, vs, t, e1, e2, e3, e4, e5⟩ := x.2 cv q
    cases q2 : G0.get? c' with
    | some o' =>
      have := F.keep _ _ q2
      rw [e3] at this
      cases this
      refine ⟨[], News.nil, (fun _ h => nomatch h), fun h' k _ => ⟨x.1, fun cv' e => ?_⟩⟩
      rw [q] at e; cases e
      exact ⟨c', oc, vs, t, e1, e2, k _ _ q2, e4, e5⟩
    | none =>
      refine ⟨[(c', oc)], fun p hp => ?_, fun p hp => ?_, fun h' k N => ⟨x.1, fun cv' e => ?_⟩⟩
      · rw [List.mem_singleton.mp hp]
        refine ⟨e3, fun z => ?_, q2⟩
        obtain ⟨o, es, ep, eo, hd, _⟩ := F.ns
        replace z : c' = L := z
        rw [← z, e3] at eo
        cases eo
        rw [e4] at hd; cases hd
      · rw [List.mem_singleton.mp hp]; exact ⟨e2, vs, t, e4, e5⟩
      · rw [q] at e; cases e
        exact ⟨c', oc, vs, t, e1, e2, (N _ (List.mem_cons_self ..)).1, e4, e5⟩

theorem fr_57 {G0 h h' : Heap} {L : Addr} {m : Str → Option Value} (F : Fr G0 L h m) (k : Ext57 h h') (h0 : G0.get? 57 = none) (hL : L ≠ 57) : Fr G0 L h' m :=
  ⟨F.ns.at' fun o e => k _ _ hL e, fun b o e => k b o (fun q => by rw [q, h0] at e; cases e) (F.keep b o e), F.above⟩
/-- code, by its look -/
noncomputable def CodeLike (o : Obj) : Prop := ∃ vs t, o.data = .fields vs ∧ vs[1]? = some (.str lamQ t)
/-- the ledger after one pattern more -/
theorem pat_led {G0 h h1 h2 : Heap} {L R : Addr} {m : Str → Option Value} {news own : List (Addr × Obj)} {ps ps' : Array Value} {vs : List Value} {n : Nat} {its : List (Bool × List Nat)} (F : Fr G0 L h m) (N : News G0 L h ((57, tabObj ps) :: news)) (hn : ∀ q ∈ news, q.1 ≠ 57)
    (k : Ext57 h h1) (hP : h1.get? 57 = some (tabObj ps')) (hps : TabOk h1 ps') (k2 : Ext h1 h2) (hw : New h1 h2 ((R, listOf vs.toArray n) :: own)) (hv : VItems own vs its) :
    ∃ ex, Fr G0 L h2 m ∧ News G0 L h2 ((57, tabObj ps') :: (ex ++ news)) ∧ (∀ q ∈ ex, q.1 ≠ 57 ∧ (h.get? q.1 = none ∨ CodeLike q.2)) ∧ (∀ h', Ext G0 h' → News G0 L h' ex → TabOk h' ps') ∧ ∀ h', News G0 L h' ex → Items h' R its := by
  have h57 := N _ (.head _)
  have F1 := fr_57 F k h57.2.2 (Ne.symm h57.2.1)
  have F2 := F1.keeps k2
  obtain ⟨cs, Nc, hc, hcl⟩ := tab_cs2 F1 hps
  refine ⟨((R, listOf vs.toArray n) :: own) ++ cs, F2, fun q hq => ?_, fun q hq => ?_, fun h' e N' => hcl h' e fun p hp => N' p (List.mem_append_right _ hp), fun h' N' => ?_⟩
  · rcases List.mem_cons.mp hq with rfl | hq
    · exact ⟨k2 _ _ hP, h57.2⟩
    · rcases List.mem_append.mp hq with hq | hq
      · rcases List.mem_append.mp hq with hq | hq
        · exact hw.news F1 q hq
        · exact ⟨k2 _ _ (Nc q hq).1, (Nc q hq).2⟩
      · have z := N q (.tail _ hq)
        exact ⟨k2 _ _ (k _ _ (hn q hq) z.1), z.2⟩
  · rcases List.mem_append.mp hq with hq | hq
    · have z := (hw q hq).2
      refine ⟨(fun e => by rw [e, hP] at z; cases z), ?_⟩
      cases e : h.get? q.1 with
      | none => exact .inl rfl
      | some o =>
        by_cases h7 : q.1 = 57
        · rw [h7, hP] at z; cases z
        · rw [k _ _ h7 e] at z; cases z
    · obtain ⟨c1, c2⟩ := hc q hq
      exact ⟨c1, .inr c2⟩
  · obtain ⟨v1, v2⟩ := hv
    refine ⟨vs, ⟨_, (N' _ (.head _)).1, rfl, _, rfl⟩, v1, fun j it hj => ?_⟩
    obtain ⟨a, t, n', e1, e2⟩ := v2 j it hj
    exact ⟨a, t, e1, ⟨_, (N' _ (.tail _ (List.mem_append_left _ e2))).1, rfl, _, rfl⟩⟩
theorem codeLike_it {o : Obj} (h : CodeLike o) (k : ItObj o) : False := by
  obtain ⟨vs, t, h1, h2⟩ := h
  obtain ⟨z, u, e⟩ := k vs h1
  rw [h2] at e; cases e
theorem codeLike_data {o : Obj} (h : CodeLike o) : ∃ vs, o.data = .fields vs := let ⟨vs, _, e, _⟩ := h; ⟨vs, e⟩
theorem made_len {p1 p2 p3 : Pc} (h1 : p1.ok) (h2 : p2.ok) (h3 : p3.ok) : (madeF p1 p2 p3).length ≤ 200 := by
  have a := out_len p1 h1
  have b := out_len p2 h2
  have c := out_len p3 h3
  simp only [madeF, wrapF, List.length_append, List.length_cons, List.length_nil]; omega
/-- the patterns that are read, turn by turn -/
noncomputable def PatJ (G0 : Heap) (L Cp : Addr) (pss : List (List (Bool × List Nat))) (base : List (Addr × Obj)) (i : Nat) (zs : List Value) (nw : List (Addr × Obj)) : Prop :=
  ∃ ps ex, nw = (57, tabObj ps) :: (ex ++ base) ∧ (∀ q ∈ ex, q.1 ≠ 57 ∧ q.1 ≠ Cp) ∧ (∀ h', Ext G0 h' → News G0 L h' ex → TabOk h' ps) ∧ zs.length = i ∧ ∀ h', News G0 L h' ex → ∀ (j : Nat) its, j < i → pss[j]? = some its → ∃ a, zs[j]? = some (.ref a) ∧ Items h' a its

theorem none_in {prog : Program} {w : World} {A : Around} {E : Value → Shared → Prop} {s : Shared} {l : Addr} {vs : List Value} {Q : Value → Shared → Prop} (hl : s.heap.IsList l vs.toArray) (hu : A.units + 10 < cLine) (he : ∀ y ∈ vs, (∃ x t, y = .str x t) ∨ ∃ a its, y = .ref a ∧ s.heap.IsList a its) (h : Q (.bool false) s) :
    wpAny (model prog w) A (compareOp .In .none (.ref l)) Q E s := by
  refine PySem.SeqAt.in_listAt (fun _ => false) hl (fun y hy => ?_) ?_
  · rcases he y (by simpa using hy) with ⟨x, t, rfl⟩ | ⟨a, its, rfl, hi⟩
    · exact PySem.SeqAt.EqAt.str_none x t
    · exact PySem.SeqAt.EqAt.list_none hi (by show A.units + _ < cLine; omega)
  · have : vs.toArray.any (fun _ => false) = false := by simp
    rw [this]; exact h
theorem item_len (p : Pc) : p.item.2.length ≤ 200 := by cases p <;> (show _ ≤ 200; simp [Pc.item])
theorem pss_len (P : Nat → Pc) : ∀ its ∈ pssF P, ∀ it ∈ its, it.2.length ≤ 200 := fun its h it hi => by
  obtain ⟨x, _, rfl⟩ := List.mem_map.mp h
  simp only [List.mem_cons, List.not_mem_nil, or_false] at hi
  rcases hi with rfl | rfl | rfl <;> exact item_len _
theorem strs_of {vs : List Value} {ss : List Str} (h : StrsAre vs ss) : ∀ y ∈ vs, ∃ x t, y = .str x t := by
  induction h with
  | nil => intro y hy; cases hy
  | cons x t _ ih =>
    intro y hy
    rcases List.mem_cons.mp hy with rfl | hy
    · exact ⟨x, t, rfl⟩
    · exact ih y hy

/-- what the law's body must come to -/
noncomputable def LawEnd (G0 : Heap) (s₁ : Shared) (f : Flow) (s' : Shared) : Prop := f = .ret (.bool true) ∧ Ext G0 s'.heap ∧ s'.os = s₁.os ∧ AllBare s'.gens ∧ GrownAt 57 s'.heap
theorem intsAre_snoc {vs : List Value} {ns : List Int} (h : IntsAre vs ns) (z : Int) (t : Tok) : IntsAre (vs ++ [.int z t]) (ns ++ [z]) := by
  induction h with
  | nil => exact .cons _ _ .nil
  | cons _ _ _ ih => exact .cons _ _ ih
theorem pick_ints {vs : List Value} {ns : List Int} (h : IntsAre vs ns) (lo hi st : Option Int) : AllInts (slicePick vs.toArray lo hi st) := fun v hv => by
  unfold slicePick at hv
  rw [List.mem_toArray] at hv
  obtain ⟨i, _, hi⟩ := List.mem_filterMap.mp hv
  exact h.allInts v (Array.mem_of_getElem? hi)

theorem law_holds : PySem.Challenge.rw_kt0032_01.Holds := hd (by
  k_fill
  intro w s₀ s₁ mg mb G Y fa o pm cd doc dV kV ho hd hcd hD hmg hg args vals as hpre hlay hrd hwl hlo
  have KX := km_in_of Y
  km_tabs Y
  have X := (Ground.X G).1
  have V := (Ground.X G).2
  refine Ground.open G ?_
  intro T B D TE TW
  try (refine guard_noD D (by decide +kernel) ?_; clear D)
  km_lay T hmg ho hd cd
  clear hmg
  wrow_args hpre hlay hrd hwl hlo
  refine enter_call ?_
  w_top on
  refine postG hT9 (fun _ _ => rfl) ?_
  w_call any ho hd hcd hD T F
  clear hd
  kn_ghosts F T
  k_drop
  try k_fold
  rename_i ns hs hlay0 hL1 hr1 hl2 rs6 rs5 la vs as2 hL ra w1 r0 hI hr hcond hcond2 h₁ tk₁ oP oS dP dS X0 X' T' K' F N l0
  clear hcd hD X0 ho Y B TE TW X V T hs hlay0 hL1 hr1 hl2 ra w1 r0 hr hL hcond2 K'
  dsimp only at F N dP dS ⊢
  have hlen : ns.length ≤ 63 := by omega
  have hB : AllBare s₁.gens := .of_eq hg
  replace dP : oP.data = .cell none := by rw [dP]; with_unfolding_all rfl
  replace dS : oS.data = .cell (some (.ref la)) := by rw [dS]; with_unfolding_all rfl
  generalize bindL _ _ _ = m0 at F
  clear hcond hT8 hT9
  generalize hG0 : ghostOf s₁.heap [(61, 57)] = G0 at *
  generalize hL : s₁.heap.objs.size = L at *
  revert G hg hI hlen hB dP dS hG0 X' T' lifted codeHd hL l0 N F
  revert w s₀ s₁ mg mb fa o pm cd doc ns rs6 rs5 la vs as2 h₁ tk₁ oP oS m0 G0 L
  intros w s₀ s₁ mg mb fa o pm cd doc ns rs6 rs5 la vs as2 h₁ tk₁ oP oS m0 G0 L G hg hI hlen hB dP dS hG0 X' T' lifted codeHd hL l0 N F
  replace codeHd : Hid _ := codeHd
  refine caller_Ar _ ?_
  intros dp un hdp hun
  refine wpAny_mono (?_ : wpAny _ _ _ (LawEnd G0 s₁) (fun _ _ => False) _) (fun f s' h => ?_) fun _ _ h => h.elim
  · clear G hG0
    w_is_and go_8_23_1_0_24_13
    refine comp_A F (by with_unfolding_all rfl) (by with_unfolding_all rfl) (by decide) rfl (by decide) rfl rfl ?_
    w_is_and go_8_23_1_0_24_13
    rename IsRange _ _ _ _ _ _ _ _ => hr
    rename Fr _ _ _ _ => F1
    rename News _ _ _ _ => N1
    rename IntsAre _ _ => hI
    refine CSrc.range (n := 6) (fun i ys nw => And2 (nw = [(L + 1 + 1, oP), (L + 1, oS), (57, tabObj #[])]) (Ex1 fun zs => And2 (IntsAre ys zs) (zs.length = i))) rfl F1 N1 hr (by decide) (by decide) (by decide +kernel) ⟨rfl, [], .nil, rfl⟩ ?_ ?_
    · intro gg
      refine CTurn.n0 rfl rfl ?_
      rintro i v I oI Cx oC D mC h5 tk5 g5 ys nw5 E' ⟨hi, tv5, rfl⟩ ⟨rfl, zs, hys, hzl⟩ hns hmv F5 N5 off ne5
      clear F1 N1
      w_is_and go_8_23_1_0_24_13
      rename Fr _ _ _ _ => F6
      rename News _ _ _ _ => N6
      refine sum_any rfl (N6.isList (n := 0) (.head _)) (pick_ints hI _ _ _) fun h7 tk7 t7 z hk => ?_
      refine CEnd.intro (nx := [(L + 1 + 1, oP), (L + 1, oS), (57, tabObj #[])]) (F6.keeps hk) (News.ext N6 hk) (.tail _ (.head _)) (.tail _ (.tail _ (.head _))) (.tail _ (.tail _ (.tail _ (.head _)))) hns (fun p hp => .tail _ (.tail _ (.tail _ (.tail _ hp)))) off ⟨rfl, zs ++ [z], intsAre_snoc hys z t7, by simp [hzl]⟩
    · rintro gg ys nw5 ⟨rfl, ms, hys, hzl⟩ D h6 tk6 g6 F6 N6 o6
      clear F1 N1
      obtain ⟨z0, z1, z2, z3, z4, z5, rfl⟩ := six hzl
      obtain ⟨t0, t1, t2, t3, t4, t5, rfl⟩ := ints6 hys
      w_is_and go_8_23_1_0_24_13
      refine signs_call (X'.keeps F6.keep) (T'.keeps F6.keep) (by omega) (by omega) ⟨_, (N6 _ (.head _)).1, rfl, _, rfl⟩ hys rfl fun h7 t7 g7 S us n7 hk7 hn7 hus => ?_
      have hspec := sgN_spec [z0, z1, z2, z3, z4, z5]
      change StrsAre us (ones (sgN [z0, z1, z2, z3, z4, z5])) at hus
      generalize sgN [z0, z1, z2, z3, z4, z5] = sg at hus hspec
      obtain ⟨hnd, hl4⟩ := hspec
      obtain ⟨P, hPok, hPt, hPl⟩ := plain_law hnd hl4 ((z5.fmod 81).toNat)
      have N7 := News.app (hn7.news F6) (News.ext N6 hk7)
      have F7 := F6.keeps hk7
      clear F6 N6 hk7 hn7
      dsimp only [List.cons_append, List.nil_append] at N7
      dsimp only
      w_is_and go_8_23_1_0_24_13
      walk1
      w_is_and go_8_23_1_0_24_13
      rename Fr _ _ _ _ => F8
      rename News _ _ _ _ => N8
      refine comp_E F8 (by with_unfolding_all rfl) (by decide) rfl (by decide) ?_
      w_is_and go_8_23_1_0_24_13
      refine patterns_call (X'.keeps F8.keep) (T'.keeps F8.keep) (by omega) (by omega) (N8.isList (.head _)) hus hl4 rfl fun h9 t9 g9 D2 ys2 n2 hk9 hn9 hys2 => ?_
      have N9 := News.app (hn9.news F8) (News.ext N8 hk9)
      have F9 := F8.keeps hk9
      clear F8 N8 hk9 hn9
      dsimp only [List.cons_append, List.nil_append] at N9
      dsimp only
      w_is_and go_8_23_1_0_24_13
      replace hys2 : StrsAre ys2 (txs (thrI.map (patL sg (z5.fmod 81).toNat))) := hys2
      have hl2 : ys2.length = 4 := by rw [strsAre_length hys2]; rfl
      have e57 : L + 1 + 1 ≠ 57 := fun e => absurd (ltN l0) (by have : L + 1 + 1 = 57 := e; omega)
      have f57 : L + 1 ≠ 57 := fun e => absurd (ltN l0) (by have : L + 1 = 57 := e; omega)
      obtain ⟨base, hbase, mD2, N9', hb57⟩ : ∃ base : List (Addr × Obj), base = [(D2, listOf ys2.toArray n2), (S, listOf us.toArray n7), (D, LCg.lst [Value.int z0 t0, Value.int z1 t1, Value.int z2 t2, Value.int z3 t3, Value.int z4 t4, Value.int z5 t5]), (L + 1, oS)] ∧ (D2, listOf ys2.toArray n2) ∈ base ∧ News G0 L h9 ((57, tabObj #[]) :: ((L + 1 + 1, oP) :: base)) ∧ ∀ q ∈ (L + 1 + 1, oP) :: base, q.1 ≠ 57 :=
        ⟨_, rfl, .head _, news_at N9 [5, 3, 0, 1, 2, 4] 6, fc (P := fun q : Addr × Obj => q.1 ≠ 57) e57 (fc (news_neC N9 (.head _) (.tail _ (.tail _ (.tail _ (.tail _ (.tail _ (.head _)))))) (fun e => nomatch e)) (fc (news_neC N9 (.tail _ (.head _)) (.tail _ (.tail _ (.tail _ (.tail _ (.tail _ (.head _)))))) (fun e => nomatch e)) (fc (news_neC N9 (.tail _ (.tail _ (.head _))) (.tail _ (.tail _ (.tail _ (.tail _ (.tail _ (.head _)))))) (fun e => nomatch e)) (fc f57 fcn))))⟩
      clear N9
      refine CSrc.list (vs := ys2) (PatJ G0 L (L + 1 + 1) (pssF P) ((L + 1 + 1, oP) :: base)) rfl F9 N9' ⟨_, (N9' _ (.tail _ (.tail _ mD2))).1, rfl, _, rfl⟩ (by rw [hl2, sizeLine_eq]; omega) (fun i ys nw h' hJ F' N' => by
        obtain ⟨ps, ex, rfl, _⟩ := hJ
        exact ⟨_, (N' _ (.tail _ (List.mem_append_right _ (.tail _ mD2)))).1, rfl, _, rfl⟩) ⟨#[], [], rfl, (fun _ h => nomatch h), (fun h' _ _ => ⟨trivial, fun cv e => by cases e⟩), rfl, fun h' _ j its hj => absurd hj (Nat.not_lt_zero _)⟩ ?_ ?_
      · intro gg2
        refine CTurn.n0K rfl rfl ?_
        rintro i v I oI Cx oC Dx mC h10 tk10 g10 zs nw5 E' hiI hvi ⟨ps, ex, rfl, hex, htab, hzl2, hits⟩ hns hmv F10 N10 off ne10
        clear F9 N9'
        have hi : i < 4 := by have := (List.getElem?_eq_some_iff.mp hvi).1; omega
        obtain ⟨x, hx⟩ : ∃ x, thrI[i]? = some x := ⟨thrI[i]'hi, List.getElem?_eq_getElem hi⟩
        have hxm : x ∈ thrI := List.mem_of_getElem? hx
        obtain ⟨tv, rfl⟩ := strsAre_get hys2 hvi (show (txs (thrI.map (patL sg (z5.fmod 81).toNat)))[i]? = some ⟨(patL sg (z5.fmod 81).toNat x).toArray⟩ by simp [hx])
        rw [hPt x hxm] at hmv
        have hx3 : x.1 < 4 ∧ x.2.1 < 4 ∧ x.2.2 < 4 := (by decide : ∀ x ∈ thrI, x.1 < 4 ∧ x.2.1 < 4 ∧ x.2.2 < 4) x hxm
        have h57 := N10 (57, tabObj ps) (.tail _ (.tail _ (.tail _ (.head _))))
        w_is_and go_8_23_1_0_24_13
        refine tl_call (G := G0) X' T' F10.keep h57.2.2 codeHd h57.1 (htab _ F10.keep fun p hp => N10 p (.tail _ (.tail _ (.tail _ (.tail _ (List.mem_append_left _ hp)))))) (by omega) (by omega) (hPok _ hx3.2.2) (hPok _ hx3.1) (hPok _ hx3.2.1) fun h11 t11 g11 tk11 ps' hk11 hP11 hps11 => ?_
        have F11 := fr_57 F10 hk11 h57.2.2 (Ne.symm h57.2.1)
        dsimp only
        w_is_and go_8_23_1_0_24_13
        refine read_call (X'.keeps F11.keep) (T'.keeps F11.keep) (by omega) (by omega) (by rw [List.size_toArray]; exact made_len (hPok _ hx3.2.2) (hPok _ hx3.1) (hPok _ hx3.2.1)) rfl (reads_three _ _ _ (hPok _ hx3.2.2) (hPok _ hx3.1) (hPok _ hx3.2.1)) fun h12 t12 g12 R vs12 n12 own12 hk12 hn12 hv12 => ?_
        have offm := off.mem
        have n57 := offm (57, tabObj ps) (.head _)
        obtain ⟨ex2, F12, N12, hex2, htab2, hits2⟩ := pat_led (ps := ps) (news := (I, oI) :: (Cx, oC) :: (Dx, LCg.lst zs) :: (ex ++ ((L + 1 + 1, oP) :: base))) F10 (news_at N10 [3, 0, 1, 2] 4) (fun q hq => by
          rcases List.mem_cons.mp hq with rfl | hq
          · exact Ne.symm n57.1
          · rcases List.mem_cons.mp hq with rfl | hq
            · exact Ne.symm n57.2.1
            · rcases List.mem_cons.mp hq with rfl | hq
              · exact Ne.symm n57.2.2
              · rcases List.mem_append.mp hq with hq | hq
                · exact (hex q hq).1
                · exact hb57 q hq) hk11 hP11 hps11 hk12 hn12 hv12
        have mI : (I, oI) ∈ (57, tabObj ps') :: (ex2 ++ ((I, oI) :: (Cx, oC) :: (Dx, LCg.lst zs) :: (ex ++ ((L + 1 + 1, oP) :: base)))) := .tail _ (List.mem_append_right _ (.head _))
        have mC : (Cx, oC) ∈ (57, tabObj ps') :: (ex2 ++ ((I, oI) :: (Cx, oC) :: (Dx, LCg.lst zs) :: (ex ++ ((L + 1 + 1, oP) :: base)))) := .tail _ (List.mem_append_right _ (.tail _ (.head _)))
        have mD : (Dx, LCg.lst zs) ∈ (57, tabObj ps') :: (ex2 ++ ((I, oI) :: (Cx, oC) :: (Dx, LCg.lst zs) :: (ex ++ ((L + 1 + 1, oP) :: base)))) := .tail _ (List.mem_append_right _ (.tail _ (.tail _ (.head _))))
        have same : ∀ {a : Addr} {o : Obj} {q : Addr × Obj}, h12.get? a = some o → q ∈ ex2 → q.1 = a → q.2 = o := fun e hq z => by
          have := (N12 _ (.tail _ (List.mem_append_left _ hq))).1
          rw [z, e] at this
          exact (Option.some.inj this).symm
        have apart : ∀ {a : Addr} {o o' : Obj} {q : Addr × Obj}, h10.get? a = some o' → h12.get? a = some o → (CodeLike o → False) → q ∈ ex2 → q.1 ≠ a := fun e1 e2 k hq z => by
          rcases (hex2 _ hq).2 with c | c
          · rw [z, e1] at c; cases c
          · exact k (same e2 hq z ▸ c)
        refine CEnd.intro (nx := (57, tabObj ps') :: ((ex2 ++ ex) ++ ((L + 1 + 1, oP) :: base))) F12 N12 mI mC mD hns (fun p hp => ?_) (LCg.Off3.of fun p hp => ?_) ⟨ps', ex2 ++ ex, rfl, fun q hq => ?_, fun h' e N' => htab2 h' e fun p hp => N' p (List.mem_append_left _ hp), by rw [List.length_append, hzl2]; rfl, fun h' N' j its hj hj2 => ?_⟩
        · rcases List.mem_cons.mp hp with rfl | hp
          · exact .head _
          · refine .tail _ (List.mem_append.mpr ?_)
            rcases List.mem_append.mp hp with hp | hp
            · rcases List.mem_append.mp hp with hp | hp
              · exact .inl hp
              · exact .inr (.tail _ (.tail _ (.tail _ (List.mem_append_left _ hp))))
            · exact .inr (.tail _ (.tail _ (.tail _ (List.mem_append_right _ hp))))
        · rcases List.mem_cons.mp hp with rfl | hp
          · exact n57
          · rcases List.mem_append.mp hp with hp | hp
            · rcases List.mem_append.mp hp with hp | hp
              · refine ⟨apart (N10 (I, oI) (.head _)).1 (N12 _ mI).1 (fun c => codeLike_it c hiI) hp, apart (N10 (Cx, oC) (.tail _ (.head _))).1 (N12 _ mC).1 (fun c => ?_) hp, apart (N10 (Dx, LCg.lst zs) (.tail _ (.tail _ (.head _)))).1 (N12 _ mD).1 (fun c => ?_) hp⟩
                · obtain ⟨vs', e⟩ := codeLike_data c
                  obtain ⟨es, ep, hd, _⟩ := hns
                  rw [e] at hd; cases hd
                · obtain ⟨vs', e⟩ := codeLike_data c
                  cases e
              · exact offm p (.tail _ (List.mem_append_left _ hp))
            · exact offm p (.tail _ (List.mem_append_right _ hp))
        · rcases List.mem_append.mp hq with hq | hq
          · have mP : (L + 1 + 1, oP) ∈ (57, tabObj ps') :: (ex2 ++ ((I, oI) :: (Cx, oC) :: (Dx, LCg.lst zs) :: (ex ++ ((L + 1 + 1, oP) :: base)))) := .tail _ (List.mem_append_right _ (.tail _ (.tail _ (.tail _ (List.mem_append_right _ (.head _))))))
            refine ⟨(hex2 q hq).1, apart (N10 (L + 1 + 1, oP) (.tail _ (.tail _ (.tail _ (.tail _ (List.mem_append_right _ (.head _))))))).1 (N12 _ mP).1 (fun c => ?_) hq⟩
            obtain ⟨vs', e⟩ := codeLike_data c
            rw [dP] at e; cases e
          · exact hex q hq
        · rcases Nat.lt_or_ge j i with hlt | hge
          · obtain ⟨a, e1, e2⟩ := hits h' (fun p hp => N' p (List.mem_append_right _ hp)) j its hlt hj2
            exact ⟨a, by rw [List.getElem?_append_left (by omega)]; exact e1, e2⟩
          · obtain rfl : j = i := by omega
            refine ⟨R, by rw [List.getElem?_append_right (by omega), hzl2, Nat.sub_self]; rfl, ?_⟩
            have : its = [(P x.2.2).item, (P x.1).item, (P x.2.1).item] := by
              rw [pssF, List.getElem?_map, hx] at hj2
              exact (Option.some.inj hj2).symm
            rw [this]
            exact hits2 h' fun p hp => N' p (List.mem_append_left _ hp)
      · rintro gg2 zs nw5 ⟨ps, ex, rfl, hex, htab, hzl2, hits⟩ D3 h13 tk13 g13 F13 N13 o13
        clear F9 N9'
        have N13' := N13
        rw [hbase] at N13'
        have N14 : News G0 L h13 ((L + 1 + 1, oP) :: (D3, LCg.lst zs) :: (57, tabObj ps) :: (S, listOf us.toArray n7) :: (D, LCg.lst [Value.int z0 t0, Value.int z1 t1, Value.int z2 t2, Value.int z3 t3, Value.int z4 t4, Value.int z5 t5]) :: (L + 1, oS) :: ex) := news_at (news_swap (a := [(D3, LCg.lst zs), (57, tabObj ps)]) (b := ex) N13') [2, 0, 1, 4, 5, 6] 7
        have hCp : ∀ q ∈ (D3, LCg.lst zs) :: (57, tabObj ps) :: (S, listOf us.toArray n7) :: (D, LCg.lst [Value.int z0 t0, Value.int z1 t1, Value.int z2 t2, Value.int z3 t3, Value.int z4 t4, Value.int z5 t5]) :: (L + 1, oS) :: ex, q.1 ≠ L + 1 + 1 := by
          have m0 := List.Mem.head (a := (L + 1 + 1, oP)) ((D3, LCg.lst zs) :: (57, tabObj ps) :: (S, listOf us.toArray n7) :: (D, LCg.lst [Value.int z0 t0, Value.int z1 t1, Value.int z2 t2, Value.int z3 t3, Value.int z4 t4, Value.int z5 t5]) :: (L + 1, oS) :: ex)
          exact fc (P := fun q : Addr × Obj => q.1 ≠ L + 1 + 1) (news_neD N14 (.tail _ (.head _)) m0 (fun e => nomatch e.trans dP)) (fc (Ne.symm e57) (fc (news_neD N14 (.tail _ (.tail _ (.tail _ (.head _)))) m0 (fun e => nomatch e.trans dP)) (fc (news_neD N14 (.tail _ (.tail _ (.tail _ (.tail _ (.head _))))) m0 (fun e => nomatch e.trans dP)) (fc (neN (by omega)) fun q hq => (hex q hq).2))))
        refine storeX_C (c := L + 1 + 1) (o := oP) (v₀ := none) (g := fun o' => (L + 1 + 1, o') :: (D3, LCg.lst zs) :: (57, tabObj ps) :: (S, listOf us.toArray n7) :: (D, LCg.lst [Value.int z0 t0, Value.int z1 t1, Value.int z2 t2, Value.int z3 t3, Value.int z4 t4, Value.int z5 t5]) :: (L + 1, oS) :: ex) F13 N14 rfl (.head hCp) dP (fun h14 oP2 F14 N14 dP2 => ?_) rfl rfl
        clear F13 N13
        dsimp only
        w_is_and go_8_23_1_0_24_13
        refine orders_call (X'.keeps F14.keep) (T'.keeps F14.keep) (by omega) (by omega) (N14.isList (.tail _ (.tail _ (.tail _ (.head _))))) hus hl4 fun h15 t15 g15 O vO nO os0 hk15 hn15 hvO hpO hsO => ?_
        obtain ⟨os, rfl⟩ := txs_of os0
        obtain ⟨hol, hcl, hcl0, hol4, hul, hds⟩ := hPl os hpO hsO
        have N15 := News.app (hn15.news F14) (News.ext N14 hk15)
        have F15 := F14.keeps hk15
        clear F14 N14 hk15 hn15
        dsimp only [List.cons_append, List.nil_append] at N15
        dsimp only
        w_is_and go_8_23_1_0_24_13
        rename Fr _ _ _ _ => F16
        rename News _ _ _ _ => N16
        refine hidden_call (z := z4) (X'.keeps F16.keep) (T'.keeps F16.keep) (by omega) (by omega) rfl fun h17 t17 g17 H vH nH hk17 hn17 hvH => ?_
        have N17 := News.app (hn17.news F16) (News.ext N16 hk17)
        have F17 := F16.keeps hk17
        clear F16 N16 hk17 hn17
        dsimp only [List.cons_append, List.nil_append] at N17
        dsimp only
        w_is_and go_8_23_1_0_24_13
        obtain ⟨a0, a1, a2, a3, hsg4⟩ := four hl4
        refine reached_call (cameG := fun r => (cameI r).map fun i => sg.getD i 0) (X'.keeps F17.keep) (T'.keeps F17.keep) (by omega) (by omega) (N17.isList (.tail _ (.tail _ (.tail _ (.tail _ (.tail _ (.head _))))))) hus hl4 (N17.isList (.head _)) hvH (hidN_len _) (hidN_le _) (fun r hr ht => by rw [told_row _ r hr] at ht; rw [hsg4]; exact came_row a0 a1 a2 a3 r hr ht) (by rw [told_filter]; exact goodR_ne) (fun r hr ht => by rw [told_row _ r hr] at ht; rw [told_end _ r hr]; exact rows_ends r hr ht) fun h18 t18 g18 Cm vC nC hk18 hn18 hvC => ?_
        rw [told_filter] at hvC
        replace hvC : StrsAre vC (txs (csF sg)) := hvC
        have N18 := News.app (hn18.news F17) (News.ext N17 hk18)
        have F18 := F17.keeps hk18
        clear F17 N17 hk18 hn18
        dsimp only [List.cons_append, List.nil_append] at N18
        dsimp only
        w_is_and go_8_23_1_0_24_13
        rename Fr _ _ _ _ => F19
        rename News _ _ _ _ => N19
        have hpats : ∀ h', Ext G0 h' → News G0 L h' ex → h'.IsList D3 zs.toArray → Pats h' D3 (pssF P) := fun h' e N' hl' => ⟨zs, hl', by rw [hzl2, hl2]; rfl, fun j its hj => hits h' N' j its (by rw [hl2]; exact (List.getElem?_eq_some_iff.mp hj).1) hj⟩
        have nex : ∀ {h' : Heap} {l7 : List (Addr × Obj)}, News G0 L h' (l7 ++ ex) → News G0 L h' ex := fun N' p hp => N' p (List.mem_append_right _ hp)
        refine none_in (vs := zs) ⟨_, (N19 _ (.tail _ (.tail _ (.tail _ (.tail _ (.head _)))))).1, rfl, _, rfl⟩ (by show un + 10 < cLine; omega) (fun y hy => ?_) ?_
        · obtain ⟨j, hj⟩ := List.getElem?_of_mem hy
          have hj4 : j < 4 := by rw [← hl2, ← hzl2]; exact (List.getElem?_eq_some_iff.mp hj).1
          obtain ⟨a, e1, e2⟩ := hits _ (news_drop N19 9) j ((pssF P)[j]'hj4) (by rw [hl2]; exact hj4) (List.getElem?_eq_getElem hj4)
          rw [hj] at e1
          obtain ⟨vi, hvi, _⟩ := e2
          exact .inr ⟨a, _, Option.some.inj e1, hvi⟩
        w_is_and go_8_23_1_0_24_13
        refine none_in (N19.isList (.head _)) (by show un + 10 < cLine; omega) (fun y hy => .inl (strs_of hvC y hy)) ?_
        w_is_and go_8_23_1_0_24_13
        refine comp_A F19 (by with_unfolding_all rfl) (by with_unfolding_all rfl) (by decide) rfl (by decide) rfl rfl ?_
        w_is_and go_8_23_1_0_24_13
        have N20 : News G0 L _ ((L + 1 + 1, oP2) :: (D3, LCg.lst zs) :: (57, tabObj ps) :: (O, listOf vO.toArray nO) :: (Cm, listOf vC.toArray nC) :: ex) := news_at N19 [3, 4, 5, 2, 0] 9
        clear N19
        have hvOl : vO.length = 24 := by rw [strsAre_length hvO, List.length_map, hol]
        refine CSrc.list (vs := vO) (fun i ys nw => And2 (nw = (L + 1 + 1, oP2) :: (D3, LCg.lst zs) :: (57, tabObj ps) :: (O, listOf vO.toArray nO) :: (Cm, listOf vC.toArray nC) :: ex) (StrsAre ys (txs ((os.take i).filter fun o => (pssF P).any fun its => takes its o)))) rfl F19 N20 (N20.isList (.tail _ (.tail _ (.tail _ (.head _))))) (by rw [hvOl, sizeLine_eq]; omega) (fun i ys nw h' hJ F' N' => by rw [hJ.1] at N'; exact N'.isList (.tail _ (.tail _ (.tail _ (.head _))))) ⟨rfl, .nil⟩ ?_ ?_
        · intro gg3
          refine CTurn.n1 rfl rfl ?_
          rintro i v I oI Cx oC Dx mC h21 tk21 g21 ys nw5 E' hvi ⟨rfl, hys3⟩ hns hmv F21 N21 off ne21
          clear F19 N20
          have hi : i < os.length := by rw [hol, ← hvOl]; exact (List.getElem?_eq_some_iff.mp hvi).1
          obtain ⟨tv, rfl⟩ := strsAre_get hvO hvi (show (txs os)[i]? = some ⟨(os[i]).toArray⟩ by simp [hi])
          have hom : os[i] ∈ os := List.getElem_mem hi
          have ho4 := hol4 _ hom
          have e1 : os.take (i + 1) = os.take i ++ [os[i]] := by rw [List.take_add_one, List.getElem?_eq_getElem hi]; rfl
          rw [e1]
          generalize os[i] = od at hmv ho4
          w_is_and go_8_23_1_0_24_13
          refine some_takes_call (pss := pssF P) (X'.keeps F21.keep) (T'.keeps F21.keep) (by omega) (by omega) (by show od.toArray.size ≤ 200; rw [List.size_toArray, ho4]; decide) (hpats _ F21.keep (news_drop N21 8) ⟨_, (N21 _ (.tail _ (.tail _ (.tail _ (.tail _ (.head _)))))).1, rfl, _, rfl⟩) (pss_len P) fun h22 t22 g22 hk22 => ?_
          have F22 := F21.keeps hk22
          have N22 := News.ext N21 hk22
          clear F21 N21 hk22
          dsimp only at N22 F22 ⊢
          cases hq : (pssF P).any fun its => takes its od with
          | true =>
            w_is_and go_8_23_1_0_24_13
            refine CEnd.intro (nx := (L + 1 + 1, oP2) :: (D3, LCg.lst zs) :: (57, tabObj ps) :: (O, listOf vO.toArray nO) :: (Cm, listOf vC.toArray nC) :: ex) F22 N22 (.head _) (.tail _ (.head _)) (.tail _ (.tail _ (.head _))) hns (fun p hp => .tail _ (.tail _ (.tail _ hp))) off ⟨rfl, ?_⟩
            rw [List.filter_append, txs, List.map_append]
            refine strsAre_append hys3 ?_
            rw [List.filter_cons, if_pos hq]
            exact .cons _ _ .nil
          | false =>
            w_is_and go_8_23_1_0_24_13
            refine CEnd.intro (nx := (L + 1 + 1, oP2) :: (D3, LCg.lst zs) :: (57, tabObj ps) :: (O, listOf vO.toArray nO) :: (Cm, listOf vC.toArray nC) :: ex) F22 N22 (.head _) (.tail _ (.head _)) (.tail _ (.tail _ (.head _))) hns (fun p hp => .tail _ (.tail _ (.tail _ hp))) off ⟨rfl, ?_⟩
            rw [List.filter_append, List.filter_cons, if_neg (by rw [hq]; exact Bool.false_ne_true)]
            simpa using hys3
        · rintro gg3 ys nw5 ⟨rfl, hys3⟩ Tk h23 tk23 g23 F23 N23 o23
          clear F19 N20
          rw [List.take_of_length_le (by rw [hvOl, hol]; exact Nat.le_refl _)] at hys3
          w_is_and go_8_23_1_0_24_13
          have N24 : News G0 L h23 ([(Tk, listOf ys.toArray ys.length), (57, tabObj ps), (O, listOf vO.toArray nO), (Cm, listOf vC.toArray nC)] ++ ([] : List (Addr × Obj))) := news_pick N23 [0, 3, 4, 5]
          clear N23
          have F24 : Fr G0 L h23 _ := F23
          clear F23
          obtain ⟨oL, esL, epL, hoL, hoD⟩ := fr_obj F24
          have hkp := hidF_keep (oL := oL) F24 N24
          have hap1 : ∀ p ∈ [(Tk, listOf ys.toArray ys.length), ((57 : Addr), tabObj ps), (O, listOf vO.toArray nO), (Cm, listOf vC.toArray nC)], p.1 ∉ L :: ([] : List (Addr × Obj)).map (·.1) := fun p hp hm => by
            rw [List.map_nil, List.mem_singleton] at hm
            exact (N24 p (List.mem_append_left _ hp)).2.1 hm
          have hidm : ∀ {b : Addr} {its : Array Value} {n : Nat}, (b, listOf its n) ∈ [(Tk, listOf ys.toArray ys.length), ((57 : Addr), tabObj ps), (O, listOf vO.toArray nO), (Cm, listOf vC.toArray nC)] → (hidF h23 [(L, oL)]).IsList b its := fun hb => ⟨_, hideAll_get _ (N24 _ (List.mem_append_left _ hb)).1 (hap1 _ hb), rfl, _, rfl⟩
          refine bw_call (frs := [(L, oL)]) ⟨(fun z => nomatch z), rfl, ⟨_, _, hoD⟩, trivial⟩ (fun p hp => by rw [List.mem_singleton.mp hp]; exact hoL) (X'.keeps hkp) (T'.keeps hkp) (by omega) (by omega) (hidm (.tail _ (.tail _ (.head _)))) hvO (hidm (.tail _ (.tail _ (.tail _ (.head _))))) hvC (hidm (.head _)) hys3 (by omega) (by omega) hcl0 hds fun h25 t25 g25 frs1 SU1 hg1 k1 => ?_
          obtain ⟨frs2, SU2, Fs2, F25, N25⟩ := call_back (frs := []) (l := []) F24 N24 trivial hap1 hoL SU1 hg1 k1
          clear F24 N24 hkp hoL hoD hidm SU1 hg1 k1
          dsimp only
          w_is_and go_8_23_1_0_24_13
          obtain ⟨oL2, esL2, epL2, hoL2, hoD2⟩ := fr_obj F25
          have hkp2 := hidF_keep (oL := oL2) F25 N25
          cases frs2 with
          | cons _ _ => exact SU2.elim
          | nil =>
            have hap2 : ∀ p ∈ [(Tk, listOf ys.toArray ys.length), ((57 : Addr), tabObj ps), (O, listOf vO.toArray nO), (Cm, listOf vC.toArray nC)], p.1 ∉ L :: ([] : List (Addr × Obj)).map (·.1) := hap1
            have hidm2 : ∀ {b : Addr} {its : Array Value} {n : Nat}, (b, listOf its n) ∈ [(Tk, listOf ys.toArray ys.length), ((57 : Addr), tabObj ps), (O, listOf vO.toArray nO), (Cm, listOf vC.toArray nC)] → (hidF h25 [(L, oL2)]).IsList b its := fun hb => ⟨_, hideAll_get _ (N25 _ (List.mem_append_left _ hb)).1 (hap2 _ hb), rfl, _, rfl⟩
            refine fe_call (frs := [(L, oL2)]) ⟨(fun z => nomatch z), rfl, ⟨_, _, hoD2⟩, trivial⟩ (fun p hp => by rw [List.mem_singleton.mp hp]; exact hoL2) (X'.keeps hkp2) (T'.keeps hkp2) (by omega) (by omega) (hidm2 (.tail _ (.tail _ (.head _)))) hvO (hidm2 (.tail _ (.tail _ (.tail _ (.head _))))) hvC (hidm2 (.head _)) hys3 (by omega) (by omega) (Nat.le_trans (List.length_filter_le _ _) (by omega)) hul fun h26 t26 g26 frs3 SU3 hg3 k3 => ?_
            obtain ⟨frs4, SU4, Fs4, F26, N26⟩ := call_back (frs := []) (l := []) F25 N25 trivial hap2 hoL2 SU3 hg3 k3
            dsimp only
            w_is_and go_8_23_1_0_24_13
            exact ⟨rfl, F26.keep, rfl, BG.ok _, ⟨_, (N26 _ (List.mem_append_left _ (.tail _ (.head _)))).1⟩⟩
  · obtain ⟨rfl, hk, hos, hb, hgr⟩ := h
    exact ⟨⟨⟨.inl ⟨.bool true, .bool true, [], rfl, fun _ => rfl, .bool _, by first | rfl | with_unfolding_all rfl, fun _ => ⟨.nil, nofun⟩⟩, hk, hos, rfl⟩, hb⟩, hgr, trivial⟩)
end Mine
end

theorem PySem.Challenge.cw_kt0032_01_holds : PySem.Challenge.rw_kt0032_01.Holds := by
  exact Mine.law_holds
